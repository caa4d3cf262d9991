import JvmDerived
import JvmDerived.Pilot.@@N@@Statement
import JvmDerived.Pilot.@@N@@Code
set_option linter.unusedVariables false
set_option linter.unusedSimpArgs false
namespace Jvm.Pilot.@@N@@
open Jvm Jvm.ClassFile Sem Op Lib Jvm.Free Jvm.Stand Jvm.LawKit Jvm.RoadKit Bundle Jvm.Pilot.@@N@@.Jvm.D
/-! OWN KIT: a walk as a judgement on (heap, frame) alone. Wl says: from every state that stands at this pc, with these locals and this stack over the heap h, the body runs to its return and Q holds there. -/
/-- own objects: no literal's cells, made since the law began, and there -/
def Mine (Z : State) (EL : List (String × Nat)) (vm : Vm) (h : Heap) (sf : List Addr) : Prop := ∀ x ∈ sf, Safe Z EL vm h x ∧ Z.heap.size ≤ x ∧ x < h.size
def Wk (l : Launch) (Z : State) (a0 : Array Value) (EL : List (String × Nat)) (y : MethodName) (bs : ByteArray) (ml : Nat) (rt : Option FieldType) (R : Room) (as : Array Value)
    (p : Program) (e : Env) (s : State) (m : MethodId) (below : List Frame) (meth : Method) (c : Code) (sf : List Addr) (T : State) (h : Heap) (k n : Nat) : Prop :=
  (p.tables.exec = Jvm.exec ∧ c.code = bs ∧ c.maxLocals = ml ∧ meth.sig.returnType = rt ∧ meth.locks = false ∧ meth.name = y.name ∧ s.vm.findClass y.cls = some m.cls ∧ EW Z a0 EL ∧ Ext Z.heap s.heap) ∧
  ∃ (vm0 : Vm) (locs : List Loc) (k0 : Nat), Stand p l e R (s.setVm vm0) m as below meth c T locs k n ∧ T.heap = h ∧ s.Since vm0 k0 ∧ k0 ≤ h.size ∧ Fr Z.heap.size locs ∧ Z.Warmed39 vm0 ∧ CHr Z EL s.vm s.heap vm0 h ∧ Mine Z EL vm0 h sf ∧ (EL = [] → s.WarmedH vm0)
def Go (Z : State) (EL : List (String × Nat)) (out : List Addr) (p : Program) (e : Env) (s : State) (below : List Frame) (C S : Nat) (Q : Option Value → Heap → Prop) (U : State) : Prop :=
  ∃ s₂ o, Steps p.tables e below U s₂ ∧ s₂.status = .running ∧ Ended s₂ below o ∧ ∃ v L, o = .returned v ∧ (Q v s₂.heap ∧ Fr Z.heap.size L) ∧ CHr Z EL s.vm s.heap s₂.vm s₂.heap ∧ ReturnedEndW s o s₂ L C S ∧ (EL = [] → s.WarmedH s₂.vm) ∧ Mine Z EL s₂.vm s₂.heap out
def WlO (l : Launch) (Z : State) (a0 : Array Value) (EL : List (String × Nat)) (y : MethodName) (bs : ByteArray) (ml : Nat) (rt : Option FieldType) (R : Room) (as : Array Value) (out : List Addr) (Q : Option Value → Heap → Prop)
    (sf : List Addr) (h : Heap) (k n : Nat) (pc : Nat) (Ls : Array Slot) (st : List Value) : Prop :=
  ∀ (p : Program) (e : Env) (s : State) (m : MethodId) (below : List Frame) (meth : Method) (c : Code) (T : State), Wk l Z a0 EL y bs ml rt R as p e s m below meth c sf T h k n → Go Z EL out p e s below R.cells R.slots Q (T.setTop (mkF m pc Ls st))
abbrev Wl (l : Launch) (Z : State) (a0 : Array Value) (EL : List (String × Nat)) (y : MethodName) (bs : ByteArray) (ml : Nat) (rt : Option FieldType) (R : Room) (as : Array Value) (Q : Option Value → Heap → Prop)
    (sf : List Addr) (h : Heap) (k n : Nat) (pc : Nat) (Ls : Array Slot) (st : List Value) : Prop := WlO l Z a0 EL y bs ml rt R as [] Q sf h k n pc Ls st
/-- the contract of a body at given arguments and a given heap -/
def MetO (l : Launch) (Z : State) (EL : List (String × Nat)) (y : MethodName) (bs : ByteArray) (ml : Nat) (rt : Option FieldType) (ws : List Jvm.Cond) (rm : Room) (as : Array Value) (h : Heap) (sf out : List Addr) (Q : Option Value → Heap → Prop) : Prop :=
  MetFree l y (head1 (Jvm.Cond.code y bs ml rt :: ws) rm) (fun a U => a = as ∧ Z.Warmed39 U.vm ∧ U.heap = h ∧ CHv Z EL U.vm h ∧ Ext Z.heap h ∧ Mine Z EL U.vm h sf) (fun _ _ _ _ _ => True)
    (fun _ U o U' => ∃ v L, o = .returned v ∧ (Q v U'.heap ∧ Fr Z.heap.size L) ∧ CHr Z EL U.vm U.heap U'.vm U'.heap ∧ ReturnedEndW U o U' L rm.cells rm.slots ∧ (EL = [] → U.WarmedH U'.vm) ∧ Mine Z EL U'.vm U'.heap out)
abbrev Met (l : Launch) (Z : State) (EL : List (String × Nat)) (y : MethodName) (bs : ByteArray) (ml : Nat) (rt : Option FieldType) (ws : List Jvm.Cond) (rm : Room) (as : Array Value) (h : Heap) (sf : List Addr) (Q : Option Value → Heap → Prop) : Prop := MetO l Z EL y bs ml rt ws rm as h sf [] Q
section OwnKit
variable {l : Launch} {Z : State} {a0 : Array Value} {EL : List (String × Nat)} {y : MethodName} {bs : ByteArray} {ml : Nat} {rt : Option FieldType} {R : Room} {as : Array Value} {Q : Option Value → Heap → Prop}
variable {p : Program} {e : Env} {s : State} {m : MethodId} {below : List Frame} {meth : Method} {c : Code} {T : State} {sf out : List Addr} {h h' : Heap} {k n pc : Nat} {Ls : Array Slot} {st : List Value} {C S : Nat}
theorem Go.of {U U' : State} (f : ∀ t, Steps p.tables e below U' t → Steps p.tables e below U t) (g : Go Z EL out p e s below C S Q U') : Go Z EL out p e s below C S Q U := by
  obtain ⟨s₂, o, h1, r⟩ := g
  exact ⟨s₂, o, f _ h1, r⟩
theorem Mine.nil {vm : Vm} : Mine Z EL vm h [] := fun _ q => nomatch q
theorem Mine.sub {vm : Vm} {sf' : List Addr} (M : Mine Z EL vm h sf) (q : ∀ x ∈ sf', x ∈ sf) : Mine Z EL vm h sf' := fun x hx => M x (q x hx)
theorem Mine.chr {vm vm1 : Vm} (M : Mine Z EL vm h sf) (A : CHr Z EL vm h vm1 h') : Mine Z EL vm1 h' sf := fun x hx => ⟨A.safe (M x hx).2.2 (M x hx).1, (M x hx).2.1, Nat.lt_of_lt_of_le (M x hx).2.2 A.2.1⟩
theorem Mine.cons {vm : Vm} {x : Addr} (M : Mine Z EL vm h sf) (q : Safe Z EL vm h x ∧ Z.heap.size ≤ x ∧ x < h.size) : Mine Z EL vm h (x :: sf) := fun z hz => (List.mem_cons.mp hz).elim (fun u => u ▸ q) (M z)
/-- the cells that stood when the law began stand -/
theorem Wk.old (W : Wk l Z a0 EL y bs ml rt R as p e s m below meth c sf T h k n) : Ext Z.heap h := by
  obtain ⟨⟨-, -, -, -, -, -, -, -, hO⟩, vm0, locs, k0, X, eT, -, -, hF, -, hC, -, -⟩ := W
  refine ⟨Nat.le_trans hO.1 hC.2.1, fun b cl hb => ?_⟩
  have hs := hO.2 b cl hb
  obtain ⟨c', h1, h2, -, h4⟩ := X.same.2.2.2.2.2 b cl hs
  have hlt := (Array.getElem?_eq_some_iff.mp hb).1
  have hsl : c'.slots = cl.slots := Array.ext_getElem? fun i => h4 i fun hm => absurd (hF _ hm) (Nat.not_le.mpr hlt)
  have hcc : c' = cl := by rw [h2, hsl]
  rw [← hcc, ← eT]; exact h1
theorem Wl.old (f : Ext Z.heap h → WlO l Z a0 EL y bs ml rt R as out Q sf h k n pc Ls st) : WlO l Z a0 EL y bs ml rt R as out Q sf h k n pc Ls st :=
  fun p e s m below meth c T W => f W.old p e s m below meth c T W
theorem Wl.mine {x : Addr} (hx : x ∈ sf) (f : Z.heap.size ≤ x → x < h.size → WlO l Z a0 EL y bs ml rt R as out Q sf h k n pc Ls st) : WlO l Z a0 EL y bs ml rt R as out Q sf h k n pc Ls st :=
  fun p e s m below meth c T W => by
    have W' := W
    obtain ⟨-, vm0, locs, k0, -, -, -, -, -, -, -, M, -⟩ := W'
    exact f (M x hx).2.1 (M x hx).2.2 p e s m below meth c T W
/-- fewer own objects, more room used -/
theorem Wl.weak {sf' : List Addr} {k' n' : Nat} (q : ∀ x ∈ sf', x ∈ sf) (hk : k ≤ k') (hn : n ≤ n') (hr : WlO l Z a0 EL y bs ml rt R as out Q sf' h k' n' pc Ls st) : WlO l Z a0 EL y bs ml rt R as out Q sf h k n pc Ls st :=
  fun p e s m below meth c T W => by
    obtain ⟨A, vm0, locs, k0, X, eT, hS, hk0, hF, hZ, hC, hM, hH⟩ := W
    exact hr p e s m below meth c T ⟨A, vm0, locs, k0, X.mono hk hn, eT, hS, hk0, hF, hZ, hC, hM.sub q, hH⟩
/-- a step that leaves the heap and writes nothing -/
theorem Wl.same {pc' : Nat} {Ls' : Array Slot} {st' : List Value}
    (f : ∀ (p : Program) (e : Env) (s : State) (m : MethodId) (below : List Frame) (meth : Method) (c : Code) (T : State) (vm0 : Vm) (locs : List Loc),
      p.tables.exec = Jvm.exec → c.code = bs → c.maxLocals = ml → vm0.findClass y.cls = some m.cls → Z.Warmed39 vm0 → Stand p l e R (s.setVm vm0) m as below meth c T locs k n → T.heap = h → Ext Z.heap h →
      ∃ T', Stand p l e R (s.setVm vm0) m as below meth c T' locs k n ∧ T'.heap = h ∧ ∀ t, Steps p.tables e below (T'.setTop (mkF m pc' Ls' st')) t → Steps p.tables e below (T.setTop (mkF m pc Ls st)) t)
    (hr : WlO l Z a0 EL y bs ml rt R as out Q sf h k n pc' Ls' st') : WlO l Z a0 EL y bs ml rt R as out Q sf h k n pc Ls st := by
  intro p e s m below meth c T W
  have hO := W.old
  obtain ⟨A, vm0, locs, k0, X, eT, hS, hk, hF, hZ, hC, hM, hH⟩ := W
  obtain ⟨T', X', e', stp⟩ := f p e s m below meth c T vm0 locs A.1 A.2.1 A.2.2.1 (by rw [hS.1.alike.findClass]; exact A.2.2.2.2.2.2.1) hZ X eT hO
  exact Go.of stp (hr p e s m below meth c T' ⟨A, vm0, locs, k0, X', e', hS, hk, hF, hZ, hC, hM, hH⟩)
theorem Wl.plain {pc' : Nat} {Ls' : Array Slot} {st' : List Value}
    (f : ∀ (p : Program) (e : Env) (m : MethodId) (below : List Frame) (c : Code) (T : State), p.tables.exec = Jvm.exec → c.code = bs → At T m c below → ∀ t, Steps p.tables e below (T.setTop (mkF m pc' Ls' st')) t → Steps p.tables e below (T.setTop (mkF m pc Ls st)) t)
    (hr : WlO l Z a0 EL y bs ml rt R as out Q sf h k n pc' Ls' st') : WlO l Z a0 EL y bs ml rt R as out Q sf h k n pc Ls st :=
  Wl.same (fun p e s m below meth c T vm0 locs hx hby _ _ _ X eT _ => ⟨T, X, eT, f p e m below c T hx hby X.here⟩) hr
/-- a step that makes one cell -/
theorem Wl.grow {pc' : Nat} {Ls' : Array Slot} {st' : Addr → List Value} {dk dn : Nat} {F : Heap → Addr → Prop}
    (f : ∀ (p : Program) (e : Env) (s : State) (m : MethodId) (below : List Frame) (meth : Method) (c : Code) (T : State) (vm0 : Vm) (locs : List Loc),
      p.tables.exec = Jvm.exec → c.code = bs → c.maxLocals = ml → vm0.findClass y.cls = some m.cls → Z.Warmed39 vm0 → Stand p l e R (s.setVm vm0) m as below meth c T locs k n → T.heap = h → Ext Z.heap h →
      ∃ T' h', Stand p l e R (s.setVm vm0) m as below meth c T' locs (k + dk) (n + dn) ∧ T'.heap = h' ∧ Ext h h' ∧ h.size < h'.size ∧ F h' h.size ∧ ∀ t, Steps p.tables e below (T'.setTop (mkF m pc' Ls' (st' h.size))) t → Steps p.tables e below (T.setTop (mkF m pc Ls st)) t)
    (hr : ∀ (a : Addr) (h' : Heap), a = h.size → Ext h h' → F h' a → WlO l Z a0 EL y bs ml rt R as out Q (a :: sf) h' (k + dk) (n + dn) pc' Ls' (st' a)) : WlO l Z a0 EL y bs ml rt R as out Q sf h k n pc Ls st := by
  intro p e s m below meth c T W
  have hO := W.old
  obtain ⟨A, vm0, locs, k0, X, eT, hS, hk, hF, hZ, hC, hM, hH⟩ := W
  obtain ⟨T', h', X', e', E, hlt, G, stp⟩ := f p e s m below meth c T vm0 locs A.1 A.2.1 A.2.2.1 (by rw [hS.1.alike.findClass]; exact A.2.2.2.2.2.2.1) hZ X eT hO
  have B := CHr.ext (Z := Z) (EL := EL) (vm := vm0) E hC.1
  exact Go.of stp (hr h.size h' rfl E G p e s m below meth c T' ⟨A, vm0, locs, k0, X', e', hS, Nat.le_trans hk E.1, hF, hZ, hC.trans B, (hM.chr B).cons ⟨Safe.ext E hC.1 (Safe.new (Nat.le_refl _)), hO.1, hlt⟩, hH⟩)
/-- a step that writes one place of an own object -/
theorem Wl.write {pc' : Nat} {Ls' : Array Slot} {st' : List Value} {a : Addr} {sl : Nat} {v : Value} (ha : a ∈ sf)
    (f : ∀ (p : Program) (e : Env) (s : State) (m : MethodId) (below : List Frame) (meth : Method) (c : Code) (T : State) (vm0 : Vm) (locs : List Loc),
      p.tables.exec = Jvm.exec → c.code = bs → meth.name = y.name → vm0.findClass y.cls = some m.cls → Z.Warmed39 vm0 → Stand p l e R (s.setVm vm0) m as below meth c T locs k n → T.heap = h →
      ∃ T' h', Stand p l e R (s.setVm vm0) m as below meth c T' (locs ++ [⟨a, sl⟩]) k n ∧ T'.heap = h' ∧ Wr h h' a sl v ∧ ∀ t, Steps p.tables e below (T'.setTop (mkF m pc' Ls' st')) t → Steps p.tables e below (T.setTop (mkF m pc Ls st)) t)
    (hr : ∀ h', Wr h h' a sl v → WlO l Z a0 EL y bs ml rt R as out Q sf h' k n pc' Ls' st') : WlO l Z a0 EL y bs ml rt R as out Q sf h k n pc Ls st := by
  intro p e s m below meth c T W
  obtain ⟨A, vm0, locs, k0, X, eT, hS, hk, hF, hZ, hC, hM, hH⟩ := W
  obtain ⟨T', h', X', e', Wv, stp⟩ := f p e s m below meth c T vm0 locs A.1 A.2.1 A.2.2.2.2.2.1 (by rw [hS.1.alike.findClass]; exact A.2.2.2.2.2.2.1) hZ X eT
  have B := CHr.wr (Z := Z) (EL := EL) (vm := vm0) Wv (hM a ha).1 hC.1
  exact Go.of stp (hr h' Wv p e s m below meth c T' ⟨A, vm0, locs ++ [⟨a, sl⟩], k0, X', e', hS, by rw [Wv.size]; exact hk, Fr.snoc X' hF (hM a ha).2.1, hZ, hC.trans B, hM.chr B, hH⟩)
/-! plain steps -/
theorem Wl.aload_n (pc' : Nat) {i : Fin 4} {v : Value} (hd : decode bs pc = .ok (.aload_n i, 1)) (hl : Ls[i.val]? = some (.val v)) (hv : v.isRef = true) (hr : WlO l Z a0 EL y bs ml rt R as out Q sf h k n pc' Ls (v :: st)) (hp : pc + 1 = pc' := by rfl) : WlO l Z a0 EL y bs ml rt R as out Q sf h k n pc Ls st := by
  subst hp; exact Wl.plain (fun p e m below c T hx hby A t kk => XS.aloadN A hx rfl (hb hby hd) hl hv kk) hr
theorem Wl.aload (pc' : Nat) {i : Nat} {v : Value} (hd : decode bs pc = .ok (.aload i, 2)) (hl : Ls[i]? = some (.val v)) (hv : v.isRef = true) (hr : WlO l Z a0 EL y bs ml rt R as out Q sf h k n pc' Ls (v :: st)) (hp : pc + 2 = pc' := by rfl) : WlO l Z a0 EL y bs ml rt R as out Q sf h k n pc Ls st := by
  subst hp; exact Wl.plain (fun p e m below c T hx hby A t kk => XS.aload A hx rfl (hb hby hd) hl hv kk) hr
theorem Wl.iload_n (pc' : Nat) {i : Fin 4} {v : Int32} (hd : decode bs pc = .ok (.iload_n i, 1)) (hl : Ls[i.val]? = some (.val (.int v))) (hr : WlO l Z a0 EL y bs ml rt R as out Q sf h k n pc' Ls (.int v :: st)) (hp : pc + 1 = pc' := by rfl) : WlO l Z a0 EL y bs ml rt R as out Q sf h k n pc Ls st := by
  subst hp; exact Wl.plain (fun p e m below c T hx hby A t kk => XS.iloadN A hx rfl (hb hby hd) hl kk) hr
theorem Wl.iload (pc' : Nat) {i : Nat} {v : Int32} (hd : decode bs pc = .ok (.iload i, 2)) (hl : Ls[i]? = some (.val (.int v))) (hr : WlO l Z a0 EL y bs ml rt R as out Q sf h k n pc' Ls (.int v :: st)) (hp : pc + 2 = pc' := by rfl) : WlO l Z a0 EL y bs ml rt R as out Q sf h k n pc Ls st := by
  subst hp; exact Wl.plain (fun p e m below c T hx hby A t kk => XS.iload A hx rfl (hb hby hd) hl kk) hr
theorem Wl.lload_n (pc' : Nat) {i : Fin 4} {v : Int64} (hd : decode bs pc = .ok (.lload_n i, 1)) (hl : Ls[i.val]? = some (.val (.long v))) (hr : WlO l Z a0 EL y bs ml rt R as out Q sf h k n pc' Ls (.long v :: st)) (hp : pc + 1 = pc' := by rfl) : WlO l Z a0 EL y bs ml rt R as out Q sf h k n pc Ls st := by
  subst hp; exact Wl.plain (fun p e m below c T hx hby A t kk => XS.lloadN A hx rfl (hb hby hd) hl kk) hr
theorem Wl.lload (pc' : Nat) {i : Nat} {v : Int64} (hd : decode bs pc = .ok (.lload i, 2)) (hl : Ls[i]? = some (.val (.long v))) (hr : WlO l Z a0 EL y bs ml rt R as out Q sf h k n pc' Ls (.long v :: st)) (hp : pc + 2 = pc' := by rfl) : WlO l Z a0 EL y bs ml rt R as out Q sf h k n pc Ls st := by
  subst hp; exact Wl.plain (fun p e m below c T hx hby A t kk => XS.lload A hx rfl (hb hby hd) hl kk) hr
theorem Wl.istore_n (pc' : Nat) (Ls' : Array Slot) {i : Fin 4} {v : Int32} (hd : decode bs pc = .ok (.istore_n i, 1)) (hl : storeLocals Ls i.val (.int v) = some Ls') (hr : WlO l Z a0 EL y bs ml rt R as out Q sf h k n pc' Ls' st) (hp : pc + 1 = pc' := by rfl) : WlO l Z a0 EL y bs ml rt R as out Q sf h k n pc Ls (.int v :: st) := by
  subst hp; exact Wl.plain (fun p e m below c T hx hby A t kk => XS.istoreN A hx rfl (hb hby hd) rfl hl kk) hr
theorem Wl.istore (pc' : Nat) (Ls' : Array Slot) {i : Nat} {v : Int32} (hd : decode bs pc = .ok (.istore i, 2)) (hl : storeLocals Ls i (.int v) = some Ls') (hr : WlO l Z a0 EL y bs ml rt R as out Q sf h k n pc' Ls' st) (hp : pc + 2 = pc' := by rfl) : WlO l Z a0 EL y bs ml rt R as out Q sf h k n pc Ls (.int v :: st) := by
  subst hp; exact Wl.plain (fun p e m below c T hx hby A t kk => XS.istore A hx rfl (hb hby hd) rfl hl kk) hr
theorem Wl.lstore (pc' : Nat) (Ls' : Array Slot) {i : Nat} {v : Int64} (hd : decode bs pc = .ok (.lstore i, 2)) (hl : storeLocals Ls i (.long v) = some Ls') (hr : WlO l Z a0 EL y bs ml rt R as out Q sf h k n pc' Ls' st) (hp : pc + 2 = pc' := by rfl) : WlO l Z a0 EL y bs ml rt R as out Q sf h k n pc Ls (.long v :: st) := by
  subst hp; exact Wl.plain (fun p e m below c T hx hby A t kk => XS.lstore A hx rfl (hb hby hd) rfl hl kk) hr
theorem Wl.astore_n (pc' : Nat) (Ls' : Array Slot) {i : Fin 4} {v : Value} (hd : decode bs pc = .ok (.astore_n i, 1)) (hv : v.isRef = true) (hl : storeLocals Ls i.val v = some Ls') (hr : WlO l Z a0 EL y bs ml rt R as out Q sf h k n pc' Ls' st) (hp : pc + 1 = pc' := by rfl) : WlO l Z a0 EL y bs ml rt R as out Q sf h k n pc Ls (v :: st) := by
  subst hp; exact Wl.plain (fun p e m below c T hx hby A t kk => XS.astoreN A hx rfl (hb hby hd) rfl hv hl kk) hr
theorem Wl.astore (pc' : Nat) (Ls' : Array Slot) {i : Nat} {v : Value} (hd : decode bs pc = .ok (.astore i, 2)) (hv : v.isRef = true) (hl : storeLocals Ls i v = some Ls') (hr : WlO l Z a0 EL y bs ml rt R as out Q sf h k n pc' Ls' st) (hp : pc + 2 = pc' := by rfl) : WlO l Z a0 EL y bs ml rt R as out Q sf h k n pc Ls (v :: st) := by
  subst hp; exact Wl.plain (fun p e m below c T hx hby A t kk => XS.astore A hx rfl (hb hby hd) rfl hv hl kk) hr
theorem Wl.iinc (pc' : Nat) (Ls' : Array Slot) {i : Nat} {cst : Int} {x : Int32} (v : Int32) (hd : decode bs pc = .ok (.iinc i cst, 3)) (hv : Int32.ofInt cst = v) (hl : Ls[i]? = some (.val (.int x))) (hl' : storeLocals Ls i (.int (x + v)) = some Ls') (hr : WlO l Z a0 EL y bs ml rt R as out Q sf h k n pc' Ls' st) (hp : pc + 3 = pc' := by rfl) : WlO l Z a0 EL y bs ml rt R as out Q sf h k n pc Ls st := by
  subst hp hv; exact Wl.plain (fun p e m below c T hx hby A t kk => XS.iinc A hx rfl (hb hby hd) hl hl' kk) hr
theorem Wl.iconst (pc' : Nat) (v : Int32) {i : Int} (hd : decode bs pc = .ok (.iconst i, 1)) (hv : Int32.ofInt i = v) (hr : WlO l Z a0 EL y bs ml rt R as out Q sf h k n pc' Ls (.int v :: st)) (hp : pc + 1 = pc' := by rfl) : WlO l Z a0 EL y bs ml rt R as out Q sf h k n pc Ls st := by
  subst hp hv; exact Wl.plain (fun p e m below c T hx hby A t kk => XS.iconst A hx rfl (hb hby hd) kk) hr
theorem Wl.bipush (pc' : Nat) (v : Int32) {i : Int} (hd : decode bs pc = .ok (.bipush i, 2)) (hv : (Int8.ofInt i).toInt32 = v) (hr : WlO l Z a0 EL y bs ml rt R as out Q sf h k n pc' Ls (.int v :: st)) (hp : pc + 2 = pc' := by rfl) : WlO l Z a0 EL y bs ml rt R as out Q sf h k n pc Ls st := by
  subst hp hv; exact Wl.plain (fun p e m below c T hx hby A t kk => XS.bipush A hx rfl (hb hby hd) kk) hr
theorem Wl.sipush (pc' : Nat) (v : Int32) {i : Int} (hd : decode bs pc = .ok (.sipush i, 3)) (hv : (Int16.ofInt i).toInt32 = v) (hr : WlO l Z a0 EL y bs ml rt R as out Q sf h k n pc' Ls (.int v :: st)) (hp : pc + 3 = pc' := by rfl) : WlO l Z a0 EL y bs ml rt R as out Q sf h k n pc Ls st := by
  subst hp hv; exact Wl.plain (fun p e m below c T hx hby A t kk => XS.sipush A hx rfl (hb hby hd) kk) hr
theorem Wl.aconst_null (pc' : Nat) (hd : decode bs pc = .ok (.aconst_null, 1)) (hr : WlO l Z a0 EL y bs ml rt R as out Q sf h k n pc' Ls (.null :: st)) (hp : pc + 1 = pc' := by rfl) : WlO l Z a0 EL y bs ml rt R as out Q sf h k n pc Ls st := by
  subst hp; exact Wl.plain (fun p e m below c T hx hby A t kk => XS.aconstNull A hx rfl (hb hby hd) kk) hr
theorem Wl.iadd (pc' : Nat) {x z : Int32} (hd : decode bs pc = .ok (.iadd, 1)) (hr : WlO l Z a0 EL y bs ml rt R as out Q sf h k n pc' Ls (.int (x + z) :: st)) (hp : pc + 1 = pc' := by rfl) : WlO l Z a0 EL y bs ml rt R as out Q sf h k n pc Ls (.int z :: .int x :: st) := by
  subst hp; exact Wl.plain (fun p e m below c T hx hby A t kk => XS.iadd A hx rfl (hb hby hd) rfl kk) hr
theorem Wl.isub (pc' : Nat) {x z : Int32} (hd : decode bs pc = .ok (.isub, 1)) (hr : WlO l Z a0 EL y bs ml rt R as out Q sf h k n pc' Ls (.int (x - z) :: st)) (hp : pc + 1 = pc' := by rfl) : WlO l Z a0 EL y bs ml rt R as out Q sf h k n pc Ls (.int z :: .int x :: st) := by
  subst hp; exact Wl.plain (fun p e m below c T hx hby A t kk => XS.isub A hx rfl (hb hby hd) rfl kk) hr
theorem Wl.imul (pc' : Nat) {x z : Int32} (hd : decode bs pc = .ok (.imul, 1)) (hr : WlO l Z a0 EL y bs ml rt R as out Q sf h k n pc' Ls (.int (x * z) :: st)) (hp : pc + 1 = pc' := by rfl) : WlO l Z a0 EL y bs ml rt R as out Q sf h k n pc Ls (.int z :: .int x :: st) := by
  subst hp; exact Wl.plain (fun p e m below c T hx hby A t kk => XS.imul A hx rfl (hb hby hd) rfl kk) hr
theorem Wl.irem (pc' : Nat) {x z : Int32} (hd : decode bs pc = .ok (.irem, 1)) (hz : z ≠ 0) (hr : WlO l Z a0 EL y bs ml rt R as out Q sf h k n pc' Ls (.int (x % z) :: st)) (hp : pc + 1 = pc' := by rfl) : WlO l Z a0 EL y bs ml rt R as out Q sf h k n pc Ls (.int z :: .int x :: st) := by
  subst hp; exact Wl.same (fun p e s m below meth c T vm0 locs hx hby _ _ _ X eT _ => ⟨T, X, eT, fun t kk => iremM X hx rfl (hb hby hd) rfl hz kk⟩) hr
theorem Wl.iand (pc' : Nat) {x z : Int32} (hd : decode bs pc = .ok (.iand, 1)) (hr : WlO l Z a0 EL y bs ml rt R as out Q sf h k n pc' Ls (.int (x &&& z) :: st)) (hp : pc + 1 = pc' := by rfl) : WlO l Z a0 EL y bs ml rt R as out Q sf h k n pc Ls (.int z :: .int x :: st) := by
  subst hp; exact Wl.plain (fun p e m below c T hx hby A t kk => XS.iand A hx rfl (hb hby hd) rfl kk) hr
theorem Wl.ior (pc' : Nat) {x z : Int32} (hd : decode bs pc = .ok (.ior, 1)) (hr : WlO l Z a0 EL y bs ml rt R as out Q sf h k n pc' Ls (.int (x ||| z) :: st)) (hp : pc + 1 = pc' := by rfl) : WlO l Z a0 EL y bs ml rt R as out Q sf h k n pc Ls (.int z :: .int x :: st) := by
  subst hp; exact Wl.plain (fun p e m below c T hx hby A t kk => XT.ior A hx rfl (hb hby hd) rfl kk) hr
theorem Wl.ixor (pc' : Nat) {x z : Int32} (hd : decode bs pc = .ok (.ixor, 1)) (hr : WlO l Z a0 EL y bs ml rt R as out Q sf h k n pc' Ls (.int (x ^^^ z) :: st)) (hp : pc + 1 = pc' := by rfl) : WlO l Z a0 EL y bs ml rt R as out Q sf h k n pc Ls (.int z :: .int x :: st) := by
  subst hp; exact Wl.plain (fun p e m below c T hx hby A t kk => XT.ixor A hx rfl (hb hby hd) rfl kk) hr
theorem Wl.ishl (pc' : Nat) {x z : Int32} (hd : decode bs pc = .ok (.ishl, 1)) (hr : WlO l Z a0 EL y bs ml rt R as out Q sf h k n pc' Ls (.int (x <<< (z &&& 31)) :: st)) (hp : pc + 1 = pc' := by rfl) : WlO l Z a0 EL y bs ml rt R as out Q sf h k n pc Ls (.int z :: .int x :: st) := by
  subst hp; exact Wl.plain (fun p e m below c T hx hby A t kk => XT.ishl A hx rfl (hb hby hd) rfl kk) hr
theorem Wl.ishr (pc' : Nat) {x z : Int32} (hd : decode bs pc = .ok (.ishr, 1)) (hr : WlO l Z a0 EL y bs ml rt R as out Q sf h k n pc' Ls (.int (x >>> (z &&& 31)) :: st)) (hp : pc + 1 = pc' := by rfl) : WlO l Z a0 EL y bs ml rt R as out Q sf h k n pc Ls (.int z :: .int x :: st) := by
  subst hp; exact Wl.plain (fun p e m below c T hx hby A t kk => XT.ishr A hx rfl (hb hby hd) rfl kk) hr
theorem Wl.iushr (pc' : Nat) {x z : Int32} (hd : decode bs pc = .ok (.iushr, 1)) (hr : WlO l Z a0 EL y bs ml rt R as out Q sf h k n pc' Ls (.int ((x.toUInt32 >>> (z &&& 31).toUInt32).toInt32) :: st)) (hp : pc + 1 = pc' := by rfl) : WlO l Z a0 EL y bs ml rt R as out Q sf h k n pc Ls (.int z :: .int x :: st) := by
  subst hp; exact Wl.plain (fun p e m below c T hx hby A t kk => XT.iushr A hx rfl (hb hby hd) rfl kk) hr
theorem Wl.ladd (pc' : Nat) {x z : Int64} (hd : decode bs pc = .ok (.ladd, 1)) (hr : WlO l Z a0 EL y bs ml rt R as out Q sf h k n pc' Ls (.long (x + z) :: st)) (hp : pc + 1 = pc' := by rfl) : WlO l Z a0 EL y bs ml rt R as out Q sf h k n pc Ls (.long z :: .long x :: st) := by
  subst hp; exact Wl.plain (fun p e m below c T hx hby A t kk => XT.ladd A hx rfl (hb hby hd) rfl kk) hr
theorem Wl.land (pc' : Nat) {x z : Int64} (hd : decode bs pc = .ok (.land, 1)) (hr : WlO l Z a0 EL y bs ml rt R as out Q sf h k n pc' Ls (.long (x &&& z) :: st)) (hp : pc + 1 = pc' := by rfl) : WlO l Z a0 EL y bs ml rt R as out Q sf h k n pc Ls (.long z :: .long x :: st) := by
  subst hp; exact Wl.plain (fun p e m below c T hx hby A t kk => XT.land A hx rfl (hb hby hd) rfl kk) hr
theorem Wl.lushr (pc' : Nat) {x : Int64} {z : Int32} (hd : decode bs pc = .ok (.lushr, 1)) (hr : WlO l Z a0 EL y bs ml rt R as out Q sf h k n pc' Ls (.long (Jvm.Free.XT.ushrL x z) :: st)) (hp : pc + 1 = pc' := by rfl) : WlO l Z a0 EL y bs ml rt R as out Q sf h k n pc Ls (.int z :: .long x :: st) := by
  subst hp; exact Wl.plain (fun p e m below c T hx hby A t kk => XT.lushr A hx rfl (hb hby hd) rfl kk) hr
theorem Wl.lcmp (pc' : Nat) {x z : Int64} (hd : decode bs pc = .ok (.lcmp, 1)) (hr : WlO l Z a0 EL y bs ml rt R as out Q sf h k n pc' Ls (.int (lcmpW x z) :: st)) (hp : pc + 1 = pc' := by rfl) : WlO l Z a0 EL y bs ml rt R as out Q sf h k n pc Ls (.long z :: .long x :: st) := by
  subst hp; exact Wl.plain (fun p e m below c T hx hby A t kk => XT.lcmp A hx rfl (hb hby hd) rfl kk) hr
theorem Wl.i2l (pc' : Nat) {x : Int32} (hd : decode bs pc = .ok (.i2l, 1)) (hr : WlO l Z a0 EL y bs ml rt R as out Q sf h k n pc' Ls (.long x.toInt64 :: st)) (hp : pc + 1 = pc' := by rfl) : WlO l Z a0 EL y bs ml rt R as out Q sf h k n pc Ls (.int x :: st) := by
  subst hp; exact Wl.plain (fun p e m below c T hx hby A t kk => XT.i2l A hx rfl (hb hby hd) rfl kk) hr
theorem Wl.l2i (pc' : Nat) {x : Int64} (hd : decode bs pc = .ok (.l2i, 1)) (hr : WlO l Z a0 EL y bs ml rt R as out Q sf h k n pc' Ls (.int x.toInt32 :: st)) (hp : pc + 1 = pc' := by rfl) : WlO l Z a0 EL y bs ml rt R as out Q sf h k n pc Ls (.long x :: st) := by
  subst hp; exact Wl.plain (fun p e m below c T hx hby A t kk => XT.l2i A hx rfl (hb hby hd) rfl kk) hr
theorem Wl.i2b (pc' : Nat) {x : Int32} (hd : decode bs pc = .ok (.i2b, 1)) (hr : WlO l Z a0 EL y bs ml rt R as out Q sf h k n pc' Ls (.int x.toInt8.toInt32 :: st)) (hp : pc + 1 = pc' := by rfl) : WlO l Z a0 EL y bs ml rt R as out Q sf h k n pc Ls (.int x :: st) := by
  subst hp; exact Wl.plain (fun p e m below c T hx hby A t kk => XT.i2b A hx rfl (hb hby hd) rfl kk) hr
theorem Wl.i2c (pc' : Nat) {x : Int32} (hd : decode bs pc = .ok (.i2c, 1)) (hr : WlO l Z a0 EL y bs ml rt R as out Q sf h k n pc' Ls (.int x.toUInt32.toUInt16.toUInt32.toInt32 :: st)) (hp : pc + 1 = pc' := by rfl) : WlO l Z a0 EL y bs ml rt R as out Q sf h k n pc Ls (.int x :: st) := by
  subst hp; exact Wl.plain (fun p e m below c T hx hby A t kk => XT.i2c A hx rfl (hb hby hd) rfl kk) hr
theorem Wl.dup (pc' : Nat) {v : Value} (hd : decode bs pc = .ok (.dup, 1)) (hc : v.category = 1) (hr : WlO l Z a0 EL y bs ml rt R as out Q sf h k n pc' Ls (v :: v :: st)) (hp : pc + 1 = pc' := by rfl) : WlO l Z a0 EL y bs ml rt R as out Q sf h k n pc Ls (v :: st) := by
  subst hp; exact Wl.plain (fun p e m below c T hx hby A t kk => XS.dup A hx rfl (hb hby hd) rfl hc kk) hr
theorem Wl.pop (pc' : Nat) {v : Value} (hd : decode bs pc = .ok (.pop, 1)) (hc : v.category = 1) (hr : WlO l Z a0 EL y bs ml rt R as out Q sf h k n pc' Ls st) (hp : pc + 1 = pc' := by rfl) : WlO l Z a0 EL y bs ml rt R as out Q sf h k n pc Ls (v :: st) := by
  subst hp; exact Wl.plain (fun p e m below c T hx hby A t kk => XT.pop A hx rfl (hb hby hd) rfl hc kk) hr
theorem Wl.goto (pc' : Nat) {o : Int} (hd : decode bs pc = .ok (.goto o, 3)) (hr : WlO l Z a0 EL y bs ml rt R as out Q sf h k n pc' Ls st) (ho : 0 ≤ (pc : Int) + o := by decide) (hp : ((pc : Int) + o).toNat = pc' := by decide) : WlO l Z a0 EL y bs ml rt R as out Q sf h k n pc Ls st :=
  Wl.plain (fun p e m below c T hx hby A t kk => XS.goto A hx rfl rfl (hb hby hd) ho hp kk) hr
theorem Wl.ifY (pc' : Nat) {cd : ClassFile.Cond} {o : Int} {x : Int32} (hd : decode bs pc = .ok (.ifCond cd o, 3)) (hc : if_icmp.holds cd x 0 = true) (hr : WlO l Z a0 EL y bs ml rt R as out Q sf h k n pc' Ls st) (ho : 0 ≤ (pc : Int) + o := by decide) (hp : ((pc : Int) + o).toNat = pc' := by decide) : WlO l Z a0 EL y bs ml rt R as out Q sf h k n pc Ls (.int x :: st) :=
  Wl.plain (fun p e m below c T hx hby A t kk => XS.ifYes A hx rfl rfl (hb hby hd) rfl ((if0 _ _).trans hc) ho hp kk) hr
theorem Wl.ifN (pc' : Nat) {cd : ClassFile.Cond} {o : Int} {x : Int32} (hd : decode bs pc = .ok (.ifCond cd o, 3)) (hc : if_icmp.holds cd x 0 = false) (hr : WlO l Z a0 EL y bs ml rt R as out Q sf h k n pc' Ls st) (hp : pc + 3 = pc' := by rfl) : WlO l Z a0 EL y bs ml rt R as out Q sf h k n pc Ls (.int x :: st) := by
  subst hp; exact Wl.plain (fun p e m below c T hx hby A t kk => XS.ifNo A hx rfl (hb hby hd) rfl ((if0 _ _).trans hc) kk) hr
theorem Wl.icmpY (pc' : Nat) {cd : ClassFile.Cond} {o : Int} {x z : Int32} (hd : decode bs pc = .ok (.if_icmp cd o, 3)) (hc : if_icmp.holds cd x z = true) (hr : WlO l Z a0 EL y bs ml rt R as out Q sf h k n pc' Ls st) (ho : 0 ≤ (pc : Int) + o := by decide) (hp : ((pc : Int) + o).toNat = pc' := by decide) : WlO l Z a0 EL y bs ml rt R as out Q sf h k n pc Ls (.int z :: .int x :: st) :=
  Wl.plain (fun p e m below c T hx hby A t kk => XS.icmpYes A hx rfl rfl (hb hby hd) rfl hc ho hp kk) hr
theorem Wl.icmpN (pc' : Nat) {cd : ClassFile.Cond} {o : Int} {x z : Int32} (hd : decode bs pc = .ok (.if_icmp cd o, 3)) (hc : if_icmp.holds cd x z = false) (hr : WlO l Z a0 EL y bs ml rt R as out Q sf h k n pc' Ls st) (hp : pc + 3 = pc' := by rfl) : WlO l Z a0 EL y bs ml rt R as out Q sf h k n pc Ls (.int z :: .int x :: st) := by
  subst hp; exact Wl.plain (fun p e m below c T hx hby A t kk => XS.icmpNo A hx rfl (hb hby hd) rfl hc kk) hr
theorem Wl.ifnullY (pc' : Nat) {o : Int} (hd : decode bs pc = .ok (.ifnull o, 3)) (hr : WlO l Z a0 EL y bs ml rt R as out Q sf h k n pc' Ls st) (ho : 0 ≤ (pc : Int) + o := by decide) (hp : ((pc : Int) + o).toNat = pc' := by decide) : WlO l Z a0 EL y bs ml rt R as out Q sf h k n pc Ls (.null :: st) :=
  Wl.plain (fun p e m below c T hx hby A t kk => XS.ifnullYes A hx rfl rfl (hb hby hd) rfl ho hp kk) hr
theorem Wl.ifnullN (pc' : Nat) {o : Int} {b : Addr} (hd : decode bs pc = .ok (.ifnull o, 3)) (hr : WlO l Z a0 EL y bs ml rt R as out Q sf h k n pc' Ls st) (hp : pc + 3 = pc' := by rfl) : WlO l Z a0 EL y bs ml rt R as out Q sf h k n pc Ls (.ref b :: st) := by
  subst hp; exact Wl.plain (fun p e m below c T hx hby A t kk => XS.ifnullNo A hx rfl (hb hby hd) rfl kk) hr
theorem Wl.ifnonnullY (pc' : Nat) {o : Int} {b : Addr} (hd : decode bs pc = .ok (.ifnonnull o, 3)) (hr : WlO l Z a0 EL y bs ml rt R as out Q sf h k n pc' Ls st) (ho : 0 ≤ (pc : Int) + o := by decide) (hp : ((pc : Int) + o).toNat = pc' := by decide) : WlO l Z a0 EL y bs ml rt R as out Q sf h k n pc Ls (.ref b :: st) :=
  Wl.plain (fun p e m below c T hx hby A t kk => XT.ifnonnullYes A hx rfl rfl (hb hby hd) rfl ho hp kk) hr
theorem Wl.ifnonnullN (pc' : Nat) {o : Int} (hd : decode bs pc = .ok (.ifnonnull o, 3)) (hr : WlO l Z a0 EL y bs ml rt R as out Q sf h k n pc' Ls st) (hp : pc + 3 = pc' := by rfl) : WlO l Z a0 EL y bs ml rt R as out Q sf h k n pc Ls (.null :: st) := by
  subst hp; exact Wl.plain (fun p e m below c T hx hby A t kk => XT.ifnonnullNo A hx rfl (hb hby hd) rfl kk) hr
theorem Wl.acmp (pc' : Nat) {cd : ACond} {o : Int} {v w : Value} (same : Bool) (hd : decode bs pc = .ok (.if_acmp cd o, 3)) (h1 : v.isRef = true) (h2 : w.isRef = true) (hq : decide (v = w) = same) (hr : WlO l Z a0 EL y bs ml rt R as out Q sf h k n pc' Ls st) (ho : 0 ≤ (pc : Int) + o := by decide) (hp : pc' = if acV cd same = true then ((pc : Int) + o).toNat else pc + 3 := by decide) : WlO l Z a0 EL y bs ml rt R as out Q sf h k n pc Ls (w :: v :: st) :=
  Wl.same (fun p e s m below meth c T vm0 locs hx hby _ _ _ X eT _ => ⟨T, X, eT, fun t kk => Jvm.RoadKit.acmp (g := mkF m pc Ls (w :: v :: st)) X hx rfl h1 h2 rfl (hb hby hd) rfl hq ho hp kk⟩) hr
/-! constants of the pool -/
theorem Wl.ldcI (pc' : Nat) {i : Nat} {v : Int32} (hd : decode bs pc = .ok (.ldc i, 2)) (w : (Jvm.Cond.constant y.cls i v).before a0 Z = true) (hr : WlO l Z a0 EL y bs ml rt R as out Q sf h k n pc' Ls (.int v :: st)) (hp : pc + 2 = pc' := by rfl) : WlO l Z a0 EL y bs ml rt R as out Q sf h k n pc Ls st := by
  subst hp; exact Wl.same (fun p e s m below meth c T vm0 locs hx hby _ hown hZ X eT _ => ⟨T, X, eT, fun t kk => Jvm.Stand.ldcI X hx (s := s.setVm vm0) hown (mv hZ w) rfl (hb hby hd) kk⟩) hr
theorem Wl.ldc_wI (pc' : Nat) {i : Nat} {v : Int32} (hd : decode bs pc = .ok (.ldc_w i, 3)) (w : (Jvm.Cond.constant y.cls i v).before a0 Z = true) (hr : WlO l Z a0 EL y bs ml rt R as out Q sf h k n pc' Ls (.int v :: st)) (hp : pc + 3 = pc' := by rfl) : WlO l Z a0 EL y bs ml rt R as out Q sf h k n pc Ls st := by
  subst hp; exact Wl.same (fun p e s m below meth c T vm0 locs hx hby _ hown hZ X eT _ => ⟨T, X, eT, fun t kk => Jvm.Stand.ldcWI X hx (s := s.setVm vm0) hown (mv hZ w) rfl (hb hby hd) kk⟩) hr
theorem Wl.ldc2J (pc' : Nat) {i : Nat} {v : Int64} (hd : decode bs pc = .ok (.ldc2_w i, 3)) (w : (Jvm.Cond.constantLong y.cls i v).before a0 Z = true) (hr : WlO l Z a0 EL y bs ml rt R as out Q sf h k n pc' Ls (.long v :: st)) (hp : pc + 3 = pc' := by rfl) : WlO l Z a0 EL y bs ml rt R as out Q sf h k n pc Ls st := by
  subst hp; exact Wl.same (fun p e s m below meth c T vm0 locs hx hby _ hown hZ X eT _ => ⟨T, X, eT, fun t kk => Jvm.Stand.ldc2J X hx (s := s.setVm vm0) hown (mv hZ w) rfl (hb hby hd) kk⟩) hr
/-! fields -/
theorem Wl.getfield (pc' : Nat) {i : Nat} {O fn d : String} {a : Addr} {v : Value} (hd : decode bs pc = .ok (.getfield i, 3)) (w : (Jvm.Cond.fieldLink y.cls i O fn d).before a0 Z = true) (F : Fld Z h a O fn d v) (hr : WlO l Z a0 EL y bs ml rt R as out Q sf h k n pc' Ls (v :: st)) (hp : pc + 3 = pc' := by rfl) : WlO l Z a0 EL y bs ml rt R as out Q sf h k n pc Ls (.ref a :: st) := by
  subst hp; exact Wl.same (fun p e s m below meth c T vm0 locs hx hby _ hown hZ X eT _ => getF X hx (s := s.setVm vm0) hZ hown (host := "") (Or.inl w) Via.refl eT F (g := mkF m pc Ls (.ref a :: st)) rfl rfl (hb hby hd)) hr
theorem Wl.getstatic (pc' : Nat) {i : Nat} {O fn d : String} {v : Value} (hd : decode bs pc = .ok (.getstatic i, 3)) (w : (Jvm.Cond.fieldLink y.cls i O fn d).before a0 Z = true) (F : Sta Z Z.heap O fn d v) (hr : WlO l Z a0 EL y bs ml rt R as out Q sf h k n pc' Ls (v :: st)) (hp : pc + 3 = pc' := by rfl) : WlO l Z a0 EL y bs ml rt R as out Q sf h k n pc Ls st := by
  subst hp; exact Wl.same (fun p e s m below meth c T vm0 locs hx hby _ hown hZ X eT hO => getS (host := "") X hx (s := s.setVm vm0) hZ hown w Via.refl eT (F.ext hO) (g := mkF m pc Ls st) rfl (hb hby hd)) hr
theorem Wl.getstaticN (pc' : Nat) {i : Nat} {O fn d host : String} {v : Value} (hd : decode bs pc = .ok (.getstatic i, 3)) (w : (Jvm.Cond.fieldLinkNest y.cls i O fn d host).before a0 Z = true) (F : Sta Z Z.heap O fn d v) (hr : WlO l Z a0 EL y bs ml rt R as out Q sf h k n pc' Ls (v :: st)) (hp : pc + 3 = pc' := by rfl) : WlO l Z a0 EL y bs ml rt R as out Q sf h k n pc Ls st := by
  subst hp; exact Wl.same (fun p e s m below meth c T vm0 locs hx hby _ hown hZ X eT hO => getS2 X hx (s := s.setVm vm0) hZ hown (Or.inr w) Via.refl eT (F.ext hO) (g := mkF m pc Ls st) rfl (hb hby hd)) hr
theorem Wl.putfield (pc' : Nat) {i kk : Nat} {O fn d K : String} {ty : FieldType} {a : Addr} {v old : Value} (hd : decode bs pc = .ok (.putfield i, 3)) (w : (Jvm.Cond.fieldLink y.cls i O fn d).before a0 Z = true) (F : Fld Z h a O fn d old) (E : Exa Z h a K)
    (L : (Jvm.Cond.lays K O fn d).before a0 Z = true ∨ ((Jvm.Cond.laysFinal K O fn d).before a0 Z = true ∧ y.cls = O ∧ y.name = "<init>")) (wi : (Jvm.Cond.instantiable K kk).before a0 Z = true) (hty : parseFieldDescriptor d = some ty) (hn : narrow ty v = v) (hf : fits ty v = true) (ha : a ∈ sf)
    (hr : ∀ h', Wr h h' a (Jvm.RoadKit.slotOf Z O fn d) v → WlO l Z a0 EL y bs ml rt R as out Q sf h' k n pc' Ls st) (hp : pc + 3 = pc' := by rfl) : WlO l Z a0 EL y bs ml rt R as out Q sf h k n pc Ls (v :: .ref a :: st) := by
  subst hp; exact Wl.write ha (fun p e s m below meth c T vm0 locs hx hby hnm hown hZ X eT => putF X hx (s := s.setVm vm0) hZ hown (host := "") (Or.inl w) Via.refl eT F E (L.imp id fun q => ⟨q.1, q.2.1, hnm.trans q.2.2⟩) wi hty hn hf (g := mkF m pc Ls (v :: .ref a :: st)) rfl rfl (hb hby hd)) hr
/-! new things -/
theorem Wl.new (pc' : Nat) {i cnt : Nat} {K : String} (hd : decode bs pc = .ok (.new i, 3)) (w : (Jvm.Cond.classLink y.cls i K).before a0 Z = true) (wi : (Jvm.Cond.instantiable K cnt).before a0 Z = true) (wz : (Jvm.Cond.initialized K).before a0 Z = true) (hc : k + 1 ≤ R.cells) (hl : n + cnt ≤ R.slots)
    (hr : ∀ (a : Addr) (h' : Heap), a = h.size → Ext h h' → Exa Z h' a K → (∀ {O nm d : String} {ty : FieldType}, Laid Z a0 K O nm d → parseFieldDescriptor d = some ty → Fld Z h' a O nm d (defaultValue ty)) → WlO l Z a0 EL y bs ml rt R as out Q (a :: sf) h' (k + 1) (n + cnt) pc' Ls (.ref a :: st)) (hp : pc + 3 = pc' := by rfl) : WlO l Z a0 EL y bs ml rt R as out Q sf h k n pc Ls st := by
  subst hp
  refine Wl.grow (st' := fun a => .ref a :: st) (F := fun h' a => Exa Z h' a K ∧ ∀ {O nm d : String} {ty : FieldType}, Laid Z a0 K O nm d → parseFieldDescriptor d = some ty → Fld Z h' a O nm d (defaultValue ty)) (fun p e s m below meth c T vm0 locs hx hby _ hown hZ X eT _ => ?_) (fun a h' ea E G => hr a h' ea E G.1 G.2)
  obtain ⟨T', h', X', e', E, G, D, -, stp⟩ := newO X hx (s := s.setVm vm0) hZ hown w wi wz eT (g := mkF m pc Ls st) rfl (hb hby hd) hc hl
  exact ⟨T', h', X', e', E, G.lt, ⟨G, D⟩, stp⟩
theorem Wl.newarray (pc' : Nat) {aty : ArrayType} {z : Int32} (cap : Nat) (hd : decode bs pc = .ok (.newarray aty, 2)) (w : (Jvm.Cond.arrayClass (newarray.typeOf aty)).before a0 Z = true) (hz : ¬ z < 0) (hcap : z.toNatClampNeg ≤ cap) (hb8 : cap * 8 ≤ 536870912) (hc : k + 1 ≤ R.cells) (hl : n + cap ≤ R.slots)
    (hr : ∀ (a : Addr) (h' : Heap) (cA : ClassId), a = h.size → Ext h h' → Arv Z h' a cA (newarray.typeOf aty) z (List.replicate z.toNatClampNeg (defaultValue (newarray.typeOf aty))) (defaultValue (newarray.typeOf aty)) → WlO l Z a0 EL y bs ml rt R as out Q (a :: sf) h' (k + 1) (n + cap) pc' Ls (.ref a :: st)) (hp : pc + 2 = pc' := by rfl) : WlO l Z a0 EL y bs ml rt R as out Q sf h k n pc Ls (.int z :: st) := by
  subst hp
  refine Wl.grow (st' := fun a => .ref a :: st) (F := fun h' a => ∃ cA, Arv Z h' a cA (newarray.typeOf aty) z (List.replicate z.toNatClampNeg (defaultValue (newarray.typeOf aty))) (defaultValue (newarray.typeOf aty))) (fun p e s m below meth c T vm0 locs hx hby _ hown hZ X eT _ => ?_) (fun a h' ea E G => by obtain ⟨cA, G⟩ := G; exact hr a h' cA ea E G)
  obtain ⟨T', h', cA, X', e', E, G, stp⟩ := newP X hx (s := s.setVm vm0) hZ w eT (g := mkF m pc Ls (.int z :: st)) rfl (hb hby hd) rfl hz hcap hb8 hc hl
  exact ⟨T', h', X', e', E, G.lt, ⟨cA, (Arv.new G hz).pad fun i => by simpa using pad_rep [] (defaultValue (newarray.typeOf aty)) z.toNatClampNeg i⟩, stp⟩
/-! arrays -/
theorem Wl.arraylength (pc' : Nat) {a : Addr} {kc : ClassId} {ty : FieldType} {z : Int32} {vs : List Value} {dv : Value} (hd : decode bs pc = .ok (.arraylength, 1)) (F : Arv Z h a kc ty z vs dv) (hr : WlO l Z a0 EL y bs ml rt R as out Q sf h k n pc' Ls (.int z :: st)) (hp : pc + 1 = pc' := by rfl) : WlO l Z a0 EL y bs ml rt R as out Q sf h k n pc Ls (.ref a :: st) := by
  subst hp
  refine Wl.same (fun p e s m below meth c T vm0 locs hx hby _ hown hZ X eT _ => ⟨T, X, eT, fun t kk => ?_⟩) hr
  obtain ⟨cl, A, q1, q2, q3, -⟩ := F
  refine X.arraylength hx (by rw [eT]; exact A.1) (State.isArrayOf_alike (T := s.setVm vm0) hZ.alike A.2.1) (g := mkF m pc Ls (.ref a :: st)) rfl rfl (hb hby hd) t ?_
  rw [len_of q2 q3]; exact kk
theorem inb {cl : Cell} {z j : Int32} {i : Nat} (S : cl.slots.size = z.toNatClampNeg) (hj : ¬ j < 0) (e : j.toNatClampNeg = i) (hi : i < z.toNatClampNeg) : ¬ (j < 0 ∨ cl.slots.size ≤ j.toNatClampNeg) := fun q => by
  rcases q with q | q
  · exact hj q
  · rw [S, e] at q; omega
theorem Wl.caload (pc' : Nat) {a : Addr} {kc : ClassId} {z j : Int32} {vs : List Value} {dv v : Value} (i : Nat) (hd : decode bs pc = .ok (.caload, 1)) (F : Arv Z h a kc .char z vs dv) (hj : ¬ j < 0) (ej : j.toNatClampNeg = i) (hi : i < z.toNatClampNeg) (hv : vs.getD i dv = v) (hr : WlO l Z a0 EL y bs ml rt R as out Q sf h k n pc' Ls (v :: st)) (hp : pc + 1 = pc' := by rfl) : WlO l Z a0 EL y bs ml rt R as out Q sf h k n pc Ls (.int j :: .ref a :: st) := by
  subst hp
  refine Wl.same (fun p e s m below meth c T vm0 locs hx hby _ hown hZ X eT _ => ⟨T, X, eT, fun t kk => ?_⟩) hr
  obtain ⟨cl, A, q1, q2, q3, H, -⟩ := F
  exact X.caload hx (by rw [eT]; exact A.1) (State.isArrayOf_alike (T := s.setVm vm0) hZ.alike A.2.1) A.2.2 (inb q2 hj ej hi) (H.at (inb q2 hj ej hi) (by rw [ej]; exact hv)) (g := mkF m pc Ls (.int j :: .ref a :: st)) rfl rfl (hb hby hd) t kk
theorem Wl.baload (pc' : Nat) {a : Addr} {kc : ClassId} {z j : Int32} {vs : List Value} {dv v : Value} (i : Nat) (hd : decode bs pc = .ok (.baload, 1)) (F : Arv Z h a kc .byte z vs dv) (hj : ¬ j < 0) (ej : j.toNatClampNeg = i) (hi : i < z.toNatClampNeg) (hv : vs.getD i dv = v) (hr : WlO l Z a0 EL y bs ml rt R as out Q sf h k n pc' Ls (v :: st)) (hp : pc + 1 = pc' := by rfl) : WlO l Z a0 EL y bs ml rt R as out Q sf h k n pc Ls (.int j :: .ref a :: st) := by
  subst hp
  refine Wl.same (fun p e s m below meth c T vm0 locs hx hby _ hown hZ X eT _ => ⟨T, X, eT, fun t kk => ?_⟩) hr
  obtain ⟨cl, A, q1, q2, q3, H, -⟩ := F
  exact X.baloadBytes hx (by rw [eT]; exact A.1) (State.isArrayOf_alike (T := s.setVm vm0) hZ.alike A.2.1) A.2.2 (inb q2 hj ej hi) (H.at (inb q2 hj ej hi) (by rw [ej]; exact hv)) (g := mkF m pc Ls (.int j :: .ref a :: st)) rfl rfl (hb hby hd) t kk
theorem Wl.castore (pc' : Nat) {a : Addr} {kc : ClassId} {z j x : Int32} {vs : List Value} {dv : Value} (i : Nat) (hd : decode bs pc = .ok (.castore, 1)) (F : Arv Z h a kc .char z vs dv) (ha : a ∈ sf) (hj : ¬ j < 0) (ej : j.toNatClampNeg = i) (hi : i < z.toNatClampNeg) (hi' : i < vs.length)
    (hr : ∀ h', Wr h h' a i (.int (nar .char x)) → Arv Z h' a kc .char z (vs.set i (.int (nar .char x))) dv → WlO l Z a0 EL y bs ml rt R as out Q sf h' k n pc' Ls st) (hp : pc + 1 = pc' := by rfl) : WlO l Z a0 EL y bs ml rt R as out Q sf h k n pc Ls (.int x :: .int j :: .ref a :: st) := by
  subst hp
  obtain ⟨cl, A, q1, q2, q3, H, G⟩ := F
  refine Wl.write (sl := i) (v := .int (nar .char x)) ha (fun p e s m below meth c T vm0 locs hx hby _ hown hZ X eT => ?_) (fun h' Wv => hr h' Wv (Arv.set A q1 q2 q3 H G (fits_nar_char x) (ej ▸ Wv) i ej hi'))
  subst ej
  exact stC X hx (s := s.setVm vm0) hZ eT A (inb q2 hj rfl hi) (g := mkF m pc Ls (.int x :: .int j :: .ref a :: st)) rfl rfl (hb hby hd)
theorem Wl.bastore (pc' : Nat) {a : Addr} {kc : ClassId} {z j x : Int32} {vs : List Value} {dv : Value} (i : Nat) (hd : decode bs pc = .ok (.bastore, 1)) (F : Arv Z h a kc .byte z vs dv) (ha : a ∈ sf) (hj : ¬ j < 0) (ej : j.toNatClampNeg = i) (hi : i < z.toNatClampNeg) (hi' : i < vs.length)
    (hr : ∀ h', Wr h h' a i (.int (nar .byte x)) → Arv Z h' a kc .byte z (vs.set i (.int (nar .byte x))) dv → WlO l Z a0 EL y bs ml rt R as out Q sf h' k n pc' Ls st) (hp : pc + 1 = pc' := by rfl) : WlO l Z a0 EL y bs ml rt R as out Q sf h k n pc Ls (.int x :: .int j :: .ref a :: st) := by
  subst hp
  obtain ⟨cl, A, q1, q2, q3, H, G⟩ := F
  refine Wl.write (sl := i) (v := .int (nar .byte x)) ha (fun p e s m below meth c T vm0 locs hx hby _ hown hZ X eT => ?_) (fun h' Wv => hr h' Wv (Arv.set A q1 q2 q3 H G (fits_nar_byte x) (ej ▸ Wv) i ej hi'))
  subst ej
  exact stB X hx (s := s.setVm vm0) hZ eT A (inb q2 hj rfl hi) (g := mkF m pc Ls (.int x :: .int j :: .ref a :: st)) rfl rfl (hb hby hd)
/-- System.arraycopy between arrays of one primitive kind, into an own array -/
theorem Wl.arraycopy (pc' : Nat) {i : Nat} {a b : Addr} {kc kc' : ClassId} {ty : FieldType} {z z' sp dp nn : Int32} {vs vd : List Value} {dv dd : Value} (hd : decode bs pc = .ok (.invokestatic i, 3))
    (w1 : (Jvm.Cond.methodLink y.cls i Jvm.Stand.acN).before a0 Z = true) (w2 : (Jvm.Cond.native Jvm.Stand.acN).before a0 Z = true) (w3 : (Jvm.Cond.static Jvm.Stand.acN).before a0 Z = true) (w4 : (Jvm.Cond.initialized "java/lang/System").before a0 Z = true)
    (A : Arv Z h a kc ty z vs dv) (B : Arv Z h b kc' ty z' vd dd) (hty : refKind ty = false) (h1 : ¬ sp < 0) (h2 : ¬ dp < 0) (h3 : ¬ nn < 0) (h4 : sp.toNatClampNeg + nn.toNatClampNeg ≤ z.toNatClampNeg) (h5 : dp.toNatClampNeg + nn.toNatClampNeg ≤ z'.toNatClampNeg) (hl : dp.toNatClampNeg + nn.toNatClampNeg ≤ vd.length) (hbs : b ∈ sf) (hsz : Ls.size = ml) (hf : 1 ≤ R.frames) (hlo : (st.map fun v => v.category).sum + (nativeFrameWords "java/lang/System" "arraycopy" 5 + 11) ≤ R.locals)
    (hr : ∀ h', Keep h h' [b] → Arv Z h' b kc' ty z' (vd.take dp.toNatClampNeg ++ ((List.range nn.toNatClampNeg).map fun i => vs.getD (sp.toNatClampNeg + i) dv) ++ vd.drop (dp.toNatClampNeg + nn.toNatClampNeg)) dd → WlO l Z a0 EL y bs ml rt R as out Q sf h' k n pc' Ls st) (hp : pc + 3 = pc' := by rfl) : WlO l Z a0 EL y bs ml rt R as out Q sf h k n pc Ls (.int nn :: .int dp :: .ref b :: .int sp :: .ref a :: st) := by
  subst hp
  intro p e s m below meth c T W
  obtain ⟨A0, vm0, locs, k0, X, eT, hS, hk, hF, hZ, hC, hM, hH⟩ := W
  obtain ⟨T', h', L', X', e', hF', K, G, stp⟩ := cpA X A0.1 (s := s.setVm vm0) hZ (by show vm0.findClass y.cls = _; rw [hS.1.alike.findClass]; exact A0.2.2.2.2.2.2.1) w1 w2 w3 w4 eT A B (Or.inl ⟨rfl, hty⟩) h1 h2 h3 h4 h5 rfl hl hF (hM b hbs).2.1 (g := mkF m pc Ls (.int nn :: .int dp :: .ref b :: .int sp :: .ref a :: st)) rfl (by rw [A0.2.2.1]; exact hsz) rfl (hb A0.2.1 hd) hf (W := (st.map fun v => v.category).sum) (by show 2 * 0 + _ ≤ _; omega) hlo
  have Bc := CHr.keep (Z := Z) (EL := EL) (vm := vm0) K (fun x hx => by cases List.mem_singleton.mp hx; exact (hM b hbs).1) hC.1
  exact Go.of stp (hr h' K G p e s m below meth c T' ⟨A0, vm0, L', k0, X', e', hS, Nat.le_trans hk K.1, hF', hZ, hC.trans Bc, hM.chr Bc, hH⟩)
/-! Object.<init>, classes -/
theorem Wl.initO (pc' : Nat) {i : Nat} {a : Addr} (hd : decode bs pc = .ok (.invokespecial i, 3)) (w1 : (Jvm.Cond.methodLink y.cls i Lib.objectInit).before a0 Z = true) (w2 : (Jvm.Cond.instanceMethod Lib.objectInit).before a0 Z = true) (w3 : (Jvm.Cond.code Lib.objectInit ⟨#[0xb1]⟩ 1 none).before a0 Z = true) (hsz : Ls.size = ml) (hf : 1 ≤ R.frames) (hl : (st.map fun v => v.category).sum + 12 ≤ R.locals)
    (hr : WlO l Z a0 EL y bs ml rt R as out Q sf h k n pc' Ls st) (hp : pc + 3 = pc' := by rfl) : WlO l Z a0 EL y bs ml rt R as out Q sf h k n pc Ls (.ref a :: st) := by
  subst hp; exact Wl.same (fun p e s m below meth c T vm0 locs hx hby hml hown hZ X eT _ => Jvm.RoadKit.initO X hx (s := s.setVm vm0) hZ hown w1 w2 w3 eT (g := mkF m pc Ls (.ref a :: st)) rfl (by rw [hml]; exact hsz) rfl (hb hby hd) hf (W := (st.map fun v => v.category).sum) (by show 2 * 0 + _ ≤ _; omega) hl) hr
theorem Wl.checkcast (pc' : Nat) {i : Nat} {K : String} {a : Addr} (hd : decode bs pc = .ok (.checkcast i, 3)) (w : (Jvm.Cond.classLink y.cls i K).before a0 Z = true) (F : Ins Z h a K true) (hr : WlO l Z a0 EL y bs ml rt R as out Q sf h k n pc' Ls (.ref a :: st)) (hp : pc + 3 = pc' := by rfl) : WlO l Z a0 EL y bs ml rt R as out Q sf h k n pc Ls (.ref a :: st) := by
  subst hp; exact Wl.same (fun p e s m below meth c T vm0 locs hx hby hml hown hZ X eT _ => castY X hx (s := s.setVm vm0) hZ hown w eT F (g := mkF m pc Ls (.ref a :: st)) rfl rfl (hb hby hd)) hr
theorem Wl.instY (pc' : Nat) {i : Nat} {K : String} {a : Addr} (hd : decode bs pc = .ok (.instanceof i, 3)) (w : (Jvm.Cond.classLink y.cls i K).before a0 Z = true) (F : Ins Z h a K true) (hr : WlO l Z a0 EL y bs ml rt R as out Q sf h k n pc' Ls (.int 1 :: st)) (hp : pc + 3 = pc' := by rfl) : WlO l Z a0 EL y bs ml rt R as out Q sf h k n pc Ls (.ref a :: st) := by
  subst hp; exact Wl.same (fun p e s m below meth c T vm0 locs hx hby hml hown hZ X eT _ => Jvm.RoadKit.instY X hx (s := s.setVm vm0) hZ hown w eT F (g := mkF m pc Ls (.ref a :: st)) rfl rfl (hb hby hd)) hr
theorem Wl.instN (pc' : Nat) {i : Nat} {K K' : String} {a : Addr} (hd : decode bs pc = .ok (.instanceof i, 3)) (w : (Jvm.Cond.classLink y.cls i K).before a0 Z = true) (E : Exa Z h a K') (F : ∃ c t, Z.vm.findClass K' = some c ∧ Z.vm.findClass K = some t ∧ Z.vm.assignable c t = false) (hr : WlO l Z a0 EL y bs ml rt R as out Q sf h k n pc' Ls (.int 0 :: st)) (hp : pc + 3 = pc' := by rfl) : WlO l Z a0 EL y bs ml rt R as out Q sf h k n pc Ls (.ref a :: st) := by
  subst hp; exact Wl.same (fun p e s m below meth c T vm0 locs hx hby hml hown hZ X eT _ => instNo X hx (s := s.setVm vm0) hZ hown w eT E F (g := mkF m pc Ls (.ref a :: st)) rfl rfl (hb hby hd)) hr
theorem Wl.instNull (pc' : Nat) {i : Nat} (hd : decode bs pc = .ok (.instanceof i, 3)) (hr : WlO l Z a0 EL y bs ml rt R as out Q sf h k n pc' Ls (.int 0 :: st)) (hp : pc + 3 = pc' := by rfl) : WlO l Z a0 EL y bs ml rt R as out Q sf h k n pc Ls (.null :: st) := by
  subst hp; exact Wl.same (fun p e s m below meth c T vm0 locs hx hby hml hown hZ X eT _ => ⟨T, X, eT, X.instanceofNull hx (g := mkF m pc Ls (.null :: st)) rfl rfl (hb hby hd)⟩) hr
/-- C's only superclass is S, who has none; K is another plain class -/
theorem notInst {K' S K : String} {cnt : Nat} (w : (Jvm.Cond.superclass K' S).before a0 Z = true) (wo : (Jvm.Cond.noSuperclass S).before a0 Z = true) (wi : (Jvm.Cond.instantiable K cnt).before a0 Z = true) (h1 : S ≠ K) (h2 : K' ≠ K) : ∃ c t, Z.vm.findClass K' = some c ∧ Z.vm.findClass K = some t ∧ Z.vm.assignable c t = false := by
  obtain ⟨t, kt, g0, g2, g5, g7, -⟩ := Cond.instantiable_spec wi
  obtain ⟨c', k', s1, s2, s3, -, -⟩ := Cond.noSuperclass_spec wo
  obtain ⟨c, h0⟩ := found_sup w
  obtain ⟨p, k, kp, q1, q2, q3, q4, q5, -, q7⟩ := Cond.superclass_spec h0 w
  cases s1.symm.trans q1
  have ne := ids_ne h0 g0 h2
  have ne' := ids_ne s1 g0 h1
  have hi : kt.isInterface = false := by
    cases hq : kt.isInterface with
    | false => rfl
    | true => rw [hq] at g7; simp at g7
  have n3 : ∀ fuel, Z.vm.isSubclassAux fuel c t = false := fun fuel => by
    cases fuel with
    | zero => rfl
    | succ f =>
      have m3 : Z.vm.isSubclassAux f c' t = false := by
        cases f with
        | zero => rfl
        | succ f => simp [Vm.isSubclassAux, ne', s2, s3]
      simp [Vm.isSubclassAux, ne, q2, q4, m3]
  refine ⟨c, t, h0, g0, ?_⟩
  show Z.vm.assignableAux (255 + 1) c t = false
  simp [Vm.assignableAux, ne, q2, g2, q5, g5, hi, Vm.isSubclass, n3]
/-! returns -/
theorem Wl.ret {v : Option Value} (hv : rt = none → v = none) (hk : k ≤ R.cells) (hn : n ≤ R.slots)
    (f : ∀ (p : Program) (e : Env) (s : State) (m : MethodId) (below : List Frame) (meth : Method) (c : Code) (T : State) (vm0 : Vm) (locs : List Loc) (fs : List Frame), p.tables.exec = Jvm.exec → c.code = bs → meth.sig.returnType = rt → Stand p l e R (s.setVm vm0) m as below meth c T locs k n →
      (∀ (f : JFrame) (acts : List Action), f.method = m → f.locked = none → f.entered = [] → (doReturn e (T.setTop f) acts v).1 = T.setFrames fs) → Steps p.tables e below (T.setTop (mkF m pc Ls st)) (T.setFrames fs))
    (hq : Q v h) (ho : ∀ x ∈ out, x ∈ sf) : WlO l Z a0 EL y bs ml rt R as out Q sf h k n pc Ls st := by
  intro p e s m below meth c T W
  obtain ⟨⟨hx, hby, hml, hrt, hlk, hnm, hown, hEL, hO⟩, vm0, locs, k0, X, eT, hS, hk0, hF, hZ, hC, hM, hH⟩ := W
  obtain ⟨fs, hr, hrun, hend, hE⟩ := X.leaveW hS (by rw [eT]; exact hk0) (v := v) (fun q => hv (hrt ▸ q)) hlk
  refine ⟨_, _, f p e s m below meth c T vm0 locs fs hx hby hrt X hr, hrun, hend, v, locs, rfl, ⟨by show Q v T.heap; rw [eT]; exact hq, hF⟩, ?_, ⟨hE.1, hE.2.1, hE.2.2.1, hE.2.2.2.mono hk hn⟩, fun q => State.WarmedH.trans (t := s.setVm vm0) (hH q) X.warmed, ?_⟩
  · show CHr Z EL s.vm s.heap T.vm T.heap
    rw [eT]
    exact hC.trans (CHv.at X hZ hEL hC.1)
  · show Mine Z EL T.vm T.heap out
    rw [eT]
    exact (hM.chr (CHv.at X hZ hEL hC.1)).sub ho
theorem Wl.return_ (hd : decode bs pc = .ok (.return_, 1)) (hrt : rt = none) (hk : k ≤ R.cells) (hn : n ≤ R.slots) (hq : Q none h) (ho : ∀ x ∈ out, x ∈ sf := by exact fun _ q => nomatch q) : WlO l Z a0 EL y bs ml rt R as out Q sf h k n pc Ls [] :=
  Wl.ret (fun _ => rfl) hk hn (fun p e s m below meth c T vm0 locs fs hx hby hr X hl => X.returnOut hx (hr.trans hrt) (hb hby hd) hl) hq ho
theorem Wl.areturn {v : Value} {t : FieldType} (hd : decode bs pc = .ok (.areturn, 1)) (hrt : rt = some t) (ht : t.isReference = true) (hv : v.isRef = true) (hk : k ≤ R.cells) (hn : n ≤ R.slots) (hq : Q (some v) h) (ho : ∀ x ∈ out, x ∈ sf := by exact fun _ q => nomatch q) : WlO l Z a0 EL y bs ml rt R as out Q sf h k n pc Ls [v] :=
  Wl.ret (fun q => by rw [hrt] at q; cases q) hk hn (fun p e s m below meth c T vm0 locs fs hx hby hr X hl => X.areturnOut hx hv (hr.trans hrt) ht (hb hby hd) hl) hq ho
theorem Wl.ireturn {x : Int32} {t : FieldType} (hd : decode bs pc = .ok (.ireturn, 1)) (hrt : rt = some t) (hn1 : narrow t (.int x) = .int x) (ht : t = .int ∨ t = .boolean ∨ t = .byte ∨ t = .char ∨ t = .short) (hk : k ≤ R.cells) (hn : n ≤ R.slots) (hq : Q (some (.int x)) h) (ho : ∀ x ∈ out, x ∈ sf := by exact fun _ q => nomatch q) : WlO l Z a0 EL y bs ml rt R as out Q sf h k n pc Ls [.int x] :=
  Wl.ret (fun q => by rw [hrt] at q; cases q) hk hn (fun p e s m below meth c T vm0 locs fs hx hby hr X hl => X.ireturnOut hx (hr.trans hrt) hn1 ht (hb hby hd) hl) hq ho
/-! a body's walk is its contract; a contract pays a call -/
theorem Met.of_walk {ws : List Jvm.Cond} (hpn : plainFor y = true) (hEL : EW Z a0 EL) (hE : argsToLocals as ml = Ls) (hw : WlO l Z a0 EL y bs ml rt R as out Q sf h 0 0 0 Ls []) : MetO l Z EL y bs ml rt ws R as h sf out Q := by
  refine MetFree.of_bodySF hpn hisR ?_
  intro p e s m args below meth c s₁ Bd hml0 hP hK
  obtain ⟨rfl, hZ, hh, hC, hO, hM⟩ := hP
  have X0 : Stand p l e R s m args below meth c s₁ [] 0 0 := Stand.of_body Bd
  have e0 : s₁.heap = h := by rw [← hh, Bd.state]; rfl
  have hown : s.vm.findClass y.cls = some m.cls := findClass_of_methodNamed Bd.named
  have g := hw p e s m below meth c s₁ ⟨⟨Bd.exec, Bd.bytes, hml0, Bd.returns, Bd.notSynchronized, (name_of_methodNamed Bd.named Bd.method).1, hown, hEL, by rw [hh]; exact hO⟩, s.vm, [], h.size, X0, e0, (State.WarmedH.refl s).since _, Nat.le_refl _, Fr.nil _, hZ, by rw [hh]; exact CHr.refl hC, hM, fun _ => State.WarmedH.refl s⟩
  obtain ⟨s₂, o, g1, g2, g3, g4⟩ := g
  refine ⟨s₂, o, ?_, g2, g3, g4⟩
  have q : entryFrame m args ml = mkF m 0 Ls [] := by rw [← hE]; rfl
  exact castTop q g1
theorem Met.back {y2 : MethodName} {bs2 : ByteArray} {ml2 : Nat} {rt2 : Option FieldType} {rm : Room} {as2 : Array Value} {sf2 out2 : List Addr} {Q2 : Option Value → Heap → Prop} {len W : Nat} {vm0 : Vm} {args : Array Value}
    (hM : MetO l Z EL y2 bs2 ml2 rt2 [] rm as2 h sf2 out2 Q2) (hZ : Z.Warmed39 vm0) (wc : (Jvm.Cond.code y2 bs2 ml2 rt2).before a0 Z = true) (wz : (Jvm.Cond.initialized y2.cls).before a0 Z = true) (hf : rm.frames + 1 ≤ R.frames) (hl : W + (ml2 + 11) + rm.locals ≤ R.locals) (hEL : EW Z a0 EL) (H : CHv Z EL vm0 h) (hO : Ext Z.heap h) (hS : Mine Z EL vm0 h sf2) :
    BackS l R p e below (s.setVm vm0) args y2 len W (fun A a => a = as2 ∧ A.U.heap = h ∧ A.cells + rm.cells ≤ R.cells ∧ A.slots + rm.slots ≤ R.slots)
      (fun A _ v B => ∃ L, (Q2 v B.U.heap ∧ Fr Z.heap.size L) ∧ B.locs = A.locs ++ L ∧ B.cells = A.cells + rm.cells ∧ B.slots = A.slots + rm.slots ∧ CHr Z EL vm0 h B.U.vm B.U.heap ∧ (EL = [] → (s.setVm vm0).WarmedH B.U.vm) ∧ Mine Z EL B.U.vm B.U.heap out2) :=
  BackS.of_freeW (bytes := bs2) (maxL := ml2) (ret := rt2) (E := fun _ first o t L k n => k = rm.cells ∧ n = rm.slots ∧ (∃ v, o = .returned v ∧ (Q2 v t.heap ∧ Fr Z.heap.size L)) ∧ CHr Z EL first.vm first.heap t.vm t.heap ∧ (EL = [] → first.WarmedH t.vm) ∧ Mine Z EL t.vm t.heap out2) hM hf hl
    (fun m meth c A a Y hp => have hU : Z.Warmed39 A.U.vm := wtrans (s := s.setVm vm0) hZ Y.warmed
      ⟨by show (Jvm.Cond.and _ .tt).before a A.U = true; rw [Cond.before_and, mv hU wc]; rfl, mv hU wc, mv hU wz, hp.2.2.1, hp.2.2.2⟩)
    (fun m meth c A a g mk Y hp => ⟨hp.1, wtrans (s := s.setVm vm0) hZ Y.warmed, hp.2.1, (show CHv Z EL A.U.vm h from (CHv.at Y hZ hEL H).1), hO, (show Mine Z EL A.U.vm h sf2 from hS.chr (CHv.at Y hZ hEL H))⟩) (fun _ _ _ _ _ _ _ _ _ => trivial)
    (fun _ _ _ _ ⟨v, L, h1, h2, h3, h4, h5⟩ => ⟨L, _, _, h4, rfl, rfl, ⟨v, h1, h2⟩, h3, h5⟩)
    (fun m meth c A a g mk v t L k n Y hp _ _ ⟨e1, e2, ⟨v', e3, e4⟩, e5, e6, e7⟩ => by
      cases e3; subst e1 e2
      refine ⟨L, e4, rfl, rfl, rfl, (CHv.at Y hZ hEL H).trans ?_, fun q => State.WarmedH.trans (t := A.U.calling g mk a) Y.warmed (e6 q), e7⟩
      rw [← hp.2.1]; exact e5)
/-- a call: what the three kinds share -/
theorem Wl.call {st0 : List Value} {y2 : MethodName} {bs2 : ByteArray} {ml2 : Nat} {rt2 : Option FieldType} {rm : Room} {as2 : Array Value} {sf2 out2 sf' : List Addr} {Q2 : Option Value → Heap → Prop} {len pc' : Nat}
    (hM : MetO l Z EL y2 bs2 ml2 rt2 [] rm as2 h sf2 out2 Q2) (wc : (Jvm.Cond.code y2 bs2 ml2 rt2).before a0 Z = true) (wz : (Jvm.Cond.initialized y2.cls).before a0 Z = true) (hsub : ∀ x ∈ sf2, x ∈ sf) (hf : rm.frames + 1 ≤ R.frames) (hl : (st.map fun v => v.category).sum + (ml2 + 11) + rm.locals ≤ R.locals) (hc : k + rm.cells ≤ R.cells) (hs : n + rm.slots ≤ R.slots)
    (f : ∀ (p : Program) (e : Env) (s : State) (m : MethodId) (below : List Frame) (meth : Method) (c : Code) (T : State) (vm0 : Vm) (locs : List Loc),
      p.tables.exec = Jvm.exec → c.code = bs → c.maxLocals = ml → vm0.findClass y.cls = some m.cls → Z.Warmed39 vm0 → Stand p l e R (s.setVm vm0) m as below meth c T locs k n → T.heap = h →
      ∀ {Post : Pt → Array Value → Option Value → Pt → Prop}, BackS l R p e below (s.setVm vm0) as y2 len (st.map fun v => v.category).sum (fun A a => a = as2 ∧ A.U.heap = h ∧ A.cells + rm.cells ≤ R.cells ∧ A.slots + rm.slots ≤ R.slots) Post →
      ∃ (v : Option Value) (vm₁ : Vm) (B : Pt), (s.setVm vm0).WarmedH vm₁ ∧ Stand p l e R ((s.setVm vm0).setVm B.U.vm) m as below meth c B.U B.locs B.cells B.slots ∧ (s.setVm vm0).Since B.U.vm B.U.heap.size ∧ T.heap.size ≤ B.U.heap.size ∧ Post ⟨T.setVm vm₁, locs, k, n⟩ as2 v B ∧
        Steps p.tables e below (T.setTop (mkF m pc Ls st0)) (B.U.setTop (mkF m pc' Ls (v.toList ++ st))))
    (hsf' : ∀ x ∈ sf', x ∈ out2 ∨ x ∈ sf) (hr : ∀ v h', Q2 v h' → h.size ≤ h'.size → WlO l Z a0 EL y bs ml rt R as out Q sf' h' (k + rm.cells) (n + rm.slots) pc' Ls (v.toList ++ st)) : WlO l Z a0 EL y bs ml rt R as out Q sf h k n pc Ls st0 := by
  intro p e s m below meth c T W
  have hO := W.old
  obtain ⟨A, vm0, locs, k0, X, eT, hS, hk, hF, hZ, hC, hMi, hH⟩ := W
  obtain ⟨v, vm₁, ⟨T', L', k', n'⟩, -, X', hS', hg, ⟨Lc, ⟨hq, hFc⟩, l1, l2, l3, hC', hH', hMo⟩, stp⟩ := f p e s m below meth c T vm0 locs A.1 A.2.1 A.2.2.1 (by rw [hS.1.alike.findClass]; exact A.2.2.2.2.2.2.1) hZ X eT (Met.back (W := (st.map fun v => v.category).sum) (R := R) (a0 := a0) hM hZ wc wz hf hl A.2.2.2.2.2.2.2.1 hC.1 hO (hMi.sub hsub))
  dsimp only [Pt.U, Pt.locs, Pt.cells, Pt.slots] at X' hS' hg hq l1 l2 l3 hC' hH' hMo stp
  subst l1 l2 l3
  have hS2 := hS.trans hS' (Nat.le_trans hk (by rw [← eT]; exact hg))
  refine Go.of (fun t kk => stp.trans kk) (hr v T'.heap hq hC'.2.1 p e s m below meth c T' ⟨A, T'.vm, locs ++ Lc, T'.heap.size, X', rfl, hS2, Nat.le_refl _, Fr.app hF hFc, State.Warmed39.trans (t := s.setVm vm0) hZ hS'.1, hC.trans hC', fun x hx => (hsf' x hx).elim (hMo x) ((hMi.chr hC') x), fun q => State.WarmedH.trans (s := s) (t := s.setVm vm0) (hH q) (hH' q)⟩)
theorem Wl.static (pc' : Nat) {st0 : List Value} {i : Nat} {y2 : MethodName} {bs2 : ByteArray} {ml2 : Nat} {rt2 : Option FieldType} {rm : Room} {argsL : List Value} {sf2 out2 : List Addr} {Q2 : Option Value → Heap → Prop} {ps : List FieldType} {r : Option FieldType}
    (hd : decode bs pc = .ok (.invokestatic i, 3)) (w1 : (Jvm.Cond.methodLink y.cls i y2).before a0 Z = true) (w2 : (Jvm.Cond.static y2).before a0 Z = true) (wz : (Jvm.Cond.initialized y2.cls).before a0 Z = true) (wc : (Jvm.Cond.code y2 bs2 ml2 rt2).before a0 Z = true)
    (hsig : parseMethodDescriptor y2.desc = some ⟨ps, r⟩) (hlen : argsL.length = ps.length) (hM : MetO l Z EL y2 bs2 ml2 rt2 [] rm argsL.toArray h sf2 out2 Q2) (hsub : ∀ x ∈ sf2, x ∈ sf) (hst : st0 = argsL.reverse ++ st) (hsz : Ls.size = ml) (hp : pc + 3 = pc') (hy : y2.cls ≠ "java/lang/invoke/MethodHandle" ∧ y2.cls ≠ "java/lang/invoke/VarHandle")
    (hroom : (rm.frames + 1 ≤ R.frames ∧ (st.map fun v => v.category).sum + (ml2 + 11) + rm.locals ≤ R.locals) ∧ k + rm.cells ≤ R.cells ∧ n + rm.slots ≤ R.slots)
    (hr : ∀ v h', Q2 v h' → h.size ≤ h'.size → WlO l Z a0 EL y bs ml rt R as out Q sf h' (k + rm.cells) (n + rm.slots) pc' Ls (v.toList ++ st)) : WlO l Z a0 EL y bs ml rt R as out Q sf h k n pc Ls st0 := by
  subst hp
  exact Wl.call (len := 3) hM wc wz hsub hroom.1.1 hroom.1.2 hroom.2.1 hroom.2.2 (fun p e s m below meth c T vm0 locs hx hby hml hown hZ X eT {Post} hK =>
    callSS X hx (s := s.setVm vm0) hown (mvT hZ w1) (mvT hZ w2) (mvT hZ wz) (mvT hZ wc) hy hK (g := mkF m pc Ls st0) rfl (by rw [hml]; exact hsz) (argsL := argsL) (rest := st) (lenOf hsig hlen) hst (by show 2 * 0 + _ ≤ _; omega) (hb hby hd) (fun _ _ => ⟨rfl, eT, hroom.2.1, hroom.2.2⟩)) (fun _ q => Or.inr q) hr
theorem Wl.staticO (pc' : Nat) {st0 : List Value} {i : Nat} {y2 : MethodName} {bs2 : ByteArray} {ml2 : Nat} {rt2 : Option FieldType} {rm : Room} {argsL : List Value} {sf2 : List Addr} {d : Addr} {Q2 : Option Value → Heap → Prop} {ps : List FieldType} {r : Option FieldType}
    (hd : decode bs pc = .ok (.invokestatic i, 3)) (w1 : (Jvm.Cond.methodLink y.cls i y2).before a0 Z = true) (w2 : (Jvm.Cond.static y2).before a0 Z = true) (wz : (Jvm.Cond.initialized y2.cls).before a0 Z = true) (wc : (Jvm.Cond.code y2 bs2 ml2 rt2).before a0 Z = true)
    (hsig : parseMethodDescriptor y2.desc = some ⟨ps, r⟩) (hlen : argsL.length = ps.length) (hM : MetO l Z EL y2 bs2 ml2 rt2 [] rm argsL.toArray h sf2 [d] Q2) (hsub : ∀ x ∈ sf2, x ∈ sf) (hst : st0 = argsL.reverse ++ st) (hsz : Ls.size = ml) (hp : pc + 3 = pc') (hy : y2.cls ≠ "java/lang/invoke/MethodHandle" ∧ y2.cls ≠ "java/lang/invoke/VarHandle")
    (hroom : (rm.frames + 1 ≤ R.frames ∧ (st.map fun v => v.category).sum + (ml2 + 11) + rm.locals ≤ R.locals) ∧ k + rm.cells ≤ R.cells ∧ n + rm.slots ≤ R.slots)
    (hr : ∀ v h', Q2 v h' → h.size ≤ h'.size → WlO l Z a0 EL y bs ml rt R as out Q (d :: sf) h' (k + rm.cells) (n + rm.slots) pc' Ls (v.toList ++ st)) : WlO l Z a0 EL y bs ml rt R as out Q sf h k n pc Ls st0 := by
  subst hp
  exact Wl.call (len := 3) hM wc wz hsub hroom.1.1 hroom.1.2 hroom.2.1 hroom.2.2 (fun p e s m below meth c T vm0 locs hx hby hml hown hZ X eT {Post} hK =>
    callSS X hx (s := s.setVm vm0) hown (mvT hZ w1) (mvT hZ w2) (mvT hZ wz) (mvT hZ wc) hy hK (g := mkF m pc Ls st0) rfl (by rw [hml]; exact hsz) (argsL := argsL) (rest := st) (lenOf hsig hlen) hst (by show 2 * 0 + _ ≤ _; omega) (hb hby hd) (fun _ _ => ⟨rfl, eT, hroom.2.1, hroom.2.2⟩)) (fun x q => (List.mem_cons.mp q).elim (fun e => Or.inl (e ▸ List.mem_singleton.mpr rfl)) Or.inr) hr
theorem Wl.special (pc' : Nat) {st0 : List Value} {i : Nat} {y2 : MethodName} {bs2 : ByteArray} {ml2 : Nat} {rm : Room} {a : Addr} {argsL : List Value} {sf2 out2 : List Addr} {Q2 : Option Value → Heap → Prop} {ps : List FieldType} {r : Option FieldType}
    (hd : decode bs pc = .ok (.invokespecial i, 3)) (w1 : (Jvm.Cond.methodLink y.cls i y2).before a0 Z = true) (w2 : (Jvm.Cond.instanceMethod y2).before a0 Z = true) (wz : (Jvm.Cond.initialized y2.cls).before a0 Z = true) (wc : (Jvm.Cond.code y2 bs2 ml2 none).before a0 Z = true)
    (hsig : parseMethodDescriptor y2.desc = some ⟨ps, r⟩) (hlen : argsL.length = ps.length) (hM : MetO l Z EL y2 bs2 ml2 none [] rm (.ref a :: argsL).toArray h sf2 out2 Q2) (hsub : ∀ x ∈ sf2, x ∈ sf) (hst : st0 = argsL.reverse ++ .ref a :: st) (hsz : Ls.size = ml) (hp : pc + 3 = pc') (hni : y2.name = "<init>") (hy : y2.cls ≠ "java/lang/invoke/MethodHandle" ∧ y2.cls ≠ "java/lang/invoke/VarHandle")
    (hroom : (rm.frames + 1 ≤ R.frames ∧ (st.map fun v => v.category).sum + (ml2 + 11) + rm.locals ≤ R.locals) ∧ k + rm.cells ≤ R.cells ∧ n + rm.slots ≤ R.slots)
    (hr : ∀ v h', Q2 v h' → h.size ≤ h'.size → WlO l Z a0 EL y bs ml rt R as out Q sf h' (k + rm.cells) (n + rm.slots) pc' Ls (v.toList ++ st)) : WlO l Z a0 EL y bs ml rt R as out Q sf h k n pc Ls st0 := by
  subst hp
  exact Wl.call (len := 3) hM wc wz hsub hroom.1.1 hroom.1.2 hroom.2.1 hroom.2.2 (fun p e s m below meth c T vm0 locs hx hby hml hown hZ X eT {Post} hK =>
    X.specialBackS hx (s := s.setVm vm0) hni hown (mvT hZ w1) (mvT hZ w2) (mvT hZ wc) hy hK (g := mkF m pc Ls st0) rfl (by rw [hml]; exact hsz) (Steps.refl _) (a := a) (argsL := argsL) (rest := st) (lenOf hsig hlen) hst (by show 2 * 0 + _ ≤ _; omega) (hb hby hd) (fun _ _ => ⟨rfl, eT, hroom.2.1, hroom.2.2⟩)) (fun _ q => Or.inr q) hr
theorem Wl.specialO (pc' : Nat) {st0 : List Value} {i : Nat} {y2 : MethodName} {bs2 : ByteArray} {ml2 : Nat} {rm : Room} {a : Addr} {argsL : List Value} {sf2 : List Addr} {d : Addr} {Q2 : Option Value → Heap → Prop} {ps : List FieldType} {r : Option FieldType}
    (hd : decode bs pc = .ok (.invokespecial i, 3)) (w1 : (Jvm.Cond.methodLink y.cls i y2).before a0 Z = true) (w2 : (Jvm.Cond.instanceMethod y2).before a0 Z = true) (wz : (Jvm.Cond.initialized y2.cls).before a0 Z = true) (wc : (Jvm.Cond.code y2 bs2 ml2 none).before a0 Z = true)
    (hsig : parseMethodDescriptor y2.desc = some ⟨ps, r⟩) (hlen : argsL.length = ps.length) (hM : MetO l Z EL y2 bs2 ml2 none [] rm (.ref a :: argsL).toArray h sf2 [d] Q2) (hsub : ∀ x ∈ sf2, x ∈ sf) (hst : st0 = argsL.reverse ++ .ref a :: st) (hsz : Ls.size = ml) (hp : pc + 3 = pc') (hni : y2.name = "<init>") (hy : y2.cls ≠ "java/lang/invoke/MethodHandle" ∧ y2.cls ≠ "java/lang/invoke/VarHandle")
    (hroom : (rm.frames + 1 ≤ R.frames ∧ (st.map fun v => v.category).sum + (ml2 + 11) + rm.locals ≤ R.locals) ∧ k + rm.cells ≤ R.cells ∧ n + rm.slots ≤ R.slots)
    (hr : ∀ v h', Q2 v h' → h.size ≤ h'.size → WlO l Z a0 EL y bs ml rt R as out Q (d :: sf) h' (k + rm.cells) (n + rm.slots) pc' Ls (v.toList ++ st)) : WlO l Z a0 EL y bs ml rt R as out Q sf h k n pc Ls st0 := by
  subst hp
  exact Wl.call (len := 3) hM wc wz hsub hroom.1.1 hroom.1.2 hroom.2.1 hroom.2.2 (fun p e s m below meth c T vm0 locs hx hby hml hown hZ X eT {Post} hK =>
    X.specialBackS hx (s := s.setVm vm0) hni hown (mvT hZ w1) (mvT hZ w2) (mvT hZ wc) hy hK (g := mkF m pc Ls st0) rfl (by rw [hml]; exact hsz) (Steps.refl _) (a := a) (argsL := argsL) (rest := st) (lenOf hsig hlen) hst (by show 2 * 0 + _ ≤ _; omega) (hb hby hd) (fun _ _ => ⟨rfl, eT, hroom.2.1, hroom.2.2⟩)) (fun x q => (List.mem_cons.mp q).elim (fun e => Or.inl (e ▸ List.mem_singleton.mpr rfl)) Or.inr) hr
theorem Wl.virtual (pc' : Nat) {st0 : List Value} {i : Nat} {y1 y2 : MethodName} {K : String} {bs2 : ByteArray} {ml2 : Nat} {rt2 : Option FieldType} {rm : Room} {a : Addr} {argsL : List Value} {sf2 out2 : List Addr} {Q2 : Option Value → Heap → Prop} {ps : List FieldType} {r : Option FieldType}
    (hd : decode bs pc = .ok (.invokevirtual i, 3)) (w1 : (Jvm.Cond.methodLink y.cls i y1).before a0 Z = true) (w2 : (Jvm.Cond.declares y1).before a0 Z = true) (w3 : (Jvm.Cond.selects K y1 y2).before a0 Z = true) (w4 : (Jvm.Cond.instanceMethod y2).before a0 Z = true) (wz : (Jvm.Cond.initialized y2.cls).before a0 Z = true) (wc : (Jvm.Cond.code y2 bs2 ml2 rt2).before a0 Z = true) (hnf : ∀ {vm0 : Vm} {s : State}, Z.Warmed39 vm0 → NotFace (s.setVm vm0) y1)
    (hE : Exa Z h a K) (hsig : parseMethodDescriptor y1.desc = some ⟨ps, r⟩) (hlen : argsL.length = ps.length) (hM : MetO l Z EL y2 bs2 ml2 rt2 [] rm (.ref a :: argsL).toArray h sf2 out2 Q2) (hsub : ∀ x ∈ sf2, x ∈ sf) (hst : st0 = argsL.reverse ++ .ref a :: st) (hsz : Ls.size = ml) (hp : pc + 3 = pc') (hy : y1.cls ≠ "java/lang/invoke/MethodHandle" ∧ y1.cls ≠ "java/lang/invoke/VarHandle")
    (hroom : (rm.frames + 1 ≤ R.frames ∧ (st.map fun v => v.category).sum + (ml2 + 11) + rm.locals ≤ R.locals) ∧ k + rm.cells ≤ R.cells ∧ n + rm.slots ≤ R.slots)
    (hr : ∀ v h', Q2 v h' → h.size ≤ h'.size → WlO l Z a0 EL y bs ml rt R as out Q sf h' (k + rm.cells) (n + rm.slots) pc' Ls (v.toList ++ st)) : WlO l Z a0 EL y bs ml rt R as out Q sf h k n pc Ls st0 := by
  subst hp
  refine Wl.call (len := 3) hM wc wz hsub hroom.1.1 hroom.1.2 hroom.2.1 hroom.2.2 (fun p e s m below meth c T vm0 locs hx hby hml hown hZ X eT {Post} hK => ?_) (fun _ q => Or.inr q) hr
  obtain ⟨cB, kB, i1, i2, i3⟩ := isOf (s := s.setVm vm0) hZ eT hE
  exact X.virtualBackS hx (s := s.setVm vm0) hown (mvT hZ w1) (mvT hZ w2) (hnf hZ) (mvT hZ w3) (mvT hZ w4) hy hK i1 i3 (g := mkF m pc Ls st0) rfl (by rw [hml]; exact hsz) (Steps.refl _) (argsL := argsL) (rest := st) (lenOf hsig hlen) hst (by show 2 * 0 + _ ≤ _; omega) (hb hby hd) (fun _ _ => ⟨rfl, eT, hroom.2.1, hroom.2.2⟩)
theorem Wl.virtualO (pc' : Nat) {st0 : List Value} {i : Nat} {y1 y2 : MethodName} {K : String} {bs2 : ByteArray} {ml2 : Nat} {rt2 : Option FieldType} {rm : Room} {a : Addr} {argsL : List Value} {sf2 : List Addr} {d : Addr} {Q2 : Option Value → Heap → Prop} {ps : List FieldType} {r : Option FieldType}
    (hd : decode bs pc = .ok (.invokevirtual i, 3)) (w1 : (Jvm.Cond.methodLink y.cls i y1).before a0 Z = true) (w2 : (Jvm.Cond.declares y1).before a0 Z = true) (w3 : (Jvm.Cond.selects K y1 y2).before a0 Z = true) (w4 : (Jvm.Cond.instanceMethod y2).before a0 Z = true) (wz : (Jvm.Cond.initialized y2.cls).before a0 Z = true) (wc : (Jvm.Cond.code y2 bs2 ml2 rt2).before a0 Z = true) (hnf : ∀ {vm0 : Vm} {s : State}, Z.Warmed39 vm0 → NotFace (s.setVm vm0) y1)
    (hE : Exa Z h a K) (hsig : parseMethodDescriptor y1.desc = some ⟨ps, r⟩) (hlen : argsL.length = ps.length) (hM : MetO l Z EL y2 bs2 ml2 rt2 [] rm (.ref a :: argsL).toArray h sf2 [d] Q2) (hsub : ∀ x ∈ sf2, x ∈ sf) (hst : st0 = argsL.reverse ++ .ref a :: st) (hsz : Ls.size = ml) (hp : pc + 3 = pc') (hy : y1.cls ≠ "java/lang/invoke/MethodHandle" ∧ y1.cls ≠ "java/lang/invoke/VarHandle")
    (hroom : (rm.frames + 1 ≤ R.frames ∧ (st.map fun v => v.category).sum + (ml2 + 11) + rm.locals ≤ R.locals) ∧ k + rm.cells ≤ R.cells ∧ n + rm.slots ≤ R.slots)
    (hr : ∀ v h', Q2 v h' → h.size ≤ h'.size → WlO l Z a0 EL y bs ml rt R as out Q (d :: sf) h' (k + rm.cells) (n + rm.slots) pc' Ls (v.toList ++ st)) : WlO l Z a0 EL y bs ml rt R as out Q sf h k n pc Ls st0 := by
  subst hp
  refine Wl.call (len := 3) hM wc wz hsub hroom.1.1 hroom.1.2 hroom.2.1 hroom.2.2 (fun p e s m below meth c T vm0 locs hx hby hml hown hZ X eT {Post} hK => ?_) (fun x q => (List.mem_cons.mp q).elim (fun e => Or.inl (e ▸ List.mem_singleton.mpr rfl)) Or.inr) hr
  obtain ⟨cB, kB, i1, i2, i3⟩ := isOf (s := s.setVm vm0) hZ eT hE
  exact X.virtualBackS hx (s := s.setVm vm0) hown (mvT hZ w1) (mvT hZ w2) (hnf hZ) (mvT hZ w3) (mvT hZ w4) hy hK i1 i3 (g := mkF m pc Ls st0) rfl (by rw [hml]; exact hsz) (Steps.refl _) (argsL := argsL) (rest := st) (lenOf hsig hlen) hst (by show 2 * 0 + _ ≤ _; omega) (hb hby hd) (fun _ _ => ⟨rfl, eT, hroom.2.1, hroom.2.2⟩)
theorem nf_sel {K : String} {y1 y2 : MethodName} (w : (Jvm.Cond.selects K y1 y2).before a0 Z = true) (e : y1 = y2) : ∀ {vm0 : Vm} {s : State}, Z.Warmed39 vm0 → NotFace (s.setVm vm0) y1 := fun {vm0 s} hZ => by
  subst e; exact notFace_of_selects (args := #[]) (mvT (s := s.setVm vm0) hZ w)
theorem Wl.interface (pc' : Nat) {st0 : List Value} {i cnt : Nat} {y1 y2 : MethodName} {K : String} {bs2 : ByteArray} {ml2 : Nat} {rt2 : Option FieldType} {rm : Room} {a : Addr} {argsL : List Value} {sf2 out2 : List Addr} {Q2 : Option Value → Heap → Prop} {ps : List FieldType} {r : Option FieldType}
    (hd : decode bs pc = .ok (.invokeinterface i cnt, 5)) (w1 : (Jvm.Cond.methodLink y.cls i y1).before a0 Z = true) (w2 : (Jvm.Cond.declares y1).before a0 Z = true) (w3 : ∀ {vm0 : Vm} {s : State}, Z.Warmed39 vm0 → (Jvm.Cond.interfaceMethod y1.cls y1.cls y1.name y1.desc).before as (s.setVm vm0) = true) (w4 : (Jvm.Cond.selects K y1 y2).before a0 Z = true) (w5 : (Jvm.Cond.instanceMethod y2).before a0 Z = true) (w6 : (Jvm.Cond.publicMethod y2).before a0 Z = true) (w7 : (Jvm.Cond.unhidden K y1.name y1.desc).before a0 Z = true) (w8 : (Jvm.Cond.castable K y1.cls).before a0 Z = true) (wz : (Jvm.Cond.initialized y2.cls).before a0 Z = true) (wc : (Jvm.Cond.code y2 bs2 ml2 rt2).before a0 Z = true)
    (hE : Exa Z h a K) (hsig : parseMethodDescriptor y1.desc = some ⟨ps, r⟩) (hlen : argsL.length = ps.length) (hM : MetO l Z EL y2 bs2 ml2 rt2 [] rm (.ref a :: argsL).toArray h sf2 out2 Q2) (hsub : ∀ x ∈ sf2, x ∈ sf) (hst : st0 = argsL.reverse ++ .ref a :: st) (hsz : Ls.size = ml) (hp : pc + 5 = pc') (hy : y1.cls ≠ "java/lang/invoke/MethodHandle" ∧ y1.cls ≠ "java/lang/invoke/VarHandle")
    (hroom : (rm.frames + 1 ≤ R.frames ∧ (st.map fun v => v.category).sum + (ml2 + 11) + rm.locals ≤ R.locals) ∧ k + rm.cells ≤ R.cells ∧ n + rm.slots ≤ R.slots)
    (hr : ∀ v h', Q2 v h' → h.size ≤ h'.size → WlO l Z a0 EL y bs ml rt R as out Q sf h' (k + rm.cells) (n + rm.slots) pc' Ls (v.toList ++ st)) : WlO l Z a0 EL y bs ml rt R as out Q sf h k n pc Ls st0 := by
  subst hp
  refine Wl.call (len := 5) hM wc wz hsub hroom.1.1 hroom.1.2 hroom.2.1 hroom.2.2 (fun p e s m below meth c T vm0 locs hx hby hml hown hZ X eT {Post} hK => ?_) (fun _ q => Or.inr q) hr
  obtain ⟨cB, kB, i1, i2, i3⟩ := isOf (s := s.setVm vm0) hZ eT hE
  exact X.interfaceBackS hx (s := s.setVm vm0) hown (mvT hZ w1) (mvT hZ w2) (w3 hZ) (mvT hZ w4) (mvT hZ w5) (mvT hZ w6) (mvT hZ w7) (mvT hZ w8) hy hK i1 i2 i3 (g := mkF m pc Ls st0) rfl (by rw [hml]; exact hsz) (Steps.refl _) (argsL := argsL) (rest := st) (lenOf hsig hlen) hst (by show 2 * 0 + _ ≤ _; omega) (hb hby hd) (fun _ _ => ⟨rfl, eT, hroom.2.1, hroom.2.2⟩)
theorem Wl.interfaceO (pc' : Nat) {st0 : List Value} {i cnt : Nat} {y1 y2 : MethodName} {K : String} {bs2 : ByteArray} {ml2 : Nat} {rt2 : Option FieldType} {rm : Room} {a : Addr} {argsL : List Value} {sf2 : List Addr} {d : Addr} {Q2 : Option Value → Heap → Prop} {ps : List FieldType} {r : Option FieldType}
    (hd : decode bs pc = .ok (.invokeinterface i cnt, 5)) (w1 : (Jvm.Cond.methodLink y.cls i y1).before a0 Z = true) (w2 : (Jvm.Cond.declares y1).before a0 Z = true) (w3 : ∀ {vm0 : Vm} {s : State}, Z.Warmed39 vm0 → (Jvm.Cond.interfaceMethod y1.cls y1.cls y1.name y1.desc).before as (s.setVm vm0) = true) (w4 : (Jvm.Cond.selects K y1 y2).before a0 Z = true) (w5 : (Jvm.Cond.instanceMethod y2).before a0 Z = true) (w6 : (Jvm.Cond.publicMethod y2).before a0 Z = true) (w7 : (Jvm.Cond.unhidden K y1.name y1.desc).before a0 Z = true) (w8 : (Jvm.Cond.castable K y1.cls).before a0 Z = true) (wz : (Jvm.Cond.initialized y2.cls).before a0 Z = true) (wc : (Jvm.Cond.code y2 bs2 ml2 rt2).before a0 Z = true)
    (hE : Exa Z h a K) (hsig : parseMethodDescriptor y1.desc = some ⟨ps, r⟩) (hlen : argsL.length = ps.length) (hM : MetO l Z EL y2 bs2 ml2 rt2 [] rm (.ref a :: argsL).toArray h sf2 [d] Q2) (hsub : ∀ x ∈ sf2, x ∈ sf) (hst : st0 = argsL.reverse ++ .ref a :: st) (hsz : Ls.size = ml) (hp : pc + 5 = pc') (hy : y1.cls ≠ "java/lang/invoke/MethodHandle" ∧ y1.cls ≠ "java/lang/invoke/VarHandle")
    (hroom : (rm.frames + 1 ≤ R.frames ∧ (st.map fun v => v.category).sum + (ml2 + 11) + rm.locals ≤ R.locals) ∧ k + rm.cells ≤ R.cells ∧ n + rm.slots ≤ R.slots)
    (hr : ∀ v h', Q2 v h' → h.size ≤ h'.size → WlO l Z a0 EL y bs ml rt R as out Q (d :: sf) h' (k + rm.cells) (n + rm.slots) pc' Ls (v.toList ++ st)) : WlO l Z a0 EL y bs ml rt R as out Q sf h k n pc Ls st0 := by
  subst hp
  refine Wl.call (len := 5) hM wc wz hsub hroom.1.1 hroom.1.2 hroom.2.1 hroom.2.2 (fun p e s m below meth c T vm0 locs hx hby hml hown hZ X eT {Post} hK => ?_) (fun x q => (List.mem_cons.mp q).elim (fun e => Or.inl (e ▸ List.mem_singleton.mpr rfl)) Or.inr) hr
  obtain ⟨cB, kB, i1, i2, i3⟩ := isOf (s := s.setVm vm0) hZ eT hE
  exact X.interfaceBackS hx (s := s.setVm vm0) hown (mvT hZ w1) (mvT hZ w2) (w3 hZ) (mvT hZ w4) (mvT hZ w5) (mvT hZ w6) (mvT hZ w7) (mvT hZ w8) hy hK i1 i2 i3 (g := mkF m pc Ls st0) rfl (by rw [hml]; exact hsz) (Steps.refl _) (argsL := argsL) (rest := st) (lenOf hsig hlen) hst (by show 2 * 0 + _ ≤ _; omega) (hb hby hd) (fun _ _ => ⟨rfl, eT, hroom.2.1, hroom.2.2⟩)
/-- invokevirtual of a private method -/
theorem Wl.priv (pc' : Nat) {st0 : List Value} {i : Nat} {y2 : MethodName} {K : String} {bs2 : ByteArray} {ml2 : Nat} {rt2 : Option FieldType} {rm : Room} {a : Addr} {argsL : List Value} {sf2 out2 : List Addr} {Q2 : Option Value → Heap → Prop} {ps : List FieldType} {r : Option FieldType}
    (hd : decode bs pc = .ok (.invokevirtual i, 3)) (w1 : (Jvm.Cond.methodLink y.cls i y2).before a0 Z = true) (w2 : (Jvm.Cond.privateMethod y2).before a0 Z = true) (w3 : (Jvm.Cond.selects K y2 y2).before a0 Z = true) (w4 : (Jvm.Cond.instanceMethod y2).before a0 Z = true) (wz : (Jvm.Cond.initialized y2.cls).before a0 Z = true) (wc : (Jvm.Cond.code y2 bs2 ml2 rt2).before a0 Z = true)
    (hE : Exa Z h a K) (hsig : parseMethodDescriptor y2.desc = some ⟨ps, r⟩) (hlen : argsL.length = ps.length) (hM : MetO l Z EL y2 bs2 ml2 rt2 [] rm (.ref a :: argsL).toArray h sf2 out2 Q2) (hsub : ∀ x ∈ sf2, x ∈ sf) (hst : st0 = argsL.reverse ++ .ref a :: st) (hsz : Ls.size = ml) (hp : pc + 3 = pc') (hy : y2.cls ≠ "java/lang/invoke/MethodHandle" ∧ y2.cls ≠ "java/lang/invoke/VarHandle")
    (hroom : (rm.frames + 1 ≤ R.frames ∧ (st.map fun v => v.category).sum + (ml2 + 11) + rm.locals ≤ R.locals) ∧ k + rm.cells ≤ R.cells ∧ n + rm.slots ≤ R.slots)
    (hr : ∀ v h', Q2 v h' → h.size ≤ h'.size → WlO l Z a0 EL y bs ml rt R as out Q sf h' (k + rm.cells) (n + rm.slots) pc' Ls (v.toList ++ st)) : WlO l Z a0 EL y bs ml rt R as out Q sf h k n pc Ls st0 := by
  subst hp
  refine Wl.call (len := 3) hM wc wz hsub hroom.1.1 hroom.1.2 hroom.2.1 hroom.2.2 (fun p e s m below meth c T vm0 locs hx hby hml hown hZ X eT {Post} hK => ?_) (fun _ q => Or.inr q) hr
  obtain ⟨cB, kB, i1, i2, cell, i3, i4, i5⟩ := isOf (s := s.setVm vm0) hZ eT hE
  obtain ⟨mk, methM, hnamed, hmethM, hstM, habM⟩ := Cond.instanceMethod_spec (mvT (s := s.setVm vm0) (args := as) hZ w4)
  obtain ⟨methM', cM, hmethM', -, -, -, -, -, -, hsigM⟩ := Cond.code_spec hnamed (mvT (s := s.setVm vm0) (args := as) hZ wc)
  cases hmethM.symm.trans hmethM'
  obtain ⟨c2, r2, m2, -, -, q3, -, kP, hkP, hkPi⟩ := Cond.selects_spec (mvT (s := s.setVm vm0) (args := as) hZ w3)
  cases hnamed.symm.trans q3
  have hselP : selectMethod e.platform (s.setVm vm0).vm cell.cls mk = .method mk := selectMethod_private hmethM (Cond.privateMethod_at (mvP (s := s.setVm vm0) (args := as) hZ w2) mk methM hnamed hmethM)
  obtain ⟨vm₁, X₁, hstep₁⟩ := X.invokevirtual hx hown (mvT hZ w1) hnamed hmethM hstM hkP hkPi hy (a := a) (cell := cell) i3 (fun z h => by rw [h] at i5; cases i5) hselP hmethM habM hkP hkPi (g := mkF m pc Ls st0) rfl (argsL := argsL) (rest := st) (lenOf hsig hlen _ hsigM) hst (hb hby hd)
  obtain ⟨v, B, X', hS, hgr, hpost, hsteps⟩ := hK m meth c ⟨T.setVm vm₁, locs, k, n⟩ { mkF m pc Ls st0 with stack := st } (.invokevirtual i) mk (.ref a :: argsL).toArray X₁ rfl (by show Ls.size = c.maxLocals; rw [hml]; exact hsz) (hb hby hd) (by show 2 * 0 + (st.map fun v => v.category).sum ≤ (st.map fun v => v.category).sum; omega) (X₁.named hnamed) ⟨rfl, eT, hroom.2.1, hroom.2.2⟩
  exact ⟨v, vm₁, B, X₁.warmed, X', hS, hgr, hpost, (hstep₁ _ fun acts => by rw [doInvoke_state]; exact Steps.refl _).trans hsteps⟩
/-- invokespecial of the superclass's method -/
theorem Wl.up (pc' : Nat) {st0 : List Value} {i : Nat} {y2 : MethodName} {K : String} {bs2 : ByteArray} {ml2 : Nat} {rt2 : Option FieldType} {rm : Room} {a : Addr} {argsL : List Value} {sf2 out2 : List Addr} {Q2 : Option Value → Heap → Prop} {ps : List FieldType} {r : Option FieldType}
    (hd : decode bs pc = .ok (.invokespecial i, 3)) (w1 : (Jvm.Cond.methodLink y.cls i y2).before a0 Z = true) (w2 : (Jvm.Cond.sameMethod y2.cls y2.cls y2.name y2.desc).before a0 Z = true) (w3 : (Jvm.Cond.instanceMethod y2).before a0 Z = true) (w4 : (Jvm.Cond.superclass y.cls y2.cls).before a0 Z = true) (wz : (Jvm.Cond.initialized y2.cls).before a0 Z = true) (wc : (Jvm.Cond.code y2 bs2 ml2 rt2).before a0 Z = true)
    (hE : Exa Z h a K) (hsig : parseMethodDescriptor y2.desc = some ⟨ps, r⟩) (hlen : argsL.length = ps.length) (hM : MetO l Z EL y2 bs2 ml2 rt2 [] rm (.ref a :: argsL).toArray h sf2 out2 Q2) (hsub : ∀ x ∈ sf2, x ∈ sf) (hst : st0 = argsL.reverse ++ .ref a :: st) (hsz : Ls.size = ml) (hp : pc + 3 = pc') (hni : y2.name ≠ "<init>")
    (hroom : (rm.frames + 1 ≤ R.frames ∧ (st.map fun v => v.category).sum + (ml2 + 11) + rm.locals ≤ R.locals) ∧ k + rm.cells ≤ R.cells ∧ n + rm.slots ≤ R.slots)
    (hr : ∀ v h', Q2 v h' → h.size ≤ h'.size → WlO l Z a0 EL y bs ml rt R as out Q sf h' (k + rm.cells) (n + rm.slots) pc' Ls (v.toList ++ st)) : WlO l Z a0 EL y bs ml rt R as out Q sf h k n pc Ls st0 := by
  subst hp
  refine Wl.call (len := 3) hM wc wz hsub hroom.1.1 hroom.1.2 hroom.2.1 hroom.2.2 (fun p e s m below meth c T vm0 locs hx hby hml hown hZ X eT {Post} hK => ?_) (fun _ q => Or.inr q) hr
  exact superBackS X hx (s := s.setVm vm0) hZ hown w1 w2 w3 w4 hni hK eT (Ins.self hE) (g := mkF m pc Ls st0) rfl (by rw [hml]; exact hsz) wc (argsL := argsL) (rest := st) (lenOf hsig hlen) hst (by show 2 * 0 + _ ≤ _; omega) (hb hby hd) (fun _ _ => ⟨rfl, eT, hroom.2.1, hroom.2.2⟩)
/-- a class that declares y and is seen as no interface elsewhere -/
theorem nf_cls {K : String} {y1 y2 : MethodName} (wd : (Jvm.Cond.declares y1).before a0 Z = true) (w : (Jvm.Cond.selects K y2 y2).before a0 Z = true) (e : y2.cls = y1.cls) : ∀ {vm0 : Vm} {s : State}, Z.Warmed39 vm0 → NotFace (s.setVm vm0) y1 := fun {vm0 s} hZ r0 h0 => by
  obtain ⟨c2, r2, m2, q1, q2, q3, q4, kP, hkP, hkPi⟩ := Cond.selects_spec (mvT (s := s.setVm vm0) (args := #[]) hZ w)
  have hc0 := findClass_of_methodNamed h0
  have hc1 := findClass_of_methodNamed q3
  rw [e] at hc1
  have q := Option.some.inj (hc0.symm.trans hc1)
  exact ⟨kP, by rw [q]; exact hkP, hkPi⟩
/-- a String constant of the pool, read -/
theorem Wl.ldcS (pc' : Nat) {i : Nat} {text : String} {vs : List Value} {z : Int32} (cap : Nat) (hd : decode bs pc = .ok (.ldc i, 2)) (w : (Jvm.Cond.stringLink y.cls i text).before a0 Z = true) (wS : ∀ a ∈ Bundle.stringAtoms, a.before a0 Z = true) (hmem : (y.cls, i) ∈ EL)
    (ht : (∀ c ∈ text.toList, c.toNat < 256) ∧ text.toList.map (fun c => Value.int (Jvm.Lit.byteI c.toNat.toUInt16)) = vs) (hz : ¬ z < 0) (hl : z.toNatClampNeg = vs.length) (hn : 4 * text.toList.length ≤ cap) (hbig : cap ≤ 536870912) (hc : k + 2 ≤ R.cells) (hl' : n + (cap + 4) ≤ R.slots)
    (hr : ∀ (a : Addr) (h' : Heap) (b : Addr) (kc : ClassId), Ext h h' → Exa Z h' a "java/lang/String" → Fld Z h' a "java/lang/String" "coder" "B" (.int 0) → Fld Z h' a "java/lang/String" "value" "[B" (.ref b) → Arv Z h' b kc .byte z vs (.int 0) → (∀ x ∈ sf, x ≠ a ∧ x ≠ b) → WlO l Z a0 EL y bs ml rt R as out Q sf h' (k + 2) (n + (cap + 4)) pc' Ls (.ref a :: st)) (hp : pc + 2 = pc' := by rfl) : WlO l Z a0 EL y bs ml rt R as out Q sf h k n pc Ls st := by
  subst hp
  intro p e s m below meth c T W
  obtain ⟨A, vm0, locs, k0, X, eT, hS, hk, hF, hZ, hC, hM, hH⟩ := W
  obtain ⟨a, T', h', k1, b, kc, X', e', E, hS', hk', hZ', hown', r1, r2, r3, r4, r5, r6, hC', r7, r8, stp⟩ := ldcCH X A.1 hZ (by rw [hS.1.alike.findClass]; exact A.2.2.2.2.2.2.1) w wS eT hS hk A.2.2.2.2.2.2.2.1 hmem hC.1 ht hz hl (g := mkF m pc Ls st) rfl (hb A.2.1 hd) hn hbig hc hl'
  exact Go.of stp (hr a h' b kc E r1 r2 r3 r4 (fun x hx => r8 x ((hM.chr hC') x hx).1) p e s m below meth c T' ⟨A, T'.vm, locs, k1, X', e', hS', hk', hF, hZ', hC.trans hC', hM.chr hC', fun q => by rw [q] at hmem; cases hmem⟩)
end OwnKit

/-! own small facts on ints, chars, lists and heaps -/
section OwnNums
theorem extTr {h h1 h2 : Heap} (A : Ext h h1) (B : Ext h1 h2) : Ext h h2 := ⟨Nat.le_trans A.1 B.1, fun a c q => B.2 a c (A.2 a c q)⟩
theorem ext_rfl (h : Heap) : Ext h h := ⟨Nat.le_refl _, fun _ _ q => q⟩
theorem extKeep {h h1 h2 : Heap} {ws : List Addr} (A : Ext h h1) (K : Keep h1 h2 ws) (q : ∀ x ∈ ws, h.size ≤ x) : Ext h h2 :=
  ⟨Nat.le_trans A.1 K.1, fun a c r => K.2.1 a c (A.2 a c r) fun z => absurd (Array.getElem?_eq_some_iff.mp r).1 (Nat.not_lt.mpr (q a z))⟩
theorem extWr {h h1 h2 : Heap} {a : Addr} {sl : Nat} {v : Value} (A : Ext h h1) (W : Wr h1 h2 a sl v) (q : h.size ≤ a) : Ext h h2 := extKeep A (Keep.of_wr W) (allS q all0)
/-- a char; a char below 256 -/
abbrev Ch (x : Int32) : Prop := 0 ≤ x.toInt ∧ x.toInt < 65536
abbrev Lat (x : Int32) : Prop := 0 ≤ x.toInt ∧ x.toInt < 256
theorem Lat.ch {x : Int32} (q : Lat x) : Ch x := ⟨q.1, by have := q.2; omega⟩
theorem i2c_ch (x : Int32) : Ch x.toUInt32.toUInt16.toUInt32.toInt32 := (c_i2c x).2
theorem i2c_id {x : Int32} (q : Ch x) : x.toUInt32.toUInt16.toUInt32.toInt32 = x := by
  have h := c_i2c x
  apply Int32.toInt_inj.mp
  have := q.1; have := q.2
  omega
theorem nar_ch {x : Int32} (q : Ch x) : nar .char x = x := i2c_id q
theorem mask_lat (x : Int32) : Lat (x &&& 255) := by
  have h := c_and x 255 (by decide)
  have e : (255 : Int32).toInt = 255 := by decide
  exact ⟨h.1, by have := h.2; omega⟩
theorem i2c_mask_lat (x : Int32) : Lat ((x &&& 255).toUInt32.toUInt16.toUInt32.toInt32) := by rw [i2c_id (mask_lat x).ch]; exact mask_lat x
theorem i2b_id (x : Int32) : x.toInt8.toInt32.toInt8.toInt32 = x.toInt8.toInt32 := by simp
/-- small nats as ints -/
theorem nI {i : Nat} (hi : i < 2147483648) : (Int32.ofNat i).toInt = i := Int32.toInt_ofNat_small hi
theorem nCl {i : Nat} (hi : i < 2147483648) : (Int32.ofNat i).toNatClampNeg = i := by rw [Int32.toNatClampNeg, nI hi]; simp
theorem nNn {i : Nat} (hi : i < 2147483648) : ¬ Int32.ofNat i < 0 := by rw [Int32.lt_iff_toInt_lt, nI hi]; simp
theorem nLt {i j : Nat} (hi : i < 2147483648) (hj : j < 2147483648) : Int32.ofNat i < Int32.ofNat j ↔ i < j := by rw [Int32.lt_iff_toInt_lt, nI hi, nI hj]; omega
theorem nEq {i j : Nat} (hi : i < 2147483648) (hj : j < 2147483648) : Int32.ofNat i = Int32.ofNat j ↔ i = j := by rw [← Int32.toInt_inj, nI hi, nI hj]; omega
theorem nS (i : Nat) : Int32.ofNat i + 1 = Int32.ofNat (i + 1) := by simp [Int32.ofNat_add]
theorem nAdd (i j : Nat) : Int32.ofNat i + Int32.ofNat j = Int32.ofNat (i + j) := by simp [Int32.ofNat_add]
theorem nSub {i j : Nat} (hj : j ≤ i) (hi : i < 2147483648) : Int32.ofNat i - Int32.ofNat j = Int32.ofNat (i - j) := by
  apply Int32.toInt_inj.mp
  have h := c_isub (Int32.ofNat i) (Int32.ofNat j)
  have r := rng32 (Int32.ofNat i - Int32.ofNat j)
  rw [nI hi, nI (by omega)] at h
  rw [nI (by omega)]
  omega
/-- a byte read back -/
theorem lo8 {c : Int32} (q : Lat c) : c.toInt8.toInt32 &&& 255 = c := by
  apply Int32.toInt_inj.mp
  have h1 := c_mask c.toInt8.toInt32 255 8 (by decide) (by decide)
  have h2 := c_i2b c
  have := q.1; have := q.2
  omega
theorem lat_le {c : Int32} (q : Lat c) : ¬ (255 : Int32) < c := by
  rw [Int32.lt_iff_toInt_lt]
  have e : (255 : Int32).toInt = 255 := by decide
  have := q.2; omega
def byV (c : Int32) : Value := .int c.toInt8.toInt32
/-- a list filled from the left -/
def fil {α : Type} (xs : List α) (z : α) (i : Nat) : List α := xs.take i ++ List.replicate (xs.length - i) z
theorem fil_len {α : Type} (xs : List α) (z : α) (i : Nat) (hi : i ≤ xs.length) : (fil xs z i).length = xs.length := by simp [fil]; omega
theorem fil_zero {α : Type} (xs : List α) (z : α) : fil xs z 0 = List.replicate xs.length z := by simp [fil]
theorem fil_all {α : Type} (xs : List α) (z : α) : fil xs z xs.length = xs := by simp [fil]
theorem fil_set {α : Type} (xs : List α) (z v : α) (i : Nat) (hi : i < xs.length) (hv : xs[i] = v) : (fil xs z i).set i v = fil xs z (i + 1) := by
  subst hv
  apply List.ext_getElem?
  intro j
  simp only [fil, List.getElem?_set, List.getElem?_append, List.length_take, List.getElem?_take, List.getElem?_replicate, List.length_append, List.length_replicate]
  rw [show min i xs.length = i by omega, show min (i + 1) xs.length = i + 1 by omega]
  by_cases h1 : i = j
  · subst h1
    rw [if_pos rfl, if_pos (by omega), if_pos (by omega), if_pos (by omega)]
    exact (List.getElem?_eq_getElem hi).symm
  · rw [if_neg h1]
    by_cases h2 : j < i
    · rw [if_pos h2, if_pos h2, if_pos (by omega), if_pos (by omega)]
    · rw [if_neg h2, if_neg (show ¬ j < i + 1 by omega)]
      by_cases h3 : j - i < xs.length - i
      · rw [if_pos h3, if_pos (by omega)]
      · rw [if_neg h3, if_neg (by omega)]
theorem narC {x : Int32} (q : Ch x) : narrow .char (.int x) = .int x := by have := Jvm.Free.XT.narrow_c x; rwa [i2c_id q] at this
theorem ref_cat {v : Value} (r : v.isRef = true) : v.category = 1 := by cases v <;> first | rfl | (simp [Value.isRef] at r)
theorem latNn {c : Int32} (q : Lat c) : ¬ c < 0 := by
  rw [Int32.lt_iff_toInt_lt, show (0 : Int32).toInt = 0 by decide]
  have := q.1
  omega
theorem small30 {n : Nat} (h : n < 1048576) : Int32.ofNat n < 1073741823 := by
  rw [Int32.lt_iff_toInt_lt, nI (by omega), show (1073741823 : Int32).toInt = 1073741823 by decide]
  omega
end OwnNums
/-! a Latin-1 String: its chars -/
def Stl (Z : State) (h : Heap) (a : Addr) (cs : List Int32) : Prop :=
  ∃ (b : Addr) (kb : ClassId), Exa Z h a "java/lang/String" ∧ Fld Z h a "java/lang/String" "coder" "B" (.int 0) ∧ Fld Z h a "java/lang/String" "value" "[B" (.ref b) ∧ Arv Z h b kb .byte (Int32.ofNat cs.length) (cs.map byV) (.int 0) ∧ (∀ c ∈ cs, Lat c) ∧ cs.length < 65536
theorem Stl.ext {Z : State} {h h' : Heap} {a : Addr} {cs : List Int32} (S : Stl Z h a cs) (E : Ext h h') : Stl Z h' a cs := by
  obtain ⟨b, kb, h1, h2, h3, h4, r⟩ := S
  exact ⟨b, kb, h1.ext E, h2.ext E, h3.ext E, h4.ext E, r⟩
theorem Stl.exa {Z : State} {h : Heap} {a : Addr} {cs : List Int32} (S : Stl Z h a cs) : Exa Z h a "java/lang/String" := by obtain ⟨b, kb, h1, -⟩ := S; exact h1
/-- a char[] that holds cs -/
def Cha (Z : State) (h : Heap) (b : Addr) (cs : List Int32) : Prop := ∃ kb, Arv Z h b kb .char (Int32.ofNat cs.length) (cs.map Value.int) (.int 0)
theorem Cha.ext {Z : State} {h h' : Heap} {a : Addr} {cs : List Int32} (S : Cha Z h a cs) (E : Ext h h') : Cha Z h' a cs := by obtain ⟨k, A⟩ := S; exact ⟨k, A.ext E⟩
/-- compact strings are on -/
def CSon (Z : State) : Prop := ∃ c : Int32, Sta Z Z.heap "java/lang/String" "COMPACT_STRINGS" "Z" (.int c) ∧ c ≠ 0
theorem nle {n m : Nat} (h : Nat.ble n m = true) : n ≤ m := Nat.le_of_ble_eq_true h
theorem narO {v : Value} {s : String} (r : v.isRef = true) : narrow (.object s) v = v := by cases v <;> first | rfl | (simp [Value.isRef] at r)
theorem fitO {v : Value} {s : String} (r : v.isRef = true) : fits (.object s) v = true := by cases v <;> first | rfl | (simp [Value.isRef] at r)
theorem latN : ∀ c ∈ ([] : List Int32), Lat c := fun _ q => nomatch q
theorem latC {x : Int32} {xs : List Int32} (p : Lat x) (r : ∀ c ∈ xs, Lat c) : ∀ c ∈ x :: xs, Lat c := fun c q => (List.mem_cons.mp q).elim (fun e => e ▸ p) (r c)

theorem pn_str : plainName "java/lang/String" = true := by first | (simp [plainName, overriddenIn]; done) | decide +kernel
section Words
variable {Z : State} {a0 : Array Value}
theorem w0 (hw : ∀ d ∈ tables_1, d.before a0 Z = true) : (Jvm.Cond.classLink "com/example/group_by_epoch/groupbyepoch/coordinator/TopicIsValidNamePinLaw" (9 : Nat) "java/lang/String").before a0 Z = true := hw _ (List.mem_of_getElem? (i := 0) rfl)
theorem w1 (hw : ∀ d ∈ tables_1, d.before a0 Z = true) : (Jvm.Cond.instantiable "java/lang/String" (4 : Nat)).before a0 Z = true := hw _ (List.mem_of_getElem? (i := 1) rfl)
theorem w2 (hw : ∀ d ∈ tables_1, d.before a0 Z = true) : (Jvm.Cond.initialized "java/lang/String").before a0 Z = true := hw _ (List.mem_of_getElem? (i := 2) rfl)
theorem w3 (hw : ∀ d ∈ tables_1, d.before a0 Z = true) : (Jvm.Cond.arrayClass Jvm.ClassFile.FieldType.char).before a0 Z = true := hw _ (List.mem_of_getElem? (i := 3) rfl)
theorem w4 (hw : ∀ d ∈ tables_1, d.before a0 Z = true) : (Jvm.Cond.methodLink "com/example/group_by_epoch/groupbyepoch/coordinator/TopicIsValidNamePinLaw" (11 : Nat) ({ cls := "java/lang/String", name := "<init>", desc := "([C)V" } : Jvm.MethodName)).before a0 Z = true := hw _ (List.mem_of_getElem? (i := 4) rfl)
theorem w5 (hw : ∀ d ∈ tables_1, d.before a0 Z = true) : (Jvm.Cond.instanceMethod ({ cls := "java/lang/String", name := "<init>", desc := "([C)V" } : Jvm.MethodName)).before a0 Z = true := hw _ (List.mem_of_getElem? (i := 5) rfl)
theorem w6 (hw : ∀ d ∈ tables_1, d.before a0 Z = true) : (Jvm.Cond.code ({ cls := "java/lang/String", name := "<init>", desc := "([C)V" } : Jvm.MethodName) jdk_42_method_3_code (2 : Nat) (Option.none : Option Jvm.ClassFile.FieldType)).before a0 Z = true := hw _ (List.mem_of_getElem? (i := 6) rfl)
theorem w7 (hw : ∀ d ∈ tables_1, d.before a0 Z = true) : (Jvm.Cond.methodLink "java/lang/String" (27 : Nat) ({ cls := "java/lang/String", name := "<init>", desc := "([CIILjava/lang/Void;)V" } : Jvm.MethodName)).before a0 Z = true := hw _ (List.mem_of_getElem? (i := 7) rfl)
theorem w8 (hw : ∀ d ∈ tables_1, d.before a0 Z = true) : (Jvm.Cond.instanceMethod ({ cls := "java/lang/String", name := "<init>", desc := "([CIILjava/lang/Void;)V" } : Jvm.MethodName)).before a0 Z = true := hw _ (List.mem_of_getElem? (i := 8) rfl)
theorem w10 (hw : ∀ d ∈ tables_1, d.before a0 Z = true) : (Jvm.Cond.code ({ cls := "java/lang/String", name := "<init>", desc := "([CIILjava/lang/Void;)V" } : Jvm.MethodName) jdk_42_method_149_code (6 : Nat) (Option.none : Option Jvm.ClassFile.FieldType)).before a0 Z = true := hw _ (List.mem_of_getElem? (i := 10) rfl)
theorem w11 (hw : ∀ d ∈ tables_1, d.before a0 Z = true) : (Jvm.Cond.methodLink "java/lang/String" (1 : Nat) ({ cls := "java/lang/Object", name := "<init>", desc := "()V" } : Jvm.MethodName)).before a0 Z = true := hw _ (List.mem_of_getElem? (i := 11) rfl)
theorem w12 (hw : ∀ d ∈ tables_1, d.before a0 Z = true) : (Jvm.Cond.instanceMethod ({ cls := "java/lang/Object", name := "<init>", desc := "()V" } : Jvm.MethodName)).before a0 Z = true := hw _ (List.mem_of_getElem? (i := 12) rfl)
theorem w13 (hw : ∀ d ∈ tables_1, d.before a0 Z = true) : (Jvm.Cond.code ({ cls := "java/lang/Object", name := "<init>", desc := "()V" } : Jvm.MethodName) object_method_1_code (1 : Nat) (Option.none : Option Jvm.ClassFile.FieldType)).before a0 Z = true := hw _ (List.mem_of_getElem? (i := 13) rfl)
theorem w14 (hw : ∀ d ∈ tables_1, d.before a0 Z = true) : (Jvm.Cond.fieldLink "java/lang/String" (38 : Nat) "java/lang/String" "COMPACT_STRINGS" "Z").before a0 Z = true := hw _ (List.mem_of_getElem? (i := 14) rfl)
theorem w15 (hw : ∀ d ∈ tables_1, d.before a0 Z = true) : (Jvm.Cond.methodLink "java/lang/String" (177 : Nat) ({ cls := "java/lang/StringUTF16", name := "compress", desc := "([CII)[B" } : Jvm.MethodName)).before a0 Z = true := hw _ (List.mem_of_getElem? (i := 15) rfl)
theorem w16 (hw : ∀ d ∈ tables_1, d.before a0 Z = true) : (Jvm.Cond.static ({ cls := "java/lang/StringUTF16", name := "compress", desc := "([CII)[B" } : Jvm.MethodName)).before a0 Z = true := hw _ (List.mem_of_getElem? (i := 16) rfl)
theorem w17 (hw : ∀ d ∈ tables_1, d.before a0 Z = true) : (Jvm.Cond.initialized "java/lang/StringUTF16").before a0 Z = true := hw _ (List.mem_of_getElem? (i := 17) rfl)
theorem w18 (hw : ∀ d ∈ tables_1, d.before a0 Z = true) : (Jvm.Cond.code ({ cls := "java/lang/StringUTF16", name := "compress", desc := "([CII)[B" } : Jvm.MethodName) jdk_52_method_16_code (6 : Nat) (Option.some (Jvm.ClassFile.FieldType.array Jvm.ClassFile.FieldType.byte))).before a0 Z = true := hw _ (List.mem_of_getElem? (i := 18) rfl)
theorem w19 (hw : ∀ d ∈ tables_1, d.before a0 Z = true) : (Jvm.Cond.arrayClass Jvm.ClassFile.FieldType.byte).before a0 Z = true := hw _ (List.mem_of_getElem? (i := 19) rfl)
theorem w20 (hw : ∀ d ∈ tables_1, d.before a0 Z = true) : (Jvm.Cond.methodLink "java/lang/StringUTF16" (115 : Nat) ({ cls := "java/lang/StringUTF16", name := "compress", desc := "([CI[BII)I" } : Jvm.MethodName)).before a0 Z = true := hw _ (List.mem_of_getElem? (i := 20) rfl)
theorem w21 (hw : ∀ d ∈ tables_1, d.before a0 Z = true) : (Jvm.Cond.static ({ cls := "java/lang/StringUTF16", name := "compress", desc := "([CI[BII)I" } : Jvm.MethodName)).before a0 Z = true := hw _ (List.mem_of_getElem? (i := 21) rfl)
theorem w22 (hw : ∀ d ∈ tables_1, d.before a0 Z = true) : (Jvm.Cond.code ({ cls := "java/lang/StringUTF16", name := "compress", desc := "([CI[BII)I" } : Jvm.MethodName) jdk_52_method_21_code (7 : Nat) (Option.some Jvm.ClassFile.FieldType.int)).before a0 Z = true := hw _ (List.mem_of_getElem? (i := 22) rfl)
theorem w23 (hw : ∀ d ∈ tables_1, d.before a0 Z = true) : (Jvm.Cond.methodLink "java/lang/String" (47 : Nat) ({ cls := "java/lang/StringUTF16", name := "coderFromArrayLen", desc := "([BI)B" } : Jvm.MethodName)).before a0 Z = true := hw _ (List.mem_of_getElem? (i := 23) rfl)
theorem w24 (hw : ∀ d ∈ tables_1, d.before a0 Z = true) : (Jvm.Cond.static ({ cls := "java/lang/StringUTF16", name := "coderFromArrayLen", desc := "([BI)B" } : Jvm.MethodName)).before a0 Z = true := hw _ (List.mem_of_getElem? (i := 24) rfl)
theorem w25 (hw : ∀ d ∈ tables_1, d.before a0 Z = true) : (Jvm.Cond.code ({ cls := "java/lang/StringUTF16", name := "coderFromArrayLen", desc := "([BI)B" } : Jvm.MethodName) jdk_52_method_15_code (2 : Nat) (Option.some Jvm.ClassFile.FieldType.byte)).before a0 Z = true := hw _ (List.mem_of_getElem? (i := 25) rfl)
theorem w26 (hw : ∀ d ∈ tables_1, d.before a0 Z = true) : (Jvm.Cond.fieldLink "java/lang/String" (15 : Nat) "java/lang/String" "coder" "B").before a0 Z = true := hw _ (List.mem_of_getElem? (i := 26) rfl)
theorem w27 (hw : ∀ d ∈ tables_1, d.before a0 Z = true) : (Jvm.Cond.laysFinal "java/lang/String" "java/lang/String" "coder" "B").before a0 Z = true := hw _ (List.mem_of_getElem? (i := 27) rfl)
theorem w28 (hw : ∀ d ∈ tables_1, d.before a0 Z = true) : (Jvm.Cond.fieldLink "java/lang/String" (9 : Nat) "java/lang/String" "value" "[B").before a0 Z = true := hw _ (List.mem_of_getElem? (i := 28) rfl)
theorem w29 (hw : ∀ d ∈ tables_1, d.before a0 Z = true) : (Jvm.Cond.laysFinal "java/lang/String" "java/lang/String" "value" "[B").before a0 Z = true := hw _ (List.mem_of_getElem? (i := 29) rfl)
theorem w30 (hw : ∀ d ∈ tables_1, d.before a0 Z = true) : (Jvm.Cond.methodLink "com/example/group_by_epoch/groupbyepoch/coordinator/TopicIsValidNamePinLaw" (14 : Nat) ({ cls := "com/example/group_by_epoch/groupbyepoch/coordinator/TopicIsValidNamePinLaw", name := "ok", desc := "(C)Z" } : Jvm.MethodName)).before a0 Z = true := hw _ (List.mem_of_getElem? (i := 30) rfl)
theorem w31 (hw : ∀ d ∈ tables_1, d.before a0 Z = true) : (Jvm.Cond.static ({ cls := "com/example/group_by_epoch/groupbyepoch/coordinator/TopicIsValidNamePinLaw", name := "ok", desc := "(C)Z" } : Jvm.MethodName)).before a0 Z = true := hw _ (List.mem_of_getElem? (i := 31) rfl)
theorem w32 (hw : ∀ d ∈ tables_1, d.before a0 Z = true) : (Jvm.Cond.initialized "com/example/group_by_epoch/groupbyepoch/coordinator/TopicIsValidNamePinLaw").before a0 Z = true := hw _ (List.mem_of_getElem? (i := 32) rfl)
theorem w33 (hw : ∀ d ∈ tables_1, d.before a0 Z = true) : (Jvm.Cond.code ({ cls := "com/example/group_by_epoch/groupbyepoch/coordinator/TopicIsValidNamePinLaw", name := "ok", desc := "(C)Z" } : Jvm.MethodName) method_3_code (1 : Nat) (Option.some Jvm.ClassFile.FieldType.boolean)).before a0 Z = true := hw _ (List.mem_of_getElem? (i := 33) rfl)
theorem w34 (hw : ∀ d ∈ tables_1, d.before a0 Z = true) : (Jvm.Cond.methodLink "com/example/group_by_epoch/groupbyepoch/coordinator/TopicIsValidNamePinLaw" (20 : Nat) ({ cls := "com/example/group_by_epoch/groupbyepoch/coordinator/Topic", name := "isValidName", desc := "(Ljava/lang/String;)Z" } : Jvm.MethodName)).before a0 Z = true := hw _ (List.mem_of_getElem? (i := 34) rfl)
theorem w35 (hw : ∀ d ∈ tables_1, d.before a0 Z = true) : (Jvm.Cond.static ({ cls := "com/example/group_by_epoch/groupbyepoch/coordinator/Topic", name := "isValidName", desc := "(Ljava/lang/String;)Z" } : Jvm.MethodName)).before a0 Z = true := hw _ (List.mem_of_getElem? (i := 35) rfl)
theorem w36 (hw : ∀ d ∈ tables_1, d.before a0 Z = true) : (Jvm.Cond.initialized "com/example/group_by_epoch/groupbyepoch/coordinator/Topic").before a0 Z = true := hw _ (List.mem_of_getElem? (i := 36) rfl)
theorem w37 (hw : ∀ d ∈ tables_1, d.before a0 Z = true) : (Jvm.Cond.code ({ cls := "com/example/group_by_epoch/groupbyepoch/coordinator/Topic", name := "isValidName", desc := "(Ljava/lang/String;)Z" } : Jvm.MethodName) prog_28_method_6_code (4 : Nat) (Option.some Jvm.ClassFile.FieldType.boolean)).before a0 Z = true := hw _ (List.mem_of_getElem? (i := 37) rfl)
theorem w38 (hw : ∀ d ∈ tables_1, d.before a0 Z = true) : (Jvm.Cond.methodLink "com/example/group_by_epoch/groupbyepoch/coordinator/Topic" (21 : Nat) ({ cls := "java/lang/String", name := "isEmpty", desc := "()Z" } : Jvm.MethodName)).before a0 Z = true := hw _ (List.mem_of_getElem? (i := 38) rfl)
theorem w39 (hw : ∀ d ∈ tables_1, d.before a0 Z = true) : (Jvm.Cond.declares ({ cls := "java/lang/String", name := "isEmpty", desc := "()Z" } : Jvm.MethodName)).before a0 Z = true := hw _ (List.mem_of_getElem? (i := 39) rfl)
theorem w40 (hw : ∀ d ∈ tables_1, d.before a0 Z = true) : (Jvm.Cond.instanceMethod ({ cls := "java/lang/String", name := "isEmpty", desc := "()Z" } : Jvm.MethodName)).before a0 Z = true := hw _ (List.mem_of_getElem? (i := 40) rfl)
theorem w41 (hw : ∀ d ∈ tables_1, d.before a0 Z = true) : (Jvm.Cond.selects "java/lang/String" ({ cls := "java/lang/String", name := "isEmpty", desc := "()Z" } : Jvm.MethodName) ({ cls := "java/lang/String", name := "isEmpty", desc := "()Z" } : Jvm.MethodName)).before a0 Z = true := hw _ (List.mem_of_getElem? (i := 41) rfl)
theorem w42 (hw : ∀ d ∈ tables_1, d.before a0 Z = true) : (Jvm.Cond.code ({ cls := "java/lang/String", name := "isEmpty", desc := "()Z" } : Jvm.MethodName) jdk_42_method_55_code (1 : Nat) (Option.some Jvm.ClassFile.FieldType.boolean)).before a0 Z = true := hw _ (List.mem_of_getElem? (i := 42) rfl)
theorem w43 (hw : ∀ d ∈ tables_1, d.before a0 Z = true) : (Jvm.Cond.methodLink "com/example/group_by_epoch/groupbyepoch/coordinator/Topic" (27 : Nat) ({ cls := "java/lang/String", name := "length", desc := "()I" } : Jvm.MethodName)).before a0 Z = true := hw _ (List.mem_of_getElem? (i := 43) rfl)
theorem w44 (hw : ∀ d ∈ tables_1, d.before a0 Z = true) : (Jvm.Cond.declares ({ cls := "java/lang/String", name := "length", desc := "()I" } : Jvm.MethodName)).before a0 Z = true := hw _ (List.mem_of_getElem? (i := 44) rfl)
theorem w45 (hw : ∀ d ∈ tables_1, d.before a0 Z = true) : (Jvm.Cond.instanceMethod ({ cls := "java/lang/String", name := "length", desc := "()I" } : Jvm.MethodName)).before a0 Z = true := hw _ (List.mem_of_getElem? (i := 45) rfl)
theorem w46 (hw : ∀ d ∈ tables_1, d.before a0 Z = true) : (Jvm.Cond.selects "java/lang/String" ({ cls := "java/lang/String", name := "length", desc := "()I" } : Jvm.MethodName) ({ cls := "java/lang/String", name := "length", desc := "()I" } : Jvm.MethodName)).before a0 Z = true := hw _ (List.mem_of_getElem? (i := 46) rfl)
theorem w47 (hw : ∀ d ∈ tables_1, d.before a0 Z = true) : (Jvm.Cond.code ({ cls := "java/lang/String", name := "length", desc := "()I" } : Jvm.MethodName) jdk_42_method_54_code (1 : Nat) (Option.some Jvm.ClassFile.FieldType.int)).before a0 Z = true := hw _ (List.mem_of_getElem? (i := 47) rfl)
theorem w48 (hw : ∀ d ∈ tables_1, d.before a0 Z = true) : (Jvm.Cond.methodLink "java/lang/String" (335 : Nat) ({ cls := "java/lang/String", name := "coder", desc := "()B" } : Jvm.MethodName)).before a0 Z = true := hw _ (List.mem_of_getElem? (i := 48) rfl)
theorem w49 (hw : ∀ d ∈ tables_1, d.before a0 Z = true) : (Jvm.Cond.declares ({ cls := "java/lang/String", name := "coder", desc := "()B" } : Jvm.MethodName)).before a0 Z = true := hw _ (List.mem_of_getElem? (i := 49) rfl)
theorem w50 (hw : ∀ d ∈ tables_1, d.before a0 Z = true) : (Jvm.Cond.instanceMethod ({ cls := "java/lang/String", name := "coder", desc := "()B" } : Jvm.MethodName)).before a0 Z = true := hw _ (List.mem_of_getElem? (i := 50) rfl)
theorem w51 (hw : ∀ d ∈ tables_1, d.before a0 Z = true) : (Jvm.Cond.selects "java/lang/String" ({ cls := "java/lang/String", name := "coder", desc := "()B" } : Jvm.MethodName) ({ cls := "java/lang/String", name := "coder", desc := "()B" } : Jvm.MethodName)).before a0 Z = true := hw _ (List.mem_of_getElem? (i := 51) rfl)
theorem w52 (hw : ∀ d ∈ tables_1, d.before a0 Z = true) : (Jvm.Cond.code ({ cls := "java/lang/String", name := "coder", desc := "()B" } : Jvm.MethodName) jdk_42_method_152_code (1 : Nat) (Option.some Jvm.ClassFile.FieldType.byte)).before a0 Z = true := hw _ (List.mem_of_getElem? (i := 52) rfl)
theorem w53 (hw : ∀ d ∈ tables_1, d.before a0 Z = true) : (Jvm.Cond.methodLink "com/example/group_by_epoch/groupbyepoch/coordinator/Topic" (31 : Nat) ({ cls := "java/lang/String", name := "charAt", desc := "(I)C" } : Jvm.MethodName)).before a0 Z = true := hw _ (List.mem_of_getElem? (i := 53) rfl)
theorem w54 (hw : ∀ d ∈ tables_1, d.before a0 Z = true) : (Jvm.Cond.declares ({ cls := "java/lang/String", name := "charAt", desc := "(I)C" } : Jvm.MethodName)).before a0 Z = true := hw _ (List.mem_of_getElem? (i := 54) rfl)
theorem w55 (hw : ∀ d ∈ tables_1, d.before a0 Z = true) : (Jvm.Cond.instanceMethod ({ cls := "java/lang/String", name := "charAt", desc := "(I)C" } : Jvm.MethodName)).before a0 Z = true := hw _ (List.mem_of_getElem? (i := 55) rfl)
theorem w56 (hw : ∀ d ∈ tables_1, d.before a0 Z = true) : (Jvm.Cond.selects "java/lang/String" ({ cls := "java/lang/String", name := "charAt", desc := "(I)C" } : Jvm.MethodName) ({ cls := "java/lang/String", name := "charAt", desc := "(I)C" } : Jvm.MethodName)).before a0 Z = true := hw _ (List.mem_of_getElem? (i := 56) rfl)
theorem w57 (hw : ∀ d ∈ tables_1, d.before a0 Z = true) : (Jvm.Cond.code ({ cls := "java/lang/String", name := "charAt", desc := "(I)C" } : Jvm.MethodName) jdk_42_method_56_code (2 : Nat) (Option.some Jvm.ClassFile.FieldType.char)).before a0 Z = true := hw _ (List.mem_of_getElem? (i := 57) rfl)
theorem w58 (hw : ∀ d ∈ tables_1, d.before a0 Z = true) : (Jvm.Cond.methodLink "java/lang/String" (492 : Nat) ({ cls := "java/lang/String", name := "isLatin1", desc := "()Z" } : Jvm.MethodName)).before a0 Z = true := hw _ (List.mem_of_getElem? (i := 58) rfl)
theorem w59 (hw : ∀ d ∈ tables_1, d.before a0 Z = true) : (Jvm.Cond.declares ({ cls := "java/lang/String", name := "isLatin1", desc := "()Z" } : Jvm.MethodName)).before a0 Z = true := hw _ (List.mem_of_getElem? (i := 59) rfl)
theorem w60 (hw : ∀ d ∈ tables_1, d.before a0 Z = true) : (Jvm.Cond.instanceMethod ({ cls := "java/lang/String", name := "isLatin1", desc := "()Z" } : Jvm.MethodName)).before a0 Z = true := hw _ (List.mem_of_getElem? (i := 60) rfl)
theorem w61 (hw : ∀ d ∈ tables_1, d.before a0 Z = true) : (Jvm.Cond.selects "java/lang/String" ({ cls := "java/lang/String", name := "isLatin1", desc := "()Z" } : Jvm.MethodName) ({ cls := "java/lang/String", name := "isLatin1", desc := "()Z" } : Jvm.MethodName)).before a0 Z = true := hw _ (List.mem_of_getElem? (i := 61) rfl)
theorem w62 (hw : ∀ d ∈ tables_1, d.before a0 Z = true) : (Jvm.Cond.code ({ cls := "java/lang/String", name := "isLatin1", desc := "()Z" } : Jvm.MethodName) jdk_42_method_154_code (1 : Nat) (Option.some Jvm.ClassFile.FieldType.boolean)).before a0 Z = true := hw _ (List.mem_of_getElem? (i := 62) rfl)
theorem w63 (hw : ∀ d ∈ tables_1, d.before a0 Z = true) : (Jvm.Cond.methodLink "java/lang/String" (495 : Nat) ({ cls := "java/lang/StringLatin1", name := "charAt", desc := "([BI)C" } : Jvm.MethodName)).before a0 Z = true := hw _ (List.mem_of_getElem? (i := 63) rfl)
theorem w64 (hw : ∀ d ∈ tables_1, d.before a0 Z = true) : (Jvm.Cond.static ({ cls := "java/lang/StringLatin1", name := "charAt", desc := "([BI)C" } : Jvm.MethodName)).before a0 Z = true := hw _ (List.mem_of_getElem? (i := 64) rfl)
theorem w65 (hw : ∀ d ∈ tables_1, d.before a0 Z = true) : (Jvm.Cond.initialized "java/lang/StringLatin1").before a0 Z = true := hw _ (List.mem_of_getElem? (i := 65) rfl)
theorem w66 (hw : ∀ d ∈ tables_1, d.before a0 Z = true) : (Jvm.Cond.code ({ cls := "java/lang/StringLatin1", name := "charAt", desc := "([BI)C" } : Jvm.MethodName) jdk_43_method_2_code (2 : Nat) (Option.some Jvm.ClassFile.FieldType.char)).before a0 Z = true := hw _ (List.mem_of_getElem? (i := 66) rfl)
theorem w67 (hw : ∀ d ∈ tables_1, d.before a0 Z = true) : (Jvm.Cond.methodLink "java/lang/StringLatin1" (9 : Nat) ({ cls := "java/lang/String", name := "checkIndex", desc := "(II)V" } : Jvm.MethodName)).before a0 Z = true := hw _ (List.mem_of_getElem? (i := 67) rfl)
theorem w68 (hw : ∀ d ∈ tables_1, d.before a0 Z = true) : (Jvm.Cond.static ({ cls := "java/lang/String", name := "checkIndex", desc := "(II)V" } : Jvm.MethodName)).before a0 Z = true := hw _ (List.mem_of_getElem? (i := 68) rfl)
theorem w69 (hw : ∀ d ∈ tables_1, d.before a0 Z = true) : (Jvm.Cond.code ({ cls := "java/lang/String", name := "checkIndex", desc := "(II)V" } : Jvm.MethodName) jdk_42_method_155_code (2 : Nat) (Option.none : Option Jvm.ClassFile.FieldType)).before a0 Z = true := hw _ (List.mem_of_getElem? (i := 69) rfl)
theorem w70 (hw : ∀ d ∈ tables_1, d.before a0 Z = true) : (Jvm.Cond.fieldLink "java/lang/String" (1053 : Nat) "jdk/internal/util/Preconditions" "SIOOBE_FORMATTER" "Ljava/util/function/BiFunction;").before a0 Z = true := hw _ (List.mem_of_getElem? (i := 70) rfl)
theorem w71 (hw : ∀ d ∈ tables_1, d.before a0 Z = true) : (Jvm.Cond.initialized "jdk/internal/util/Preconditions").before a0 Z = true := hw _ (List.mem_of_getElem? (i := 71) rfl)
theorem w72 (hw : ∀ d ∈ tables_1, d.before a0 Z = true) : (Jvm.Cond.methodLink "java/lang/String" (1059 : Nat) ({ cls := "jdk/internal/util/Preconditions", name := "checkIndex", desc := "(IILjava/util/function/BiFunction;)I" } : Jvm.MethodName)).before a0 Z = true := hw _ (List.mem_of_getElem? (i := 72) rfl)
theorem w73 (hw : ∀ d ∈ tables_1, d.before a0 Z = true) : (Jvm.Cond.static ({ cls := "jdk/internal/util/Preconditions", name := "checkIndex", desc := "(IILjava/util/function/BiFunction;)I" } : Jvm.MethodName)).before a0 Z = true := hw _ (List.mem_of_getElem? (i := 73) rfl)
theorem w74 (hw : ∀ d ∈ tables_1, d.before a0 Z = true) : (Jvm.Cond.code ({ cls := "jdk/internal/util/Preconditions", name := "checkIndex", desc := "(IILjava/util/function/BiFunction;)I" } : Jvm.MethodName) jdk_41_method_11_code (3 : Nat) (Option.some Jvm.ClassFile.FieldType.int)).before a0 Z = true := hw _ (List.mem_of_getElem? (i := 74) rfl)
theorem w75 (hw : ∀ d ∈ tables_1, d.before a0 Z = true) : (Jvm.Cond.stringLink "com/example/group_by_epoch/groupbyepoch/coordinator/TopicIsValidNamePinLaw" (7 : Nat) "").before a0 Z = true := hw _ (List.mem_of_getElem? (i := 75) rfl)
theorem w76 (hw : ∀ d ∈ tables_1, d.before a0 Z = true) : (Jvm.Cond.soleField "java/lang/String" "value").before a0 Z = true := hw _ (List.mem_of_getElem? (i := 76) rfl)
theorem w77 (hw : ∀ d ∈ tables_1, d.before a0 Z = true) : (Jvm.Cond.soleField "java/lang/String" "coder").before a0 Z = true := hw _ (List.mem_of_getElem? (i := 77) rfl)
theorem w78 (hw : ∀ d ∈ tables_1, d.before a0 Z = true) : (Jvm.Cond.methodLink "java/lang/StringUTF16" (119 : Nat) ({ cls := "java/lang/StringUTF16", name := "toBytes", desc := "([CII)[B" } : Jvm.MethodName)).before a0 Z = true := hw _ (List.mem_of_getElem? (i := 78) rfl)
theorem w79 (hw : ∀ d ∈ tables_1, d.before a0 Z = true) : (Jvm.Cond.static ({ cls := "java/lang/StringUTF16", name := "toBytes", desc := "([CII)[B" } : Jvm.MethodName)).before a0 Z = true := hw _ (List.mem_of_getElem? (i := 79) rfl)
theorem w80 (hw : ∀ d ∈ tables_1, d.before a0 Z = true) : (Jvm.Cond.code ({ cls := "java/lang/StringUTF16", name := "toBytes", desc := "([CII)[B" } : Jvm.MethodName) jdk_52_method_14_code (5 : Nat) (Option.some (Jvm.ClassFile.FieldType.array Jvm.ClassFile.FieldType.byte))).before a0 Z = true := hw _ (List.mem_of_getElem? (i := 80) rfl)
theorem w81 (hw : ∀ d ∈ tables_1, d.before a0 Z = true) : (Jvm.Cond.methodLink "java/lang/StringUTF16" (107 : Nat) ({ cls := "java/lang/StringUTF16", name := "newBytesFor", desc := "(I)[B" } : Jvm.MethodName)).before a0 Z = true := hw _ (List.mem_of_getElem? (i := 81) rfl)
theorem w82 (hw : ∀ d ∈ tables_1, d.before a0 Z = true) : (Jvm.Cond.static ({ cls := "java/lang/StringUTF16", name := "newBytesFor", desc := "(I)[B" } : Jvm.MethodName)).before a0 Z = true := hw _ (List.mem_of_getElem? (i := 82) rfl)
theorem w83 (hw : ∀ d ∈ tables_1, d.before a0 Z = true) : (Jvm.Cond.code ({ cls := "java/lang/StringUTF16", name := "newBytesFor", desc := "(I)[B" } : Jvm.MethodName) jdk_52_method_2_code (1 : Nat) (Option.some (Jvm.ClassFile.FieldType.array Jvm.ClassFile.FieldType.byte))).before a0 Z = true := hw _ (List.mem_of_getElem? (i := 83) rfl)
theorem w84 (hw : ∀ d ∈ tables_1, d.before a0 Z = true) : (Jvm.Cond.methodLink "java/lang/StringUTF16" (11 : Nat) ({ cls := "java/lang/StringUTF16", name := "newBytesLength", desc := "(I)I" } : Jvm.MethodName)).before a0 Z = true := hw _ (List.mem_of_getElem? (i := 84) rfl)
theorem w85 (hw : ∀ d ∈ tables_1, d.before a0 Z = true) : (Jvm.Cond.static ({ cls := "java/lang/StringUTF16", name := "newBytesLength", desc := "(I)I" } : Jvm.MethodName)).before a0 Z = true := hw _ (List.mem_of_getElem? (i := 85) rfl)
theorem w86 (hw : ∀ d ∈ tables_1, d.before a0 Z = true) : (Jvm.Cond.code ({ cls := "java/lang/StringUTF16", name := "newBytesLength", desc := "(I)I" } : Jvm.MethodName) jdk_52_method_3_code (1 : Nat) (Option.some Jvm.ClassFile.FieldType.int)).before a0 Z = true := hw _ (List.mem_of_getElem? (i := 86) rfl)
theorem w87 (hw : ∀ d ∈ tables_1, d.before a0 Z = true) : (Jvm.Cond.constant "java/lang/StringUTF16" (20 : Nat) (1073741823 : Int32)).before a0 Z = true := hw _ (List.mem_of_getElem? (i := 87) rfl)
theorem w88 (hw : ∀ d ∈ tables_1, d.before a0 Z = true) : (Jvm.Cond.methodLink "java/lang/StringUTF16" (111 : Nat) ({ cls := "java/lang/StringUTF16", name := "putChar", desc := "([BII)V" } : Jvm.MethodName)).before a0 Z = true := hw _ (List.mem_of_getElem? (i := 88) rfl)
theorem w89 (hw : ∀ d ∈ tables_1, d.before a0 Z = true) : (Jvm.Cond.static ({ cls := "java/lang/StringUTF16", name := "putChar", desc := "([BII)V" } : Jvm.MethodName)).before a0 Z = true := hw _ (List.mem_of_getElem? (i := 89) rfl)
theorem w90 (hw : ∀ d ∈ tables_1, d.before a0 Z = true) : (Jvm.Cond.code ({ cls := "java/lang/StringUTF16", name := "putChar", desc := "([BII)V" } : Jvm.MethodName) jdk_52_method_4_code (3 : Nat) (Option.none : Option Jvm.ClassFile.FieldType)).before a0 Z = true := hw _ (List.mem_of_getElem? (i := 90) rfl)
theorem w91 (hw : ∀ d ∈ tables_1, d.before a0 Z = true) : (Jvm.Cond.fieldLink "java/lang/StringUTF16" (44 : Nat) "java/lang/StringUTF16" "$assertionsDisabled" "Z").before a0 Z = true := hw _ (List.mem_of_getElem? (i := 91) rfl)
theorem w92 (hw : ∀ d ∈ tables_1, d.before a0 Z = true) : (Jvm.Cond.fieldLink "java/lang/StringUTF16" (59 : Nat) "java/lang/StringUTF16" "HI_BYTE_SHIFT" "I").before a0 Z = true := hw _ (List.mem_of_getElem? (i := 92) rfl)
theorem w93 (hw : ∀ d ∈ tables_1, d.before a0 Z = true) : (Jvm.Cond.fieldLink "java/lang/StringUTF16" (63 : Nat) "java/lang/StringUTF16" "LO_BYTE_SHIFT" "I").before a0 Z = true := hw _ (List.mem_of_getElem? (i := 93) rfl)
theorem w94 (hw : ∀ d ∈ tables_1, d.before a0 Z = true) : (Jvm.Cond.methodLink "java/lang/StringUTF16" (71 : Nat) ({ cls := "java/lang/StringUTF16", name := "getChar", desc := "([BI)C" } : Jvm.MethodName)).before a0 Z = true := hw _ (List.mem_of_getElem? (i := 94) rfl)
theorem w95 (hw : ∀ d ∈ tables_1, d.before a0 Z = true) : (Jvm.Cond.static ({ cls := "java/lang/StringUTF16", name := "getChar", desc := "([BI)C" } : Jvm.MethodName)).before a0 Z = true := hw _ (List.mem_of_getElem? (i := 95) rfl)
theorem w96 (hw : ∀ d ∈ tables_1, d.before a0 Z = true) : (Jvm.Cond.code ({ cls := "java/lang/StringUTF16", name := "getChar", desc := "([BI)C" } : Jvm.MethodName) jdk_52_method_5_code (2 : Nat) (Option.some Jvm.ClassFile.FieldType.char)).before a0 Z = true := hw _ (List.mem_of_getElem? (i := 96) rfl)
theorem w97 (hw : ∀ d ∈ tables_1, d.before a0 Z = true) : (Jvm.Cond.methodLink "java/lang/String" (498 : Nat) ({ cls := "java/lang/StringUTF16", name := "charAt", desc := "([BI)C" } : Jvm.MethodName)).before a0 Z = true := hw _ (List.mem_of_getElem? (i := 97) rfl)
theorem w98 (hw : ∀ d ∈ tables_1, d.before a0 Z = true) : (Jvm.Cond.static ({ cls := "java/lang/StringUTF16", name := "charAt", desc := "([BI)C" } : Jvm.MethodName)).before a0 Z = true := hw _ (List.mem_of_getElem? (i := 98) rfl)
theorem w99 (hw : ∀ d ∈ tables_1, d.before a0 Z = true) : (Jvm.Cond.code ({ cls := "java/lang/StringUTF16", name := "charAt", desc := "([BI)C" } : Jvm.MethodName) jdk_52_method_83_code (2 : Nat) (Option.some Jvm.ClassFile.FieldType.char)).before a0 Z = true := hw _ (List.mem_of_getElem? (i := 99) rfl)
theorem w100 (hw : ∀ d ∈ tables_1, d.before a0 Z = true) : (Jvm.Cond.methodLink "java/lang/StringUTF16" (67 : Nat) ({ cls := "java/lang/StringUTF16", name := "checkIndex", desc := "(I[B)V" } : Jvm.MethodName)).before a0 Z = true := hw _ (List.mem_of_getElem? (i := 100) rfl)
theorem w101 (hw : ∀ d ∈ tables_1, d.before a0 Z = true) : (Jvm.Cond.static ({ cls := "java/lang/StringUTF16", name := "checkIndex", desc := "(I[B)V" } : Jvm.MethodName)).before a0 Z = true := hw _ (List.mem_of_getElem? (i := 101) rfl)
theorem w102 (hw : ∀ d ∈ tables_1, d.before a0 Z = true) : (Jvm.Cond.code ({ cls := "java/lang/StringUTF16", name := "checkIndex", desc := "(I[B)V" } : Jvm.MethodName) jdk_52_method_91_code (2 : Nat) (Option.none : Option Jvm.ClassFile.FieldType)).before a0 Z = true := hw _ (List.mem_of_getElem? (i := 102) rfl)
theorem w103 (hw : ∀ d ∈ tables_1, d.before a0 Z = true) : (Jvm.Cond.methodLink "java/lang/StringUTF16" (48 : Nat) ({ cls := "java/lang/StringUTF16", name := "length", desc := "([B)I" } : Jvm.MethodName)).before a0 Z = true := hw _ (List.mem_of_getElem? (i := 103) rfl)
theorem w104 (hw : ∀ d ∈ tables_1, d.before a0 Z = true) : (Jvm.Cond.static ({ cls := "java/lang/StringUTF16", name := "length", desc := "([B)I" } : Jvm.MethodName)).before a0 Z = true := hw _ (List.mem_of_getElem? (i := 104) rfl)
theorem w105 (hw : ∀ d ∈ tables_1, d.before a0 Z = true) : (Jvm.Cond.code ({ cls := "java/lang/StringUTF16", name := "length", desc := "([B)I" } : Jvm.MethodName) jdk_52_method_6_code (1 : Nat) (Option.some Jvm.ClassFile.FieldType.int)).before a0 Z = true := hw _ (List.mem_of_getElem? (i := 105) rfl)
theorem w106 (hw : ∀ d ∈ tables_1, d.before a0 Z = true) : (Jvm.Cond.methodLink "java/lang/StringUTF16" (414 : Nat) ({ cls := "java/lang/String", name := "checkIndex", desc := "(II)V" } : Jvm.MethodName)).before a0 Z = true := hw _ (List.mem_of_getElem? (i := 106) rfl)
end Words
theorem d1_0 : decode jdk_42_method_3_code 0 = .ok (.aload_n 0, 1) := by decide +kernel
theorem d1_1 : decode jdk_42_method_3_code 1 = .ok (.aload_n 1, 1) := by decide +kernel
theorem d1_2 : decode jdk_42_method_3_code 2 = .ok (.iconst 0, 1) := by decide +kernel
theorem d1_3 : decode jdk_42_method_3_code 3 = .ok (.aload_n 1, 1) := by decide +kernel
theorem d1_4 : decode jdk_42_method_3_code 4 = .ok (.arraylength, 1) := by decide +kernel
theorem d1_5 : decode jdk_42_method_3_code 5 = .ok (.aconst_null, 1) := by decide +kernel
theorem d1_6 : decode jdk_42_method_3_code 6 = .ok (.invokespecial 27, 3) := by decide +kernel
theorem d1_9 : decode jdk_42_method_3_code 9 = .ok (.return_, 1) := by decide +kernel
theorem d2_0 : decode jdk_42_method_149_code 0 = .ok (.aload_n 0, 1) := by decide +kernel
theorem d2_1 : decode jdk_42_method_149_code 1 = .ok (.invokespecial 1, 3) := by decide +kernel
theorem d2_4 : decode jdk_42_method_149_code 4 = .ok (.iload_n 3, 1) := by decide +kernel
theorem d2_5 : decode jdk_42_method_149_code 5 = .ok (.ifCond .ne 22, 3) := by decide +kernel
theorem d2_27 : decode jdk_42_method_149_code 27 = .ok (.getstatic 38, 3) := by decide +kernel
theorem d2_30 : decode jdk_42_method_149_code 30 = .ok (.ifCond .eq 28, 3) := by decide +kernel
theorem d2_33 : decode jdk_42_method_149_code 33 = .ok (.aload_n 1, 1) := by decide +kernel
theorem d2_34 : decode jdk_42_method_149_code 34 = .ok (.iload_n 2, 1) := by decide +kernel
theorem d2_35 : decode jdk_42_method_149_code 35 = .ok (.iload_n 3, 1) := by decide +kernel
theorem d2_36 : decode jdk_42_method_149_code 36 = .ok (.invokestatic 177, 3) := by decide +kernel
theorem d2_39 : decode jdk_42_method_149_code 39 = .ok (.astore 5, 2) := by decide +kernel
theorem d2_41 : decode jdk_42_method_149_code 41 = .ok (.aload_n 0, 1) := by decide +kernel
theorem d2_42 : decode jdk_42_method_149_code 42 = .ok (.aload 5, 2) := by decide +kernel
theorem d2_44 : decode jdk_42_method_149_code 44 = .ok (.iload_n 3, 1) := by decide +kernel
theorem d2_45 : decode jdk_42_method_149_code 45 = .ok (.invokestatic 47, 3) := by decide +kernel
theorem d2_48 : decode jdk_42_method_149_code 48 = .ok (.putfield 15, 3) := by decide +kernel
theorem d2_51 : decode jdk_42_method_149_code 51 = .ok (.aload_n 0, 1) := by decide +kernel
theorem d2_52 : decode jdk_42_method_149_code 52 = .ok (.aload 5, 2) := by decide +kernel
theorem d2_54 : decode jdk_42_method_149_code 54 = .ok (.putfield 9, 3) := by decide +kernel
theorem d2_57 : decode jdk_42_method_149_code 57 = .ok (.return_, 1) := by decide +kernel
theorem d4_0 : decode jdk_52_method_16_code 0 = .ok (.iload_n 2, 1) := by decide +kernel
theorem d4_1 : decode jdk_52_method_16_code 1 = .ok (.newarray .byte, 2) := by decide +kernel
theorem d4_3 : decode jdk_52_method_16_code 3 = .ok (.astore_n 3, 1) := by decide +kernel
theorem d4_4 : decode jdk_52_method_16_code 4 = .ok (.aload_n 0, 1) := by decide +kernel
theorem d4_5 : decode jdk_52_method_16_code 5 = .ok (.iload_n 1, 1) := by decide +kernel
theorem d4_6 : decode jdk_52_method_16_code 6 = .ok (.aload_n 3, 1) := by decide +kernel
theorem d4_7 : decode jdk_52_method_16_code 7 = .ok (.iconst 0, 1) := by decide +kernel
theorem d4_8 : decode jdk_52_method_16_code 8 = .ok (.iload_n 2, 1) := by decide +kernel
theorem d4_9 : decode jdk_52_method_16_code 9 = .ok (.invokestatic 115, 3) := by decide +kernel
theorem d4_12 : decode jdk_52_method_16_code 12 = .ok (.istore 4, 2) := by decide +kernel
theorem d4_14 : decode jdk_52_method_16_code 14 = .ok (.iload 4, 2) := by decide +kernel
theorem d4_16 : decode jdk_52_method_16_code 16 = .ok (.iload_n 2, 1) := by decide +kernel
theorem d4_17 : decode jdk_52_method_16_code 17 = .ok (.if_icmp .eq 40, 3) := by decide +kernel
theorem d4_20 : decode jdk_52_method_16_code 20 = .ok (.aload_n 0, 1) := by decide +kernel
theorem d4_21 : decode jdk_52_method_16_code 21 = .ok (.iload_n 1, 1) := by decide +kernel
theorem d4_22 : decode jdk_52_method_16_code 22 = .ok (.iload_n 2, 1) := by decide +kernel
theorem d4_23 : decode jdk_52_method_16_code 23 = .ok (.invokestatic 119, 3) := by decide +kernel
theorem d4_26 : decode jdk_52_method_16_code 26 = .ok (.astore 5, 2) := by decide +kernel
theorem d4_28 : decode jdk_52_method_16_code 28 = .ok (.aload 5, 2) := by decide +kernel
theorem d4_30 : decode jdk_52_method_16_code 30 = .ok (.iload 4, 2) := by decide +kernel
theorem d4_32 : decode jdk_52_method_16_code 32 = .ok (.invokestatic 71, 3) := by decide +kernel
theorem d4_35 : decode jdk_52_method_16_code 35 = .ok (.sipush 255, 3) := by decide +kernel
theorem d4_38 : decode jdk_52_method_16_code 38 = .ok (.if_icmp .gt 16, 3) := by decide +kernel
theorem d4_54 : decode jdk_52_method_16_code 54 = .ok (.aload 5, 2) := by decide +kernel
theorem d4_56 : decode jdk_52_method_16_code 56 = .ok (.areturn, 1) := by decide +kernel
theorem d4_57 : decode jdk_52_method_16_code 57 = .ok (.aload_n 3, 1) := by decide +kernel
theorem d4_58 : decode jdk_52_method_16_code 58 = .ok (.areturn, 1) := by decide +kernel
theorem d5_0 : decode jdk_52_method_21_code 0 = .ok (.iconst 0, 1) := by decide +kernel
theorem d5_1 : decode jdk_52_method_21_code 1 = .ok (.istore 5, 2) := by decide +kernel
theorem d5_3 : decode jdk_52_method_21_code 3 = .ok (.iload 5, 2) := by decide +kernel
theorem d5_5 : decode jdk_52_method_21_code 5 = .ok (.iload 4, 2) := by decide +kernel
theorem d5_7 : decode jdk_52_method_21_code 7 = .ok (.if_icmp .ge 37, 3) := by decide +kernel
theorem d5_10 : decode jdk_52_method_21_code 10 = .ok (.aload_n 0, 1) := by decide +kernel
theorem d5_11 : decode jdk_52_method_21_code 11 = .ok (.iload_n 1, 1) := by decide +kernel
theorem d5_12 : decode jdk_52_method_21_code 12 = .ok (.caload, 1) := by decide +kernel
theorem d5_13 : decode jdk_52_method_21_code 13 = .ok (.istore 6, 2) := by decide +kernel
theorem d5_15 : decode jdk_52_method_21_code 15 = .ok (.iload 6, 2) := by decide +kernel
theorem d5_17 : decode jdk_52_method_21_code 17 = .ok (.sipush 255, 3) := by decide +kernel
theorem d5_20 : decode jdk_52_method_21_code 20 = .ok (.if_icmp .le 6, 3) := by decide +kernel
theorem d5_23 : decode jdk_52_method_21_code 23 = .ok (.iload 5, 2) := by decide +kernel
theorem d5_25 : decode jdk_52_method_21_code 25 = .ok (.ireturn, 1) := by decide +kernel
theorem d5_26 : decode jdk_52_method_21_code 26 = .ok (.aload_n 2, 1) := by decide +kernel
theorem d5_27 : decode jdk_52_method_21_code 27 = .ok (.iload_n 3, 1) := by decide +kernel
theorem d5_28 : decode jdk_52_method_21_code 28 = .ok (.iload 6, 2) := by decide +kernel
theorem d5_30 : decode jdk_52_method_21_code 30 = .ok (.i2b, 1) := by decide +kernel
theorem d5_31 : decode jdk_52_method_21_code 31 = .ok (.bastore, 1) := by decide +kernel
theorem d5_32 : decode jdk_52_method_21_code 32 = .ok (.iinc 1 1, 3) := by decide +kernel
theorem d5_35 : decode jdk_52_method_21_code 35 = .ok (.iinc 3 1, 3) := by decide +kernel
theorem d5_38 : decode jdk_52_method_21_code 38 = .ok (.iinc 5 1, 3) := by decide +kernel
theorem d5_41 : decode jdk_52_method_21_code 41 = .ok (.goto (-38), 3) := by decide +kernel
theorem d5_44 : decode jdk_52_method_21_code 44 = .ok (.iload 4, 2) := by decide +kernel
theorem d5_46 : decode jdk_52_method_21_code 46 = .ok (.ireturn, 1) := by decide +kernel
theorem d6_0 : decode jdk_52_method_15_code 0 = .ok (.iload_n 1, 1) := by decide +kernel
theorem d6_1 : decode jdk_52_method_15_code 1 = .ok (.aload_n 0, 1) := by decide +kernel
theorem d6_2 : decode jdk_52_method_15_code 2 = .ok (.arraylength, 1) := by decide +kernel
theorem d6_3 : decode jdk_52_method_15_code 3 = .ok (.isub, 1) := by decide +kernel
theorem d6_4 : decode jdk_52_method_15_code 4 = .ok (.bipush 31, 2) := by decide +kernel
theorem d6_6 : decode jdk_52_method_15_code 6 = .ok (.iushr, 1) := by decide +kernel
theorem d6_7 : decode jdk_52_method_15_code 7 = .ok (.i2b, 1) := by decide +kernel
theorem d6_8 : decode jdk_52_method_15_code 8 = .ok (.ireturn, 1) := by decide +kernel
theorem d7_0 : decode method_3_code 0 = .ok (.iload_n 0, 1) := by decide +kernel
theorem d7_1 : decode method_3_code 1 = .ok (.bipush 45, 2) := by decide +kernel
theorem d7_3 : decode method_3_code 3 = .ok (.if_icmp .eq 15, 3) := by decide +kernel
theorem d7_6 : decode method_3_code 6 = .ok (.iload_n 0, 1) := by decide +kernel
theorem d7_7 : decode method_3_code 7 = .ok (.bipush 46, 2) := by decide +kernel
theorem d7_9 : decode method_3_code 9 = .ok (.if_icmp .eq 9, 3) := by decide +kernel
theorem d7_12 : decode method_3_code 12 = .ok (.iload_n 0, 1) := by decide +kernel
theorem d7_13 : decode method_3_code 13 = .ok (.bipush 95, 2) := by decide +kernel
theorem d7_15 : decode method_3_code 15 = .ok (.if_icmp .ne 5, 3) := by decide +kernel
theorem d7_18 : decode method_3_code 18 = .ok (.iconst 1, 1) := by decide +kernel
theorem d7_19 : decode method_3_code 19 = .ok (.ireturn, 1) := by decide +kernel
theorem d7_20 : decode method_3_code 20 = .ok (.bipush 48, 2) := by decide +kernel
theorem d7_22 : decode method_3_code 22 = .ok (.iload_n 0, 1) := by decide +kernel
theorem d7_23 : decode method_3_code 23 = .ok (.if_icmp .gt 11, 3) := by decide +kernel
theorem d7_26 : decode method_3_code 26 = .ok (.iload_n 0, 1) := by decide +kernel
theorem d7_27 : decode method_3_code 27 = .ok (.bipush 57, 2) := by decide +kernel
theorem d7_29 : decode method_3_code 29 = .ok (.if_icmp .gt 5, 3) := by decide +kernel
theorem d7_32 : decode method_3_code 32 = .ok (.iconst 1, 1) := by decide +kernel
theorem d7_33 : decode method_3_code 33 = .ok (.ireturn, 1) := by decide +kernel
theorem d7_34 : decode method_3_code 34 = .ok (.bipush 65, 2) := by decide +kernel
theorem d7_36 : decode method_3_code 36 = .ok (.iload_n 0, 1) := by decide +kernel
theorem d7_37 : decode method_3_code 37 = .ok (.if_icmp .gt 11, 3) := by decide +kernel
theorem d7_40 : decode method_3_code 40 = .ok (.iload_n 0, 1) := by decide +kernel
theorem d7_41 : decode method_3_code 41 = .ok (.bipush 90, 2) := by decide +kernel
theorem d7_43 : decode method_3_code 43 = .ok (.if_icmp .gt 5, 3) := by decide +kernel
theorem d7_46 : decode method_3_code 46 = .ok (.iconst 1, 1) := by decide +kernel
theorem d7_47 : decode method_3_code 47 = .ok (.ireturn, 1) := by decide +kernel
theorem d7_48 : decode method_3_code 48 = .ok (.bipush 97, 2) := by decide +kernel
theorem d7_50 : decode method_3_code 50 = .ok (.iload_n 0, 1) := by decide +kernel
theorem d7_51 : decode method_3_code 51 = .ok (.if_icmp .gt 13, 3) := by decide +kernel
theorem d7_54 : decode method_3_code 54 = .ok (.iload_n 0, 1) := by decide +kernel
theorem d7_55 : decode method_3_code 55 = .ok (.bipush 122, 2) := by decide +kernel
theorem d7_57 : decode method_3_code 57 = .ok (.if_icmp .gt 7, 3) := by decide +kernel
theorem d7_60 : decode method_3_code 60 = .ok (.iconst 1, 1) := by decide +kernel
theorem d7_61 : decode method_3_code 61 = .ok (.goto 4, 3) := by decide +kernel
theorem d7_64 : decode method_3_code 64 = .ok (.iconst 0, 1) := by decide +kernel
theorem d7_65 : decode method_3_code 65 = .ok (.ireturn, 1) := by decide +kernel
theorem d8_0 : decode prog_28_method_6_code 0 = .ok (.aload_n 0, 1) := by decide +kernel
theorem d8_1 : decode prog_28_method_6_code 1 = .ok (.invokevirtual 21, 3) := by decide +kernel
theorem d8_4 : decode prog_28_method_6_code 4 = .ok (.ifCond .ne 13, 3) := by decide +kernel
theorem d8_7 : decode prog_28_method_6_code 7 = .ok (.aload_n 0, 1) := by decide +kernel
theorem d8_8 : decode prog_28_method_6_code 8 = .ok (.invokevirtual 27, 3) := by decide +kernel
theorem d8_11 : decode prog_28_method_6_code 11 = .ok (.sipush 249, 3) := by decide +kernel
theorem d8_14 : decode prog_28_method_6_code 14 = .ok (.if_icmp .le 5, 3) := by decide +kernel
theorem d8_17 : decode prog_28_method_6_code 17 = .ok (.iconst 0, 1) := by decide +kernel
theorem d8_18 : decode prog_28_method_6_code 18 = .ok (.ireturn, 1) := by decide +kernel
theorem d8_19 : decode prog_28_method_6_code 19 = .ok (.iconst 0, 1) := by decide +kernel
theorem d8_20 : decode prog_28_method_6_code 20 = .ok (.istore_n 1, 1) := by decide +kernel
theorem d8_21 : decode prog_28_method_6_code 21 = .ok (.iload_n 1, 1) := by decide +kernel
theorem d8_22 : decode prog_28_method_6_code 22 = .ok (.aload_n 0, 1) := by decide +kernel
theorem d8_23 : decode prog_28_method_6_code 23 = .ok (.invokevirtual 27, 3) := by decide +kernel
theorem d8_26 : decode prog_28_method_6_code 26 = .ok (.if_icmp .ge 81, 3) := by decide +kernel
theorem d8_29 : decode prog_28_method_6_code 29 = .ok (.aload_n 0, 1) := by decide +kernel
theorem d8_30 : decode prog_28_method_6_code 30 = .ok (.iload_n 1, 1) := by decide +kernel
theorem d8_31 : decode prog_28_method_6_code 31 = .ok (.invokevirtual 31, 3) := by decide +kernel
theorem d8_34 : decode prog_28_method_6_code 34 = .ok (.istore_n 2, 1) := by decide +kernel
theorem d8_35 : decode prog_28_method_6_code 35 = .ok (.iload_n 2, 1) := by decide +kernel
theorem d8_36 : decode prog_28_method_6_code 36 = .ok (.bipush 97, 2) := by decide +kernel
theorem d8_38 : decode prog_28_method_6_code 38 = .ok (.if_icmp .lt 9, 3) := by decide +kernel
theorem d8_41 : decode prog_28_method_6_code 41 = .ok (.iload_n 2, 1) := by decide +kernel
theorem d8_42 : decode prog_28_method_6_code 42 = .ok (.bipush 122, 2) := by decide +kernel
theorem d8_44 : decode prog_28_method_6_code 44 = .ok (.if_icmp .le 27, 3) := by decide +kernel
theorem d8_47 : decode prog_28_method_6_code 47 = .ok (.iload_n 2, 1) := by decide +kernel
theorem d8_48 : decode prog_28_method_6_code 48 = .ok (.bipush 65, 2) := by decide +kernel
theorem d8_50 : decode prog_28_method_6_code 50 = .ok (.if_icmp .lt 9, 3) := by decide +kernel
theorem d8_53 : decode prog_28_method_6_code 53 = .ok (.iload_n 2, 1) := by decide +kernel
theorem d8_54 : decode prog_28_method_6_code 54 = .ok (.bipush 90, 2) := by decide +kernel
theorem d8_56 : decode prog_28_method_6_code 56 = .ok (.if_icmp .le 15, 3) := by decide +kernel
theorem d8_59 : decode prog_28_method_6_code 59 = .ok (.iload_n 2, 1) := by decide +kernel
theorem d8_60 : decode prog_28_method_6_code 60 = .ok (.bipush 48, 2) := by decide +kernel
theorem d8_62 : decode prog_28_method_6_code 62 = .ok (.if_icmp .lt 13, 3) := by decide +kernel
theorem d8_65 : decode prog_28_method_6_code 65 = .ok (.iload_n 2, 1) := by decide +kernel
theorem d8_66 : decode prog_28_method_6_code 66 = .ok (.bipush 57, 2) := by decide +kernel
theorem d8_68 : decode prog_28_method_6_code 68 = .ok (.if_icmp .gt 7, 3) := by decide +kernel
theorem d8_71 : decode prog_28_method_6_code 71 = .ok (.iconst 1, 1) := by decide +kernel
theorem d8_72 : decode prog_28_method_6_code 72 = .ok (.goto 4, 3) := by decide +kernel
theorem d8_75 : decode prog_28_method_6_code 75 = .ok (.iconst 0, 1) := by decide +kernel
theorem d8_76 : decode prog_28_method_6_code 76 = .ok (.istore_n 3, 1) := by decide +kernel
theorem d8_77 : decode prog_28_method_6_code 77 = .ok (.iload_n 3, 1) := by decide +kernel
theorem d8_78 : decode prog_28_method_6_code 78 = .ok (.ifCond .ne 23, 3) := by decide +kernel
theorem d8_81 : decode prog_28_method_6_code 81 = .ok (.iload_n 2, 1) := by decide +kernel
theorem d8_82 : decode prog_28_method_6_code 82 = .ok (.bipush 46, 2) := by decide +kernel
theorem d8_84 : decode prog_28_method_6_code 84 = .ok (.if_icmp .eq 17, 3) := by decide +kernel
theorem d8_87 : decode prog_28_method_6_code 87 = .ok (.iload_n 2, 1) := by decide +kernel
theorem d8_88 : decode prog_28_method_6_code 88 = .ok (.bipush 95, 2) := by decide +kernel
theorem d8_90 : decode prog_28_method_6_code 90 = .ok (.if_icmp .eq 11, 3) := by decide +kernel
theorem d8_93 : decode prog_28_method_6_code 93 = .ok (.iload_n 2, 1) := by decide +kernel
theorem d8_94 : decode prog_28_method_6_code 94 = .ok (.bipush 45, 2) := by decide +kernel
theorem d8_96 : decode prog_28_method_6_code 96 = .ok (.if_icmp .eq 5, 3) := by decide +kernel
theorem d8_99 : decode prog_28_method_6_code 99 = .ok (.iconst 0, 1) := by decide +kernel
theorem d8_100 : decode prog_28_method_6_code 100 = .ok (.ireturn, 1) := by decide +kernel
theorem d8_101 : decode prog_28_method_6_code 101 = .ok (.iinc 1 1, 3) := by decide +kernel
theorem d8_104 : decode prog_28_method_6_code 104 = .ok (.goto (-83), 3) := by decide +kernel
theorem d8_107 : decode prog_28_method_6_code 107 = .ok (.iconst 1, 1) := by decide +kernel
theorem d8_108 : decode prog_28_method_6_code 108 = .ok (.ireturn, 1) := by decide +kernel
theorem d9_0 : decode jdk_42_method_55_code 0 = .ok (.aload_n 0, 1) := by decide +kernel
theorem d9_1 : decode jdk_42_method_55_code 1 = .ok (.getfield 9, 3) := by decide +kernel
theorem d9_4 : decode jdk_42_method_55_code 4 = .ok (.arraylength, 1) := by decide +kernel
theorem d9_5 : decode jdk_42_method_55_code 5 = .ok (.ifCond .ne 7, 3) := by decide +kernel
theorem d9_8 : decode jdk_42_method_55_code 8 = .ok (.iconst 1, 1) := by decide +kernel
theorem d9_9 : decode jdk_42_method_55_code 9 = .ok (.goto 4, 3) := by decide +kernel
theorem d9_12 : decode jdk_42_method_55_code 12 = .ok (.iconst 0, 1) := by decide +kernel
theorem d9_13 : decode jdk_42_method_55_code 13 = .ok (.ireturn, 1) := by decide +kernel
theorem d10_0 : decode jdk_42_method_54_code 0 = .ok (.aload_n 0, 1) := by decide +kernel
theorem d10_1 : decode jdk_42_method_54_code 1 = .ok (.getfield 9, 3) := by decide +kernel
theorem d10_4 : decode jdk_42_method_54_code 4 = .ok (.arraylength, 1) := by decide +kernel
theorem d10_5 : decode jdk_42_method_54_code 5 = .ok (.aload_n 0, 1) := by decide +kernel
theorem d10_6 : decode jdk_42_method_54_code 6 = .ok (.invokevirtual 335, 3) := by decide +kernel
theorem d10_9 : decode jdk_42_method_54_code 9 = .ok (.ishr, 1) := by decide +kernel
theorem d10_10 : decode jdk_42_method_54_code 10 = .ok (.ireturn, 1) := by decide +kernel
theorem d11_0 : decode jdk_42_method_152_code 0 = .ok (.getstatic 38, 3) := by decide +kernel
theorem d11_3 : decode jdk_42_method_152_code 3 = .ok (.ifCond .eq 10, 3) := by decide +kernel
theorem d11_6 : decode jdk_42_method_152_code 6 = .ok (.aload_n 0, 1) := by decide +kernel
theorem d11_7 : decode jdk_42_method_152_code 7 = .ok (.getfield 15, 3) := by decide +kernel
theorem d11_10 : decode jdk_42_method_152_code 10 = .ok (.goto 4, 3) := by decide +kernel
theorem d11_14 : decode jdk_42_method_152_code 14 = .ok (.ireturn, 1) := by decide +kernel
theorem d12_0 : decode jdk_42_method_56_code 0 = .ok (.aload_n 0, 1) := by decide +kernel
theorem d12_1 : decode jdk_42_method_56_code 1 = .ok (.invokevirtual 492, 3) := by decide +kernel
theorem d12_4 : decode jdk_42_method_56_code 4 = .ok (.ifCond .eq 12, 3) := by decide +kernel
theorem d12_7 : decode jdk_42_method_56_code 7 = .ok (.aload_n 0, 1) := by decide +kernel
theorem d12_8 : decode jdk_42_method_56_code 8 = .ok (.getfield 9, 3) := by decide +kernel
theorem d12_11 : decode jdk_42_method_56_code 11 = .ok (.iload_n 1, 1) := by decide +kernel
theorem d12_12 : decode jdk_42_method_56_code 12 = .ok (.invokestatic 495, 3) := by decide +kernel
theorem d12_15 : decode jdk_42_method_56_code 15 = .ok (.ireturn, 1) := by decide +kernel
theorem d12_16 : decode jdk_42_method_56_code 16 = .ok (.aload_n 0, 1) := by decide +kernel
theorem d12_17 : decode jdk_42_method_56_code 17 = .ok (.getfield 9, 3) := by decide +kernel
theorem d12_20 : decode jdk_42_method_56_code 20 = .ok (.iload_n 1, 1) := by decide +kernel
theorem d12_21 : decode jdk_42_method_56_code 21 = .ok (.invokestatic 498, 3) := by decide +kernel
theorem d12_24 : decode jdk_42_method_56_code 24 = .ok (.ireturn, 1) := by decide +kernel
theorem d13_0 : decode jdk_42_method_154_code 0 = .ok (.getstatic 38, 3) := by decide +kernel
theorem d13_3 : decode jdk_42_method_154_code 3 = .ok (.ifCond .eq 14, 3) := by decide +kernel
theorem d13_6 : decode jdk_42_method_154_code 6 = .ok (.aload_n 0, 1) := by decide +kernel
theorem d13_7 : decode jdk_42_method_154_code 7 = .ok (.getfield 15, 3) := by decide +kernel
theorem d13_10 : decode jdk_42_method_154_code 10 = .ok (.ifCond .ne 7, 3) := by decide +kernel
theorem d13_13 : decode jdk_42_method_154_code 13 = .ok (.iconst 1, 1) := by decide +kernel
theorem d13_14 : decode jdk_42_method_154_code 14 = .ok (.goto 4, 3) := by decide +kernel
theorem d13_17 : decode jdk_42_method_154_code 17 = .ok (.iconst 0, 1) := by decide +kernel
theorem d13_18 : decode jdk_42_method_154_code 18 = .ok (.ireturn, 1) := by decide +kernel
theorem d14_0 : decode jdk_43_method_2_code 0 = .ok (.iload_n 1, 1) := by decide +kernel
theorem d14_1 : decode jdk_43_method_2_code 1 = .ok (.aload_n 0, 1) := by decide +kernel
theorem d14_2 : decode jdk_43_method_2_code 2 = .ok (.arraylength, 1) := by decide +kernel
theorem d14_3 : decode jdk_43_method_2_code 3 = .ok (.invokestatic 9, 3) := by decide +kernel
theorem d14_6 : decode jdk_43_method_2_code 6 = .ok (.aload_n 0, 1) := by decide +kernel
theorem d14_7 : decode jdk_43_method_2_code 7 = .ok (.iload_n 1, 1) := by decide +kernel
theorem d14_8 : decode jdk_43_method_2_code 8 = .ok (.baload, 1) := by decide +kernel
theorem d14_9 : decode jdk_43_method_2_code 9 = .ok (.sipush 255, 3) := by decide +kernel
theorem d14_12 : decode jdk_43_method_2_code 12 = .ok (.iand, 1) := by decide +kernel
theorem d14_13 : decode jdk_43_method_2_code 13 = .ok (.i2c, 1) := by decide +kernel
theorem d14_14 : decode jdk_43_method_2_code 14 = .ok (.ireturn, 1) := by decide +kernel
theorem d15_0 : decode jdk_42_method_155_code 0 = .ok (.iload_n 0, 1) := by decide +kernel
theorem d15_1 : decode jdk_42_method_155_code 1 = .ok (.iload_n 1, 1) := by decide +kernel
theorem d15_2 : decode jdk_42_method_155_code 2 = .ok (.getstatic 1053, 3) := by decide +kernel
theorem d15_5 : decode jdk_42_method_155_code 5 = .ok (.invokestatic 1059, 3) := by decide +kernel
theorem d15_8 : decode jdk_42_method_155_code 8 = .ok (.pop, 1) := by decide +kernel
theorem d15_9 : decode jdk_42_method_155_code 9 = .ok (.return_, 1) := by decide +kernel
theorem d16_0 : decode jdk_41_method_11_code 0 = .ok (.iload_n 0, 1) := by decide +kernel
theorem d16_1 : decode jdk_41_method_11_code 1 = .ok (.ifCond .lt 8, 3) := by decide +kernel
theorem d16_4 : decode jdk_41_method_11_code 4 = .ok (.iload_n 0, 1) := by decide +kernel
theorem d16_5 : decode jdk_41_method_11_code 5 = .ok (.iload_n 1, 1) := by decide +kernel
theorem d16_6 : decode jdk_41_method_11_code 6 = .ok (.if_icmp .lt 10, 3) := by decide +kernel
theorem d16_16 : decode jdk_41_method_11_code 16 = .ok (.iload_n 0, 1) := by decide +kernel
theorem d16_17 : decode jdk_41_method_11_code 17 = .ok (.ireturn, 1) := by decide +kernel
theorem d17_0 : decode jdk_52_method_14_code 0 = .ok (.iload_n 2, 1) := by decide +kernel
theorem d17_1 : decode jdk_52_method_14_code 1 = .ok (.invokestatic 107, 3) := by decide +kernel
theorem d17_4 : decode jdk_52_method_14_code 4 = .ok (.astore_n 3, 1) := by decide +kernel
theorem d17_5 : decode jdk_52_method_14_code 5 = .ok (.iconst 0, 1) := by decide +kernel
theorem d17_6 : decode jdk_52_method_14_code 6 = .ok (.istore 4, 2) := by decide +kernel
theorem d17_8 : decode jdk_52_method_14_code 8 = .ok (.iload 4, 2) := by decide +kernel
theorem d17_10 : decode jdk_52_method_14_code 10 = .ok (.iload_n 2, 1) := by decide +kernel
theorem d17_11 : decode jdk_52_method_14_code 11 = .ok (.if_icmp .ge 21, 3) := by decide +kernel
theorem d17_14 : decode jdk_52_method_14_code 14 = .ok (.aload_n 3, 1) := by decide +kernel
theorem d17_15 : decode jdk_52_method_14_code 15 = .ok (.iload 4, 2) := by decide +kernel
theorem d17_17 : decode jdk_52_method_14_code 17 = .ok (.aload_n 0, 1) := by decide +kernel
theorem d17_18 : decode jdk_52_method_14_code 18 = .ok (.iload_n 1, 1) := by decide +kernel
theorem d17_19 : decode jdk_52_method_14_code 19 = .ok (.caload, 1) := by decide +kernel
theorem d17_20 : decode jdk_52_method_14_code 20 = .ok (.invokestatic 111, 3) := by decide +kernel
theorem d17_23 : decode jdk_52_method_14_code 23 = .ok (.iinc 1 1, 3) := by decide +kernel
theorem d17_26 : decode jdk_52_method_14_code 26 = .ok (.iinc 4 1, 3) := by decide +kernel
theorem d17_29 : decode jdk_52_method_14_code 29 = .ok (.goto (-21), 3) := by decide +kernel
theorem d17_32 : decode jdk_52_method_14_code 32 = .ok (.aload_n 3, 1) := by decide +kernel
theorem d17_33 : decode jdk_52_method_14_code 33 = .ok (.areturn, 1) := by decide +kernel
theorem d18_0 : decode jdk_52_method_2_code 0 = .ok (.iload_n 0, 1) := by decide +kernel
theorem d18_1 : decode jdk_52_method_2_code 1 = .ok (.invokestatic 11, 3) := by decide +kernel
theorem d18_4 : decode jdk_52_method_2_code 4 = .ok (.newarray .byte, 2) := by decide +kernel
theorem d18_6 : decode jdk_52_method_2_code 6 = .ok (.areturn, 1) := by decide +kernel
theorem d19_0 : decode jdk_52_method_3_code 0 = .ok (.iload_n 0, 1) := by decide +kernel
theorem d19_1 : decode jdk_52_method_3_code 1 = .ok (.ifCond .ge 11, 3) := by decide +kernel
theorem d19_12 : decode jdk_52_method_3_code 12 = .ok (.iload_n 0, 1) := by decide +kernel
theorem d19_13 : decode jdk_52_method_3_code 13 = .ok (.ldc 20, 2) := by decide +kernel
theorem d19_15 : decode jdk_52_method_3_code 15 = .ok (.if_icmp .lt 40, 3) := by decide +kernel
theorem d19_55 : decode jdk_52_method_3_code 55 = .ok (.iload_n 0, 1) := by decide +kernel
theorem d19_56 : decode jdk_52_method_3_code 56 = .ok (.iconst 1, 1) := by decide +kernel
theorem d19_57 : decode jdk_52_method_3_code 57 = .ok (.ishl, 1) := by decide +kernel
theorem d19_58 : decode jdk_52_method_3_code 58 = .ok (.ireturn, 1) := by decide +kernel
theorem d20_0 : decode jdk_52_method_4_code 0 = .ok (.getstatic 44, 3) := by decide +kernel
theorem d20_3 : decode jdk_52_method_4_code 3 = .ok (.ifCond .ne 25, 3) := by decide +kernel
theorem d20_28 : decode jdk_52_method_4_code 28 = .ok (.iload_n 1, 1) := by decide +kernel
theorem d20_29 : decode jdk_52_method_4_code 29 = .ok (.iconst 1, 1) := by decide +kernel
theorem d20_30 : decode jdk_52_method_4_code 30 = .ok (.ishl, 1) := by decide +kernel
theorem d20_31 : decode jdk_52_method_4_code 31 = .ok (.istore_n 1, 1) := by decide +kernel
theorem d20_32 : decode jdk_52_method_4_code 32 = .ok (.aload_n 0, 1) := by decide +kernel
theorem d20_33 : decode jdk_52_method_4_code 33 = .ok (.iload_n 1, 1) := by decide +kernel
theorem d20_34 : decode jdk_52_method_4_code 34 = .ok (.iinc 1 1, 3) := by decide +kernel
theorem d20_37 : decode jdk_52_method_4_code 37 = .ok (.iload_n 2, 1) := by decide +kernel
theorem d20_38 : decode jdk_52_method_4_code 38 = .ok (.getstatic 59, 3) := by decide +kernel
theorem d20_41 : decode jdk_52_method_4_code 41 = .ok (.ishr, 1) := by decide +kernel
theorem d20_42 : decode jdk_52_method_4_code 42 = .ok (.i2b, 1) := by decide +kernel
theorem d20_43 : decode jdk_52_method_4_code 43 = .ok (.bastore, 1) := by decide +kernel
theorem d20_44 : decode jdk_52_method_4_code 44 = .ok (.aload_n 0, 1) := by decide +kernel
theorem d20_45 : decode jdk_52_method_4_code 45 = .ok (.iload_n 1, 1) := by decide +kernel
theorem d20_46 : decode jdk_52_method_4_code 46 = .ok (.iload_n 2, 1) := by decide +kernel
theorem d20_47 : decode jdk_52_method_4_code 47 = .ok (.getstatic 63, 3) := by decide +kernel
theorem d20_50 : decode jdk_52_method_4_code 50 = .ok (.ishr, 1) := by decide +kernel
theorem d20_51 : decode jdk_52_method_4_code 51 = .ok (.i2b, 1) := by decide +kernel
theorem d20_52 : decode jdk_52_method_4_code 52 = .ok (.bastore, 1) := by decide +kernel
theorem d20_53 : decode jdk_52_method_4_code 53 = .ok (.return_, 1) := by decide +kernel
theorem d21_0 : decode jdk_52_method_5_code 0 = .ok (.getstatic 44, 3) := by decide +kernel
theorem d21_3 : decode jdk_52_method_5_code 3 = .ok (.ifCond .ne 25, 3) := by decide +kernel
theorem d21_28 : decode jdk_52_method_5_code 28 = .ok (.iload_n 1, 1) := by decide +kernel
theorem d21_29 : decode jdk_52_method_5_code 29 = .ok (.iconst 1, 1) := by decide +kernel
theorem d21_30 : decode jdk_52_method_5_code 30 = .ok (.ishl, 1) := by decide +kernel
theorem d21_31 : decode jdk_52_method_5_code 31 = .ok (.istore_n 1, 1) := by decide +kernel
theorem d21_32 : decode jdk_52_method_5_code 32 = .ok (.aload_n 0, 1) := by decide +kernel
theorem d21_33 : decode jdk_52_method_5_code 33 = .ok (.iload_n 1, 1) := by decide +kernel
theorem d21_34 : decode jdk_52_method_5_code 34 = .ok (.iinc 1 1, 3) := by decide +kernel
theorem d21_37 : decode jdk_52_method_5_code 37 = .ok (.baload, 1) := by decide +kernel
theorem d21_38 : decode jdk_52_method_5_code 38 = .ok (.sipush 255, 3) := by decide +kernel
theorem d21_41 : decode jdk_52_method_5_code 41 = .ok (.iand, 1) := by decide +kernel
theorem d21_42 : decode jdk_52_method_5_code 42 = .ok (.getstatic 59, 3) := by decide +kernel
theorem d21_45 : decode jdk_52_method_5_code 45 = .ok (.ishl, 1) := by decide +kernel
theorem d21_46 : decode jdk_52_method_5_code 46 = .ok (.aload_n 0, 1) := by decide +kernel
theorem d21_47 : decode jdk_52_method_5_code 47 = .ok (.iload_n 1, 1) := by decide +kernel
theorem d21_48 : decode jdk_52_method_5_code 48 = .ok (.baload, 1) := by decide +kernel
theorem d21_49 : decode jdk_52_method_5_code 49 = .ok (.sipush 255, 3) := by decide +kernel
theorem d21_52 : decode jdk_52_method_5_code 52 = .ok (.iand, 1) := by decide +kernel
theorem d21_53 : decode jdk_52_method_5_code 53 = .ok (.getstatic 63, 3) := by decide +kernel
theorem d21_56 : decode jdk_52_method_5_code 56 = .ok (.ishl, 1) := by decide +kernel
theorem d21_57 : decode jdk_52_method_5_code 57 = .ok (.ior, 1) := by decide +kernel
theorem d21_58 : decode jdk_52_method_5_code 58 = .ok (.i2c, 1) := by decide +kernel
theorem d21_59 : decode jdk_52_method_5_code 59 = .ok (.ireturn, 1) := by decide +kernel
theorem d22_0 : decode jdk_52_method_83_code 0 = .ok (.iload_n 1, 1) := by decide +kernel
theorem d22_1 : decode jdk_52_method_83_code 1 = .ok (.aload_n 0, 1) := by decide +kernel
theorem d22_2 : decode jdk_52_method_83_code 2 = .ok (.invokestatic 67, 3) := by decide +kernel
theorem d22_5 : decode jdk_52_method_83_code 5 = .ok (.aload_n 0, 1) := by decide +kernel
theorem d22_6 : decode jdk_52_method_83_code 6 = .ok (.iload_n 1, 1) := by decide +kernel
theorem d22_7 : decode jdk_52_method_83_code 7 = .ok (.invokestatic 71, 3) := by decide +kernel
theorem d22_10 : decode jdk_52_method_83_code 10 = .ok (.ireturn, 1) := by decide +kernel
theorem d23_0 : decode jdk_52_method_91_code 0 = .ok (.iload_n 0, 1) := by decide +kernel
theorem d23_1 : decode jdk_52_method_91_code 1 = .ok (.aload_n 1, 1) := by decide +kernel
theorem d23_2 : decode jdk_52_method_91_code 2 = .ok (.invokestatic 48, 3) := by decide +kernel
theorem d23_5 : decode jdk_52_method_91_code 5 = .ok (.invokestatic 414, 3) := by decide +kernel
theorem d23_8 : decode jdk_52_method_91_code 8 = .ok (.return_, 1) := by decide +kernel
theorem d24_0 : decode jdk_52_method_6_code 0 = .ok (.aload_n 0, 1) := by decide +kernel
theorem d24_1 : decode jdk_52_method_6_code 1 = .ok (.arraylength, 1) := by decide +kernel
theorem d24_2 : decode jdk_52_method_6_code 2 = .ok (.iconst 1, 1) := by decide +kernel
theorem d24_3 : decode jdk_52_method_6_code 3 = .ok (.ishr, 1) := by decide +kernel
theorem d24_4 : decode jdk_52_method_6_code 4 = .ok (.ireturn, 1) := by decide +kernel
theorem pn_2 : plainName "com/example/group_by_epoch/groupbyepoch/coordinator/TopicIsValidNamePinLaw" = true := by first | (simp [plainName, overriddenIn]; done) | decide +kernel
theorem pn_3 : plainName "com/example/group_by_epoch/groupbyepoch/coordinator/Topic" = true := by first | (simp [plainName, overriddenIn]; done) | decide +kernel
/-! new String(char[]), all chars below 256: the JDK's bodies walked -/
section StrInit
variable {l : Launch} {Z : State} {a0 : Array Value}
theorem own_hEL (hw : ∀ d ∈ tables_1, d.before a0 Z = true) : EW Z a0 consts_1 := (EW.cons (w75 hw) (by decide) EW.nil)
theorem own_wS (hw : ∀ d ∈ tables_1, d.before a0 Z = true) : ∀ a ∈ Bundle.stringAtoms, a.before a0 Z = true := by
  intro a ha
  simp only [Bundle.stringAtoms, List.mem_cons, List.not_mem_nil, or_false] at ha
  rcases ha with rfl | rfl | rfl | rfl | rfl | rfl | rfl
  · exact (w2 hw)
  · exact (w1 hw)
  · exact (w19 hw)
  · exact (w29 hw)
  · exact (w27 hw)
  · exact (w76 hw)
  · exact (w77 hw)
theorem pn_utf16 : plainName "java/lang/StringUTF16" = true := by first | (simp [plainName, overriddenIn]; done) | decide +kernel
theorem pf_str (n d : String) (q : plainFor ⟨"java/lang/String", n, d⟩ = true) : plainFor ⟨"java/lang/String", n, d⟩ = true := q
abbrev rm0 : Room := { frames := 0, cells := 0, slots := 0, locals := 0 }
theorem coderLen_met (hw : ∀ d ∈ tables_1, d.before a0 Z = true) {h : Heap} {b : Addr} {kb : ClassId} {z zz : Int32} {vs : List Value} {dv : Value} (F : Arv Z h b kb .byte z vs dv) :
    Met l Z consts_1 ⟨"java/lang/StringUTF16", "coderFromArrayLen", "([BI)B"⟩ jdk_52_method_15_code 2 (some .byte) [] rm0 #[.ref b, .int zz] h [] (fun v h' => v = some (.int (((zz - z).toUInt32 >>> ((31 : Int32) &&& 31).toUInt32).toInt32.toInt8.toInt32)) ∧ h = h') := by
  refine Met.of_walk (a0 := a0) (Ls := #[.val (.ref b), .val (.int zz)]) (plainFor_of_name pn_utf16) (own_hEL hw) rfl ?_
  refine Wl.iload_n 1 d6_0 rfl ?_
  refine Wl.aload_n 2 d6_1 rfl rfl ?_
  refine Wl.arraylength 3 d6_2 F ?_
  refine Wl.isub 4 d6_3 ?_
  refine Wl.bipush 6 (31 : Int32) d6_4 (by decide) ?_
  refine Wl.iushr 7 d6_6 ?_
  refine Wl.i2b 8 d6_7 ?_
  exact Wl.ireturn (t := .byte) d6_8 rfl (Jvm.Free.XT.narrow_b _) (by simp) (by decide) (by decide) ⟨rfl, rfl⟩
/-- the inner compress: the loop -/
theorem comp2_loop (hw : ∀ d ∈ tables_1, d.before a0 Z = true) {h0 : Heap} {b d : Addr} {kb kd : ClassId} {cs : List Int32} (hn : cs.length < 65536) (hlat : ∀ c ∈ cs, Lat c) (hne : b ≠ d) (j : Nat) :
    ∀ (i : Nat) (h : Heap) (o : Slot), i + j = cs.length → (o = .unset ∨ ∃ w, o = .val w ∧ w.category = 1) → Arv Z h b kb .char (Int32.ofNat cs.length) (cs.map Value.int) (.int 0) → Arv Z h d kd .byte (Int32.ofNat cs.length) (fil (cs.map byV) (.int 0) i) (.int 0) → Keep h0 h [d] →
    Wl l Z a0 consts_1 ⟨"java/lang/StringUTF16", "compress", "([CI[BII)I"⟩ jdk_52_method_21_code 7 (some .int) rm0 #[.ref b, .int 0, .ref d, .int 0, .int (Int32.ofNat cs.length)] (fun v h' => v = some (.int (Int32.ofNat cs.length)) ∧ Keep h0 h' [d] ∧ Arv Z h' d kd .byte (Int32.ofNat cs.length) (cs.map byV) (.int 0)) [d] h 0 0 3
      #[.val (.ref b), .val (.int (Int32.ofNat i)), .val (.ref d), .val (.int (Int32.ofNat i)), .val (.int (Int32.ofNat cs.length)), .val (.int (Int32.ofNat i)), o] [] := by
  induction j with
  | zero =>
    intro i h o hij ho Kb Kd K
    have hi : i = cs.length := by omega
    subst hi
    refine Wl.iload 5 d5_3 rfl ?_
    refine Wl.iload 7 d5_5 rfl ?_
    refine Wl.icmpY 44 d5_7 (flt Int32.lt_irrefl).2.1 ?_
    refine Wl.iload 46 d5_44 rfl ?_
    have e : fil (cs.map byV) (.int 0) cs.length = cs.map byV := by
      have := fil_all (cs.map byV) (.int 0); rwa [List.length_map] at this
    rw [e] at Kd
    exact Wl.ireturn (t := .int) d5_46 rfl rfl (by simp) (by decide) (by decide) ⟨rfl, K, Kd⟩
  | succ j ih =>
    intro i h o hij ho Kb Kd K
    have hi : i < cs.length := by omega
    have h31 : i < 2147483648 := by omega
    have hl : Lat cs[i] := hlat _ (List.getElem_mem hi)
    have hcl := nCl (i := cs.length) (by omega)
    refine Wl.iload 5 d5_3 rfl ?_
    refine Wl.iload 7 d5_5 rfl ?_
    refine Wl.icmpN 10 d5_7 (tlt ((nLt h31 (by omega)).mpr hi)).2.1 ?_
    refine Wl.aload_n 11 d5_10 rfl rfl ?_
    refine Wl.iload_n 12 d5_11 rfl ?_
    refine Wl.caload 13 i d5_12 Kb (nNn h31) (nCl h31) (by rw [hcl]; exact hi) (v := .int cs[i]) (by simp [List.getD_eq_getElem?_getD, hi]) ?_
    refine Wl.istore 15 #[.val (.ref b), .val (.int (Int32.ofNat i)), .val (.ref d), .val (.int (Int32.ofNat i)), .val (.int (Int32.ofNat cs.length)), .val (.int (Int32.ofNat i)), .val (.int cs[i])] d5_13 (XS.store1 (o := o) rfl ho rfl) ?_
    refine Wl.iload 17 d5_15 rfl ?_
    refine Wl.sipush 20 (255 : Int32) d5_17 (by decide) ?_
    refine Wl.icmpY 26 d5_20 (flt (lat_le hl)).2.2.2 ?_
    refine Wl.aload_n 27 d5_26 rfl rfl ?_
    refine Wl.iload_n 28 d5_27 rfl ?_
    refine Wl.iload 30 d5_28 rfl ?_
    refine Wl.i2b 31 d5_30 ?_
    refine Wl.bastore 32 i d5_31 Kd (List.mem_of_getElem? (i := 0) rfl) (nNn h31) (nCl h31) (by rw [hcl]; exact hi) (by rw [fil_len _ _ _ (by rw [List.length_map]; omega), List.length_map]; exact hi) ?_
    intro h' W Kd'
    rw [show nar .byte (cs[i]).toInt8.toInt32 = (cs[i]).toInt8.toInt32 from i2b_id _, fil_set (cs.map byV) (.int 0) _ i (by rw [List.length_map]; exact hi) (by simp [byV])] at Kd'
    refine Wl.iinc 35 #[.val (.ref b), .val (.int (Int32.ofNat (i + 1))), .val (.ref d), .val (.int (Int32.ofNat i)), .val (.int (Int32.ofNat cs.length)), .val (.int (Int32.ofNat i)), .val (.int cs[i])] (1 : Int32) d5_32 (by decide) rfl (by rw [nS]; rfl) ?_
    refine Wl.iinc 38 #[.val (.ref b), .val (.int (Int32.ofNat (i + 1))), .val (.ref d), .val (.int (Int32.ofNat (i + 1))), .val (.int (Int32.ofNat cs.length)), .val (.int (Int32.ofNat i)), .val (.int cs[i])] (1 : Int32) d5_35 (by decide) rfl (by rw [nS]; rfl) ?_
    refine Wl.iinc 41 #[.val (.ref b), .val (.int (Int32.ofNat (i + 1))), .val (.ref d), .val (.int (Int32.ofNat (i + 1))), .val (.int (Int32.ofNat cs.length)), .val (.int (Int32.ofNat (i + 1))), .val (.int cs[i])] (1 : Int32) d5_38 (by decide) rfl (by rw [nS]; rfl) ?_
    refine Wl.goto 3 d5_41 ?_
    exact ih (i + 1) h' _ (by omega) (Or.inr ⟨_, rfl, rfl⟩) (Kb.other W hne) Kd' (K.wr W (Or.inl (List.mem_of_getElem? (i := 0) rfl)))
theorem comp2_met (hw : ∀ d ∈ tables_1, d.before a0 Z = true) {h : Heap} {b d : Addr} {kb kd : ClassId} {cs : List Int32} (hn : cs.length < 65536) (hlat : ∀ c ∈ cs, Lat c) (hne : b ≠ d) (Kb : Arv Z h b kb .char (Int32.ofNat cs.length) (cs.map Value.int) (.int 0)) (Kd : Arv Z h d kd .byte (Int32.ofNat cs.length) (List.replicate cs.length (.int 0)) (.int 0)) :
    Met l Z consts_1 ⟨"java/lang/StringUTF16", "compress", "([CI[BII)I"⟩ jdk_52_method_21_code 7 (some .int) [] rm0 #[.ref b, .int 0, .ref d, .int 0, .int (Int32.ofNat cs.length)] h [d] (fun v h' => v = some (.int (Int32.ofNat cs.length)) ∧ Keep h h' [d] ∧ Arv Z h' d kd .byte (Int32.ofNat cs.length) (cs.map byV) (.int 0)) := by
  refine Met.of_walk (a0 := a0) (Ls := #[.val (.ref b), .val (.int 0), .val (.ref d), .val (.int 0), .val (.int (Int32.ofNat cs.length)), .unset, .unset]) (plainFor_of_name pn_utf16) (own_hEL hw) rfl ?_
  refine Wl.iconst 1 (0 : Int32) d5_0 (by decide) ?_
  refine Wl.istore 3 #[.val (.ref b), .val (.int 0), .val (.ref d), .val (.int 0), .val (.int (Int32.ofNat cs.length)), .val (.int 0), .unset] d5_1 rfl ?_
  exact comp2_loop hw hn hlat hne cs.length 0 h _ (by omega) (Or.inl rfl) Kb (by have e := fil_zero (cs.map byV) (.int 0); rw [List.length_map] at e; rw [e]; exact Kd) (Keep.refl h [d])
/-- compress(char[], int, int) -/
theorem comp1_met (hw : ∀ d ∈ tables_1, d.before a0 Z = true) {h : Heap} {b : Addr} {kb : ClassId} {cs : List Int32} {N : Nat} (hn : cs.length < 65536) (hN : cs.length ≤ N) (hN2 : N < 65536) (hlat : ∀ c ∈ cs, Lat c) (Kb : Arv Z h b kb .char (Int32.ofNat cs.length) (cs.map Value.int) (.int 0)) :
    Met l Z consts_1 ⟨"java/lang/StringUTF16", "compress", "([CII)[B"⟩ jdk_52_method_16_code 6 (some (.array .byte)) [] { frames := 1, cells := 1, slots := N, locals := 18 } #[.ref b, .int 0, .int (Int32.ofNat cs.length)] h [] (fun v h' => ∃ (d : Addr) (kd : ClassId), v = some (.ref d) ∧ h.size ≤ d ∧ Ext h h' ∧ Arv Z h' d kd .byte (Int32.ofNat cs.length) (cs.map byV) (.int 0)) := by
  refine Met.of_walk (a0 := a0) (Ls := #[.val (.ref b), .val (.int 0), .val (.int (Int32.ofNat cs.length)), .unset, .unset, .unset]) (plainFor_of_name pn_utf16) (own_hEL hw) rfl ?_
  refine Wl.iload_n 1 d4_0 rfl ?_
  refine Wl.newarray 3 N d4_1 (w19 hw) (nNn (by omega)) (by rw [nCl (by omega)]; exact hN) (by omega) (by show 0 + 1 ≤ 1; omega) (by show 0 + N ≤ N; omega) ?_
  intro d h1 kd q E A
  rw [nCl (by omega)] at A
  have A : Arv Z h1 d kd .byte (Int32.ofNat cs.length) (List.replicate cs.length (.int 0)) (.int 0) := A
  have hne : b ≠ d := Nat.ne_of_lt (by rw [q]; exact Kb.lt)
  refine Wl.astore_n 4 #[.val (.ref b), .val (.int 0), .val (.int (Int32.ofNat cs.length)), .val (.ref d), .unset, .unset] d4_3 rfl rfl ?_
  refine Wl.aload_n 5 d4_4 rfl rfl ?_
  refine Wl.iload_n 6 d4_5 rfl ?_
  refine Wl.aload_n 7 d4_6 rfl rfl ?_
  refine Wl.iconst 8 (0 : Int32) d4_7 (by decide) ?_
  refine Wl.iload_n 9 d4_8 rfl ?_
  refine Wl.static 12 (argsL := [.ref b, .int 0, .ref d, .int 0, .int (Int32.ofNat cs.length)]) d4_9 (w20 hw) (w21 hw) (w17 hw) (w22 hw) (show parseMethodDescriptor "([CI[BII)I" = some ⟨[.array .char, .int, .array .byte, .int, .int], some .int⟩ by decide +kernel) rfl (comp2_met hw hn hlat hne (Kb.ext E) A) (allS (List.mem_of_getElem? (i := 0) rfl) (fun _ q => nomatch q)) rfl rfl rfl (by decide) ⟨⟨by show 0 + 1 ≤ 1; omega, by show 0 + (7 + 11) + 0 ≤ 18; omega⟩, by show 0 + 1 + 0 ≤ 1; omega, by show 0 + N + 0 ≤ N; omega⟩ ?_
  intro v h2 hq _
  obtain ⟨rfl, K, A2⟩ := hq
  refine Wl.istore 14 #[.val (.ref b), .val (.int 0), .val (.int (Int32.ofNat cs.length)), .val (.ref d), .val (.int (Int32.ofNat cs.length)), .unset] d4_12 rfl ?_
  refine Wl.iload 16 d4_14 rfl ?_
  refine Wl.iload_n 17 d4_16 rfl ?_
  refine Wl.icmpY 57 d4_17 (teq rfl).1 ?_
  refine Wl.aload_n 58 d4_57 rfl rfl ?_
  exact Wl.areturn d4_58 rfl rfl rfl (by show 0 + 1 + 0 ≤ 1; omega) (by show 0 + N + 0 ≤ N; omega) ⟨d, kd, rfl, Nat.le_of_eq q.symm, extKeep E K (allS (Nat.le_of_eq q.symm) all0), A2⟩
/-- String(char[], int, int, Void) -/
theorem strV_met (hw : ∀ d ∈ tables_1, d.before a0 Z = true) (hcs : CSon Z) {h : Heap} {a b : Addr} {kb : ClassId} {cs : List Int32} {N : Nat} (hN : cs.length ≤ N) (hN2 : N < 65536) (hne0 : cs ≠ []) (hlat : ∀ c ∈ cs, Lat c) (E : Exa Z h a "java/lang/String") (FV : Fld Z h a "java/lang/String" "value" "[B" .null) (FC : Fld Z h a "java/lang/String" "coder" "B" (.int 0)) (Kb : Arv Z h b kb .char (Int32.ofNat cs.length) (cs.map Value.int) (.int 0)) :
    Met l Z consts_1 ⟨"java/lang/String", "<init>", "([CIILjava/lang/Void;)V"⟩ jdk_42_method_149_code 6 none [] { frames := 2, cells := 4, slots := N + 8, locals := 36 } #[.ref a, .ref b, .int 0, .int (Int32.ofNat cs.length), .null] h [a] (fun v h' => v = none ∧ Keep h h' [a] ∧ Stl Z h' a cs) := by
  refine Met.of_walk (a0 := a0) (Ls := #[.val (.ref a), .val (.ref b), .val (.int 0), .val (.int (Int32.ofNat cs.length)), .val .null, .unset]) (plainFor_of_name pn_str) (own_hEL hw) rfl ?_
  refine Wl.aload_n 1 d2_0 rfl rfl ?_
  refine Wl.initO 4 d2_1 (w11 hw) (w12 hw) (w13 hw) rfl (by show 1 ≤ 2; omega) (by show 0 + 12 ≤ 36; omega) ?_
  refine Wl.iload_n 5 d2_4 rfl ?_
  obtain ⟨cst, hS, hcn⟩ := hcs
  have L1 : Laid Z a0 "java/lang/String" "java/lang/String" "value" "[B" := Or.inr (w29 hw)
  have L2 : Laid Z a0 "java/lang/String" "java/lang/String" "coder" "B" := Or.inr (w27 hw)
  have hsl : Jvm.RoadKit.slotOf Z "java/lang/String" "value" "[B" ≠ Jvm.RoadKit.slotOf Z "java/lang/String" "coder" "B" := slot_ne L1 L2 (by decide) (t := .array .byte) (t' := .byte) (by decide) (by decide)
  by_cases h0 : cs = []
  · exact absurd h0 hne0
  · have hpos : 0 < cs.length := List.length_pos_iff.mpr h0
    refine Wl.ifY 27 d2_5 (feq (fun q => by have := congrArg Int32.toInt q; rw [nI (by omega), show (0 : Int32).toInt = 0 by decide] at this; omega)).2 ?_
    refine Wl.getstatic 30 d2_27 (w14 hw) hS ?_
    refine Wl.ifN 33 d2_30 (feq hcn).1 ?_
    refine Wl.aload_n 34 d2_33 rfl rfl ?_
    refine Wl.iload_n 35 d2_34 rfl ?_
    refine Wl.iload_n 36 d2_35 rfl ?_
    refine Wl.static 39 (argsL := [.ref b, .int 0, .int (Int32.ofNat cs.length)]) d2_36 (w15 hw) (w16 hw) (w17 hw) (w18 hw) (show parseMethodDescriptor "([CII)[B" = some ⟨[.array .char, .int, .int], some (.array .byte)⟩ by decide +kernel) rfl (comp1_met hw (by omega) hN hN2 hlat Kb) (fun _ q => nomatch q) rfl rfl rfl (by decide) ⟨⟨by show 1 + 1 ≤ 2; omega, by show 0 + (6 + 11) + 18 ≤ 36; omega⟩, by show 0 + 1 ≤ 4; omega, by show 0 + N ≤ N + 8; omega⟩ ?_
    intro v h1 hq _
    obtain ⟨d, kd, rfl, hd, E1, A1⟩ := hq
    have hne : d ≠ a := Nat.ne_of_gt (Nat.lt_of_lt_of_le E.lt hd)
    refine Wl.astore 41 #[.val (.ref a), .val (.ref b), .val (.int 0), .val (.int (Int32.ofNat cs.length)), .val .null, .val (.ref d)] d2_39 rfl rfl ?_
    refine Wl.aload_n 42 d2_41 rfl rfl ?_
    refine Wl.aload 44 d2_42 rfl rfl ?_
    refine Wl.iload_n 45 d2_44 rfl ?_
    refine Wl.static 48 (argsL := [.ref d, .int (Int32.ofNat cs.length)]) d2_45 (w23 hw) (w24 hw) (w17 hw) (w25 hw) (show parseMethodDescriptor "([BI)B" = some ⟨[.array .byte, .int], some .byte⟩ by decide +kernel) rfl (coderLen_met hw A1) (fun _ q => nomatch q) rfl rfl rfl (by decide) ⟨⟨by show 0 + 1 ≤ 2; omega, by show 1 + (2 + 11) + 0 ≤ 36; omega⟩, by show 0 + 1 + 0 ≤ 4; omega, by show 0 + N + 0 ≤ N + 8; omega⟩ ?_
    intro v h2 hq _
    obtain ⟨rfl, rfl⟩ := hq
    have e0 : ((Int32.ofNat cs.length - Int32.ofNat cs.length).toUInt32 >>> ((31 : Int32) &&& 31).toUInt32).toInt32.toInt8.toInt32 = 0 := by rw [Int32.sub_self]; decide
    rw [e0]
    refine Wl.putfield 51 d2_48 (w26 hw) (FC.ext E1) (E.ext E1) (Or.inr ⟨(w27 hw), rfl, rfl⟩) (w1 hw) (ty := .byte) (by decide) rfl rfl (List.mem_of_getElem? (i := 0) rfl) ?_
    intro h3 W3
    refine Wl.aload_n 52 d2_51 rfl rfl ?_
    refine Wl.aload 54 d2_52 rfl rfl ?_
    refine Wl.putfield 57 d2_54 (w28 hw) ((FV.ext E1).other W3 (Or.inr hsl)) ((E.ext E1).wr W3) (Or.inr ⟨(w29 hw), rfl, rfl⟩) (w1 hw) (ty := .array .byte) (by decide) rfl rfl (List.mem_of_getElem? (i := 0) rfl) ?_
    intro h4 W4
    refine Wl.return_ d2_57 rfl (by show 0 + 1 + 0 ≤ 4; omega) (by show 0 + N + 0 ≤ N + 8; omega) ⟨rfl, ?_, ?_⟩
    · exact ((((Keep.refl h [a]).ext E1)).wr W3 (Or.inl (List.mem_of_getElem? (i := 0) rfl))).wr W4 (Or.inl (List.mem_of_getElem? (i := 0) rfl))
    · exact ⟨d, kd, ((E.ext E1).wr W3).wr W4, ((FC.ext E1).same W3).other W4 (Or.inr hsl.symm), ((FV.ext E1).other W3 (Or.inr hsl)).same W4, (A1.other W3 hne).other W4 hne, hlat, by omega⟩
/-- String(char[]) -/
theorem strC_met (hw : ∀ d ∈ tables_1, d.before a0 Z = true) (hcs : CSon Z) {h : Heap} {a b : Addr} {kb : ClassId} {cs : List Int32} (N : Nat) (hN : cs.length ≤ N) (hN2 : N < 65536) (hne0 : cs ≠ []) (hlat : ∀ c ∈ cs, Lat c) (E : Exa Z h a "java/lang/String") (FV : Fld Z h a "java/lang/String" "value" "[B" .null) (FC : Fld Z h a "java/lang/String" "coder" "B" (.int 0)) (Kb : Arv Z h b kb .char (Int32.ofNat cs.length) (cs.map Value.int) (.int 0)) :
    Met l Z consts_1 ⟨"java/lang/String", "<init>", "([C)V"⟩ jdk_42_method_3_code 2 none [] { frames := 3, cells := 4, slots := N + 8, locals := 53 } #[.ref a, .ref b] h [a] (fun v h' => v = none ∧ Keep h h' [a] ∧ Stl Z h' a cs) := by
  refine Met.of_walk (a0 := a0) (Ls := #[.val (.ref a), .val (.ref b)]) (plainFor_of_name pn_str) (own_hEL hw) rfl ?_
  refine Wl.aload_n 1 d1_0 rfl rfl ?_
  refine Wl.aload_n 2 d1_1 rfl rfl ?_
  refine Wl.iconst 3 (0 : Int32) d1_2 (by decide) ?_
  refine Wl.aload_n 4 d1_3 rfl rfl ?_
  refine Wl.arraylength 5 d1_4 Kb ?_
  refine Wl.aconst_null 6 d1_5 ?_
  refine Wl.special 9 (argsL := [.ref b, .int 0, .int (Int32.ofNat cs.length), .null]) d1_6 (w7 hw) (w8 hw) (w2 hw) (w10 hw) (show parseMethodDescriptor "([CIILjava/lang/Void;)V" = some ⟨[.array .char, .int, .int, .object "java/lang/Void"], none⟩ by decide +kernel) rfl (strV_met hw hcs hN hN2 hne0 hlat E FV FC Kb) (allS (List.mem_of_getElem? (i := 0) rfl) (fun _ q => nomatch q)) rfl rfl rfl rfl (by decide) ⟨⟨by show 2 + 1 ≤ 3; omega, by show 0 + (6 + 11) + 36 ≤ 53; omega⟩, by show 0 + 4 ≤ 4; omega, by show 0 + (N + 8) ≤ N + 8; omega⟩ ?_
  intro v h1 hq _
  obtain ⟨rfl, K1, S1⟩ := hq
  exact Wl.return_ d1_9 rfl (by show 0 + 4 ≤ 4; omega) (by show 0 + (N + 8) ≤ N + 8; omega) ⟨rfl, K1, S1⟩
end StrInit

section OpLen
variable {l : Launch} {Z : State} {a0 : Array Value}
theorem coder_met (hw : ∀ d ∈ tables_1, d.before a0 Z = true) (hcs : CSon Z) {h : Heap} {a : Addr} {cd : Int32} (hnar : narrow .byte (.int cd) = .int cd) (FC : Fld Z h a "java/lang/String" "coder" "B" (.int cd)) :
    Met l Z consts_1 ⟨"java/lang/String", "coder", "()B"⟩ jdk_42_method_152_code 1 (some .byte) [] rm0 #[.ref a] h [] (fun v h' => v = some (.int cd) ∧ h = h') := by
  obtain ⟨cst, hS, hcn⟩ := hcs
  refine Met.of_walk (a0 := a0) (Ls := #[.val (.ref a)]) (plainFor_of_name pn_str) (own_hEL hw) rfl ?_
  refine Wl.getstatic 3 d11_0 (w14 hw) hS ?_
  refine Wl.ifN 6 d11_3 (feq hcn).1 ?_
  refine Wl.aload_n 7 d11_6 rfl rfl ?_
  refine Wl.getfield 10 d11_7 (w26 hw) FC ?_
  refine Wl.goto 14 d11_10 ?_
  exact Wl.ireturn (t := .byte) d11_14 rfl hnar (by simp) (nle rfl) (nle rfl) ⟨rfl, rfl⟩
theorem len_met (hw : ∀ d ∈ tables_1, d.before a0 Z = true) (hcs : CSon Z) {h : Heap} {a : Addr} {cs : List Int32} (S : Stl Z h a cs) :
    Met l Z consts_1 ⟨"java/lang/String", "length", "()I"⟩ jdk_42_method_54_code 1 (some .int) [] { frames := 1, cells := 0, slots := 0, locals := 13 } #[.ref a] h [] (fun v h' => v = some (.int (Int32.ofNat cs.length)) ∧ h = h') := by
  obtain ⟨b, kb, X, C, Vl, A, hlat, hn⟩ := S
  refine Met.of_walk (a0 := a0) (Ls := #[.val (.ref a)]) (plainFor_of_name pn_str) (own_hEL hw) rfl ?_
  refine Wl.aload_n 1 d10_0 rfl rfl ?_
  refine Wl.getfield 4 d10_1 (w28 hw) Vl ?_
  refine Wl.arraylength 5 d10_4 A ?_
  refine Wl.aload_n 6 d10_5 rfl rfl ?_
  refine Wl.virtual 9 (argsL := []) d10_6 (w48 hw) (w49 hw) (w51 hw) (w50 hw) (w2 hw) (w52 hw) (nf_sel (w51 hw) rfl) X (show parseMethodDescriptor "()B" = some ⟨[], some .byte⟩ by decide +kernel) rfl (coder_met hw hcs rfl C) (fun _ q => nomatch q) rfl rfl rfl (by decide) ⟨⟨nle rfl, nle rfl⟩, nle rfl, nle rfl⟩ ?_
  intro v h1 hq _
  obtain ⟨rfl, rfl⟩ := hq
  show Wl _ _ _ _ _ _ _ _ _ _ _ _ _ _ _ _ _ [.int 0, .int (Int32.ofNat cs.length)]
  refine Wl.ishr 10 d10_9 ?_
  rw [show (Int32.ofNat cs.length >>> ((0 : Int32) &&& 31)) = Int32.ofNat cs.length by simp]
  exact Wl.ireturn (t := .int) d10_10 rfl rfl (by simp) (nle rfl) (nle rfl) ⟨rfl, rfl⟩
end OpLen

/-- the formatter of an index that lies outside: a reference -/
def Fmt (Z : State) : Prop := ∃ f : Value, Sta Z Z.heap "jdk/internal/util/Preconditions" "SIOOBE_FORMATTER" "Ljava/util/function/BiFunction;" f ∧ f.isRef = true
section OpChar
variable {l : Launch} {Z : State} {a0 : Array Value}
theorem pn_prec : plainName "jdk/internal/util/Preconditions" = true := by first | (simp [plainName, overriddenIn]; done) | decide +kernel
theorem pn_lat : plainName "java/lang/StringLatin1" = true := by first | (simp [plainName, overriddenIn]; done) | decide +kernel
theorem isLatin1_met (hw : ∀ d ∈ tables_1, d.before a0 Z = true) (hcs : CSon Z) {h : Heap} {a : Addr} (FC : Fld Z h a "java/lang/String" "coder" "B" (.int 0)) :
    Met l Z consts_1 ⟨"java/lang/String", "isLatin1", "()Z"⟩ jdk_42_method_154_code 1 (some .boolean) [] rm0 #[.ref a] h [] (fun v h' => v = some (.int 1) ∧ h = h') := by
  obtain ⟨cst, hS, hcn⟩ := hcs
  refine Met.of_walk (a0 := a0) (Ls := #[.val (.ref a)]) (plainFor_of_name pn_str) (own_hEL hw) rfl ?_
  refine Wl.getstatic 3 d13_0 (w14 hw) hS ?_
  refine Wl.ifN 6 d13_3 (feq hcn).1 ?_
  refine Wl.aload_n 7 d13_6 rfl rfl ?_
  refine Wl.getfield 10 d13_7 (w26 hw) FC ?_
  refine Wl.ifN 13 d13_10 (teq rfl).2 ?_
  refine Wl.iconst 14 (1 : Int32) d13_13 (by decide) ?_
  refine Wl.goto 18 d13_14 ?_
  exact Wl.ireturn (t := .boolean) d13_18 rfl rfl (by simp) (nle rfl) (nle rfl) ⟨rfl, rfl⟩
theorem chk_met (hw : ∀ d ∈ tables_1, d.before a0 Z = true) {h : Heap} {i z : Int32} {f : Value} (hf : f.isRef = true) (h1 : ¬ i < 0) (h2 : i < z) :
    Met l Z consts_1 ⟨"jdk/internal/util/Preconditions", "checkIndex", "(IILjava/util/function/BiFunction;)I"⟩ jdk_41_method_11_code 3 (some .int) [] rm0 #[.int i, .int z, f] h [] (fun v h' => v = some (.int i) ∧ h = h') := by
  refine Met.of_walk (a0 := a0) (Ls := #[.val (.int i), .val (.int z), .val f]) (plainFor_of_name pn_prec) (own_hEL hw) (by rcases ref_cases hf with rfl | ⟨x, rfl⟩ <;> rfl) ?_
  refine Wl.iload_n 1 d16_0 rfl ?_
  refine Wl.ifN 4 d16_1 (flt h1).1 ?_
  refine Wl.iload_n 5 d16_4 rfl ?_
  refine Wl.iload_n 6 d16_5 rfl ?_
  refine Wl.icmpY 16 d16_6 (tlt h2).1 ?_
  refine Wl.iload_n 17 d16_16 rfl ?_
  exact Wl.ireturn (t := .int) d16_17 rfl rfl (by simp) (nle rfl) (nle rfl) ⟨rfl, rfl⟩
theorem chkS_met (hw : ∀ d ∈ tables_1, d.before a0 Z = true) (hfm : Fmt Z) {h : Heap} {i z : Int32} (h1 : ¬ i < 0) (h2 : i < z) :
    Met l Z consts_1 ⟨"java/lang/String", "checkIndex", "(II)V"⟩ jdk_42_method_155_code 2 none [] { frames := 1, cells := 0, slots := 0, locals := 14 } #[.int i, .int z] h [] (fun v h' => v = none ∧ h = h') := by
  obtain ⟨f, hS, hf⟩ := hfm
  refine Met.of_walk (a0 := a0) (Ls := #[.val (.int i), .val (.int z)]) (plainFor_of_name pn_str) (own_hEL hw) rfl ?_
  refine Wl.iload_n 1 d15_0 rfl ?_
  refine Wl.iload_n 2 d15_1 rfl ?_
  refine Wl.getstatic 5 d15_2 (w70 hw) hS ?_
  refine Wl.static 8 (argsL := [.int i, .int z, f]) d15_5 (w72 hw) (w73 hw) (w71 hw) (w74 hw) (show parseMethodDescriptor "(IILjava/util/function/BiFunction;)I" = some ⟨[.int, .int, .object "java/util/function/BiFunction"], some .int⟩ by decide +kernel) rfl (chk_met hw hf h1 h2) (fun _ q => nomatch q) rfl rfl rfl (by decide) ⟨⟨nle rfl, nle rfl⟩, nle rfl, nle rfl⟩ ?_
  intro v h1 hq _
  obtain ⟨rfl, rfl⟩ := hq
  show Wl _ _ _ _ _ _ _ _ _ _ _ _ _ _ _ _ _ [.int i]
  refine Wl.pop 9 d15_8 rfl ?_
  exact Wl.return_ d15_9 rfl (nle rfl) (nle rfl) ⟨rfl, rfl⟩
theorem charL_met (hw : ∀ d ∈ tables_1, d.before a0 Z = true) (hfm : Fmt Z) {h : Heap} {b : Addr} {kb : ClassId} {cs : List Int32} (A : Arv Z h b kb .byte (Int32.ofNat cs.length) (cs.map byV) (.int 0)) (hlat : ∀ c ∈ cs, Lat c) (hn : cs.length < 65536) {i : Nat} (hi : i < cs.length) :
    Met l Z consts_1 ⟨"java/lang/StringLatin1", "charAt", "([BI)C"⟩ jdk_43_method_2_code 2 (some .char) [] { frames := 2, cells := 0, slots := 0, locals := 27 } #[.ref b, .int (Int32.ofNat i)] h [] (fun v h' => v = some (.int cs[i]) ∧ h = h') := by
  have hl : Lat cs[i] := hlat _ (List.getElem_mem hi)
  refine Met.of_walk (a0 := a0) (Ls := #[.val (.ref b), .val (.int (Int32.ofNat i))]) (plainFor_of_name pn_lat) (own_hEL hw) rfl ?_
  refine Wl.iload_n 1 d14_0 rfl ?_
  refine Wl.aload_n 2 d14_1 rfl rfl ?_
  refine Wl.arraylength 3 d14_2 A ?_
  refine Wl.static 6 (argsL := [.int (Int32.ofNat i), .int (Int32.ofNat cs.length)]) d14_3 (w67 hw) (w68 hw) (w2 hw) (w69 hw) (show parseMethodDescriptor "(II)V" = some ⟨[.int, .int], none⟩ by decide +kernel) rfl (chkS_met hw hfm (nNn (by omega)) ((nLt (by omega) (by omega)).mpr hi)) (fun _ q => nomatch q) rfl rfl rfl (by decide) ⟨⟨nle rfl, nle rfl⟩, nle rfl, nle rfl⟩ ?_
  intro v h1 hq _
  obtain ⟨rfl, rfl⟩ := hq
  show Wl _ _ _ _ _ _ _ _ _ _ _ _ _ _ _ _ _ []
  refine Wl.aload_n 7 d14_6 rfl rfl ?_
  refine Wl.iload_n 8 d14_7 rfl ?_
  refine Wl.baload 9 i d14_8 A (nNn (by omega)) (nCl (by omega)) (by rw [nCl (by omega)]; exact hi) (v := .int (cs[i]).toInt8.toInt32) (by simp [List.getD_eq_getElem?_getD, hi, byV]) ?_
  refine Wl.sipush 12 (255 : Int32) d14_9 (by decide) ?_
  refine Wl.iand 13 d14_12 ?_
  refine Wl.i2c 14 d14_13 ?_
  rw [lo8 hl, i2c_id hl.ch]
  exact Wl.ireturn (t := .char) d14_14 rfl (narC hl.ch) (by simp) (nle rfl) (nle rfl) ⟨rfl, rfl⟩
theorem charAt_met (hw : ∀ d ∈ tables_1, d.before a0 Z = true) (hcs : CSon Z) (hfm : Fmt Z) {h : Heap} {a : Addr} {cs : List Int32} (S : Stl Z h a cs) {i : Nat} (hi : i < cs.length) :
    Met l Z consts_1 ⟨"java/lang/String", "charAt", "(I)C"⟩ jdk_42_method_56_code 2 (some .char) [] { frames := 3, cells := 0, slots := 0, locals := 40 } #[.ref a, .int (Int32.ofNat i)] h [] (fun v h' => v = some (.int cs[i]) ∧ h = h') := by
  obtain ⟨b, kb, X, C, Vl, A, hlat, hn⟩ := S
  have hl : Lat cs[i] := hlat _ (List.getElem_mem hi)
  refine Met.of_walk (a0 := a0) (Ls := #[.val (.ref a), .val (.int (Int32.ofNat i))]) (plainFor_of_name pn_str) (own_hEL hw) rfl ?_
  refine Wl.aload_n 1 d12_0 rfl rfl ?_
  refine Wl.virtual 4 (argsL := []) d12_1 (w58 hw) (w59 hw) (w61 hw) (w60 hw) (w2 hw) (w62 hw) (nf_sel (w61 hw) rfl) X (show parseMethodDescriptor "()Z" = some ⟨[], some .boolean⟩ by decide +kernel) rfl (isLatin1_met hw hcs C) (fun _ q => nomatch q) rfl rfl rfl (by decide) ⟨⟨nle rfl, nle rfl⟩, nle rfl, nle rfl⟩ ?_
  intro v h1 hq _
  obtain ⟨rfl, rfl⟩ := hq
  show Wl _ _ _ _ _ _ _ _ _ _ _ _ _ _ _ _ _ [.int 1]
  refine Wl.ifN 7 d12_4 (by decide) ?_
  refine Wl.aload_n 8 d12_7 rfl rfl ?_
  refine Wl.getfield 11 d12_8 (w28 hw) Vl ?_
  refine Wl.iload_n 12 d12_11 rfl ?_
  refine Wl.static 15 (argsL := [.ref b, .int (Int32.ofNat i)]) d12_12 (w63 hw) (w64 hw) (w65 hw) (w66 hw) (show parseMethodDescriptor "([BI)C" = some ⟨[.array .byte, .int], some .char⟩ by decide +kernel) rfl (charL_met hw hfm A hlat hn hi) (fun _ q => nomatch q) rfl rfl rfl (by decide) ⟨⟨nle rfl, nle rfl⟩, nle rfl, nle rfl⟩ ?_
  intro v h2 hq _
  obtain ⟨rfl, rfl⟩ := hq
  show Wl _ _ _ _ _ _ _ _ _ _ _ _ _ _ _ _ _ [.int cs[i]]
  exact Wl.ireturn (t := .char) d12_15 rfl (narC hl.ch) (by simp) (nle rfl) (nle rfl) ⟨rfl, rfl⟩
end OpChar

/-! UTF-16 Strings (little endian, as STR-35's sister set says of StringUTF16's statics) -/
def U16on (Z : State) : Prop := Sta Z Z.heap "java/lang/StringUTF16" "$assertionsDisabled" "Z" (.int 1) ∧ Sta Z Z.heap "java/lang/StringUTF16" "HI_BYTE_SHIFT" "I" (.int 0) ∧ Sta Z Z.heap "java/lang/StringUTF16" "LO_BYTE_SHIFT" "I" (.int 8)
def loB (c : Int32) : Int32 := (c >>> ((0 : Int32) &&& 31)).toInt8.toInt32
def hiB (c : Int32) : Int32 := (c >>> ((8 : Int32) &&& 31)).toInt8.toInt32
/-- the bytes of chars, two each -/
def b16 : List Int32 → List Value
  | [] => []
  | c :: cs => .int (loB c) :: .int (hiB c) :: b16 cs
theorem b16_len : ∀ cs : List Int32, (b16 cs).length = 2 * cs.length
  | [] => rfl
  | c :: cs => by simp [b16, b16_len cs]; omega
theorem b16_get : ∀ (cs : List Int32) (i : Nat) (h : i < cs.length), (b16 cs).getD (2 * i) (.int 0) = .int (loB cs[i]) ∧ (b16 cs).getD (2 * i + 1) (.int 0) = .int (hiB cs[i])
  | [], i, h => absurd h (Nat.not_lt_zero _)
  | c :: cs, 0, _ => ⟨rfl, rfl⟩
  | c :: cs, i + 1, h => by
    have q := b16_get cs i (Nat.lt_of_succ_lt_succ h)
    rw [show 2 * (i + 1) = 2 * i + 2 by omega, show 2 * i + 2 + 1 = (2 * i + 1) + 2 by omega]
    exact q
/-- the first i chars' bytes laid, the rest 0 -/
def fil16 (cs : List Int32) (i : Nat) : List Value := b16 (cs.take i) ++ List.replicate (2 * (cs.length - i)) (.int 0)
theorem fil16_len (cs : List Int32) (i : Nat) (hi : i ≤ cs.length) : (fil16 cs i).length = 2 * cs.length := by
  simp [fil16, b16_len]; omega
theorem fil16_zero (cs : List Int32) : fil16 cs 0 = List.replicate (2 * cs.length) (.int 0) := by simp [fil16, b16]
theorem fil16_all (cs : List Int32) : fil16 cs cs.length = b16 cs := by simp [fil16]
theorem b16_app : ∀ (xs ys : List Int32), b16 (xs ++ ys) = b16 xs ++ b16 ys
  | [], ys => rfl
  | x :: xs, ys => by simp [b16, b16_app xs ys]
theorem fil16_set (cs : List Int32) (i : Nat) (hi : i < cs.length) : ((fil16 cs i).set (2 * i) (.int (loB cs[i]))).set (2 * i + 1) (.int (hiB cs[i])) = fil16 cs (i + 1) := by
  have hl : (b16 (cs.take i)).length = 2 * i := by rw [b16_len, List.length_take]; omega
  have hr : List.replicate (2 * (cs.length - i)) (Value.int 0) = .int 0 :: .int 0 :: List.replicate (2 * (cs.length - (i + 1))) (.int 0) := by
    rw [show 2 * (cs.length - i) = 2 * (cs.length - (i + 1)) + 1 + 1 by omega, List.replicate_succ, List.replicate_succ]
  have ht : cs.take (i + 1) = cs.take i ++ [cs[i]] := by rw [List.take_succ_eq_append_getElem hi]
  unfold fil16
  rw [hr, ht, b16_app, List.set_append_right _ _ (show (b16 (List.take i cs)).length ≤ 2 * i by omega), hl, show 2 * i - 2 * i = 0 by omega, List.set_cons_zero, List.set_append_right _ _ (show (b16 (List.take i cs)).length ≤ 2 * i + 1 by omega), hl, show 2 * i + 1 - 2 * i = 1 by omega]
  simp [b16, List.append_assoc]
/-- a char out of its two bytes -/
theorem join16 {c : Int32} (q : Ch c) : (((loB c &&& 255) <<< ((0 : Int32) &&& 31)) ||| ((hiB c &&& 255) <<< ((8 : Int32) &&& 31))).toUInt32.toUInt16.toUInt32.toInt32 = c := by
  have e1 : (loB c &&& 255).toInt = c.toInt % 256 := by
    have h1 := c_mask (loB c) 255 8 (by decide) (by decide)
    have h2 := c_i2b (c >>> ((0 : Int32) &&& 31))
    have h3 := c_ishr c 0 0 (by decide)
    rw [show ((2 ^ 0 : Nat) : Int) = 1 by decide] at h3
    unfold loB at h1 ⊢
    rw [h1]; omega
  have e2 : (hiB c &&& 255).toInt = c.toInt / 256 % 256 := by
    have h1 := c_mask (hiB c) 255 8 (by decide) (by decide)
    have h2 := c_i2b (c >>> ((8 : Int32) &&& 31))
    have h3 := c_ishr c 8 8 (by decide)
    rw [show ((2 ^ 8 : Nat) : Int) = 256 by decide] at h3
    unfold hiB at h1 ⊢
    rw [h1]; omega
  have f1 := c_ishl (loB c &&& 255) 0 0 (by decide)
  have f2 := c_ishl (hiB c &&& 255) 8 8 (by decide)
  rw [show ((2 ^ 0 : Nat) : Int) = 1 by decide] at f1
  rw [show ((2 ^ 8 : Nat) : Int) = 256 by decide] at f2
  have r1 := rng32 ((loB c &&& 255) <<< ((0 : Int32) &&& 31))
  have r2 := rng32 ((hiB c &&& 255) <<< ((8 : Int32) &&& 31))
  have q1 := q.1; have q2 := q.2
  have g1 : ((loB c &&& 255) <<< ((0 : Int32) &&& 31)).toInt = c.toInt % 256 := by omega
  have g2 : ((hiB c &&& 255) <<< ((8 : Int32) &&& 31)).toInt = c.toInt / 256 * 256 := by omega
  have g3 := c_or' ((loB c &&& 255) <<< ((0 : Int32) &&& 31)) ((hiB c &&& 255) <<< ((8 : Int32) &&& 31)) 8 (by decide) 256 (by decide) (by omega) (by omega) (by omega)
  have r3 := rng32 (((loB c &&& 255) <<< ((0 : Int32) &&& 31)) ||| ((hiB c &&& 255) <<< ((8 : Int32) &&& 31)))
  have g4 : (((loB c &&& 255) <<< ((0 : Int32) &&& 31)) ||| ((hiB c &&& 255) <<< ((8 : Int32) &&& 31))) = c := by
    apply Int32.toInt_inj.mp; omega
  rw [g4, i2c_id q]
/-- a String of chars that needs UTF-16 -/
def Sth (Z : State) (h : Heap) (a : Addr) (cs : List Int32) : Prop :=
  ∃ (b : Addr) (kb : ClassId), Exa Z h a "java/lang/String" ∧ Fld Z h a "java/lang/String" "coder" "B" (.int 1) ∧ Fld Z h a "java/lang/String" "value" "[B" (.ref b) ∧ Arv Z h b kb .byte (Int32.ofNat (2 * cs.length)) (b16 cs) (.int 0) ∧ (∀ c ∈ cs, Ch c) ∧ cs.length < 65536
theorem Sth.ext {Z : State} {h h' : Heap} {a : Addr} {cs : List Int32} (S : Sth Z h a cs) (E : Ext h h') : Sth Z h' a cs := by
  obtain ⟨b, kb, h1, h2, h3, h4, r⟩ := S
  exact ⟨b, kb, h1.ext E, h2.ext E, h3.ext E, h4.ext E, r⟩
/-- a String of chars, in either form -/
def Stw (Z : State) (h : Heap) (a : Addr) (cs : List Int32) : Prop := Stl Z h a cs ∨ Sth Z h a cs
theorem Stw.ext {Z : State} {h h' : Heap} {a : Addr} {cs : List Int32} (S : Stw Z h a cs) (E : Ext h h') : Stw Z h' a cs := S.imp (·.ext E) (·.ext E)
theorem Stw.exa {Z : State} {h : Heap} {a : Addr} {cs : List Int32} (S : Stw Z h a cs) : Exa Z h a "java/lang/String" := S.elim Stl.exa fun S => by obtain ⟨b, kb, h1, -⟩ := S; exact h1
theorem Stw.ch {Z : State} {h : Heap} {a : Addr} {cs : List Int32} (S : Stw Z h a cs) : (∀ c ∈ cs, Ch c) ∧ cs.length < 65536 := by
  rcases S with S | S
  · obtain ⟨b, kb, -, -, -, -, hl, hn⟩ := S; exact ⟨fun c q => (hl c q).ch, hn⟩
  · obtain ⟨b, kb, -, -, -, -, hl, hn⟩ := S; exact ⟨hl, hn⟩
theorem lat_of {c : Int32} (q : Ch c) (h : ¬ (255 : Int32) < c) : Lat c := ⟨q.1, by
  rw [Int32.lt_iff_toInt_lt] at h
  have e : (255 : Int32).toInt = 255 := by decide
  omega⟩
theorem gt_of {c : Int32} (q : Ch c) (h : ¬ Lat c) : (255 : Int32) < c := by
  rw [Int32.lt_iff_toInt_lt]
  have e : (255 : Int32).toInt = 255 := by decide
  rcases Int.lt_or_le 255 c.toInt with g | g
  · omega
  · exact absurd ⟨q.1, by omega⟩ h
theorem nDbl {i : Nat} (hi : i < 1073741824) : Int32.ofNat i <<< ((1 : Int32) &&& 31) = Int32.ofNat (2 * i) := by
  apply Int32.toInt_inj.mp
  have h := c_ishl (Int32.ofNat i) 1 1 (by decide)
  have r := rng32 (Int32.ofNat i <<< ((1 : Int32) &&& 31))
  rw [nI (by omega), show ((2 ^ 1 : Nat) : Int) = 2 by decide] at h
  rw [nI (by omega)]
  omega
theorem nHalf {i : Nat} (hi : i < 1073741824) : Int32.ofNat (2 * i) >>> ((1 : Int32) &&& 31) = Int32.ofNat i := by
  apply Int32.toInt_inj.mp
  have h := c_ishr (Int32.ofNat (2 * i)) 1 1 (by decide)
  rw [nI (by omega), show ((2 ^ 1 : Nat) : Int) = 2 by decide] at h
  rw [nI (by omega), h]
  omega
theorem sign1 {x : Int32} (h : x.toInt < 0) : (x.toUInt32 >>> ((31 : Int32) &&& 31).toUInt32).toInt32.toInt8.toInt32 = 1 := by
  have h1 := c_iushr x 31 31 (by decide) (by decide)
  have r := rng32 x
  have e : ((x.toUInt32 >>> ((31 : Int32) &&& 31).toUInt32).toInt32) = 1 := by
    apply Int32.toInt_inj.mp
    rw [h1, show ((2 ^ 31 : Nat) : Int) = 2147483648 by decide]
    have : (1 : Int32).toInt = 1 := by decide
    omega
  rw [e]; decide
theorem eqS {args : Array Value} {first s : State} {o : Option Outcome} {idx : List Nat} {t : Jvm.Term} {z : Int32} (h : (Jvm.Cond.eq t (.int z)).value args first o s idx = some true) : t.eval args first o idx s = some (.int z) := by
  obtain ⟨x, w, hx, hw, -, k⟩ := cmp_v (Or.inl h)
  rw [Term.int_eval] at hw
  cases hw
  obtain ⟨q, rfl⟩ := k
  rw [hx]
  have e : (Jvm.Cond.eq t (.int z)).value args first o s idx = some (decide (q = z)) := by simp [Cond.value, hx, Term.int_eval]
  rw [gotT e h]
theorem chN : ∀ c ∈ ([] : List Int32), Ch c := fun _ q => nomatch q
theorem chC {x : Int32} {xs : List Int32} (p : Ch x) (r : ∀ c ∈ xs, Ch c) : ∀ c ∈ x :: xs, Ch c := fun c q => (List.mem_cons.mp q).elim (fun e => e ▸ p) (r c)
section Utf16
variable {l : Launch} {Z : State} {a0 : Array Value}
theorem ulen_met (hw : ∀ d ∈ tables_1, d.before a0 Z = true) {h : Heap} {b : Addr} {kb : ClassId} {n : Nat} {vs : List Value} {dv : Value} (hn : n < 1073741824) (A : Arv Z h b kb .byte (Int32.ofNat (2 * n)) vs dv) :
    Met l Z consts_1 ⟨"java/lang/StringUTF16", "length", "([B)I"⟩ jdk_52_method_6_code 1 (some .int) [] rm0 #[.ref b] h [] (fun v h' => v = some (.int (Int32.ofNat n)) ∧ h = h') := by
  refine Met.of_walk (a0 := a0) (Ls := #[.val (.ref b)]) (plainFor_of_name pn_utf16) (own_hEL hw) rfl ?_
  refine Wl.aload_n 1 d24_0 rfl rfl ?_
  refine Wl.arraylength 2 d24_1 A ?_
  refine Wl.iconst 3 (1 : Int32) d24_2 (by decide) ?_
  refine Wl.ishr 4 d24_3 ?_
  rw [nHalf hn]
  exact Wl.ireturn (t := .int) d24_4 rfl rfl (by simp) (nle rfl) (nle rfl) ⟨rfl, rfl⟩
/-- putChar(val, i, c) -/
theorem putC_met (hw : ∀ d ∈ tables_1, d.before a0 Z = true) (hu : U16on Z) {h : Heap} {b : Addr} {kb : ClassId} {n i : Nat} {c : Int32} {vs : List Value} (hn : n < 1048576) (hi : i < n) (hl : vs.length = 2 * n) (A : Arv Z h b kb .byte (Int32.ofNat (2 * n)) vs (.int 0)) :
    Met l Z consts_1 ⟨"java/lang/StringUTF16", "putChar", "([BII)V"⟩ jdk_52_method_4_code 3 none [] rm0 #[.ref b, .int (Int32.ofNat i), .int c] h [b] (fun v h' => v = none ∧ Keep h h' [b] ∧ Arv Z h' b kb .byte (Int32.ofNat (2 * n)) ((vs.set (2 * i) (.int (loB c))).set (2 * i + 1) (.int (hiB c))) (.int 0)) := by
  refine Met.of_walk (a0 := a0) (Ls := #[.val (.ref b), .val (.int (Int32.ofNat i)), .val (.int c)]) (plainFor_of_name pn_utf16) (own_hEL hw) rfl ?_
  refine Wl.getstatic 3 d20_0 (w91 hw) hu.1 ?_
  refine Wl.ifY 28 d20_3 (by decide) ?_
  refine Wl.iload_n 29 d20_28 rfl ?_
  refine Wl.iconst 30 (1 : Int32) d20_29 (by decide) ?_
  refine Wl.ishl 31 d20_30 ?_
  rw [nDbl (by omega)]
  refine Wl.istore_n 32 #[.val (.ref b), .val (.int (Int32.ofNat (2 * i))), .val (.int c)] d20_31 rfl ?_
  refine Wl.aload_n 33 d20_32 rfl rfl ?_
  refine Wl.iload_n 34 d20_33 rfl ?_
  refine Wl.iinc 37 #[.val (.ref b), .val (.int (Int32.ofNat (2 * i + 1))), .val (.int c)] (1 : Int32) d20_34 (by decide) rfl (by rw [nS]; rfl) ?_
  refine Wl.iload_n 38 d20_37 rfl ?_
  refine Wl.getstatic 41 d20_38 (w92 hw) hu.2.1 ?_
  refine Wl.ishr 42 d20_41 ?_
  refine Wl.i2b 43 d20_42 ?_
  refine Wl.bastore 44 (2 * i) d20_43 A (List.mem_of_getElem? (i := 0) rfl) (nNn (by omega)) (nCl (by omega)) (by rw [nCl (by omega)]; omega) (by omega) ?_
  intro h1 W1 A1
  rw [show nar .byte (c >>> ((0 : Int32) &&& 31)).toInt8.toInt32 = loB c from i2b_id _] at A1
  refine Wl.aload_n 45 d20_44 rfl rfl ?_
  refine Wl.iload_n 46 d20_45 rfl ?_
  refine Wl.iload_n 47 d20_46 rfl ?_
  refine Wl.getstatic 50 d20_47 (w93 hw) hu.2.2 ?_
  refine Wl.ishr 51 d20_50 ?_
  refine Wl.i2b 52 d20_51 ?_
  refine Wl.bastore 53 (2 * i + 1) d20_52 A1 (List.mem_of_getElem? (i := 0) rfl) (nNn (by omega)) (nCl (by omega)) (by rw [nCl (by omega)]; omega) (by rw [List.length_set]; omega) ?_
  intro h2 W2 A2
  rw [show nar .byte (c >>> ((8 : Int32) &&& 31)).toInt8.toInt32 = hiB c from i2b_id _] at A2
  exact Wl.return_ d20_53 rfl (nle rfl) (nle rfl) ⟨rfl, ((Keep.refl h [b]).wr W1 (Or.inl (List.mem_of_getElem? (i := 0) rfl))).wr W2 (Or.inl (List.mem_of_getElem? (i := 0) rfl)), A2⟩
/-- getChar(val, i) -/
theorem getC_met (hw : ∀ d ∈ tables_1, d.before a0 Z = true) (hu : U16on Z) {h : Heap} {b : Addr} {kb : ClassId} {cs : List Int32} {i : Nat} (hn : cs.length < 1048576) (hc : ∀ c ∈ cs, Ch c) (hi : i < cs.length) (A : Arv Z h b kb .byte (Int32.ofNat (2 * cs.length)) (b16 cs) (.int 0)) :
    Met l Z consts_1 ⟨"java/lang/StringUTF16", "getChar", "([BI)C"⟩ jdk_52_method_5_code 2 (some .char) [] rm0 #[.ref b, .int (Int32.ofNat i)] h [] (fun v h' => v = some (.int cs[i]) ∧ h = h') := by
  have hq := b16_get cs i hi
  have hch : Ch cs[i] := hc _ (List.getElem_mem hi)
  refine Met.of_walk (a0 := a0) (Ls := #[.val (.ref b), .val (.int (Int32.ofNat i))]) (plainFor_of_name pn_utf16) (own_hEL hw) rfl ?_
  refine Wl.getstatic 3 d21_0 (w91 hw) hu.1 ?_
  refine Wl.ifY 28 d21_3 (by decide) ?_
  refine Wl.iload_n 29 d21_28 rfl ?_
  refine Wl.iconst 30 (1 : Int32) d21_29 (by decide) ?_
  refine Wl.ishl 31 d21_30 ?_
  rw [nDbl (by omega)]
  refine Wl.istore_n 32 #[.val (.ref b), .val (.int (Int32.ofNat (2 * i)))] d21_31 rfl ?_
  refine Wl.aload_n 33 d21_32 rfl rfl ?_
  refine Wl.iload_n 34 d21_33 rfl ?_
  refine Wl.iinc 37 #[.val (.ref b), .val (.int (Int32.ofNat (2 * i + 1)))] (1 : Int32) d21_34 (by decide) rfl (by rw [nS]; rfl) ?_
  refine Wl.baload 38 (2 * i) d21_37 A (nNn (by omega)) (nCl (by omega)) (by rw [nCl (by omega)]; omega) hq.1 ?_
  refine Wl.sipush 41 (255 : Int32) d21_38 (by decide) ?_
  refine Wl.iand 42 d21_41 ?_
  refine Wl.getstatic 45 d21_42 (w92 hw) hu.2.1 ?_
  refine Wl.ishl 46 d21_45 ?_
  refine Wl.aload_n 47 d21_46 rfl rfl ?_
  refine Wl.iload_n 48 d21_47 rfl ?_
  refine Wl.baload 49 (2 * i + 1) d21_48 A (nNn (by omega)) (nCl (by omega)) (by rw [nCl (by omega)]; omega) hq.2 ?_
  refine Wl.sipush 52 (255 : Int32) d21_49 (by decide) ?_
  refine Wl.iand 53 d21_52 ?_
  refine Wl.getstatic 56 d21_53 (w93 hw) hu.2.2 ?_
  refine Wl.ishl 57 d21_56 ?_
  refine Wl.ior 58 d21_57 ?_
  refine Wl.i2c 59 d21_58 ?_
  rw [join16 hch]
  exact Wl.ireturn (t := .char) d21_59 rfl (narC hch) (by simp) (nle rfl) (nle rfl) ⟨rfl, rfl⟩
theorem nbl_met (hw : ∀ d ∈ tables_1, d.before a0 Z = true) {h : Heap} {n : Nat} (hn : n < 1048576) :
    Met l Z consts_1 ⟨"java/lang/StringUTF16", "newBytesLength", "(I)I"⟩ jdk_52_method_3_code 1 (some .int) [] rm0 #[.int (Int32.ofNat n)] h [] (fun v h' => v = some (.int (Int32.ofNat (2 * n))) ∧ h = h') := by
  refine Met.of_walk (a0 := a0) (Ls := #[.val (.int (Int32.ofNat n))]) (plainFor_of_name pn_utf16) (own_hEL hw) rfl ?_
  refine Wl.iload_n 1 d19_0 rfl ?_
  refine Wl.ifY 12 d19_1 (flt (nNn (by omega))).2.1 ?_
  refine Wl.iload_n 13 d19_12 rfl ?_
  refine Wl.ldcI 15 d19_13 (w87 hw) ?_
  refine Wl.icmpY 55 d19_15 (tlt (small30 hn)).1 ?_
  refine Wl.iload_n 56 d19_55 rfl ?_
  refine Wl.iconst 57 (1 : Int32) d19_56 (by decide) ?_
  refine Wl.ishl 58 d19_57 ?_
  rw [nDbl (by omega)]
  exact Wl.ireturn (t := .int) d19_58 rfl rfl (by simp) (nle rfl) (nle rfl) ⟨rfl, rfl⟩
theorem nbf_met (hw : ∀ d ∈ tables_1, d.before a0 Z = true) {h : Heap} {n N : Nat} (hn : n ≤ N) (hN : N < 1048576) :
    MetO l Z consts_1 ⟨"java/lang/StringUTF16", "newBytesFor", "(I)[B"⟩ jdk_52_method_2_code 1 (some (.array .byte)) [] { frames := 1, cells := 1, slots := 2 * N, locals := 12 } #[.int (Int32.ofNat n)] h [] [h.size] (fun v h' => ∃ kd : ClassId, v = some (.ref h.size) ∧ Ext h h' ∧ Arv Z h' h.size kd .byte (Int32.ofNat (2 * n)) (List.replicate (2 * n) (.int 0)) (.int 0)) := by
  refine Met.of_walk (a0 := a0) (Ls := #[.val (.int (Int32.ofNat n))]) (plainFor_of_name pn_utf16) (own_hEL hw) rfl ?_
  refine Wl.iload_n 1 d18_0 rfl ?_
  refine Wl.static 4 (argsL := [.int (Int32.ofNat n)]) d18_1 (w84 hw) (w85 hw) (w17 hw) (w86 hw) (show parseMethodDescriptor "(I)I" = some ⟨[.int], some .int⟩ by decide +kernel) rfl (nbl_met hw (by omega)) (fun _ q => nomatch q) rfl rfl rfl (by decide) ⟨⟨by show 0 + 1 ≤ 1; omega, by show 0 + (1 + 11) + 0 ≤ 12; omega⟩, by show 0 + 0 ≤ 1; omega, by show 0 + 0 ≤ 2 * N; omega⟩ ?_
  intro v h1 hq _
  obtain ⟨rfl, rfl⟩ := hq
  show WlO _ _ _ _ _ _ _ _ _ _ _ _ _ _ _ _ _ _ [.int (Int32.ofNat (2 * n))]
  refine Wl.newarray 6 (2 * N) d18_4 (w19 hw) (nNn (by omega)) (by rw [nCl (by omega)]; omega) (by omega) (by show 0 + 0 + 1 ≤ 1; omega) (by show 0 + 0 + 2 * N ≤ 2 * N; omega) ?_
  intro d h2 kd q E D
  subst q
  rw [nCl (by omega)] at D
  exact Wl.areturn d18_6 rfl rfl rfl (by show 0 + 0 + 1 ≤ 1; omega) (by show 0 + 0 + 2 * N ≤ 2 * N; omega) ⟨kd, rfl, E, D⟩ (fun x hx => by cases List.mem_singleton.mp hx; exact List.mem_of_getElem? (i := 0) rfl)
/-- toBytes(char[], 0, n): the loop -/
theorem toB_loop (hw : ∀ d ∈ tables_1, d.before a0 Z = true) (hu : U16on Z) {h0 : Heap} {b d : Addr} {kb kd : ClassId} {cs : List Int32} {N : Nat} (hn : cs.length < 65536) (hne : b ≠ d) (hd0 : h0.size ≤ d) (j : Nat) :
    ∀ (i : Nat) (h : Heap), i + j = cs.length → Arv Z h b kb .char (Int32.ofNat cs.length) (cs.map Value.int) (.int 0) → Arv Z h d kd .byte (Int32.ofNat (2 * cs.length)) (fil16 cs i) (.int 0) → Ext h0 h →
    Wl l Z a0 consts_1 ⟨"java/lang/StringUTF16", "toBytes", "([CII)[B"⟩ jdk_52_method_14_code 5 (some (.array .byte)) { frames := 2, cells := 1, slots := 2 * N, locals := 25 } #[.ref b, .int 0, .int (Int32.ofNat cs.length)] (fun v h' => ∃ (d : Addr) (kd : ClassId), v = some (.ref d) ∧ h0.size ≤ d ∧ Ext h0 h' ∧ Arv Z h' d kd .byte (Int32.ofNat (2 * cs.length)) (b16 cs) (.int 0)) [d] h 1 (2 * N) 8
      #[.val (.ref b), .val (.int (Int32.ofNat i)), .val (.int (Int32.ofNat cs.length)), .val (.ref d), .val (.int (Int32.ofNat i))] [] := by
  induction j with
  | zero =>
    intro i h hij Kb Kd E
    have hi : i = cs.length := by omega
    subst hi
    refine Wl.iload 10 d17_8 rfl ?_
    refine Wl.iload_n 11 d17_10 rfl ?_
    refine Wl.icmpY 32 d17_11 (flt Int32.lt_irrefl).2.1 ?_
    refine Wl.aload_n 33 d17_32 rfl rfl ?_
    rw [fil16_all] at Kd
    exact Wl.areturn d17_33 rfl rfl rfl (by show 1 ≤ 1; omega) (by show 2 * N ≤ 2 * N; omega) ⟨d, kd, rfl, hd0, E, Kd⟩
  | succ j ih =>
    intro i h hij Kb Kd E
    have hi : i < cs.length := by omega
    have hcl := nCl (i := cs.length) (by omega)
    refine Wl.iload 10 d17_8 rfl ?_
    refine Wl.iload_n 11 d17_10 rfl ?_
    refine Wl.icmpN 14 d17_11 (tlt ((nLt (by omega) (by omega)).mpr hi)).2.1 ?_
    refine Wl.aload_n 15 d17_14 rfl rfl ?_
    refine Wl.iload 17 d17_15 rfl ?_
    refine Wl.aload_n 18 d17_17 rfl rfl ?_
    refine Wl.iload_n 19 d17_18 rfl ?_
    refine Wl.caload 20 i d17_19 Kb (nNn (by omega)) (nCl (by omega)) (by rw [hcl]; exact hi) (v := .int cs[i]) (by simp [List.getD_eq_getElem?_getD, hi]) ?_
    refine Wl.static 23 (argsL := [.ref d, .int (Int32.ofNat i), .int cs[i]]) d17_20 (w88 hw) (w89 hw) (w17 hw) (w90 hw) (show parseMethodDescriptor "([BII)V" = some ⟨[.array .byte, .int, .int], none⟩ by decide +kernel) rfl (putC_met hw hu (c := cs[i]) (n := cs.length) (i := i) (by omega) hi (fil16_len cs i (by omega)) Kd) (allS (List.mem_of_getElem? (i := 0) rfl) (fun _ q => nomatch q)) rfl rfl rfl (by decide) ⟨⟨by show 0 + 1 ≤ 2; omega, by show 0 + (3 + 11) + 0 ≤ 25; omega⟩, by show 1 + 0 ≤ 1; omega, by show 2 * N + 0 ≤ 2 * N; omega⟩ ?_
    intro v h1 hq _
    obtain ⟨rfl, K, Kd'⟩ := hq
    rw [fil16_set cs i hi] at Kd'
    show Wl _ _ _ _ _ _ _ _ _ _ _ _ _ _ _ _ _ []
    refine Wl.iinc 26 #[.val (.ref b), .val (.int (Int32.ofNat (i + 1))), .val (.int (Int32.ofNat cs.length)), .val (.ref d), .val (.int (Int32.ofNat i))] (1 : Int32) d17_23 (by decide) rfl (by rw [nS]; rfl) ?_
    refine Wl.iinc 29 #[.val (.ref b), .val (.int (Int32.ofNat (i + 1))), .val (.int (Int32.ofNat cs.length)), .val (.ref d), .val (.int (Int32.ofNat (i + 1)))] (1 : Int32) d17_26 (by decide) rfl (by rw [nS]; rfl) ?_
    refine Wl.goto 8 d17_29 ?_
    exact ih (i + 1) h1 (by omega) (Kb.keep K (ninS hne nin0)) Kd' (extKeep E K (allS hd0 all0))
theorem toB_met (hw : ∀ d ∈ tables_1, d.before a0 Z = true) (hu : U16on Z) {h : Heap} {b : Addr} {kb : ClassId} {cs : List Int32} {N : Nat} (hn : cs.length ≤ N) (hN : N < 65536) (Kb : Arv Z h b kb .char (Int32.ofNat cs.length) (cs.map Value.int) (.int 0)) :
    Met l Z consts_1 ⟨"java/lang/StringUTF16", "toBytes", "([CII)[B"⟩ jdk_52_method_14_code 5 (some (.array .byte)) [] { frames := 2, cells := 1, slots := 2 * N, locals := 25 } #[.ref b, .int 0, .int (Int32.ofNat cs.length)] h [] (fun v h' => ∃ (d : Addr) (kd : ClassId), v = some (.ref d) ∧ h.size ≤ d ∧ Ext h h' ∧ Arv Z h' d kd .byte (Int32.ofNat (2 * cs.length)) (b16 cs) (.int 0)) := by
  refine Met.of_walk (a0 := a0) (Ls := #[.val (.ref b), .val (.int 0), .val (.int (Int32.ofNat cs.length)), .unset, .unset]) (plainFor_of_name pn_utf16) (own_hEL hw) rfl ?_
  refine Wl.iload_n 1 d17_0 rfl ?_
  refine Wl.staticO 4 (argsL := [.int (Int32.ofNat cs.length)]) d17_1 (w81 hw) (w82 hw) (w17 hw) (w83 hw) (show parseMethodDescriptor "(I)[B" = some ⟨[.int], some (.array .byte)⟩ by decide +kernel) rfl (nbf_met (N := N) hw hn (by omega)) (fun _ q => nomatch q) rfl rfl rfl (by decide) ⟨⟨by show 1 + 1 ≤ 2; omega, by show 0 + (1 + 11) + 12 ≤ 25; omega⟩, by show 0 + 1 ≤ 1; omega, by show 0 + 2 * N ≤ 2 * N; omega⟩ ?_
  intro v h1 hq _
  obtain ⟨kd, rfl, E, D⟩ := hq
  show WlO _ _ _ _ _ _ _ _ _ _ _ _ _ _ _ _ _ _ [.ref h.size]
  have hne : b ≠ h.size := Nat.ne_of_lt Kb.lt
  refine Wl.astore_n 5 #[.val (.ref b), .val (.int 0), .val (.int (Int32.ofNat cs.length)), .val (.ref h.size), .unset] d17_4 rfl rfl ?_
  refine Wl.iconst 6 (0 : Int32) d17_5 (by decide) ?_
  refine Wl.istore 8 #[.val (.ref b), .val (.int 0), .val (.int (Int32.ofNat cs.length)), .val (.ref h.size), .val (.int 0)] d17_6 rfl ?_
  refine Wl.weak (k' := 1) (n' := 2 * N) (fun x q => q) (by show 0 + 1 ≤ 1; omega) (by show 0 + 2 * N ≤ 2 * N; omega) ?_
  exact toB_loop hw hu (by omega) hne (Nat.le_refl _) cs.length 0 h1 (by omega) (Kb.ext E) (by rw [fil16_zero]; exact D) E
/-- the inner compress where a char is not below 256: the first such place -/
theorem comp2n_loop (hw : ∀ d ∈ tables_1, d.before a0 Z = true) {h0 : Heap} {b d : Addr} {kb kd : ClassId} {cs : List Int32} {m : Nat} (hn : cs.length < 65536) (hm : m < cs.length) (hch : ∀ c ∈ cs, Ch c) (hlat : ∀ (i : Nat) (hi : i < cs.length), i < m → Lat cs[i]) (hgt : (255 : Int32) < cs[m]) (hne : b ≠ d) (j : Nat) :
    ∀ (i : Nat) (h : Heap) (o : Slot) (vs : List Value), i + j = m → vs.length = cs.length → (o = .unset ∨ ∃ w, o = .val w ∧ w.category = 1) → Arv Z h b kb .char (Int32.ofNat cs.length) (cs.map Value.int) (.int 0) → Arv Z h d kd .byte (Int32.ofNat cs.length) vs (.int 0) → Keep h0 h [d] →
    Wl l Z a0 consts_1 ⟨"java/lang/StringUTF16", "compress", "([CI[BII)I"⟩ jdk_52_method_21_code 7 (some .int) rm0 #[.ref b, .int 0, .ref d, .int 0, .int (Int32.ofNat cs.length)] (fun v h' => v = some (.int (Int32.ofNat m)) ∧ Keep h0 h' [d]) [d] h 0 0 3
      #[.val (.ref b), .val (.int (Int32.ofNat i)), .val (.ref d), .val (.int (Int32.ofNat i)), .val (.int (Int32.ofNat cs.length)), .val (.int (Int32.ofNat i)), o] [] := by
  induction j with
  | zero =>
    intro i h o vs hij hvs ho Kb Kd K
    have hi : i = m := by omega
    subst hi
    have hcl := nCl (i := cs.length) (by omega)
    refine Wl.iload 5 d5_3 rfl ?_
    refine Wl.iload 7 d5_5 rfl ?_
    refine Wl.icmpN 10 d5_7 (tlt ((nLt (by omega) (by omega)).mpr hm)).2.1 ?_
    refine Wl.aload_n 11 d5_10 rfl rfl ?_
    refine Wl.iload_n 12 d5_11 rfl ?_
    refine Wl.caload 13 i d5_12 Kb (nNn (by omega)) (nCl (by omega)) (by rw [hcl]; exact hm) (v := .int cs[i]) (by simp [List.getD_eq_getElem?_getD, hm]) ?_
    refine Wl.istore 15 #[.val (.ref b), .val (.int (Int32.ofNat i)), .val (.ref d), .val (.int (Int32.ofNat i)), .val (.int (Int32.ofNat cs.length)), .val (.int (Int32.ofNat i)), .val (.int cs[i])] d5_13 (XS.store1 (o := o) rfl ho rfl) ?_
    refine Wl.iload 17 d5_15 rfl ?_
    refine Wl.sipush 20 (255 : Int32) d5_17 (by decide) ?_
    refine Wl.icmpN 23 d5_20 (tlt hgt).2.2.2 ?_
    refine Wl.iload 25 d5_23 rfl ?_
    exact Wl.ireturn (t := .int) d5_25 rfl rfl (by simp) (nle rfl) (nle rfl) ⟨rfl, K⟩
  | succ j ih =>
    intro i h o vs hij hvs ho Kb Kd K
    have hi : i < cs.length := by omega
    have h31 : i < 2147483648 := by omega
    have hl : Lat cs[i] := hlat i hi (by omega)
    have hcl := nCl (i := cs.length) (by omega)
    refine Wl.iload 5 d5_3 rfl ?_
    refine Wl.iload 7 d5_5 rfl ?_
    refine Wl.icmpN 10 d5_7 (tlt ((nLt h31 (by omega)).mpr hi)).2.1 ?_
    refine Wl.aload_n 11 d5_10 rfl rfl ?_
    refine Wl.iload_n 12 d5_11 rfl ?_
    refine Wl.caload 13 i d5_12 Kb (nNn h31) (nCl h31) (by rw [hcl]; exact hi) (v := .int cs[i]) (by simp [List.getD_eq_getElem?_getD, hi]) ?_
    refine Wl.istore 15 #[.val (.ref b), .val (.int (Int32.ofNat i)), .val (.ref d), .val (.int (Int32.ofNat i)), .val (.int (Int32.ofNat cs.length)), .val (.int (Int32.ofNat i)), .val (.int cs[i])] d5_13 (XS.store1 (o := o) rfl ho rfl) ?_
    refine Wl.iload 17 d5_15 rfl ?_
    refine Wl.sipush 20 (255 : Int32) d5_17 (by decide) ?_
    refine Wl.icmpY 26 d5_20 (flt (lat_le hl)).2.2.2 ?_
    refine Wl.aload_n 27 d5_26 rfl rfl ?_
    refine Wl.iload_n 28 d5_27 rfl ?_
    refine Wl.iload 30 d5_28 rfl ?_
    refine Wl.i2b 31 d5_30 ?_
    refine Wl.bastore 32 i d5_31 Kd (List.mem_of_getElem? (i := 0) rfl) (nNn h31) (nCl h31) (by rw [hcl]; exact hi) (by omega) ?_
    intro h' W Kd'
    refine Wl.iinc 35 #[.val (.ref b), .val (.int (Int32.ofNat (i + 1))), .val (.ref d), .val (.int (Int32.ofNat i)), .val (.int (Int32.ofNat cs.length)), .val (.int (Int32.ofNat i)), .val (.int cs[i])] (1 : Int32) d5_32 (by decide) rfl (by rw [nS]; rfl) ?_
    refine Wl.iinc 38 #[.val (.ref b), .val (.int (Int32.ofNat (i + 1))), .val (.ref d), .val (.int (Int32.ofNat (i + 1))), .val (.int (Int32.ofNat cs.length)), .val (.int (Int32.ofNat i)), .val (.int cs[i])] (1 : Int32) d5_35 (by decide) rfl (by rw [nS]; rfl) ?_
    refine Wl.iinc 41 #[.val (.ref b), .val (.int (Int32.ofNat (i + 1))), .val (.ref d), .val (.int (Int32.ofNat (i + 1))), .val (.int (Int32.ofNat cs.length)), .val (.int (Int32.ofNat (i + 1))), .val (.int cs[i])] (1 : Int32) d5_38 (by decide) rfl (by rw [nS]; rfl) ?_
    refine Wl.goto 3 d5_41 ?_
    exact ih (i + 1) h' _ _ (by omega) (by rw [List.length_set]; exact hvs) (Or.inr ⟨_, rfl, rfl⟩) (Kb.other W hne) Kd' (K.wr W (Or.inl (List.mem_of_getElem? (i := 0) rfl)))
theorem comp2n_met (hw : ∀ d ∈ tables_1, d.before a0 Z = true) {h : Heap} {b d : Addr} {kb kd : ClassId} {cs : List Int32} {m : Nat} (hn : cs.length < 65536) (hm : m < cs.length) (hch : ∀ c ∈ cs, Ch c) (hlat : ∀ (i : Nat) (hi : i < cs.length), i < m → Lat cs[i]) (hgt : (255 : Int32) < cs[m]) (hne : b ≠ d) (Kb : Arv Z h b kb .char (Int32.ofNat cs.length) (cs.map Value.int) (.int 0)) (Kd : Arv Z h d kd .byte (Int32.ofNat cs.length) (List.replicate cs.length (.int 0)) (.int 0)) :
    Met l Z consts_1 ⟨"java/lang/StringUTF16", "compress", "([CI[BII)I"⟩ jdk_52_method_21_code 7 (some .int) [] rm0 #[.ref b, .int 0, .ref d, .int 0, .int (Int32.ofNat cs.length)] h [d] (fun v h' => v = some (.int (Int32.ofNat m)) ∧ Keep h h' [d]) := by
  refine Met.of_walk (a0 := a0) (Ls := #[.val (.ref b), .val (.int 0), .val (.ref d), .val (.int 0), .val (.int (Int32.ofNat cs.length)), .unset, .unset]) (plainFor_of_name pn_utf16) (own_hEL hw) rfl ?_
  refine Wl.iconst 1 (0 : Int32) d5_0 (by decide) ?_
  refine Wl.istore 3 #[.val (.ref b), .val (.int 0), .val (.ref d), .val (.int 0), .val (.int (Int32.ofNat cs.length)), .val (.int 0), .unset] d5_1 rfl ?_
  exact comp2n_loop hw hn hm hch hlat hgt hne m 0 h _ _ (by omega) (by simp) (Or.inl rfl) Kb Kd (Keep.refl h [d])
/-- compress(char[], int, int) where a char is not below 256: the UTF-16 bytes -/
theorem comp1n_met (hw : ∀ d ∈ tables_1, d.before a0 Z = true) (hu : U16on Z) {h : Heap} {b : Addr} {kb : ClassId} {cs : List Int32} {N m : Nat} (hN : cs.length ≤ N) (hN2 : N < 65536) (hm : m < cs.length) (hch : ∀ c ∈ cs, Ch c) (hlat : ∀ (i : Nat) (hi : i < cs.length), i < m → Lat cs[i]) (hgt : (255 : Int32) < cs[m]) (Kb : Arv Z h b kb .char (Int32.ofNat cs.length) (cs.map Value.int) (.int 0)) :
    Met l Z consts_1 ⟨"java/lang/StringUTF16", "compress", "([CII)[B"⟩ jdk_52_method_16_code 6 (some (.array .byte)) [] { frames := 3, cells := 2, slots := 3 * N, locals := 41 } #[.ref b, .int 0, .int (Int32.ofNat cs.length)] h [] (fun v h' => ∃ (d : Addr) (kd : ClassId), v = some (.ref d) ∧ h.size ≤ d ∧ Ext h h' ∧ Arv Z h' d kd .byte (Int32.ofNat (2 * cs.length)) (b16 cs) (.int 0)) := by
  refine Met.of_walk (a0 := a0) (Ls := #[.val (.ref b), .val (.int 0), .val (.int (Int32.ofNat cs.length)), .unset, .unset, .unset]) (plainFor_of_name pn_utf16) (own_hEL hw) rfl ?_
  refine Wl.iload_n 1 d4_0 rfl ?_
  refine Wl.newarray 3 N d4_1 (w19 hw) (nNn (by omega)) (by rw [nCl (by omega)]; exact hN) (by omega) (by show 0 + 1 ≤ 2; omega) (by show 0 + N ≤ 3 * N; omega) ?_
  intro d h1 kd q E A
  rw [nCl (by omega)] at A
  have A : Arv Z h1 d kd .byte (Int32.ofNat cs.length) (List.replicate cs.length (.int 0)) (.int 0) := A
  have hne : b ≠ d := Nat.ne_of_lt (by rw [q]; exact Kb.lt)
  refine Wl.astore_n 4 #[.val (.ref b), .val (.int 0), .val (.int (Int32.ofNat cs.length)), .val (.ref d), .unset, .unset] d4_3 rfl rfl ?_
  refine Wl.aload_n 5 d4_4 rfl rfl ?_
  refine Wl.iload_n 6 d4_5 rfl ?_
  refine Wl.aload_n 7 d4_6 rfl rfl ?_
  refine Wl.iconst 8 (0 : Int32) d4_7 (by decide) ?_
  refine Wl.iload_n 9 d4_8 rfl ?_
  refine Wl.static 12 (argsL := [.ref b, .int 0, .ref d, .int 0, .int (Int32.ofNat cs.length)]) d4_9 (w20 hw) (w21 hw) (w17 hw) (w22 hw) (show parseMethodDescriptor "([CI[BII)I" = some ⟨[.array .char, .int, .array .byte, .int, .int], some .int⟩ by decide +kernel) rfl (comp2n_met hw (by omega) hm hch hlat hgt hne (Kb.ext E) A) (allS (List.mem_of_getElem? (i := 0) rfl) (fun _ q => nomatch q)) rfl rfl rfl (by decide) ⟨⟨by show 0 + 1 ≤ 3; omega, by show 0 + (7 + 11) + 0 ≤ 41; omega⟩, by show 0 + 1 + 0 ≤ 2; omega, by show 0 + N + 0 ≤ 3 * N; omega⟩ ?_
  intro v h2 hq _
  obtain ⟨rfl, K⟩ := hq
  have E2 : Ext h h2 := extKeep E K (allS (Nat.le_of_eq q.symm) all0)
  refine Wl.istore 14 #[.val (.ref b), .val (.int 0), .val (.int (Int32.ofNat cs.length)), .val (.ref d), .val (.int (Int32.ofNat m)), .unset] d4_12 rfl ?_
  refine Wl.iload 16 d4_14 rfl ?_
  refine Wl.iload_n 17 d4_16 rfl ?_
  refine Wl.icmpN 20 d4_17 (feq (fun q => by have := (nEq (by omega) (by omega)).mp q; omega)).1 ?_
  refine Wl.aload_n 21 d4_20 rfl rfl ?_
  refine Wl.iload_n 22 d4_21 rfl ?_
  refine Wl.iload_n 23 d4_22 rfl ?_
  refine Wl.static 26 (argsL := [.ref b, .int 0, .int (Int32.ofNat cs.length)]) d4_23 (w78 hw) (w79 hw) (w17 hw) (w80 hw) (show parseMethodDescriptor "([CII)[B" = some ⟨[.array .char, .int, .int], some (.array .byte)⟩ by decide +kernel) rfl (toB_met hw hu hN hN2 (Kb.ext E2)) (fun _ q => nomatch q) rfl rfl rfl (by decide) ⟨⟨by show 2 + 1 ≤ 3; omega, by show 0 + (5 + 11) + 25 ≤ 41; omega⟩, by show 0 + 1 + 0 + 1 ≤ 2; omega, by show 0 + N + 0 + 2 * N ≤ 3 * N; omega⟩ ?_
  intro v h3 hq _
  obtain ⟨d2, kd2, rfl, hd2, E3, A3⟩ := hq
  refine Wl.astore 28 #[.val (.ref b), .val (.int 0), .val (.int (Int32.ofNat cs.length)), .val (.ref d), .val (.int (Int32.ofNat m)), .val (.ref d2)] d4_26 rfl rfl ?_
  refine Wl.aload 30 d4_28 rfl rfl ?_
  refine Wl.iload 32 d4_30 rfl ?_
  refine Wl.static 35 (argsL := [.ref d2, .int (Int32.ofNat m)]) d4_32 (w94 hw) (w95 hw) (w17 hw) (w96 hw) (show parseMethodDescriptor "([BI)C" = some ⟨[.array .byte, .int], some .char⟩ by decide +kernel) rfl (getC_met hw hu (by omega) hch hm A3) (fun _ q => nomatch q) rfl rfl rfl (by decide) ⟨⟨by show 0 + 1 ≤ 3; omega, by show 0 + (2 + 11) + 0 ≤ 41; omega⟩, by show 0 + 1 + 0 + 1 + 0 ≤ 2; omega, by show 0 + N + 0 + 2 * N + 0 ≤ 3 * N; omega⟩ ?_
  intro v h4 hq _
  obtain ⟨rfl, rfl⟩ := hq
  show WlO _ _ _ _ _ _ _ _ _ _ _ _ _ _ _ _ _ _ [.int cs[m]]
  refine Wl.sipush 38 (255 : Int32) d4_35 (by decide) ?_
  refine Wl.icmpY 54 d4_38 (tlt hgt).2.2.1 ?_
  refine Wl.aload 56 d4_54 rfl rfl ?_
  exact Wl.areturn d4_56 rfl rfl rfl (by show 0 + 1 + 0 + 1 + 0 ≤ 2; omega) (by show 0 + N + 0 + 2 * N + 0 ≤ 3 * N; omega) ⟨d2, kd2, rfl, Nat.le_trans E2.1 hd2, extTr E2 E3, A3⟩
/-- the first char that is not below 256 -/
theorem first_gt : ∀ (cs : List Int32), (∀ c ∈ cs, Ch c) → (∀ c ∈ cs, Lat c) ∨ ∃ m, ∃ hm : m < cs.length, (∀ (i : Nat) (hi : i < cs.length), i < m → Lat cs[i]) ∧ (255 : Int32) < cs[m]
  | [], _ => Or.inl fun _ q => nomatch q
  | c :: cs, hc => by
    have h1 := hc c (List.mem_cons_self ..)
    by_cases hg : (255 : Int32) < c
    · exact Or.inr ⟨0, by simp, fun i _ q => absurd q (Nat.not_lt_zero _), hg⟩
    · rcases first_gt cs (fun x q => hc x (List.mem_cons_of_mem _ q)) with hl | ⟨m, hm, h2, h3⟩
      · exact Or.inl (latC (lat_of h1 hg) hl)
      · refine Or.inr ⟨m + 1, by simp; omega, fun i hi q => ?_, h3⟩
        cases i with
        | zero => exact lat_of h1 hg
        | succ i => exact h2 i (by simp at hi; omega) (by omega)
theorem cd16 {n : Nat} (h0 : 0 < n) (hn : n < 65536) : ((Int32.ofNat n - Int32.ofNat (2 * n)).toUInt32 >>> ((31 : Int32) &&& 31).toUInt32).toInt32.toInt8.toInt32 = 1 := by
  have e : (Int32.ofNat n - Int32.ofNat (2 * n)).toInt = - (n : Int) := by
    have h := c_isub (Int32.ofNat n) (Int32.ofNat (2 * n))
    have r := rng32 (Int32.ofNat n - Int32.ofNat (2 * n))
    rw [nI (by omega), nI (by omega)] at h
    omega
  exact sign1 (by omega)
/-- String(char[], int, int, Void) where a char is not below 256 -/
theorem strV16_met (hw : ∀ d ∈ tables_1, d.before a0 Z = true) (hcs : CSon Z) (hu : U16on Z) {h : Heap} {a b : Addr} {kb : ClassId} {cs : List Int32} {N m : Nat} (hN : cs.length ≤ N) (hN2 : N < 65536) (hm : m < cs.length) (hch : ∀ c ∈ cs, Ch c) (hlat : ∀ (i : Nat) (hi : i < cs.length), i < m → Lat cs[i]) (hgt : (255 : Int32) < cs[m]) (E : Exa Z h a "java/lang/String") (FV : Fld Z h a "java/lang/String" "value" "[B" .null) (FC : Fld Z h a "java/lang/String" "coder" "B" (.int 0)) (Kb : Arv Z h b kb .char (Int32.ofNat cs.length) (cs.map Value.int) (.int 0)) :
    Met l Z consts_1 ⟨"java/lang/String", "<init>", "([CIILjava/lang/Void;)V"⟩ jdk_42_method_149_code 6 none [] { frames := 4, cells := 2, slots := 3 * N, locals := 58 } #[.ref a, .ref b, .int 0, .int (Int32.ofNat cs.length), .null] h [a] (fun v h' => v = none ∧ Keep h h' [a] ∧ Sth Z h' a cs) := by
  refine Met.of_walk (a0 := a0) (Ls := #[.val (.ref a), .val (.ref b), .val (.int 0), .val (.int (Int32.ofNat cs.length)), .val .null, .unset]) (plainFor_of_name pn_str) (own_hEL hw) rfl ?_
  refine Wl.aload_n 1 d2_0 rfl rfl ?_
  refine Wl.initO 4 d2_1 (w11 hw) (w12 hw) (w13 hw) rfl (by show 1 ≤ 4; omega) (by show 0 + 12 ≤ 58; omega) ?_
  refine Wl.iload_n 5 d2_4 rfl ?_
  obtain ⟨cst, hS, hcn⟩ := hcs
  have L1 : Laid Z a0 "java/lang/String" "java/lang/String" "value" "[B" := Or.inr (w29 hw)
  have L2 : Laid Z a0 "java/lang/String" "java/lang/String" "coder" "B" := Or.inr (w27 hw)
  have hsl : Jvm.RoadKit.slotOf Z "java/lang/String" "value" "[B" ≠ Jvm.RoadKit.slotOf Z "java/lang/String" "coder" "B" := slot_ne L1 L2 (by decide) (t := .array .byte) (t' := .byte) (by decide) (by decide)
  have hpos : 0 < cs.length := by omega
  refine Wl.ifY 27 d2_5 (feq (fun q => by have := congrArg Int32.toInt q; rw [nI (by omega), show (0 : Int32).toInt = 0 by decide] at this; omega)).2 ?_
  refine Wl.getstatic 30 d2_27 (w14 hw) hS ?_
  refine Wl.ifN 33 d2_30 (feq hcn).1 ?_
  refine Wl.aload_n 34 d2_33 rfl rfl ?_
  refine Wl.iload_n 35 d2_34 rfl ?_
  refine Wl.iload_n 36 d2_35 rfl ?_
  refine Wl.static 39 (argsL := [.ref b, .int 0, .int (Int32.ofNat cs.length)]) d2_36 (w15 hw) (w16 hw) (w17 hw) (w18 hw) (show parseMethodDescriptor "([CII)[B" = some ⟨[.array .char, .int, .int], some (.array .byte)⟩ by decide +kernel) rfl (comp1n_met hw hu hN hN2 hm hch hlat hgt Kb) (fun _ q => nomatch q) rfl rfl rfl (by decide) ⟨⟨by show 3 + 1 ≤ 4; omega, by show 0 + (6 + 11) + 41 ≤ 58; omega⟩, by show 0 + 2 ≤ 2; omega, by show 0 + 3 * N ≤ 3 * N; omega⟩ ?_
  intro v h1 hq _
  obtain ⟨d, kd, rfl, hd, E1, A1⟩ := hq
  have hne : d ≠ a := Nat.ne_of_gt (Nat.lt_of_lt_of_le E.lt hd)
  refine Wl.astore 41 #[.val (.ref a), .val (.ref b), .val (.int 0), .val (.int (Int32.ofNat cs.length)), .val .null, .val (.ref d)] d2_39 rfl rfl ?_
  refine Wl.aload_n 42 d2_41 rfl rfl ?_
  refine Wl.aload 44 d2_42 rfl rfl ?_
  refine Wl.iload_n 45 d2_44 rfl ?_
  refine Wl.static 48 (argsL := [.ref d, .int (Int32.ofNat cs.length)]) d2_45 (w23 hw) (w24 hw) (w17 hw) (w25 hw) (show parseMethodDescriptor "([BI)B" = some ⟨[.array .byte, .int], some .byte⟩ by decide +kernel) rfl (coderLen_met hw A1) (fun _ q => nomatch q) rfl rfl rfl (by decide) ⟨⟨by show 0 + 1 ≤ 4; omega, by show 1 + (2 + 11) + 0 ≤ 58; omega⟩, by show 0 + 2 + 0 ≤ 2; omega, by show 0 + 3 * N + 0 ≤ 3 * N; omega⟩ ?_
  intro v h2 hq _
  obtain ⟨rfl, rfl⟩ := hq
  rw [cd16 hpos (by omega)]
  refine Wl.putfield 51 d2_48 (w26 hw) (FC.ext E1) (E.ext E1) (Or.inr ⟨(w27 hw), rfl, rfl⟩) (w1 hw) (ty := .byte) (by decide) rfl rfl (List.mem_of_getElem? (i := 0) rfl) ?_
  intro h3 W3
  refine Wl.aload_n 52 d2_51 rfl rfl ?_
  refine Wl.aload 54 d2_52 rfl rfl ?_
  refine Wl.putfield 57 d2_54 (w28 hw) ((FV.ext E1).other W3 (Or.inr hsl)) ((E.ext E1).wr W3) (Or.inr ⟨(w29 hw), rfl, rfl⟩) (w1 hw) (ty := .array .byte) (by decide) rfl rfl (List.mem_of_getElem? (i := 0) rfl) ?_
  intro h4 W4
  refine Wl.return_ d2_57 rfl (by show 0 + 2 + 0 ≤ 2; omega) (by show 0 + 3 * N + 0 ≤ 3 * N; omega) ⟨rfl, ?_, ?_⟩
  · exact ((((Keep.refl h [a]).ext E1)).wr W3 (Or.inl (List.mem_of_getElem? (i := 0) rfl))).wr W4 (Or.inl (List.mem_of_getElem? (i := 0) rfl))
  · exact ⟨d, kd, ((E.ext E1).wr W3).wr W4, ((FC.ext E1).same W3).other W4 (Or.inr hsl.symm), ((FV.ext E1).other W3 (Or.inr hsl)).same W4, (A1.other W3 hne).other W4 hne, hch, by omega⟩
/-- String(char[]), any chars -/
theorem strW_met (hw : ∀ d ∈ tables_1, d.before a0 Z = true) (hcs : CSon Z) (hu : U16on Z) {h : Heap} {a b : Addr} {kb : ClassId} {cs : List Int32} (N : Nat) (hN : cs.length ≤ N) (hN2 : N < 65536) (hne0 : cs ≠ []) (hch : ∀ c ∈ cs, Ch c) (E : Exa Z h a "java/lang/String") (FV : Fld Z h a "java/lang/String" "value" "[B" .null) (FC : Fld Z h a "java/lang/String" "coder" "B" (.int 0)) (Kb : Arv Z h b kb .char (Int32.ofNat cs.length) (cs.map Value.int) (.int 0)) :
    Met l Z consts_1 ⟨"java/lang/String", "<init>", "([C)V"⟩ jdk_42_method_3_code 2 none [] { frames := 5, cells := 4, slots := 3 * N + 8, locals := 75 } #[.ref a, .ref b] h [a] (fun v h' => v = none ∧ Keep h h' [a] ∧ Stw Z h' a cs) := by
  refine Met.of_walk (a0 := a0) (Ls := #[.val (.ref a), .val (.ref b)]) (plainFor_of_name pn_str) (own_hEL hw) rfl ?_
  refine Wl.aload_n 1 d1_0 rfl rfl ?_
  refine Wl.aload_n 2 d1_1 rfl rfl ?_
  refine Wl.iconst 3 (0 : Int32) d1_2 (by decide) ?_
  refine Wl.aload_n 4 d1_3 rfl rfl ?_
  refine Wl.arraylength 5 d1_4 Kb ?_
  refine Wl.aconst_null 6 d1_5 ?_
  rcases first_gt cs hch with hlat | ⟨m, hm, h1, h2⟩
  · refine Wl.special 9 (argsL := [.ref b, .int 0, .int (Int32.ofNat cs.length), .null]) d1_6 (w7 hw) (w8 hw) (w2 hw) (w10 hw) (show parseMethodDescriptor "([CIILjava/lang/Void;)V" = some ⟨[.array .char, .int, .int, .object "java/lang/Void"], none⟩ by decide +kernel) rfl (strV_met hw hcs hN hN2 hne0 hlat E FV FC Kb) (allS (List.mem_of_getElem? (i := 0) rfl) (fun _ q => nomatch q)) rfl rfl rfl rfl (by decide) ⟨⟨by show 2 + 1 ≤ 5; omega, by show 0 + (6 + 11) + 36 ≤ 75; omega⟩, by show 0 + 4 ≤ 4; omega, by show 0 + (N + 8) ≤ 3 * N + 8; omega⟩ ?_
    intro v h1 hq _
    obtain ⟨rfl, K1, S1⟩ := hq
    exact Wl.return_ d1_9 rfl (by show 0 + 4 ≤ 4; omega) (by show 0 + (N + 8) ≤ 3 * N + 8; omega) ⟨rfl, K1, Or.inl S1⟩
  · refine Wl.special 9 (argsL := [.ref b, .int 0, .int (Int32.ofNat cs.length), .null]) d1_6 (w7 hw) (w8 hw) (w2 hw) (w10 hw) (show parseMethodDescriptor "([CIILjava/lang/Void;)V" = some ⟨[.array .char, .int, .int, .object "java/lang/Void"], none⟩ by decide +kernel) rfl (strV16_met hw hcs hu hN hN2 hm hch h1 h2 E FV FC Kb) (allS (List.mem_of_getElem? (i := 0) rfl) (fun _ q => nomatch q)) rfl rfl rfl rfl (by decide) ⟨⟨by show 4 + 1 ≤ 5; omega, by show 0 + (6 + 11) + 58 ≤ 75; omega⟩, by show 0 + 2 ≤ 4; omega, by show 0 + 3 * N ≤ 3 * N + 8; omega⟩ ?_
    intro v h1 hq _
    obtain ⟨rfl, K1, S1⟩ := hq
    exact Wl.return_ d1_9 rfl (by show 0 + 2 ≤ 4; omega) (by show 0 + 3 * N ≤ 3 * N + 8; omega) ⟨rfl, K1, Or.inr S1⟩
/-- length(), either form -/
theorem lenW_met (hw : ∀ d ∈ tables_1, d.before a0 Z = true) (hcs : CSon Z) {h : Heap} {a : Addr} {cs : List Int32} (S : Stw Z h a cs) :
    Met l Z consts_1 ⟨"java/lang/String", "length", "()I"⟩ jdk_42_method_54_code 1 (some .int) [] { frames := 1, cells := 0, slots := 0, locals := 13 } #[.ref a] h [] (fun v h' => v = some (.int (Int32.ofNat cs.length)) ∧ h = h') := by
  rcases S with S | S
  · exact len_met hw hcs S
  obtain ⟨b, kb, X, C, Vl, A, hlat, hn⟩ := S
  refine Met.of_walk (a0 := a0) (Ls := #[.val (.ref a)]) (plainFor_of_name pn_str) (own_hEL hw) rfl ?_
  refine Wl.aload_n 1 d10_0 rfl rfl ?_
  refine Wl.getfield 4 d10_1 (w28 hw) Vl ?_
  refine Wl.arraylength 5 d10_4 A ?_
  refine Wl.aload_n 6 d10_5 rfl rfl ?_
  refine Wl.virtual 9 (argsL := []) d10_6 (w48 hw) (w49 hw) (w51 hw) (w50 hw) (w2 hw) (w52 hw) (nf_sel (w51 hw) rfl) X (show parseMethodDescriptor "()B" = some ⟨[], some .byte⟩ by decide +kernel) rfl (coder_met hw hcs rfl C) (fun _ q => nomatch q) rfl rfl rfl (by decide) ⟨⟨nle rfl, nle rfl⟩, nle rfl, nle rfl⟩ ?_
  intro v h1 hq _
  obtain ⟨rfl, rfl⟩ := hq
  show WlO _ _ _ _ _ _ _ _ _ _ _ _ _ _ _ _ _ _ [.int 1, .int (Int32.ofNat (2 * cs.length))]
  refine Wl.ishr 10 d10_9 ?_
  rw [nHalf (by omega)]
  exact Wl.ireturn (t := .int) d10_10 rfl rfl (by simp) (nle rfl) (nle rfl) ⟨rfl, rfl⟩
theorem isLat0_met (hw : ∀ d ∈ tables_1, d.before a0 Z = true) (hcs : CSon Z) {h : Heap} {a : Addr} (FC : Fld Z h a "java/lang/String" "coder" "B" (.int 1)) :
    Met l Z consts_1 ⟨"java/lang/String", "isLatin1", "()Z"⟩ jdk_42_method_154_code 1 (some .boolean) [] rm0 #[.ref a] h [] (fun v h' => v = some (.int 0) ∧ h = h') := by
  obtain ⟨cst, hS, hcn⟩ := hcs
  refine Met.of_walk (a0 := a0) (Ls := #[.val (.ref a)]) (plainFor_of_name pn_str) (own_hEL hw) rfl ?_
  refine Wl.getstatic 3 d13_0 (w14 hw) hS ?_
  refine Wl.ifN 6 d13_3 (feq hcn).1 ?_
  refine Wl.aload_n 7 d13_6 rfl rfl ?_
  refine Wl.getfield 10 d13_7 (w26 hw) FC ?_
  refine Wl.ifY 17 d13_10 (by decide) ?_
  refine Wl.iconst 18 (0 : Int32) d13_17 (by decide) ?_
  exact Wl.ireturn (t := .boolean) d13_18 rfl rfl (by simp) (nle rfl) (nle rfl) ⟨rfl, rfl⟩
theorem chkU_met (hw : ∀ d ∈ tables_1, d.before a0 Z = true) (hfm : Fmt Z) {h : Heap} {b : Addr} {kb : ClassId} {n i : Nat} {vs : List Value} {dv : Value} (hn : n < 65536) (hi : i < n) (A : Arv Z h b kb .byte (Int32.ofNat (2 * n)) vs dv) :
    Met l Z consts_1 ⟨"java/lang/StringUTF16", "checkIndex", "(I[B)V"⟩ jdk_52_method_91_code 2 none [] { frames := 2, cells := 0, slots := 0, locals := 27 } #[.int (Int32.ofNat i), .ref b] h [] (fun v h' => v = none ∧ h = h') := by
  refine Met.of_walk (a0 := a0) (Ls := #[.val (.int (Int32.ofNat i)), .val (.ref b)]) (plainFor_of_name pn_utf16) (own_hEL hw) rfl ?_
  refine Wl.iload_n 1 d23_0 rfl ?_
  refine Wl.aload_n 2 d23_1 rfl rfl ?_
  refine Wl.static 5 (argsL := [.ref b]) d23_2 (w103 hw) (w104 hw) (w17 hw) (w105 hw) (show parseMethodDescriptor "([B)I" = some ⟨[.array .byte], some .int⟩ by decide +kernel) rfl (ulen_met hw (by omega) A) (fun _ q => nomatch q) rfl rfl rfl (by decide) ⟨⟨nle rfl, nle rfl⟩, nle rfl, nle rfl⟩ ?_
  intro v h1 hq _
  obtain ⟨rfl, rfl⟩ := hq
  show WlO _ _ _ _ _ _ _ _ _ _ _ _ _ _ _ _ _ _ [.int (Int32.ofNat n), .int (Int32.ofNat i)]
  refine Wl.static 8 (argsL := [.int (Int32.ofNat i), .int (Int32.ofNat n)]) d23_5 (w106 hw) (w68 hw) (w2 hw) (w69 hw) (show parseMethodDescriptor "(II)V" = some ⟨[.int, .int], none⟩ by decide +kernel) rfl (chkS_met hw hfm (nNn (by omega)) ((nLt (by omega) (by omega)).mpr hi)) (fun _ q => nomatch q) rfl rfl rfl (by decide) ⟨⟨nle rfl, nle rfl⟩, nle rfl, nle rfl⟩ ?_
  intro v h1 hq _
  obtain ⟨rfl, rfl⟩ := hq
  exact Wl.return_ d23_8 rfl (nle rfl) (nle rfl) ⟨rfl, rfl⟩
theorem charU_met (hw : ∀ d ∈ tables_1, d.before a0 Z = true) (hfm : Fmt Z) (hu : U16on Z) {h : Heap} {b : Addr} {kb : ClassId} {cs : List Int32} (A : Arv Z h b kb .byte (Int32.ofNat (2 * cs.length)) (b16 cs) (.int 0)) (hc : ∀ c ∈ cs, Ch c) (hn : cs.length < 65536) {i : Nat} (hi : i < cs.length) :
    Met l Z consts_1 ⟨"java/lang/StringUTF16", "charAt", "([BI)C"⟩ jdk_52_method_83_code 2 (some .char) [] { frames := 3, cells := 0, slots := 0, locals := 40 } #[.ref b, .int (Int32.ofNat i)] h [] (fun v h' => v = some (.int cs[i]) ∧ h = h') := by
  refine Met.of_walk (a0 := a0) (Ls := #[.val (.ref b), .val (.int (Int32.ofNat i))]) (plainFor_of_name pn_utf16) (own_hEL hw) rfl ?_
  refine Wl.iload_n 1 d22_0 rfl ?_
  refine Wl.aload_n 2 d22_1 rfl rfl ?_
  refine Wl.static 5 (argsL := [.int (Int32.ofNat i), .ref b]) d22_2 (w100 hw) (w101 hw) (w17 hw) (w102 hw) (show parseMethodDescriptor "(I[B)V" = some ⟨[.int, .array .byte], none⟩ by decide +kernel) rfl (chkU_met hw hfm hn hi A) (fun _ q => nomatch q) rfl rfl rfl (by decide) ⟨⟨nle rfl, nle rfl⟩, nle rfl, nle rfl⟩ ?_
  intro v h1 hq _
  obtain ⟨rfl, rfl⟩ := hq
  show WlO _ _ _ _ _ _ _ _ _ _ _ _ _ _ _ _ _ _ []
  refine Wl.aload_n 6 d22_5 rfl rfl ?_
  refine Wl.iload_n 7 d22_6 rfl ?_
  refine Wl.static 10 (argsL := [.ref b, .int (Int32.ofNat i)]) d22_7 (w94 hw) (w95 hw) (w17 hw) (w96 hw) (show parseMethodDescriptor "([BI)C" = some ⟨[.array .byte, .int], some .char⟩ by decide +kernel) rfl (getC_met hw hu (by omega) hc hi A) (fun _ q => nomatch q) rfl rfl rfl (by decide) ⟨⟨nle rfl, nle rfl⟩, nle rfl, nle rfl⟩ ?_
  intro v h1 hq _
  obtain ⟨rfl, rfl⟩ := hq
  show WlO _ _ _ _ _ _ _ _ _ _ _ _ _ _ _ _ _ _ [.int cs[i]]
  exact Wl.ireturn (t := .char) d22_10 rfl (narC (hc _ (List.getElem_mem hi))) (by simp) (nle rfl) (nle rfl) ⟨rfl, rfl⟩
/-- charAt, either form -/
theorem charW_met (hw : ∀ d ∈ tables_1, d.before a0 Z = true) (hcs : CSon Z) (hfm : Fmt Z) (hu : U16on Z) {h : Heap} {a : Addr} {cs : List Int32} (S : Stw Z h a cs) {i : Nat} (hi : i < cs.length) :
    Met l Z consts_1 ⟨"java/lang/String", "charAt", "(I)C"⟩ jdk_42_method_56_code 2 (some .char) [] { frames := 4, cells := 0, slots := 0, locals := 53 } #[.ref a, .int (Int32.ofNat i)] h [] (fun v h' => v = some (.int cs[i]) ∧ h = h') := by
  refine Met.of_walk (a0 := a0) (Ls := #[.val (.ref a), .val (.int (Int32.ofNat i))]) (plainFor_of_name pn_str) (own_hEL hw) rfl ?_
  refine Wl.aload_n 1 d12_0 rfl rfl ?_
  rcases S with S | S
  · obtain ⟨b, kb, X, C, Vl, A, hlat, hn⟩ := S
    have hl : Lat cs[i] := hlat _ (List.getElem_mem hi)
    refine Wl.virtual 4 (argsL := []) d12_1 (w58 hw) (w59 hw) (w61 hw) (w60 hw) (w2 hw) (w62 hw) (nf_sel (w61 hw) rfl) X (show parseMethodDescriptor "()Z" = some ⟨[], some .boolean⟩ by decide +kernel) rfl (isLatin1_met hw hcs C) (fun _ q => nomatch q) rfl rfl rfl (by decide) ⟨⟨nle rfl, nle rfl⟩, nle rfl, nle rfl⟩ ?_
    intro v h1 hq _
    obtain ⟨rfl, rfl⟩ := hq
    show WlO _ _ _ _ _ _ _ _ _ _ _ _ _ _ _ _ _ _ [.int 1]
    refine Wl.ifN 7 d12_4 (by decide) ?_
    refine Wl.aload_n 8 d12_7 rfl rfl ?_
    refine Wl.getfield 11 d12_8 (w28 hw) Vl ?_
    refine Wl.iload_n 12 d12_11 rfl ?_
    refine Wl.static 15 (argsL := [.ref b, .int (Int32.ofNat i)]) d12_12 (w63 hw) (w64 hw) (w65 hw) (w66 hw) (show parseMethodDescriptor "([BI)C" = some ⟨[.array .byte, .int], some .char⟩ by decide +kernel) rfl (charL_met hw hfm A hlat hn hi) (fun _ q => nomatch q) rfl rfl rfl (by decide) ⟨⟨nle rfl, nle rfl⟩, nle rfl, nle rfl⟩ ?_
    intro v h2 hq _
    obtain ⟨rfl, rfl⟩ := hq
    show WlO _ _ _ _ _ _ _ _ _ _ _ _ _ _ _ _ _ _ [.int cs[i]]
    exact Wl.ireturn (t := .char) d12_15 rfl (narC hl.ch) (by simp) (nle rfl) (nle rfl) ⟨rfl, rfl⟩
  · obtain ⟨b, kb, X, C, Vl, A, hc, hn⟩ := S
    refine Wl.virtual 4 (argsL := []) d12_1 (w58 hw) (w59 hw) (w61 hw) (w60 hw) (w2 hw) (w62 hw) (nf_sel (w61 hw) rfl) X (show parseMethodDescriptor "()Z" = some ⟨[], some .boolean⟩ by decide +kernel) rfl (isLat0_met hw hcs C) (fun _ q => nomatch q) rfl rfl rfl (by decide) ⟨⟨nle rfl, nle rfl⟩, nle rfl, nle rfl⟩ ?_
    intro v h1 hq _
    obtain ⟨rfl, rfl⟩ := hq
    show WlO _ _ _ _ _ _ _ _ _ _ _ _ _ _ _ _ _ _ [.int 0]
    refine Wl.ifY 16 d12_4 (by decide) ?_
    refine Wl.aload_n 17 d12_16 rfl rfl ?_
    refine Wl.getfield 20 d12_17 (w28 hw) Vl ?_
    refine Wl.iload_n 21 d12_20 rfl ?_
    refine Wl.static 24 (argsL := [.ref b, .int (Int32.ofNat i)]) d12_21 (w97 hw) (w98 hw) (w17 hw) (w99 hw) (show parseMethodDescriptor "([BI)C" = some ⟨[.array .byte, .int], some .char⟩ by decide +kernel) rfl (charU_met hw hfm hu A hc hn hi) (fun _ q => nomatch q) rfl rfl rfl (by decide) ⟨⟨nle rfl, nle rfl⟩, nle rfl, nle rfl⟩ ?_
    intro v h2 hq _
    obtain ⟨rfl, rfl⟩ := hq
    show WlO _ _ _ _ _ _ _ _ _ _ _ _ _ _ _ _ _ _ [.int cs[i]]
    exact Wl.ireturn (t := .char) d12_24 rfl (narC (hc _ (List.getElem_mem hi))) (by simp) (nle rfl) (nle rfl) ⟨rfl, rfl⟩
end Utf16

abbrev okP (c : Int32) : Prop := c.toInt = 45 ∨ c.toInt = 46 ∨ c.toInt = 95 ∨ (48 ≤ c.toInt ∧ c.toInt ≤ 57) ∨ (65 ≤ c.toInt ∧ c.toInt ≤ 90) ∨ (97 ≤ c.toInt ∧ c.toInt ≤ 122)
def okI (c : Int32) : Int32 := if okP c then 1 else 0
def fv : List Int32 → Int32
  | [] => 1
  | c :: cs => if okI c = 0 then 0 else fv cs
theorem fv_0 {c : Int32} {cs : List Int32} (h : okI c = 0) : fv (c :: cs) = 0 := if_pos h
theorem fv_n {c : Int32} {cs : List Int32} {z : Int32} (h : ¬ okI c = 0) (r : fv cs = z) : fv (c :: cs) = z := by rw [fv, if_neg h, r]
theorem fv_y {c : Int32} {cs : List Int32} {z : Int32} (h : okP c) (r : fv (c :: cs) = z) : fv cs = z := by rw [fv, okI, if_pos h, if_neg (by decide)] at r; exact r
theorem fv_x {c : Int32} {cs : List Int32} (h : ¬ okP c) : fv (c :: cs) = 0 := fv_0 (if_neg h)
set_option maxRecDepth 65536 in
set_option maxHeartbeats 40000000 in
theorem ok_met {l : Launch} {Z : State} {a0 : Array Value} (hw : ∀ d ∈ tables_1, d.before a0 Z = true) {h : Heap} {c : Int32}  :
    Met l Z consts_1 ⟨"com/example/group_by_epoch/groupbyepoch/coordinator/TopicIsValidNamePinLaw", "ok", "(C)Z"⟩ method_3_code 1 (some .boolean) [] { frames := 0, cells := 0, slots := 0, locals := 0 } #[.int c] h [] (fun v h' => v = some (.int (okI c)) ∧ h = h') := by
  refine Met.of_walk (a0 := a0) (Ls := #[.val (.int c)]) (plainFor_of_name pn_2) (own_hEL hw) rfl ?_
  refine Wl.iload_n 1 d7_0 rfl ?_
  refine Wl.bipush 3 (45 : Int32) d7_1 (by decide) ?_
  by_cases c1 : c = (45 : Int32)
  · refine Wl.icmpY 18 d7_3 (teq c1).1 ?_
    refine Wl.iconst 19 (1 : Int32) d7_18 (by decide) ?_
    have hok : okP c := by
      simp only [Int32.lt_iff_toInt_lt, ← Int32.toInt_inj] at c1
      rw [show ((45 : Int32)).toInt = 45 by decide] at c1
      unfold okP
      omega
    exact Wl.ireturn d7_19 rfl rfl (by simp) (nle rfl) (nle rfl) ⟨by rw [okI, if_pos hok], rfl⟩
  · refine Wl.icmpN 6 d7_3 (feq c1).1 ?_
    refine Wl.iload_n 7 d7_6 rfl ?_
    refine Wl.bipush 9 (46 : Int32) d7_7 (by decide) ?_
    by_cases c2 : c = (46 : Int32)
    · refine Wl.icmpY 18 d7_9 (teq c2).1 ?_
      refine Wl.iconst 19 (1 : Int32) d7_18 (by decide) ?_
      have hok : okP c := by
        simp only [Int32.lt_iff_toInt_lt, ← Int32.toInt_inj] at c1 c2
        rw [show ((45 : Int32)).toInt = 45 by decide] at c1
        rw [show ((46 : Int32)).toInt = 46 by decide] at c2
        unfold okP
        omega
      exact Wl.ireturn d7_19 rfl rfl (by simp) (nle rfl) (nle rfl) ⟨by rw [okI, if_pos hok], rfl⟩
    · refine Wl.icmpN 12 d7_9 (feq c2).1 ?_
      refine Wl.iload_n 13 d7_12 rfl ?_
      refine Wl.bipush 15 (95 : Int32) d7_13 (by decide) ?_
      by_cases c3 : c = (95 : Int32)
      · refine Wl.icmpN 18 d7_15 (teq c3).2 ?_
        refine Wl.iconst 19 (1 : Int32) d7_18 (by decide) ?_
        have hok : okP c := by
          simp only [Int32.lt_iff_toInt_lt, ← Int32.toInt_inj] at c1 c2 c3
          rw [show ((45 : Int32)).toInt = 45 by decide] at c1
          rw [show ((46 : Int32)).toInt = 46 by decide] at c2
          rw [show ((95 : Int32)).toInt = 95 by decide] at c3
          unfold okP
          omega
        exact Wl.ireturn d7_19 rfl rfl (by simp) (nle rfl) (nle rfl) ⟨by rw [okI, if_pos hok], rfl⟩
      · refine Wl.icmpY 20 d7_15 (feq c3).2 ?_
        refine Wl.bipush 22 (48 : Int32) d7_20 (by decide) ?_
        refine Wl.iload_n 23 d7_22 rfl ?_
        by_cases c4 : c < (48 : Int32)
        · refine Wl.icmpY 34 d7_23 (tlt c4).2.2.1 ?_
          refine Wl.bipush 36 (65 : Int32) d7_34 (by decide) ?_
          refine Wl.iload_n 37 d7_36 rfl ?_
          by_cases c5 : c < (65 : Int32)
          · refine Wl.icmpY 48 d7_37 (tlt c5).2.2.1 ?_
            refine Wl.bipush 50 (97 : Int32) d7_48 (by decide) ?_
            refine Wl.iload_n 51 d7_50 rfl ?_
            by_cases c6 : c < (97 : Int32)
            · refine Wl.icmpY 64 d7_51 (tlt c6).2.2.1 ?_
              refine Wl.iconst 65 (0 : Int32) d7_64 (by decide) ?_
              have hok : ¬ okP c := by
                simp only [Int32.lt_iff_toInt_lt, ← Int32.toInt_inj] at c1 c2 c3 c4 c5 c6
                rw [show ((45 : Int32)).toInt = 45 by decide] at c1
                rw [show ((46 : Int32)).toInt = 46 by decide] at c2
                rw [show ((48 : Int32)).toInt = 48 by decide] at c4
                rw [show ((65 : Int32)).toInt = 65 by decide] at c5
                rw [show ((95 : Int32)).toInt = 95 by decide] at c3
                rw [show ((97 : Int32)).toInt = 97 by decide] at c6
                unfold okP
                omega
              exact Wl.ireturn d7_65 rfl rfl (by simp) (nle rfl) (nle rfl) ⟨by rw [okI, if_neg hok], rfl⟩
            · refine Wl.icmpN 54 d7_51 (flt c6).2.2.1 ?_
              refine Wl.iload_n 55 d7_54 rfl ?_
              refine Wl.bipush 57 (122 : Int32) d7_55 (by decide) ?_
              by_cases c7 : (122 : Int32) < c
              · refine Wl.icmpY 64 d7_57 (tlt c7).2.2.1 ?_
                refine Wl.iconst 65 (0 : Int32) d7_64 (by decide) ?_
                have hok : ¬ okP c := by
                  simp only [Int32.lt_iff_toInt_lt, ← Int32.toInt_inj] at c1 c2 c3 c4 c5 c6 c7
                  rw [show ((45 : Int32)).toInt = 45 by decide] at c1
                  rw [show ((46 : Int32)).toInt = 46 by decide] at c2
                  rw [show ((48 : Int32)).toInt = 48 by decide] at c4
                  rw [show ((65 : Int32)).toInt = 65 by decide] at c5
                  rw [show ((95 : Int32)).toInt = 95 by decide] at c3
                  rw [show ((97 : Int32)).toInt = 97 by decide] at c6
                  rw [show ((122 : Int32)).toInt = 122 by decide] at c7
                  unfold okP
                  omega
                exact Wl.ireturn d7_65 rfl rfl (by simp) (nle rfl) (nle rfl) ⟨by rw [okI, if_neg hok], rfl⟩
              · refine Wl.icmpN 60 d7_57 (flt c7).2.2.1 ?_
                refine Wl.iconst 61 (1 : Int32) d7_60 (by decide) ?_
                refine Wl.goto 65 d7_61 ?_
                have hok : okP c := by
                  simp only [Int32.lt_iff_toInt_lt, ← Int32.toInt_inj] at c1 c2 c3 c4 c5 c6 c7
                  rw [show ((45 : Int32)).toInt = 45 by decide] at c1
                  rw [show ((46 : Int32)).toInt = 46 by decide] at c2
                  rw [show ((48 : Int32)).toInt = 48 by decide] at c4
                  rw [show ((65 : Int32)).toInt = 65 by decide] at c5
                  rw [show ((95 : Int32)).toInt = 95 by decide] at c3
                  rw [show ((97 : Int32)).toInt = 97 by decide] at c6
                  rw [show ((122 : Int32)).toInt = 122 by decide] at c7
                  unfold okP
                  omega
                exact Wl.ireturn d7_65 rfl rfl (by simp) (nle rfl) (nle rfl) ⟨by rw [okI, if_pos hok], rfl⟩
          · refine Wl.icmpN 40 d7_37 (flt c5).2.2.1 ?_
            refine Wl.iload_n 41 d7_40 rfl ?_
            refine Wl.bipush 43 (90 : Int32) d7_41 (by decide) ?_
            by_cases c8 : (90 : Int32) < c
            · refine Wl.icmpY 48 d7_43 (tlt c8).2.2.1 ?_
              refine Wl.bipush 50 (97 : Int32) d7_48 (by decide) ?_
              refine Wl.iload_n 51 d7_50 rfl ?_
              by_cases c9 : c < (97 : Int32)
              · refine Wl.icmpY 64 d7_51 (tlt c9).2.2.1 ?_
                refine Wl.iconst 65 (0 : Int32) d7_64 (by decide) ?_
                have hok : ¬ okP c := by
                  simp only [Int32.lt_iff_toInt_lt, ← Int32.toInt_inj] at c1 c2 c3 c4 c5 c8 c9
                  rw [show ((45 : Int32)).toInt = 45 by decide] at c1
                  rw [show ((46 : Int32)).toInt = 46 by decide] at c2
                  rw [show ((48 : Int32)).toInt = 48 by decide] at c4
                  rw [show ((65 : Int32)).toInt = 65 by decide] at c5
                  rw [show ((90 : Int32)).toInt = 90 by decide] at c8
                  rw [show ((95 : Int32)).toInt = 95 by decide] at c3
                  rw [show ((97 : Int32)).toInt = 97 by decide] at c9
                  unfold okP
                  omega
                exact Wl.ireturn d7_65 rfl rfl (by simp) (nle rfl) (nle rfl) ⟨by rw [okI, if_neg hok], rfl⟩
              · refine Wl.icmpN 54 d7_51 (flt c9).2.2.1 ?_
                refine Wl.iload_n 55 d7_54 rfl ?_
                refine Wl.bipush 57 (122 : Int32) d7_55 (by decide) ?_
                by_cases c10 : (122 : Int32) < c
                · refine Wl.icmpY 64 d7_57 (tlt c10).2.2.1 ?_
                  refine Wl.iconst 65 (0 : Int32) d7_64 (by decide) ?_
                  have hok : ¬ okP c := by
                    simp only [Int32.lt_iff_toInt_lt, ← Int32.toInt_inj] at c1 c2 c3 c4 c5 c8 c9 c10
                    rw [show ((45 : Int32)).toInt = 45 by decide] at c1
                    rw [show ((46 : Int32)).toInt = 46 by decide] at c2
                    rw [show ((48 : Int32)).toInt = 48 by decide] at c4
                    rw [show ((65 : Int32)).toInt = 65 by decide] at c5
                    rw [show ((90 : Int32)).toInt = 90 by decide] at c8
                    rw [show ((95 : Int32)).toInt = 95 by decide] at c3
                    rw [show ((97 : Int32)).toInt = 97 by decide] at c9
                    rw [show ((122 : Int32)).toInt = 122 by decide] at c10
                    unfold okP
                    omega
                  exact Wl.ireturn d7_65 rfl rfl (by simp) (nle rfl) (nle rfl) ⟨by rw [okI, if_neg hok], rfl⟩
                · refine Wl.icmpN 60 d7_57 (flt c10).2.2.1 ?_
                  refine Wl.iconst 61 (1 : Int32) d7_60 (by decide) ?_
                  refine Wl.goto 65 d7_61 ?_
                  have hok : okP c := by
                    simp only [Int32.lt_iff_toInt_lt, ← Int32.toInt_inj] at c1 c2 c3 c4 c5 c8 c9 c10
                    rw [show ((45 : Int32)).toInt = 45 by decide] at c1
                    rw [show ((46 : Int32)).toInt = 46 by decide] at c2
                    rw [show ((48 : Int32)).toInt = 48 by decide] at c4
                    rw [show ((65 : Int32)).toInt = 65 by decide] at c5
                    rw [show ((90 : Int32)).toInt = 90 by decide] at c8
                    rw [show ((95 : Int32)).toInt = 95 by decide] at c3
                    rw [show ((97 : Int32)).toInt = 97 by decide] at c9
                    rw [show ((122 : Int32)).toInt = 122 by decide] at c10
                    unfold okP
                    omega
                  exact Wl.ireturn d7_65 rfl rfl (by simp) (nle rfl) (nle rfl) ⟨by rw [okI, if_pos hok], rfl⟩
            · refine Wl.icmpN 46 d7_43 (flt c8).2.2.1 ?_
              refine Wl.iconst 47 (1 : Int32) d7_46 (by decide) ?_
              have hok : okP c := by
                simp only [Int32.lt_iff_toInt_lt, ← Int32.toInt_inj] at c1 c2 c3 c4 c5 c8
                rw [show ((45 : Int32)).toInt = 45 by decide] at c1
                rw [show ((46 : Int32)).toInt = 46 by decide] at c2
                rw [show ((48 : Int32)).toInt = 48 by decide] at c4
                rw [show ((65 : Int32)).toInt = 65 by decide] at c5
                rw [show ((90 : Int32)).toInt = 90 by decide] at c8
                rw [show ((95 : Int32)).toInt = 95 by decide] at c3
                unfold okP
                omega
              exact Wl.ireturn d7_47 rfl rfl (by simp) (nle rfl) (nle rfl) ⟨by rw [okI, if_pos hok], rfl⟩
        · refine Wl.icmpN 26 d7_23 (flt c4).2.2.1 ?_
          refine Wl.iload_n 27 d7_26 rfl ?_
          refine Wl.bipush 29 (57 : Int32) d7_27 (by decide) ?_
          by_cases c11 : (57 : Int32) < c
          · refine Wl.icmpY 34 d7_29 (tlt c11).2.2.1 ?_
            refine Wl.bipush 36 (65 : Int32) d7_34 (by decide) ?_
            refine Wl.iload_n 37 d7_36 rfl ?_
            by_cases c12 : c < (65 : Int32)
            · refine Wl.icmpY 48 d7_37 (tlt c12).2.2.1 ?_
              refine Wl.bipush 50 (97 : Int32) d7_48 (by decide) ?_
              refine Wl.iload_n 51 d7_50 rfl ?_
              by_cases c13 : c < (97 : Int32)
              · refine Wl.icmpY 64 d7_51 (tlt c13).2.2.1 ?_
                refine Wl.iconst 65 (0 : Int32) d7_64 (by decide) ?_
                have hok : ¬ okP c := by
                  simp only [Int32.lt_iff_toInt_lt, ← Int32.toInt_inj] at c1 c2 c3 c4 c11 c12 c13
                  rw [show ((45 : Int32)).toInt = 45 by decide] at c1
                  rw [show ((46 : Int32)).toInt = 46 by decide] at c2
                  rw [show ((48 : Int32)).toInt = 48 by decide] at c4
                  rw [show ((57 : Int32)).toInt = 57 by decide] at c11
                  rw [show ((65 : Int32)).toInt = 65 by decide] at c12
                  rw [show ((95 : Int32)).toInt = 95 by decide] at c3
                  rw [show ((97 : Int32)).toInt = 97 by decide] at c13
                  unfold okP
                  omega
                exact Wl.ireturn d7_65 rfl rfl (by simp) (nle rfl) (nle rfl) ⟨by rw [okI, if_neg hok], rfl⟩
              · refine Wl.icmpN 54 d7_51 (flt c13).2.2.1 ?_
                refine Wl.iload_n 55 d7_54 rfl ?_
                refine Wl.bipush 57 (122 : Int32) d7_55 (by decide) ?_
                by_cases c14 : (122 : Int32) < c
                · refine Wl.icmpY 64 d7_57 (tlt c14).2.2.1 ?_
                  refine Wl.iconst 65 (0 : Int32) d7_64 (by decide) ?_
                  have hok : ¬ okP c := by
                    simp only [Int32.lt_iff_toInt_lt, ← Int32.toInt_inj] at c1 c2 c3 c4 c11 c12 c13 c14
                    rw [show ((45 : Int32)).toInt = 45 by decide] at c1
                    rw [show ((46 : Int32)).toInt = 46 by decide] at c2
                    rw [show ((48 : Int32)).toInt = 48 by decide] at c4
                    rw [show ((57 : Int32)).toInt = 57 by decide] at c11
                    rw [show ((65 : Int32)).toInt = 65 by decide] at c12
                    rw [show ((95 : Int32)).toInt = 95 by decide] at c3
                    rw [show ((97 : Int32)).toInt = 97 by decide] at c13
                    rw [show ((122 : Int32)).toInt = 122 by decide] at c14
                    unfold okP
                    omega
                  exact Wl.ireturn d7_65 rfl rfl (by simp) (nle rfl) (nle rfl) ⟨by rw [okI, if_neg hok], rfl⟩
                · refine Wl.icmpN 60 d7_57 (flt c14).2.2.1 ?_
                  refine Wl.iconst 61 (1 : Int32) d7_60 (by decide) ?_
                  refine Wl.goto 65 d7_61 ?_
                  have hok : okP c := by
                    simp only [Int32.lt_iff_toInt_lt, ← Int32.toInt_inj] at c1 c2 c3 c4 c11 c12 c13 c14
                    rw [show ((45 : Int32)).toInt = 45 by decide] at c1
                    rw [show ((46 : Int32)).toInt = 46 by decide] at c2
                    rw [show ((48 : Int32)).toInt = 48 by decide] at c4
                    rw [show ((57 : Int32)).toInt = 57 by decide] at c11
                    rw [show ((65 : Int32)).toInt = 65 by decide] at c12
                    rw [show ((95 : Int32)).toInt = 95 by decide] at c3
                    rw [show ((97 : Int32)).toInt = 97 by decide] at c13
                    rw [show ((122 : Int32)).toInt = 122 by decide] at c14
                    unfold okP
                    omega
                  exact Wl.ireturn d7_65 rfl rfl (by simp) (nle rfl) (nle rfl) ⟨by rw [okI, if_pos hok], rfl⟩
            · refine Wl.icmpN 40 d7_37 (flt c12).2.2.1 ?_
              refine Wl.iload_n 41 d7_40 rfl ?_
              refine Wl.bipush 43 (90 : Int32) d7_41 (by decide) ?_
              by_cases c15 : (90 : Int32) < c
              · refine Wl.icmpY 48 d7_43 (tlt c15).2.2.1 ?_
                refine Wl.bipush 50 (97 : Int32) d7_48 (by decide) ?_
                refine Wl.iload_n 51 d7_50 rfl ?_
                by_cases c16 : c < (97 : Int32)
                · refine Wl.icmpY 64 d7_51 (tlt c16).2.2.1 ?_
                  refine Wl.iconst 65 (0 : Int32) d7_64 (by decide) ?_
                  have hok : ¬ okP c := by
                    simp only [Int32.lt_iff_toInt_lt, ← Int32.toInt_inj] at c1 c2 c3 c4 c11 c12 c15 c16
                    rw [show ((45 : Int32)).toInt = 45 by decide] at c1
                    rw [show ((46 : Int32)).toInt = 46 by decide] at c2
                    rw [show ((48 : Int32)).toInt = 48 by decide] at c4
                    rw [show ((57 : Int32)).toInt = 57 by decide] at c11
                    rw [show ((65 : Int32)).toInt = 65 by decide] at c12
                    rw [show ((90 : Int32)).toInt = 90 by decide] at c15
                    rw [show ((95 : Int32)).toInt = 95 by decide] at c3
                    rw [show ((97 : Int32)).toInt = 97 by decide] at c16
                    unfold okP
                    omega
                  exact Wl.ireturn d7_65 rfl rfl (by simp) (nle rfl) (nle rfl) ⟨by rw [okI, if_neg hok], rfl⟩
                · refine Wl.icmpN 54 d7_51 (flt c16).2.2.1 ?_
                  refine Wl.iload_n 55 d7_54 rfl ?_
                  refine Wl.bipush 57 (122 : Int32) d7_55 (by decide) ?_
                  by_cases c17 : (122 : Int32) < c
                  · refine Wl.icmpY 64 d7_57 (tlt c17).2.2.1 ?_
                    refine Wl.iconst 65 (0 : Int32) d7_64 (by decide) ?_
                    have hok : ¬ okP c := by
                      simp only [Int32.lt_iff_toInt_lt, ← Int32.toInt_inj] at c1 c2 c3 c4 c11 c12 c15 c16 c17
                      rw [show ((45 : Int32)).toInt = 45 by decide] at c1
                      rw [show ((46 : Int32)).toInt = 46 by decide] at c2
                      rw [show ((48 : Int32)).toInt = 48 by decide] at c4
                      rw [show ((57 : Int32)).toInt = 57 by decide] at c11
                      rw [show ((65 : Int32)).toInt = 65 by decide] at c12
                      rw [show ((90 : Int32)).toInt = 90 by decide] at c15
                      rw [show ((95 : Int32)).toInt = 95 by decide] at c3
                      rw [show ((97 : Int32)).toInt = 97 by decide] at c16
                      rw [show ((122 : Int32)).toInt = 122 by decide] at c17
                      unfold okP
                      omega
                    exact Wl.ireturn d7_65 rfl rfl (by simp) (nle rfl) (nle rfl) ⟨by rw [okI, if_neg hok], rfl⟩
                  · refine Wl.icmpN 60 d7_57 (flt c17).2.2.1 ?_
                    refine Wl.iconst 61 (1 : Int32) d7_60 (by decide) ?_
                    refine Wl.goto 65 d7_61 ?_
                    have hok : okP c := by
                      simp only [Int32.lt_iff_toInt_lt, ← Int32.toInt_inj] at c1 c2 c3 c4 c11 c12 c15 c16 c17
                      rw [show ((45 : Int32)).toInt = 45 by decide] at c1
                      rw [show ((46 : Int32)).toInt = 46 by decide] at c2
                      rw [show ((48 : Int32)).toInt = 48 by decide] at c4
                      rw [show ((57 : Int32)).toInt = 57 by decide] at c11
                      rw [show ((65 : Int32)).toInt = 65 by decide] at c12
                      rw [show ((90 : Int32)).toInt = 90 by decide] at c15
                      rw [show ((95 : Int32)).toInt = 95 by decide] at c3
                      rw [show ((97 : Int32)).toInt = 97 by decide] at c16
                      rw [show ((122 : Int32)).toInt = 122 by decide] at c17
                      unfold okP
                      omega
                    exact Wl.ireturn d7_65 rfl rfl (by simp) (nle rfl) (nle rfl) ⟨by rw [okI, if_pos hok], rfl⟩
              · refine Wl.icmpN 46 d7_43 (flt c15).2.2.1 ?_
                refine Wl.iconst 47 (1 : Int32) d7_46 (by decide) ?_
                have hok : okP c := by
                  simp only [Int32.lt_iff_toInt_lt, ← Int32.toInt_inj] at c1 c2 c3 c4 c11 c12 c15
                  rw [show ((45 : Int32)).toInt = 45 by decide] at c1
                  rw [show ((46 : Int32)).toInt = 46 by decide] at c2
                  rw [show ((48 : Int32)).toInt = 48 by decide] at c4
                  rw [show ((57 : Int32)).toInt = 57 by decide] at c11
                  rw [show ((65 : Int32)).toInt = 65 by decide] at c12
                  rw [show ((90 : Int32)).toInt = 90 by decide] at c15
                  rw [show ((95 : Int32)).toInt = 95 by decide] at c3
                  unfold okP
                  omega
                exact Wl.ireturn d7_47 rfl rfl (by simp) (nle rfl) (nle rfl) ⟨by rw [okI, if_pos hok], rfl⟩
          · refine Wl.icmpN 32 d7_29 (flt c11).2.2.1 ?_
            refine Wl.iconst 33 (1 : Int32) d7_32 (by decide) ?_
            have hok : okP c := by
              simp only [Int32.lt_iff_toInt_lt, ← Int32.toInt_inj] at c1 c2 c3 c4 c11
              rw [show ((45 : Int32)).toInt = 45 by decide] at c1
              rw [show ((46 : Int32)).toInt = 46 by decide] at c2
              rw [show ((48 : Int32)).toInt = 48 by decide] at c4
              rw [show ((57 : Int32)).toInt = 57 by decide] at c11
              rw [show ((95 : Int32)).toInt = 95 by decide] at c3
              unfold okP
              omega
            exact Wl.ireturn d7_33 rfl rfl (by simp) (nle rfl) (nle rfl) ⟨by rw [okI, if_pos hok], rfl⟩
theorem empty_met {l : Launch} {Z : State} {a0 : Array Value} (hw : ∀ d ∈ tables_1, d.before a0 Z = true) {h : Heap} {a b : Addr} {kb : ClassId} {z : Int32} {vs : List Value} {dv : Value} (Vl : Fld Z h a "java/lang/String" "value" "[B" (.ref b)) (A : Arv Z h b kb .byte z vs dv) :
    Met l Z consts_1 ⟨"java/lang/String", "isEmpty", "()Z"⟩ jdk_42_method_55_code 1 (some .boolean) [] rm0 #[.ref a] h [] (fun v h' => v = some (.int (if z = 0 then 1 else 0)) ∧ h = h') := by
  refine Met.of_walk (a0 := a0) (Ls := #[.val (.ref a)]) (plainFor_of_name pn_str) (own_hEL hw) rfl ?_
  refine Wl.aload_n 1 d9_0 rfl rfl ?_
  refine Wl.getfield 4 d9_1 (w28 hw) Vl ?_
  refine Wl.arraylength 5 d9_4 A ?_
  by_cases hz : z = 0
  · refine Wl.ifN 8 d9_5 (teq hz).2 ?_
    refine Wl.iconst 9 (1 : Int32) d9_8 (by decide) ?_
    refine Wl.goto 13 d9_9 ?_
    exact Wl.ireturn (t := .boolean) d9_13 rfl rfl (by simp) (nle rfl) (nle rfl) ⟨by rw [if_pos hz], rfl⟩
  · refine Wl.ifY 12 d9_5 (feq hz).2 ?_
    refine Wl.iconst 13 (0 : Int32) d9_12 (by decide) ?_
    exact Wl.ireturn (t := .boolean) d9_13 rfl rfl (by simp) (nle rfl) (nle rfl) ⟨by rw [if_neg hz], rfl⟩
theorem emptyW_met {l : Launch} {Z : State} {a0 : Array Value} (hw : ∀ d ∈ tables_1, d.before a0 Z = true) {h : Heap} {a : Addr} {cs : List Int32} (S : Stw Z h a cs) (hne : cs ≠ []) :
    Met l Z consts_1 ⟨"java/lang/String", "isEmpty", "()Z"⟩ jdk_42_method_55_code 1 (some .boolean) [] rm0 #[.ref a] h [] (fun v h' => v = some (.int 0) ∧ h = h') := by
  have hp : 0 < cs.length := List.length_pos_iff.mpr hne
  rcases S with ⟨b, kb, X, C, Vl, A, hl, hn⟩ | ⟨b, kb, X, C, Vl, A, hl, hn⟩
  · have q := empty_met (l := l) hw Vl A
    rwa [if_neg (fun q => by have := congrArg Int32.toInt q; rw [nI (by omega), show (0 : Int32).toInt = 0 by decide] at this; omega)] at q
  · have q := empty_met (l := l) hw Vl A
    rwa [if_neg (fun q => by have := congrArg Int32.toInt q; rw [nI (by omega), show (0 : Int32).toInt = 0 by decide] at this; omega)] at q
theorem empty0_met {l : Launch} {Z : State} {a0 : Array Value} (hw : ∀ d ∈ tables_1, d.before a0 Z = true) {h : Heap} {a : Addr} (S : Stl Z h a []) :
    Met l Z consts_1 ⟨"java/lang/String", "isEmpty", "()Z"⟩ jdk_42_method_55_code 1 (some .boolean) [] rm0 #[.ref a] h [] (fun v h' => v = some (.int 1) ∧ h = h') := by
  obtain ⟨b, kb, X, C, Vl, A, hl, hn⟩ := S
  have q := empty_met (l := l) hw Vl A
  rwa [if_pos (by decide)] at q
set_option maxRecDepth 65536 in
set_option maxHeartbeats 40000000 in
theorem val_loop {l : Launch} {Z : State} {a0 : Array Value} (hw : ∀ d ∈ tables_1, d.before a0 Z = true) (hcs : CSon Z) (hfm : Fmt Z) (hu : U16on Z) {h : Heap} {a : Addr} {cs : List Int32} (S : Stw Z h a cs) (j : Nat) :
    ∀ (i : Nat) (o1 o2 : Slot), i + j = cs.length → (o1 = .unset ∨ ∃ w, o1 = .val w ∧ w.category = 1) → (o2 = .unset ∨ ∃ w, o2 = .val w ∧ w.category = 1) → (∀ z, fv cs = z → fv (cs.drop i) = z) → (∀ z, fv (cs.drop i) = z → fv cs = z) →
    Wl l Z a0 consts_1 ⟨"com/example/group_by_epoch/groupbyepoch/coordinator/Topic", "isValidName", "(Ljava/lang/String;)Z"⟩ prog_28_method_6_code 4 (some .boolean) { frames := 5, cells := 0, slots := 0, locals := 66 } #[.ref a] (fun v h' => v = some (.int (fv cs)) ∧ h = h') [] h 0 0 21 #[.val (.ref a), .val (.int (Int32.ofNat i)), o1, o2] [] := by
  have hn := S.ch.2
  induction j with
  | zero =>
    intro i o1 o2 hij ho1 ho2 hf hg
    have hi : i = cs.length := by omega
    subst hi
    refine Wl.iload_n 22 d8_21 rfl ?_
    refine Wl.aload_n 23 d8_22 rfl rfl ?_
    refine Wl.virtual 26 (argsL := []) d8_23 (w43 hw) (w44 hw) (w46 hw) (w45 hw) (w2 hw) (w47 hw) (nf_sel (w46 hw) rfl) (S).exa (show parseMethodDescriptor "()I" = some ⟨[], some .int⟩ by decide +kernel) rfl (lenW_met hw hcs S) (fun _ q => nomatch q) rfl rfl rfl (by decide) ⟨⟨nle rfl, nle rfl⟩, nle rfl, nle rfl⟩ ?_
    intro v1 h2 hq3 _
    obtain ⟨rfl, rfl⟩ := hq3
    show WlO _ _ _ _ _ _ _ _ _ _ _ _ _ _ _ _ _ _ [.int (Int32.ofNat cs.length), .int (Int32.ofNat cs.length)]
    refine Wl.icmpY 107 d8_26 (flt Int32.lt_irrefl).2.1 ?_
    refine Wl.iconst 108 (1 : Int32) d8_107 (by decide) ?_
    exact Wl.ireturn d8_108 rfl rfl (by simp) (nle rfl) (nle rfl) ⟨by rw [hg 1 (by rw [List.drop_length]; rfl)], rfl⟩
  | succ j ih =>
    intro i o1 o2 hij ho1 ho2 hf hg
    have hi : i < cs.length := by omega
    have ed : cs.drop i = cs[i] :: cs.drop (i + 1) := List.drop_eq_getElem_cons hi
    refine Wl.iload_n 22 d8_21 rfl ?_
    refine Wl.aload_n 23 d8_22 rfl rfl ?_
    refine Wl.virtual 26 (argsL := []) d8_23 (w43 hw) (w44 hw) (w46 hw) (w45 hw) (w2 hw) (w47 hw) (nf_sel (w46 hw) rfl) (S).exa (show parseMethodDescriptor "()I" = some ⟨[], some .int⟩ by decide +kernel) rfl (lenW_met hw hcs S) (fun _ q => nomatch q) rfl rfl rfl (by decide) ⟨⟨nle rfl, nle rfl⟩, nle rfl, nle rfl⟩ ?_
    intro v501 h502 hq503 _
    obtain ⟨rfl, rfl⟩ := hq503
    show WlO _ _ _ _ _ _ _ _ _ _ _ _ _ _ _ _ _ _ [.int (Int32.ofNat cs.length), .int (Int32.ofNat i)]
    refine Wl.icmpN 29 d8_26 (tlt ((nLt (by omega) (by omega)).mpr hi)).2.1 ?_
    refine Wl.aload_n 30 d8_29 rfl rfl ?_
    refine Wl.iload_n 31 d8_30 rfl ?_
    refine Wl.virtual 34 (argsL := [.int (Int32.ofNat i)]) d8_31 (w53 hw) (w54 hw) (w56 hw) (w55 hw) (w2 hw) (w57 hw) (nf_sel (w56 hw) rfl) (S).exa (show parseMethodDescriptor "(I)C" = some ⟨[.int], some .char⟩ by decide +kernel) rfl (charW_met hw hcs hfm hu S (i := i) hi) (fun _ q => nomatch q) rfl rfl rfl (by decide) ⟨⟨nle rfl, nle rfl⟩, nle rfl, nle rfl⟩ ?_
    intro v504 h505 hq506 _
    obtain ⟨rfl, rfl⟩ := hq506
    show WlO _ _ _ _ _ _ _ _ _ _ _ _ _ _ _ _ _ _ [.int (cs[i])]
    refine Wl.istore_n 35 #[.val (.ref a), .val (.int (Int32.ofNat i)), .val (.int (cs[i])), o2] d8_34 (XS.store1 (o := o1) rfl ho1 rfl) ?_
    refine Wl.iload_n 36 d8_35 rfl ?_
    refine Wl.bipush 38 (97 : Int32) d8_36 (by decide) ?_
    by_cases c507 : cs[i] < (97 : Int32)
    · refine Wl.icmpY 47 d8_38 (tlt c507).1 ?_
      refine Wl.iload_n 48 d8_47 rfl ?_
      refine Wl.bipush 50 (65 : Int32) d8_48 (by decide) ?_
      by_cases c508 : cs[i] < (65 : Int32)
      · refine Wl.icmpY 59 d8_50 (tlt c508).1 ?_
        refine Wl.iload_n 60 d8_59 rfl ?_
        refine Wl.bipush 62 (48 : Int32) d8_60 (by decide) ?_
        by_cases c509 : cs[i] < (48 : Int32)
        · refine Wl.icmpY 75 d8_62 (tlt c509).1 ?_
          refine Wl.iconst 76 (0 : Int32) d8_75 (by decide) ?_
          refine Wl.istore_n 77 #[.val (.ref a), .val (.int (Int32.ofNat i)), .val (.int (cs[i])), .val (.int (0 : Int32))] d8_76 (XS.store1 (o := o2) rfl ho2 rfl) ?_
          refine Wl.iload_n 78 d8_77 rfl ?_
          refine Wl.ifN 81 d8_78 (teq (by decide)).2 ?_
          refine Wl.iload_n 82 d8_81 rfl ?_
          refine Wl.bipush 84 (46 : Int32) d8_82 (by decide) ?_
          by_cases c510 : cs[i] = (46 : Int32)
          · refine Wl.icmpY 101 d8_84 (teq c510).1 ?_
            have hok : okP cs[i] := by
              simp only [Int32.lt_iff_toInt_lt, ← Int32.toInt_inj] at c507 c508 c509 c510
              rw [show ((46 : Int32)).toInt = 46 by decide] at c510
              rw [show ((48 : Int32)).toInt = 48 by decide] at c509
              rw [show ((65 : Int32)).toInt = 65 by decide] at c508
              rw [show ((97 : Int32)).toInt = 97 by decide] at c507
              unfold okP
              omega
            refine Wl.iinc 104 #[.val (.ref a), .val (.int (Int32.ofNat (i + 1))), .val (.int (cs[i])), .val (.int (0 : Int32))] (1 : Int32) d8_101 (by decide) rfl (by rw [nS]; rfl) ?_
            refine Wl.goto 21 d8_104 ?_
            exact ih (i + 1) _ _ (by omega) (Or.inr ⟨_, rfl, rfl⟩) (Or.inr ⟨_, rfl, rfl⟩) (fun z q => fv_y hok (ed ▸ hf z q)) (fun z q => hg z (by rw [ed, fv, okI, if_pos hok, if_neg (by decide)]; exact q))
          · refine Wl.icmpN 87 d8_84 (feq c510).1 ?_
            refine Wl.iload_n 88 d8_87 rfl ?_
            refine Wl.bipush 90 (95 : Int32) d8_88 (by decide) ?_
            by_cases c511 : cs[i] = (95 : Int32)
            · refine Wl.icmpY 101 d8_90 (teq c511).1 ?_
              have hok : okP cs[i] := by
                simp only [Int32.lt_iff_toInt_lt, ← Int32.toInt_inj] at c507 c508 c509 c510 c511
                rw [show ((46 : Int32)).toInt = 46 by decide] at c510
                rw [show ((48 : Int32)).toInt = 48 by decide] at c509
                rw [show ((65 : Int32)).toInt = 65 by decide] at c508
                rw [show ((95 : Int32)).toInt = 95 by decide] at c511
                rw [show ((97 : Int32)).toInt = 97 by decide] at c507
                unfold okP
                omega
              refine Wl.iinc 104 #[.val (.ref a), .val (.int (Int32.ofNat (i + 1))), .val (.int (cs[i])), .val (.int (0 : Int32))] (1 : Int32) d8_101 (by decide) rfl (by rw [nS]; rfl) ?_
              refine Wl.goto 21 d8_104 ?_
              exact ih (i + 1) _ _ (by omega) (Or.inr ⟨_, rfl, rfl⟩) (Or.inr ⟨_, rfl, rfl⟩) (fun z q => fv_y hok (ed ▸ hf z q)) (fun z q => hg z (by rw [ed, fv, okI, if_pos hok, if_neg (by decide)]; exact q))
            · refine Wl.icmpN 93 d8_90 (feq c511).1 ?_
              refine Wl.iload_n 94 d8_93 rfl ?_
              refine Wl.bipush 96 (45 : Int32) d8_94 (by decide) ?_
              by_cases c512 : cs[i] = (45 : Int32)
              · refine Wl.icmpY 101 d8_96 (teq c512).1 ?_
                have hok : okP cs[i] := by
                  simp only [Int32.lt_iff_toInt_lt, ← Int32.toInt_inj] at c507 c508 c509 c510 c511 c512
                  rw [show ((45 : Int32)).toInt = 45 by decide] at c512
                  rw [show ((46 : Int32)).toInt = 46 by decide] at c510
                  rw [show ((48 : Int32)).toInt = 48 by decide] at c509
                  rw [show ((65 : Int32)).toInt = 65 by decide] at c508
                  rw [show ((95 : Int32)).toInt = 95 by decide] at c511
                  rw [show ((97 : Int32)).toInt = 97 by decide] at c507
                  unfold okP
                  omega
                refine Wl.iinc 104 #[.val (.ref a), .val (.int (Int32.ofNat (i + 1))), .val (.int (cs[i])), .val (.int (0 : Int32))] (1 : Int32) d8_101 (by decide) rfl (by rw [nS]; rfl) ?_
                refine Wl.goto 21 d8_104 ?_
                exact ih (i + 1) _ _ (by omega) (Or.inr ⟨_, rfl, rfl⟩) (Or.inr ⟨_, rfl, rfl⟩) (fun z q => fv_y hok (ed ▸ hf z q)) (fun z q => hg z (by rw [ed, fv, okI, if_pos hok, if_neg (by decide)]; exact q))
              · refine Wl.icmpN 99 d8_96 (feq c512).1 ?_
                refine Wl.iconst 100 (0 : Int32) d8_99 (by decide) ?_
                have hok : ¬ okP cs[i] := by
                  simp only [Int32.lt_iff_toInt_lt, ← Int32.toInt_inj] at c507 c508 c509 c510 c511 c512
                  rw [show ((45 : Int32)).toInt = 45 by decide] at c512
                  rw [show ((46 : Int32)).toInt = 46 by decide] at c510
                  rw [show ((48 : Int32)).toInt = 48 by decide] at c509
                  rw [show ((65 : Int32)).toInt = 65 by decide] at c508
                  rw [show ((95 : Int32)).toInt = 95 by decide] at c511
                  rw [show ((97 : Int32)).toInt = 97 by decide] at c507
                  unfold okP
                  omega
                exact Wl.ireturn d8_100 rfl rfl (by simp) (nle rfl) (nle rfl) ⟨by rw [hg 0 (by rw [ed]; exact fv_x hok)], rfl⟩
        · refine Wl.icmpN 65 d8_62 (flt c509).1 ?_
          refine Wl.iload_n 66 d8_65 rfl ?_
          refine Wl.bipush 68 (57 : Int32) d8_66 (by decide) ?_
          by_cases c513 : (57 : Int32) < cs[i]
          · refine Wl.icmpY 75 d8_68 (tlt c513).2.2.1 ?_
            refine Wl.iconst 76 (0 : Int32) d8_75 (by decide) ?_
            refine Wl.istore_n 77 #[.val (.ref a), .val (.int (Int32.ofNat i)), .val (.int (cs[i])), .val (.int (0 : Int32))] d8_76 (XS.store1 (o := o2) rfl ho2 rfl) ?_
            refine Wl.iload_n 78 d8_77 rfl ?_
            refine Wl.ifN 81 d8_78 (teq (by decide)).2 ?_
            refine Wl.iload_n 82 d8_81 rfl ?_
            refine Wl.bipush 84 (46 : Int32) d8_82 (by decide) ?_
            by_cases c514 : cs[i] = (46 : Int32)
            · refine Wl.icmpY 101 d8_84 (teq c514).1 ?_
              have hok : okP cs[i] := by
                simp only [Int32.lt_iff_toInt_lt, ← Int32.toInt_inj] at c507 c508 c509 c513 c514
                rw [show ((46 : Int32)).toInt = 46 by decide] at c514
                rw [show ((48 : Int32)).toInt = 48 by decide] at c509
                rw [show ((57 : Int32)).toInt = 57 by decide] at c513
                rw [show ((65 : Int32)).toInt = 65 by decide] at c508
                rw [show ((97 : Int32)).toInt = 97 by decide] at c507
                unfold okP
                omega
              refine Wl.iinc 104 #[.val (.ref a), .val (.int (Int32.ofNat (i + 1))), .val (.int (cs[i])), .val (.int (0 : Int32))] (1 : Int32) d8_101 (by decide) rfl (by rw [nS]; rfl) ?_
              refine Wl.goto 21 d8_104 ?_
              exact ih (i + 1) _ _ (by omega) (Or.inr ⟨_, rfl, rfl⟩) (Or.inr ⟨_, rfl, rfl⟩) (fun z q => fv_y hok (ed ▸ hf z q)) (fun z q => hg z (by rw [ed, fv, okI, if_pos hok, if_neg (by decide)]; exact q))
            · refine Wl.icmpN 87 d8_84 (feq c514).1 ?_
              refine Wl.iload_n 88 d8_87 rfl ?_
              refine Wl.bipush 90 (95 : Int32) d8_88 (by decide) ?_
              by_cases c515 : cs[i] = (95 : Int32)
              · refine Wl.icmpY 101 d8_90 (teq c515).1 ?_
                have hok : okP cs[i] := by
                  simp only [Int32.lt_iff_toInt_lt, ← Int32.toInt_inj] at c507 c508 c509 c513 c514 c515
                  rw [show ((46 : Int32)).toInt = 46 by decide] at c514
                  rw [show ((48 : Int32)).toInt = 48 by decide] at c509
                  rw [show ((57 : Int32)).toInt = 57 by decide] at c513
                  rw [show ((65 : Int32)).toInt = 65 by decide] at c508
                  rw [show ((95 : Int32)).toInt = 95 by decide] at c515
                  rw [show ((97 : Int32)).toInt = 97 by decide] at c507
                  unfold okP
                  omega
                refine Wl.iinc 104 #[.val (.ref a), .val (.int (Int32.ofNat (i + 1))), .val (.int (cs[i])), .val (.int (0 : Int32))] (1 : Int32) d8_101 (by decide) rfl (by rw [nS]; rfl) ?_
                refine Wl.goto 21 d8_104 ?_
                exact ih (i + 1) _ _ (by omega) (Or.inr ⟨_, rfl, rfl⟩) (Or.inr ⟨_, rfl, rfl⟩) (fun z q => fv_y hok (ed ▸ hf z q)) (fun z q => hg z (by rw [ed, fv, okI, if_pos hok, if_neg (by decide)]; exact q))
              · refine Wl.icmpN 93 d8_90 (feq c515).1 ?_
                refine Wl.iload_n 94 d8_93 rfl ?_
                refine Wl.bipush 96 (45 : Int32) d8_94 (by decide) ?_
                by_cases c516 : cs[i] = (45 : Int32)
                · refine Wl.icmpY 101 d8_96 (teq c516).1 ?_
                  have hok : okP cs[i] := by
                    simp only [Int32.lt_iff_toInt_lt, ← Int32.toInt_inj] at c507 c508 c509 c513 c514 c515 c516
                    rw [show ((45 : Int32)).toInt = 45 by decide] at c516
                    rw [show ((46 : Int32)).toInt = 46 by decide] at c514
                    rw [show ((48 : Int32)).toInt = 48 by decide] at c509
                    rw [show ((57 : Int32)).toInt = 57 by decide] at c513
                    rw [show ((65 : Int32)).toInt = 65 by decide] at c508
                    rw [show ((95 : Int32)).toInt = 95 by decide] at c515
                    rw [show ((97 : Int32)).toInt = 97 by decide] at c507
                    unfold okP
                    omega
                  refine Wl.iinc 104 #[.val (.ref a), .val (.int (Int32.ofNat (i + 1))), .val (.int (cs[i])), .val (.int (0 : Int32))] (1 : Int32) d8_101 (by decide) rfl (by rw [nS]; rfl) ?_
                  refine Wl.goto 21 d8_104 ?_
                  exact ih (i + 1) _ _ (by omega) (Or.inr ⟨_, rfl, rfl⟩) (Or.inr ⟨_, rfl, rfl⟩) (fun z q => fv_y hok (ed ▸ hf z q)) (fun z q => hg z (by rw [ed, fv, okI, if_pos hok, if_neg (by decide)]; exact q))
                · refine Wl.icmpN 99 d8_96 (feq c516).1 ?_
                  refine Wl.iconst 100 (0 : Int32) d8_99 (by decide) ?_
                  have hok : ¬ okP cs[i] := by
                    simp only [Int32.lt_iff_toInt_lt, ← Int32.toInt_inj] at c507 c508 c509 c513 c514 c515 c516
                    rw [show ((45 : Int32)).toInt = 45 by decide] at c516
                    rw [show ((46 : Int32)).toInt = 46 by decide] at c514
                    rw [show ((48 : Int32)).toInt = 48 by decide] at c509
                    rw [show ((57 : Int32)).toInt = 57 by decide] at c513
                    rw [show ((65 : Int32)).toInt = 65 by decide] at c508
                    rw [show ((95 : Int32)).toInt = 95 by decide] at c515
                    rw [show ((97 : Int32)).toInt = 97 by decide] at c507
                    unfold okP
                    omega
                  exact Wl.ireturn d8_100 rfl rfl (by simp) (nle rfl) (nle rfl) ⟨by rw [hg 0 (by rw [ed]; exact fv_x hok)], rfl⟩
          · refine Wl.icmpN 71 d8_68 (flt c513).2.2.1 ?_
            refine Wl.iconst 72 (1 : Int32) d8_71 (by decide) ?_
            refine Wl.goto 76 d8_72 ?_
            refine Wl.istore_n 77 #[.val (.ref a), .val (.int (Int32.ofNat i)), .val (.int (cs[i])), .val (.int (1 : Int32))] d8_76 (XS.store1 (o := o2) rfl ho2 rfl) ?_
            refine Wl.iload_n 78 d8_77 rfl ?_
            refine Wl.ifY 101 d8_78 (feq (by decide)).2 ?_
            have hok : okP cs[i] := by
              simp only [Int32.lt_iff_toInt_lt, ← Int32.toInt_inj] at c507 c508 c509 c513
              rw [show ((48 : Int32)).toInt = 48 by decide] at c509
              rw [show ((57 : Int32)).toInt = 57 by decide] at c513
              rw [show ((65 : Int32)).toInt = 65 by decide] at c508
              rw [show ((97 : Int32)).toInt = 97 by decide] at c507
              unfold okP
              omega
            refine Wl.iinc 104 #[.val (.ref a), .val (.int (Int32.ofNat (i + 1))), .val (.int (cs[i])), .val (.int (1 : Int32))] (1 : Int32) d8_101 (by decide) rfl (by rw [nS]; rfl) ?_
            refine Wl.goto 21 d8_104 ?_
            exact ih (i + 1) _ _ (by omega) (Or.inr ⟨_, rfl, rfl⟩) (Or.inr ⟨_, rfl, rfl⟩) (fun z q => fv_y hok (ed ▸ hf z q)) (fun z q => hg z (by rw [ed, fv, okI, if_pos hok, if_neg (by decide)]; exact q))
      · refine Wl.icmpN 53 d8_50 (flt c508).1 ?_
        refine Wl.iload_n 54 d8_53 rfl ?_
        refine Wl.bipush 56 (90 : Int32) d8_54 (by decide) ?_
        by_cases c517 : (90 : Int32) < cs[i]
        · refine Wl.icmpN 59 d8_56 (tlt c517).2.2.2 ?_
          refine Wl.iload_n 60 d8_59 rfl ?_
          refine Wl.bipush 62 (48 : Int32) d8_60 (by decide) ?_
          by_cases c518 : cs[i] < (48 : Int32)
          · refine Wl.icmpY 75 d8_62 (tlt c518).1 ?_
            refine Wl.iconst 76 (0 : Int32) d8_75 (by decide) ?_
            refine Wl.istore_n 77 #[.val (.ref a), .val (.int (Int32.ofNat i)), .val (.int (cs[i])), .val (.int (0 : Int32))] d8_76 (XS.store1 (o := o2) rfl ho2 rfl) ?_
            refine Wl.iload_n 78 d8_77 rfl ?_
            refine Wl.ifN 81 d8_78 (teq (by decide)).2 ?_
            refine Wl.iload_n 82 d8_81 rfl ?_
            refine Wl.bipush 84 (46 : Int32) d8_82 (by decide) ?_
            by_cases c519 : cs[i] = (46 : Int32)
            · refine Wl.icmpY 101 d8_84 (teq c519).1 ?_
              have hok : okP cs[i] := by
                simp only [Int32.lt_iff_toInt_lt, ← Int32.toInt_inj] at c507 c508 c517 c518 c519
                rw [show ((46 : Int32)).toInt = 46 by decide] at c519
                rw [show ((48 : Int32)).toInt = 48 by decide] at c518
                rw [show ((65 : Int32)).toInt = 65 by decide] at c508
                rw [show ((90 : Int32)).toInt = 90 by decide] at c517
                rw [show ((97 : Int32)).toInt = 97 by decide] at c507
                unfold okP
                omega
              refine Wl.iinc 104 #[.val (.ref a), .val (.int (Int32.ofNat (i + 1))), .val (.int (cs[i])), .val (.int (0 : Int32))] (1 : Int32) d8_101 (by decide) rfl (by rw [nS]; rfl) ?_
              refine Wl.goto 21 d8_104 ?_
              exact ih (i + 1) _ _ (by omega) (Or.inr ⟨_, rfl, rfl⟩) (Or.inr ⟨_, rfl, rfl⟩) (fun z q => fv_y hok (ed ▸ hf z q)) (fun z q => hg z (by rw [ed, fv, okI, if_pos hok, if_neg (by decide)]; exact q))
            · refine Wl.icmpN 87 d8_84 (feq c519).1 ?_
              refine Wl.iload_n 88 d8_87 rfl ?_
              refine Wl.bipush 90 (95 : Int32) d8_88 (by decide) ?_
              by_cases c520 : cs[i] = (95 : Int32)
              · refine Wl.icmpY 101 d8_90 (teq c520).1 ?_
                have hok : okP cs[i] := by
                  simp only [Int32.lt_iff_toInt_lt, ← Int32.toInt_inj] at c507 c508 c517 c518 c519 c520
                  rw [show ((46 : Int32)).toInt = 46 by decide] at c519
                  rw [show ((48 : Int32)).toInt = 48 by decide] at c518
                  rw [show ((65 : Int32)).toInt = 65 by decide] at c508
                  rw [show ((90 : Int32)).toInt = 90 by decide] at c517
                  rw [show ((95 : Int32)).toInt = 95 by decide] at c520
                  rw [show ((97 : Int32)).toInt = 97 by decide] at c507
                  unfold okP
                  omega
                refine Wl.iinc 104 #[.val (.ref a), .val (.int (Int32.ofNat (i + 1))), .val (.int (cs[i])), .val (.int (0 : Int32))] (1 : Int32) d8_101 (by decide) rfl (by rw [nS]; rfl) ?_
                refine Wl.goto 21 d8_104 ?_
                exact ih (i + 1) _ _ (by omega) (Or.inr ⟨_, rfl, rfl⟩) (Or.inr ⟨_, rfl, rfl⟩) (fun z q => fv_y hok (ed ▸ hf z q)) (fun z q => hg z (by rw [ed, fv, okI, if_pos hok, if_neg (by decide)]; exact q))
              · refine Wl.icmpN 93 d8_90 (feq c520).1 ?_
                refine Wl.iload_n 94 d8_93 rfl ?_
                refine Wl.bipush 96 (45 : Int32) d8_94 (by decide) ?_
                by_cases c521 : cs[i] = (45 : Int32)
                · refine Wl.icmpY 101 d8_96 (teq c521).1 ?_
                  have hok : okP cs[i] := by
                    simp only [Int32.lt_iff_toInt_lt, ← Int32.toInt_inj] at c507 c508 c517 c518 c519 c520 c521
                    rw [show ((45 : Int32)).toInt = 45 by decide] at c521
                    rw [show ((46 : Int32)).toInt = 46 by decide] at c519
                    rw [show ((48 : Int32)).toInt = 48 by decide] at c518
                    rw [show ((65 : Int32)).toInt = 65 by decide] at c508
                    rw [show ((90 : Int32)).toInt = 90 by decide] at c517
                    rw [show ((95 : Int32)).toInt = 95 by decide] at c520
                    rw [show ((97 : Int32)).toInt = 97 by decide] at c507
                    unfold okP
                    omega
                  refine Wl.iinc 104 #[.val (.ref a), .val (.int (Int32.ofNat (i + 1))), .val (.int (cs[i])), .val (.int (0 : Int32))] (1 : Int32) d8_101 (by decide) rfl (by rw [nS]; rfl) ?_
                  refine Wl.goto 21 d8_104 ?_
                  exact ih (i + 1) _ _ (by omega) (Or.inr ⟨_, rfl, rfl⟩) (Or.inr ⟨_, rfl, rfl⟩) (fun z q => fv_y hok (ed ▸ hf z q)) (fun z q => hg z (by rw [ed, fv, okI, if_pos hok, if_neg (by decide)]; exact q))
                · refine Wl.icmpN 99 d8_96 (feq c521).1 ?_
                  refine Wl.iconst 100 (0 : Int32) d8_99 (by decide) ?_
                  have hok : ¬ okP cs[i] := by
                    simp only [Int32.lt_iff_toInt_lt, ← Int32.toInt_inj] at c507 c508 c517 c518 c519 c520 c521
                    rw [show ((45 : Int32)).toInt = 45 by decide] at c521
                    rw [show ((46 : Int32)).toInt = 46 by decide] at c519
                    rw [show ((48 : Int32)).toInt = 48 by decide] at c518
                    rw [show ((65 : Int32)).toInt = 65 by decide] at c508
                    rw [show ((90 : Int32)).toInt = 90 by decide] at c517
                    rw [show ((95 : Int32)).toInt = 95 by decide] at c520
                    rw [show ((97 : Int32)).toInt = 97 by decide] at c507
                    unfold okP
                    omega
                  exact Wl.ireturn d8_100 rfl rfl (by simp) (nle rfl) (nle rfl) ⟨by rw [hg 0 (by rw [ed]; exact fv_x hok)], rfl⟩
          · refine Wl.icmpN 65 d8_62 (flt c518).1 ?_
            refine Wl.iload_n 66 d8_65 rfl ?_
            refine Wl.bipush 68 (57 : Int32) d8_66 (by decide) ?_
            by_cases c522 : (57 : Int32) < cs[i]
            · refine Wl.icmpY 75 d8_68 (tlt c522).2.2.1 ?_
              refine Wl.iconst 76 (0 : Int32) d8_75 (by decide) ?_
              refine Wl.istore_n 77 #[.val (.ref a), .val (.int (Int32.ofNat i)), .val (.int (cs[i])), .val (.int (0 : Int32))] d8_76 (XS.store1 (o := o2) rfl ho2 rfl) ?_
              refine Wl.iload_n 78 d8_77 rfl ?_
              refine Wl.ifN 81 d8_78 (teq (by decide)).2 ?_
              refine Wl.iload_n 82 d8_81 rfl ?_
              refine Wl.bipush 84 (46 : Int32) d8_82 (by decide) ?_
              by_cases c523 : cs[i] = (46 : Int32)
              · refine Wl.icmpY 101 d8_84 (teq c523).1 ?_
                have hok : okP cs[i] := by
                  simp only [Int32.lt_iff_toInt_lt, ← Int32.toInt_inj] at c507 c508 c517 c518 c522 c523
                  rw [show ((46 : Int32)).toInt = 46 by decide] at c523
                  rw [show ((48 : Int32)).toInt = 48 by decide] at c518
                  rw [show ((57 : Int32)).toInt = 57 by decide] at c522
                  rw [show ((65 : Int32)).toInt = 65 by decide] at c508
                  rw [show ((90 : Int32)).toInt = 90 by decide] at c517
                  rw [show ((97 : Int32)).toInt = 97 by decide] at c507
                  unfold okP
                  omega
                refine Wl.iinc 104 #[.val (.ref a), .val (.int (Int32.ofNat (i + 1))), .val (.int (cs[i])), .val (.int (0 : Int32))] (1 : Int32) d8_101 (by decide) rfl (by rw [nS]; rfl) ?_
                refine Wl.goto 21 d8_104 ?_
                exact ih (i + 1) _ _ (by omega) (Or.inr ⟨_, rfl, rfl⟩) (Or.inr ⟨_, rfl, rfl⟩) (fun z q => fv_y hok (ed ▸ hf z q)) (fun z q => hg z (by rw [ed, fv, okI, if_pos hok, if_neg (by decide)]; exact q))
              · refine Wl.icmpN 87 d8_84 (feq c523).1 ?_
                refine Wl.iload_n 88 d8_87 rfl ?_
                refine Wl.bipush 90 (95 : Int32) d8_88 (by decide) ?_
                by_cases c524 : cs[i] = (95 : Int32)
                · refine Wl.icmpY 101 d8_90 (teq c524).1 ?_
                  have hok : okP cs[i] := by
                    simp only [Int32.lt_iff_toInt_lt, ← Int32.toInt_inj] at c507 c508 c517 c518 c522 c523 c524
                    rw [show ((46 : Int32)).toInt = 46 by decide] at c523
                    rw [show ((48 : Int32)).toInt = 48 by decide] at c518
                    rw [show ((57 : Int32)).toInt = 57 by decide] at c522
                    rw [show ((65 : Int32)).toInt = 65 by decide] at c508
                    rw [show ((90 : Int32)).toInt = 90 by decide] at c517
                    rw [show ((95 : Int32)).toInt = 95 by decide] at c524
                    rw [show ((97 : Int32)).toInt = 97 by decide] at c507
                    unfold okP
                    omega
                  refine Wl.iinc 104 #[.val (.ref a), .val (.int (Int32.ofNat (i + 1))), .val (.int (cs[i])), .val (.int (0 : Int32))] (1 : Int32) d8_101 (by decide) rfl (by rw [nS]; rfl) ?_
                  refine Wl.goto 21 d8_104 ?_
                  exact ih (i + 1) _ _ (by omega) (Or.inr ⟨_, rfl, rfl⟩) (Or.inr ⟨_, rfl, rfl⟩) (fun z q => fv_y hok (ed ▸ hf z q)) (fun z q => hg z (by rw [ed, fv, okI, if_pos hok, if_neg (by decide)]; exact q))
                · refine Wl.icmpN 93 d8_90 (feq c524).1 ?_
                  refine Wl.iload_n 94 d8_93 rfl ?_
                  refine Wl.bipush 96 (45 : Int32) d8_94 (by decide) ?_
                  by_cases c525 : cs[i] = (45 : Int32)
                  · refine Wl.icmpY 101 d8_96 (teq c525).1 ?_
                    have hok : okP cs[i] := by
                      simp only [Int32.lt_iff_toInt_lt, ← Int32.toInt_inj] at c507 c508 c517 c518 c522 c523 c524 c525
                      rw [show ((45 : Int32)).toInt = 45 by decide] at c525
                      rw [show ((46 : Int32)).toInt = 46 by decide] at c523
                      rw [show ((48 : Int32)).toInt = 48 by decide] at c518
                      rw [show ((57 : Int32)).toInt = 57 by decide] at c522
                      rw [show ((65 : Int32)).toInt = 65 by decide] at c508
                      rw [show ((90 : Int32)).toInt = 90 by decide] at c517
                      rw [show ((95 : Int32)).toInt = 95 by decide] at c524
                      rw [show ((97 : Int32)).toInt = 97 by decide] at c507
                      unfold okP
                      omega
                    refine Wl.iinc 104 #[.val (.ref a), .val (.int (Int32.ofNat (i + 1))), .val (.int (cs[i])), .val (.int (0 : Int32))] (1 : Int32) d8_101 (by decide) rfl (by rw [nS]; rfl) ?_
                    refine Wl.goto 21 d8_104 ?_
                    exact ih (i + 1) _ _ (by omega) (Or.inr ⟨_, rfl, rfl⟩) (Or.inr ⟨_, rfl, rfl⟩) (fun z q => fv_y hok (ed ▸ hf z q)) (fun z q => hg z (by rw [ed, fv, okI, if_pos hok, if_neg (by decide)]; exact q))
                  · refine Wl.icmpN 99 d8_96 (feq c525).1 ?_
                    refine Wl.iconst 100 (0 : Int32) d8_99 (by decide) ?_
                    have hok : ¬ okP cs[i] := by
                      simp only [Int32.lt_iff_toInt_lt, ← Int32.toInt_inj] at c507 c508 c517 c518 c522 c523 c524 c525
                      rw [show ((45 : Int32)).toInt = 45 by decide] at c525
                      rw [show ((46 : Int32)).toInt = 46 by decide] at c523
                      rw [show ((48 : Int32)).toInt = 48 by decide] at c518
                      rw [show ((57 : Int32)).toInt = 57 by decide] at c522
                      rw [show ((65 : Int32)).toInt = 65 by decide] at c508
                      rw [show ((90 : Int32)).toInt = 90 by decide] at c517
                      rw [show ((95 : Int32)).toInt = 95 by decide] at c524
                      rw [show ((97 : Int32)).toInt = 97 by decide] at c507
                      unfold okP
                      omega
                    exact Wl.ireturn d8_100 rfl rfl (by simp) (nle rfl) (nle rfl) ⟨by rw [hg 0 (by rw [ed]; exact fv_x hok)], rfl⟩
            · refine Wl.icmpN 71 d8_68 (flt c522).2.2.1 ?_
              refine Wl.iconst 72 (1 : Int32) d8_71 (by decide) ?_
              refine Wl.goto 76 d8_72 ?_
              refine Wl.istore_n 77 #[.val (.ref a), .val (.int (Int32.ofNat i)), .val (.int (cs[i])), .val (.int (1 : Int32))] d8_76 (XS.store1 (o := o2) rfl ho2 rfl) ?_
              refine Wl.iload_n 78 d8_77 rfl ?_
              refine Wl.ifY 101 d8_78 (feq (by decide)).2 ?_
              have hok : okP cs[i] := by
                simp only [Int32.lt_iff_toInt_lt, ← Int32.toInt_inj] at c507 c508 c517 c518 c522
                rw [show ((48 : Int32)).toInt = 48 by decide] at c518
                rw [show ((57 : Int32)).toInt = 57 by decide] at c522
                rw [show ((65 : Int32)).toInt = 65 by decide] at c508
                rw [show ((90 : Int32)).toInt = 90 by decide] at c517
                rw [show ((97 : Int32)).toInt = 97 by decide] at c507
                unfold okP
                omega
              refine Wl.iinc 104 #[.val (.ref a), .val (.int (Int32.ofNat (i + 1))), .val (.int (cs[i])), .val (.int (1 : Int32))] (1 : Int32) d8_101 (by decide) rfl (by rw [nS]; rfl) ?_
              refine Wl.goto 21 d8_104 ?_
              exact ih (i + 1) _ _ (by omega) (Or.inr ⟨_, rfl, rfl⟩) (Or.inr ⟨_, rfl, rfl⟩) (fun z q => fv_y hok (ed ▸ hf z q)) (fun z q => hg z (by rw [ed, fv, okI, if_pos hok, if_neg (by decide)]; exact q))
        · refine Wl.icmpY 71 d8_56 (flt c517).2.2.2 ?_
          refine Wl.iconst 72 (1 : Int32) d8_71 (by decide) ?_
          refine Wl.goto 76 d8_72 ?_
          refine Wl.istore_n 77 #[.val (.ref a), .val (.int (Int32.ofNat i)), .val (.int (cs[i])), .val (.int (1 : Int32))] d8_76 (XS.store1 (o := o2) rfl ho2 rfl) ?_
          refine Wl.iload_n 78 d8_77 rfl ?_
          refine Wl.ifY 101 d8_78 (feq (by decide)).2 ?_
          have hok : okP cs[i] := by
            simp only [Int32.lt_iff_toInt_lt, ← Int32.toInt_inj] at c507 c508 c517
            rw [show ((65 : Int32)).toInt = 65 by decide] at c508
            rw [show ((90 : Int32)).toInt = 90 by decide] at c517
            rw [show ((97 : Int32)).toInt = 97 by decide] at c507
            unfold okP
            omega
          refine Wl.iinc 104 #[.val (.ref a), .val (.int (Int32.ofNat (i + 1))), .val (.int (cs[i])), .val (.int (1 : Int32))] (1 : Int32) d8_101 (by decide) rfl (by rw [nS]; rfl) ?_
          refine Wl.goto 21 d8_104 ?_
          exact ih (i + 1) _ _ (by omega) (Or.inr ⟨_, rfl, rfl⟩) (Or.inr ⟨_, rfl, rfl⟩) (fun z q => fv_y hok (ed ▸ hf z q)) (fun z q => hg z (by rw [ed, fv, okI, if_pos hok, if_neg (by decide)]; exact q))
    · refine Wl.icmpN 41 d8_38 (flt c507).1 ?_
      refine Wl.iload_n 42 d8_41 rfl ?_
      refine Wl.bipush 44 (122 : Int32) d8_42 (by decide) ?_
      by_cases c526 : (122 : Int32) < cs[i]
      · refine Wl.icmpN 47 d8_44 (tlt c526).2.2.2 ?_
        refine Wl.iload_n 48 d8_47 rfl ?_
        refine Wl.bipush 50 (65 : Int32) d8_48 (by decide) ?_
        by_cases c527 : cs[i] < (65 : Int32)
        · refine Wl.icmpY 59 d8_50 (tlt c527).1 ?_
          refine Wl.iload_n 60 d8_59 rfl ?_
          refine Wl.bipush 62 (48 : Int32) d8_60 (by decide) ?_
          by_cases c528 : cs[i] < (48 : Int32)
          · refine Wl.icmpY 75 d8_62 (tlt c528).1 ?_
            refine Wl.iconst 76 (0 : Int32) d8_75 (by decide) ?_
            refine Wl.istore_n 77 #[.val (.ref a), .val (.int (Int32.ofNat i)), .val (.int (cs[i])), .val (.int (0 : Int32))] d8_76 (XS.store1 (o := o2) rfl ho2 rfl) ?_
            refine Wl.iload_n 78 d8_77 rfl ?_
            refine Wl.ifN 81 d8_78 (teq (by decide)).2 ?_
            refine Wl.iload_n 82 d8_81 rfl ?_
            refine Wl.bipush 84 (46 : Int32) d8_82 (by decide) ?_
            by_cases c529 : cs[i] = (46 : Int32)
            · refine Wl.icmpY 101 d8_84 (teq c529).1 ?_
              have hok : okP cs[i] := by
                simp only [Int32.lt_iff_toInt_lt, ← Int32.toInt_inj] at c507 c526 c527 c528 c529
                rw [show ((46 : Int32)).toInt = 46 by decide] at c529
                rw [show ((48 : Int32)).toInt = 48 by decide] at c528
                rw [show ((65 : Int32)).toInt = 65 by decide] at c527
                rw [show ((97 : Int32)).toInt = 97 by decide] at c507
                rw [show ((122 : Int32)).toInt = 122 by decide] at c526
                unfold okP
                omega
              refine Wl.iinc 104 #[.val (.ref a), .val (.int (Int32.ofNat (i + 1))), .val (.int (cs[i])), .val (.int (0 : Int32))] (1 : Int32) d8_101 (by decide) rfl (by rw [nS]; rfl) ?_
              refine Wl.goto 21 d8_104 ?_
              exact ih (i + 1) _ _ (by omega) (Or.inr ⟨_, rfl, rfl⟩) (Or.inr ⟨_, rfl, rfl⟩) (fun z q => fv_y hok (ed ▸ hf z q)) (fun z q => hg z (by rw [ed, fv, okI, if_pos hok, if_neg (by decide)]; exact q))
            · refine Wl.icmpN 87 d8_84 (feq c529).1 ?_
              refine Wl.iload_n 88 d8_87 rfl ?_
              refine Wl.bipush 90 (95 : Int32) d8_88 (by decide) ?_
              by_cases c530 : cs[i] = (95 : Int32)
              · refine Wl.icmpY 101 d8_90 (teq c530).1 ?_
                have hok : okP cs[i] := by
                  simp only [Int32.lt_iff_toInt_lt, ← Int32.toInt_inj] at c507 c526 c527 c528 c529 c530
                  rw [show ((46 : Int32)).toInt = 46 by decide] at c529
                  rw [show ((48 : Int32)).toInt = 48 by decide] at c528
                  rw [show ((65 : Int32)).toInt = 65 by decide] at c527
                  rw [show ((95 : Int32)).toInt = 95 by decide] at c530
                  rw [show ((97 : Int32)).toInt = 97 by decide] at c507
                  rw [show ((122 : Int32)).toInt = 122 by decide] at c526
                  unfold okP
                  omega
                refine Wl.iinc 104 #[.val (.ref a), .val (.int (Int32.ofNat (i + 1))), .val (.int (cs[i])), .val (.int (0 : Int32))] (1 : Int32) d8_101 (by decide) rfl (by rw [nS]; rfl) ?_
                refine Wl.goto 21 d8_104 ?_
                exact ih (i + 1) _ _ (by omega) (Or.inr ⟨_, rfl, rfl⟩) (Or.inr ⟨_, rfl, rfl⟩) (fun z q => fv_y hok (ed ▸ hf z q)) (fun z q => hg z (by rw [ed, fv, okI, if_pos hok, if_neg (by decide)]; exact q))
              · refine Wl.icmpN 93 d8_90 (feq c530).1 ?_
                refine Wl.iload_n 94 d8_93 rfl ?_
                refine Wl.bipush 96 (45 : Int32) d8_94 (by decide) ?_
                by_cases c531 : cs[i] = (45 : Int32)
                · refine Wl.icmpY 101 d8_96 (teq c531).1 ?_
                  have hok : okP cs[i] := by
                    simp only [Int32.lt_iff_toInt_lt, ← Int32.toInt_inj] at c507 c526 c527 c528 c529 c530 c531
                    rw [show ((45 : Int32)).toInt = 45 by decide] at c531
                    rw [show ((46 : Int32)).toInt = 46 by decide] at c529
                    rw [show ((48 : Int32)).toInt = 48 by decide] at c528
                    rw [show ((65 : Int32)).toInt = 65 by decide] at c527
                    rw [show ((95 : Int32)).toInt = 95 by decide] at c530
                    rw [show ((97 : Int32)).toInt = 97 by decide] at c507
                    rw [show ((122 : Int32)).toInt = 122 by decide] at c526
                    unfold okP
                    omega
                  refine Wl.iinc 104 #[.val (.ref a), .val (.int (Int32.ofNat (i + 1))), .val (.int (cs[i])), .val (.int (0 : Int32))] (1 : Int32) d8_101 (by decide) rfl (by rw [nS]; rfl) ?_
                  refine Wl.goto 21 d8_104 ?_
                  exact ih (i + 1) _ _ (by omega) (Or.inr ⟨_, rfl, rfl⟩) (Or.inr ⟨_, rfl, rfl⟩) (fun z q => fv_y hok (ed ▸ hf z q)) (fun z q => hg z (by rw [ed, fv, okI, if_pos hok, if_neg (by decide)]; exact q))
                · refine Wl.icmpN 99 d8_96 (feq c531).1 ?_
                  refine Wl.iconst 100 (0 : Int32) d8_99 (by decide) ?_
                  have hok : ¬ okP cs[i] := by
                    simp only [Int32.lt_iff_toInt_lt, ← Int32.toInt_inj] at c507 c526 c527 c528 c529 c530 c531
                    rw [show ((45 : Int32)).toInt = 45 by decide] at c531
                    rw [show ((46 : Int32)).toInt = 46 by decide] at c529
                    rw [show ((48 : Int32)).toInt = 48 by decide] at c528
                    rw [show ((65 : Int32)).toInt = 65 by decide] at c527
                    rw [show ((95 : Int32)).toInt = 95 by decide] at c530
                    rw [show ((97 : Int32)).toInt = 97 by decide] at c507
                    rw [show ((122 : Int32)).toInt = 122 by decide] at c526
                    unfold okP
                    omega
                  exact Wl.ireturn d8_100 rfl rfl (by simp) (nle rfl) (nle rfl) ⟨by rw [hg 0 (by rw [ed]; exact fv_x hok)], rfl⟩
          · refine Wl.icmpN 65 d8_62 (flt c528).1 ?_
            refine Wl.iload_n 66 d8_65 rfl ?_
            refine Wl.bipush 68 (57 : Int32) d8_66 (by decide) ?_
            by_cases c532 : (57 : Int32) < cs[i]
            · refine Wl.icmpY 75 d8_68 (tlt c532).2.2.1 ?_
              refine Wl.iconst 76 (0 : Int32) d8_75 (by decide) ?_
              refine Wl.istore_n 77 #[.val (.ref a), .val (.int (Int32.ofNat i)), .val (.int (cs[i])), .val (.int (0 : Int32))] d8_76 (XS.store1 (o := o2) rfl ho2 rfl) ?_
              refine Wl.iload_n 78 d8_77 rfl ?_
              refine Wl.ifN 81 d8_78 (teq (by decide)).2 ?_
              refine Wl.iload_n 82 d8_81 rfl ?_
              refine Wl.bipush 84 (46 : Int32) d8_82 (by decide) ?_
              by_cases c533 : cs[i] = (46 : Int32)
              · refine Wl.icmpY 101 d8_84 (teq c533).1 ?_
                have hok : okP cs[i] := by
                  simp only [Int32.lt_iff_toInt_lt, ← Int32.toInt_inj] at c507 c526 c527 c528 c532 c533
                  rw [show ((46 : Int32)).toInt = 46 by decide] at c533
                  rw [show ((48 : Int32)).toInt = 48 by decide] at c528
                  rw [show ((57 : Int32)).toInt = 57 by decide] at c532
                  rw [show ((65 : Int32)).toInt = 65 by decide] at c527
                  rw [show ((97 : Int32)).toInt = 97 by decide] at c507
                  rw [show ((122 : Int32)).toInt = 122 by decide] at c526
                  unfold okP
                  omega
                refine Wl.iinc 104 #[.val (.ref a), .val (.int (Int32.ofNat (i + 1))), .val (.int (cs[i])), .val (.int (0 : Int32))] (1 : Int32) d8_101 (by decide) rfl (by rw [nS]; rfl) ?_
                refine Wl.goto 21 d8_104 ?_
                exact ih (i + 1) _ _ (by omega) (Or.inr ⟨_, rfl, rfl⟩) (Or.inr ⟨_, rfl, rfl⟩) (fun z q => fv_y hok (ed ▸ hf z q)) (fun z q => hg z (by rw [ed, fv, okI, if_pos hok, if_neg (by decide)]; exact q))
              · refine Wl.icmpN 87 d8_84 (feq c533).1 ?_
                refine Wl.iload_n 88 d8_87 rfl ?_
                refine Wl.bipush 90 (95 : Int32) d8_88 (by decide) ?_
                by_cases c534 : cs[i] = (95 : Int32)
                · refine Wl.icmpY 101 d8_90 (teq c534).1 ?_
                  have hok : okP cs[i] := by
                    simp only [Int32.lt_iff_toInt_lt, ← Int32.toInt_inj] at c507 c526 c527 c528 c532 c533 c534
                    rw [show ((46 : Int32)).toInt = 46 by decide] at c533
                    rw [show ((48 : Int32)).toInt = 48 by decide] at c528
                    rw [show ((57 : Int32)).toInt = 57 by decide] at c532
                    rw [show ((65 : Int32)).toInt = 65 by decide] at c527
                    rw [show ((95 : Int32)).toInt = 95 by decide] at c534
                    rw [show ((97 : Int32)).toInt = 97 by decide] at c507
                    rw [show ((122 : Int32)).toInt = 122 by decide] at c526
                    unfold okP
                    omega
                  refine Wl.iinc 104 #[.val (.ref a), .val (.int (Int32.ofNat (i + 1))), .val (.int (cs[i])), .val (.int (0 : Int32))] (1 : Int32) d8_101 (by decide) rfl (by rw [nS]; rfl) ?_
                  refine Wl.goto 21 d8_104 ?_
                  exact ih (i + 1) _ _ (by omega) (Or.inr ⟨_, rfl, rfl⟩) (Or.inr ⟨_, rfl, rfl⟩) (fun z q => fv_y hok (ed ▸ hf z q)) (fun z q => hg z (by rw [ed, fv, okI, if_pos hok, if_neg (by decide)]; exact q))
                · refine Wl.icmpN 93 d8_90 (feq c534).1 ?_
                  refine Wl.iload_n 94 d8_93 rfl ?_
                  refine Wl.bipush 96 (45 : Int32) d8_94 (by decide) ?_
                  by_cases c535 : cs[i] = (45 : Int32)
                  · refine Wl.icmpY 101 d8_96 (teq c535).1 ?_
                    have hok : okP cs[i] := by
                      simp only [Int32.lt_iff_toInt_lt, ← Int32.toInt_inj] at c507 c526 c527 c528 c532 c533 c534 c535
                      rw [show ((45 : Int32)).toInt = 45 by decide] at c535
                      rw [show ((46 : Int32)).toInt = 46 by decide] at c533
                      rw [show ((48 : Int32)).toInt = 48 by decide] at c528
                      rw [show ((57 : Int32)).toInt = 57 by decide] at c532
                      rw [show ((65 : Int32)).toInt = 65 by decide] at c527
                      rw [show ((95 : Int32)).toInt = 95 by decide] at c534
                      rw [show ((97 : Int32)).toInt = 97 by decide] at c507
                      rw [show ((122 : Int32)).toInt = 122 by decide] at c526
                      unfold okP
                      omega
                    refine Wl.iinc 104 #[.val (.ref a), .val (.int (Int32.ofNat (i + 1))), .val (.int (cs[i])), .val (.int (0 : Int32))] (1 : Int32) d8_101 (by decide) rfl (by rw [nS]; rfl) ?_
                    refine Wl.goto 21 d8_104 ?_
                    exact ih (i + 1) _ _ (by omega) (Or.inr ⟨_, rfl, rfl⟩) (Or.inr ⟨_, rfl, rfl⟩) (fun z q => fv_y hok (ed ▸ hf z q)) (fun z q => hg z (by rw [ed, fv, okI, if_pos hok, if_neg (by decide)]; exact q))
                  · refine Wl.icmpN 99 d8_96 (feq c535).1 ?_
                    refine Wl.iconst 100 (0 : Int32) d8_99 (by decide) ?_
                    have hok : ¬ okP cs[i] := by
                      simp only [Int32.lt_iff_toInt_lt, ← Int32.toInt_inj] at c507 c526 c527 c528 c532 c533 c534 c535
                      rw [show ((45 : Int32)).toInt = 45 by decide] at c535
                      rw [show ((46 : Int32)).toInt = 46 by decide] at c533
                      rw [show ((48 : Int32)).toInt = 48 by decide] at c528
                      rw [show ((57 : Int32)).toInt = 57 by decide] at c532
                      rw [show ((65 : Int32)).toInt = 65 by decide] at c527
                      rw [show ((95 : Int32)).toInt = 95 by decide] at c534
                      rw [show ((97 : Int32)).toInt = 97 by decide] at c507
                      rw [show ((122 : Int32)).toInt = 122 by decide] at c526
                      unfold okP
                      omega
                    exact Wl.ireturn d8_100 rfl rfl (by simp) (nle rfl) (nle rfl) ⟨by rw [hg 0 (by rw [ed]; exact fv_x hok)], rfl⟩
            · refine Wl.icmpN 71 d8_68 (flt c532).2.2.1 ?_
              refine Wl.iconst 72 (1 : Int32) d8_71 (by decide) ?_
              refine Wl.goto 76 d8_72 ?_
              refine Wl.istore_n 77 #[.val (.ref a), .val (.int (Int32.ofNat i)), .val (.int (cs[i])), .val (.int (1 : Int32))] d8_76 (XS.store1 (o := o2) rfl ho2 rfl) ?_
              refine Wl.iload_n 78 d8_77 rfl ?_
              refine Wl.ifY 101 d8_78 (feq (by decide)).2 ?_
              have hok : okP cs[i] := by
                simp only [Int32.lt_iff_toInt_lt, ← Int32.toInt_inj] at c507 c526 c527 c528 c532
                rw [show ((48 : Int32)).toInt = 48 by decide] at c528
                rw [show ((57 : Int32)).toInt = 57 by decide] at c532
                rw [show ((65 : Int32)).toInt = 65 by decide] at c527
                rw [show ((97 : Int32)).toInt = 97 by decide] at c507
                rw [show ((122 : Int32)).toInt = 122 by decide] at c526
                unfold okP
                omega
              refine Wl.iinc 104 #[.val (.ref a), .val (.int (Int32.ofNat (i + 1))), .val (.int (cs[i])), .val (.int (1 : Int32))] (1 : Int32) d8_101 (by decide) rfl (by rw [nS]; rfl) ?_
              refine Wl.goto 21 d8_104 ?_
              exact ih (i + 1) _ _ (by omega) (Or.inr ⟨_, rfl, rfl⟩) (Or.inr ⟨_, rfl, rfl⟩) (fun z q => fv_y hok (ed ▸ hf z q)) (fun z q => hg z (by rw [ed, fv, okI, if_pos hok, if_neg (by decide)]; exact q))
        · refine Wl.icmpN 53 d8_50 (flt c527).1 ?_
          refine Wl.iload_n 54 d8_53 rfl ?_
          refine Wl.bipush 56 (90 : Int32) d8_54 (by decide) ?_
          by_cases c536 : (90 : Int32) < cs[i]
          · refine Wl.icmpN 59 d8_56 (tlt c536).2.2.2 ?_
            refine Wl.iload_n 60 d8_59 rfl ?_
            refine Wl.bipush 62 (48 : Int32) d8_60 (by decide) ?_
            by_cases c537 : cs[i] < (48 : Int32)
            · refine Wl.icmpY 75 d8_62 (tlt c537).1 ?_
              refine Wl.iconst 76 (0 : Int32) d8_75 (by decide) ?_
              refine Wl.istore_n 77 #[.val (.ref a), .val (.int (Int32.ofNat i)), .val (.int (cs[i])), .val (.int (0 : Int32))] d8_76 (XS.store1 (o := o2) rfl ho2 rfl) ?_
              refine Wl.iload_n 78 d8_77 rfl ?_
              refine Wl.ifN 81 d8_78 (teq (by decide)).2 ?_
              refine Wl.iload_n 82 d8_81 rfl ?_
              refine Wl.bipush 84 (46 : Int32) d8_82 (by decide) ?_
              by_cases c538 : cs[i] = (46 : Int32)
              · refine Wl.icmpY 101 d8_84 (teq c538).1 ?_
                have hok : okP cs[i] := by
                  simp only [Int32.lt_iff_toInt_lt, ← Int32.toInt_inj] at c507 c526 c527 c536 c537 c538
                  rw [show ((46 : Int32)).toInt = 46 by decide] at c538
                  rw [show ((48 : Int32)).toInt = 48 by decide] at c537
                  rw [show ((65 : Int32)).toInt = 65 by decide] at c527
                  rw [show ((90 : Int32)).toInt = 90 by decide] at c536
                  rw [show ((97 : Int32)).toInt = 97 by decide] at c507
                  rw [show ((122 : Int32)).toInt = 122 by decide] at c526
                  unfold okP
                  omega
                refine Wl.iinc 104 #[.val (.ref a), .val (.int (Int32.ofNat (i + 1))), .val (.int (cs[i])), .val (.int (0 : Int32))] (1 : Int32) d8_101 (by decide) rfl (by rw [nS]; rfl) ?_
                refine Wl.goto 21 d8_104 ?_
                exact ih (i + 1) _ _ (by omega) (Or.inr ⟨_, rfl, rfl⟩) (Or.inr ⟨_, rfl, rfl⟩) (fun z q => fv_y hok (ed ▸ hf z q)) (fun z q => hg z (by rw [ed, fv, okI, if_pos hok, if_neg (by decide)]; exact q))
              · refine Wl.icmpN 87 d8_84 (feq c538).1 ?_
                refine Wl.iload_n 88 d8_87 rfl ?_
                refine Wl.bipush 90 (95 : Int32) d8_88 (by decide) ?_
                by_cases c539 : cs[i] = (95 : Int32)
                · refine Wl.icmpY 101 d8_90 (teq c539).1 ?_
                  have hok : okP cs[i] := by
                    simp only [Int32.lt_iff_toInt_lt, ← Int32.toInt_inj] at c507 c526 c527 c536 c537 c538 c539
                    rw [show ((46 : Int32)).toInt = 46 by decide] at c538
                    rw [show ((48 : Int32)).toInt = 48 by decide] at c537
                    rw [show ((65 : Int32)).toInt = 65 by decide] at c527
                    rw [show ((90 : Int32)).toInt = 90 by decide] at c536
                    rw [show ((95 : Int32)).toInt = 95 by decide] at c539
                    rw [show ((97 : Int32)).toInt = 97 by decide] at c507
                    rw [show ((122 : Int32)).toInt = 122 by decide] at c526
                    unfold okP
                    omega
                  refine Wl.iinc 104 #[.val (.ref a), .val (.int (Int32.ofNat (i + 1))), .val (.int (cs[i])), .val (.int (0 : Int32))] (1 : Int32) d8_101 (by decide) rfl (by rw [nS]; rfl) ?_
                  refine Wl.goto 21 d8_104 ?_
                  exact ih (i + 1) _ _ (by omega) (Or.inr ⟨_, rfl, rfl⟩) (Or.inr ⟨_, rfl, rfl⟩) (fun z q => fv_y hok (ed ▸ hf z q)) (fun z q => hg z (by rw [ed, fv, okI, if_pos hok, if_neg (by decide)]; exact q))
                · refine Wl.icmpN 93 d8_90 (feq c539).1 ?_
                  refine Wl.iload_n 94 d8_93 rfl ?_
                  refine Wl.bipush 96 (45 : Int32) d8_94 (by decide) ?_
                  by_cases c540 : cs[i] = (45 : Int32)
                  · refine Wl.icmpY 101 d8_96 (teq c540).1 ?_
                    have hok : okP cs[i] := by
                      simp only [Int32.lt_iff_toInt_lt, ← Int32.toInt_inj] at c507 c526 c527 c536 c537 c538 c539 c540
                      rw [show ((45 : Int32)).toInt = 45 by decide] at c540
                      rw [show ((46 : Int32)).toInt = 46 by decide] at c538
                      rw [show ((48 : Int32)).toInt = 48 by decide] at c537
                      rw [show ((65 : Int32)).toInt = 65 by decide] at c527
                      rw [show ((90 : Int32)).toInt = 90 by decide] at c536
                      rw [show ((95 : Int32)).toInt = 95 by decide] at c539
                      rw [show ((97 : Int32)).toInt = 97 by decide] at c507
                      rw [show ((122 : Int32)).toInt = 122 by decide] at c526
                      unfold okP
                      omega
                    refine Wl.iinc 104 #[.val (.ref a), .val (.int (Int32.ofNat (i + 1))), .val (.int (cs[i])), .val (.int (0 : Int32))] (1 : Int32) d8_101 (by decide) rfl (by rw [nS]; rfl) ?_
                    refine Wl.goto 21 d8_104 ?_
                    exact ih (i + 1) _ _ (by omega) (Or.inr ⟨_, rfl, rfl⟩) (Or.inr ⟨_, rfl, rfl⟩) (fun z q => fv_y hok (ed ▸ hf z q)) (fun z q => hg z (by rw [ed, fv, okI, if_pos hok, if_neg (by decide)]; exact q))
                  · refine Wl.icmpN 99 d8_96 (feq c540).1 ?_
                    refine Wl.iconst 100 (0 : Int32) d8_99 (by decide) ?_
                    have hok : ¬ okP cs[i] := by
                      simp only [Int32.lt_iff_toInt_lt, ← Int32.toInt_inj] at c507 c526 c527 c536 c537 c538 c539 c540
                      rw [show ((45 : Int32)).toInt = 45 by decide] at c540
                      rw [show ((46 : Int32)).toInt = 46 by decide] at c538
                      rw [show ((48 : Int32)).toInt = 48 by decide] at c537
                      rw [show ((65 : Int32)).toInt = 65 by decide] at c527
                      rw [show ((90 : Int32)).toInt = 90 by decide] at c536
                      rw [show ((95 : Int32)).toInt = 95 by decide] at c539
                      rw [show ((97 : Int32)).toInt = 97 by decide] at c507
                      rw [show ((122 : Int32)).toInt = 122 by decide] at c526
                      unfold okP
                      omega
                    exact Wl.ireturn d8_100 rfl rfl (by simp) (nle rfl) (nle rfl) ⟨by rw [hg 0 (by rw [ed]; exact fv_x hok)], rfl⟩
            · refine Wl.icmpN 65 d8_62 (flt c537).1 ?_
              refine Wl.iload_n 66 d8_65 rfl ?_
              refine Wl.bipush 68 (57 : Int32) d8_66 (by decide) ?_
              by_cases c541 : (57 : Int32) < cs[i]
              · refine Wl.icmpY 75 d8_68 (tlt c541).2.2.1 ?_
                refine Wl.iconst 76 (0 : Int32) d8_75 (by decide) ?_
                refine Wl.istore_n 77 #[.val (.ref a), .val (.int (Int32.ofNat i)), .val (.int (cs[i])), .val (.int (0 : Int32))] d8_76 (XS.store1 (o := o2) rfl ho2 rfl) ?_
                refine Wl.iload_n 78 d8_77 rfl ?_
                refine Wl.ifN 81 d8_78 (teq (by decide)).2 ?_
                refine Wl.iload_n 82 d8_81 rfl ?_
                refine Wl.bipush 84 (46 : Int32) d8_82 (by decide) ?_
                by_cases c542 : cs[i] = (46 : Int32)
                · refine Wl.icmpY 101 d8_84 (teq c542).1 ?_
                  have hok : okP cs[i] := by
                    simp only [Int32.lt_iff_toInt_lt, ← Int32.toInt_inj] at c507 c526 c527 c536 c537 c541 c542
                    rw [show ((46 : Int32)).toInt = 46 by decide] at c542
                    rw [show ((48 : Int32)).toInt = 48 by decide] at c537
                    rw [show ((57 : Int32)).toInt = 57 by decide] at c541
                    rw [show ((65 : Int32)).toInt = 65 by decide] at c527
                    rw [show ((90 : Int32)).toInt = 90 by decide] at c536
                    rw [show ((97 : Int32)).toInt = 97 by decide] at c507
                    rw [show ((122 : Int32)).toInt = 122 by decide] at c526
                    unfold okP
                    omega
                  refine Wl.iinc 104 #[.val (.ref a), .val (.int (Int32.ofNat (i + 1))), .val (.int (cs[i])), .val (.int (0 : Int32))] (1 : Int32) d8_101 (by decide) rfl (by rw [nS]; rfl) ?_
                  refine Wl.goto 21 d8_104 ?_
                  exact ih (i + 1) _ _ (by omega) (Or.inr ⟨_, rfl, rfl⟩) (Or.inr ⟨_, rfl, rfl⟩) (fun z q => fv_y hok (ed ▸ hf z q)) (fun z q => hg z (by rw [ed, fv, okI, if_pos hok, if_neg (by decide)]; exact q))
                · refine Wl.icmpN 87 d8_84 (feq c542).1 ?_
                  refine Wl.iload_n 88 d8_87 rfl ?_
                  refine Wl.bipush 90 (95 : Int32) d8_88 (by decide) ?_
                  by_cases c543 : cs[i] = (95 : Int32)
                  · refine Wl.icmpY 101 d8_90 (teq c543).1 ?_
                    have hok : okP cs[i] := by
                      simp only [Int32.lt_iff_toInt_lt, ← Int32.toInt_inj] at c507 c526 c527 c536 c537 c541 c542 c543
                      rw [show ((46 : Int32)).toInt = 46 by decide] at c542
                      rw [show ((48 : Int32)).toInt = 48 by decide] at c537
                      rw [show ((57 : Int32)).toInt = 57 by decide] at c541
                      rw [show ((65 : Int32)).toInt = 65 by decide] at c527
                      rw [show ((90 : Int32)).toInt = 90 by decide] at c536
                      rw [show ((95 : Int32)).toInt = 95 by decide] at c543
                      rw [show ((97 : Int32)).toInt = 97 by decide] at c507
                      rw [show ((122 : Int32)).toInt = 122 by decide] at c526
                      unfold okP
                      omega
                    refine Wl.iinc 104 #[.val (.ref a), .val (.int (Int32.ofNat (i + 1))), .val (.int (cs[i])), .val (.int (0 : Int32))] (1 : Int32) d8_101 (by decide) rfl (by rw [nS]; rfl) ?_
                    refine Wl.goto 21 d8_104 ?_
                    exact ih (i + 1) _ _ (by omega) (Or.inr ⟨_, rfl, rfl⟩) (Or.inr ⟨_, rfl, rfl⟩) (fun z q => fv_y hok (ed ▸ hf z q)) (fun z q => hg z (by rw [ed, fv, okI, if_pos hok, if_neg (by decide)]; exact q))
                  · refine Wl.icmpN 93 d8_90 (feq c543).1 ?_
                    refine Wl.iload_n 94 d8_93 rfl ?_
                    refine Wl.bipush 96 (45 : Int32) d8_94 (by decide) ?_
                    by_cases c544 : cs[i] = (45 : Int32)
                    · refine Wl.icmpY 101 d8_96 (teq c544).1 ?_
                      have hok : okP cs[i] := by
                        simp only [Int32.lt_iff_toInt_lt, ← Int32.toInt_inj] at c507 c526 c527 c536 c537 c541 c542 c543 c544
                        rw [show ((45 : Int32)).toInt = 45 by decide] at c544
                        rw [show ((46 : Int32)).toInt = 46 by decide] at c542
                        rw [show ((48 : Int32)).toInt = 48 by decide] at c537
                        rw [show ((57 : Int32)).toInt = 57 by decide] at c541
                        rw [show ((65 : Int32)).toInt = 65 by decide] at c527
                        rw [show ((90 : Int32)).toInt = 90 by decide] at c536
                        rw [show ((95 : Int32)).toInt = 95 by decide] at c543
                        rw [show ((97 : Int32)).toInt = 97 by decide] at c507
                        rw [show ((122 : Int32)).toInt = 122 by decide] at c526
                        unfold okP
                        omega
                      refine Wl.iinc 104 #[.val (.ref a), .val (.int (Int32.ofNat (i + 1))), .val (.int (cs[i])), .val (.int (0 : Int32))] (1 : Int32) d8_101 (by decide) rfl (by rw [nS]; rfl) ?_
                      refine Wl.goto 21 d8_104 ?_
                      exact ih (i + 1) _ _ (by omega) (Or.inr ⟨_, rfl, rfl⟩) (Or.inr ⟨_, rfl, rfl⟩) (fun z q => fv_y hok (ed ▸ hf z q)) (fun z q => hg z (by rw [ed, fv, okI, if_pos hok, if_neg (by decide)]; exact q))
                    · refine Wl.icmpN 99 d8_96 (feq c544).1 ?_
                      refine Wl.iconst 100 (0 : Int32) d8_99 (by decide) ?_
                      have hok : ¬ okP cs[i] := by
                        simp only [Int32.lt_iff_toInt_lt, ← Int32.toInt_inj] at c507 c526 c527 c536 c537 c541 c542 c543 c544
                        rw [show ((45 : Int32)).toInt = 45 by decide] at c544
                        rw [show ((46 : Int32)).toInt = 46 by decide] at c542
                        rw [show ((48 : Int32)).toInt = 48 by decide] at c537
                        rw [show ((57 : Int32)).toInt = 57 by decide] at c541
                        rw [show ((65 : Int32)).toInt = 65 by decide] at c527
                        rw [show ((90 : Int32)).toInt = 90 by decide] at c536
                        rw [show ((95 : Int32)).toInt = 95 by decide] at c543
                        rw [show ((97 : Int32)).toInt = 97 by decide] at c507
                        rw [show ((122 : Int32)).toInt = 122 by decide] at c526
                        unfold okP
                        omega
                      exact Wl.ireturn d8_100 rfl rfl (by simp) (nle rfl) (nle rfl) ⟨by rw [hg 0 (by rw [ed]; exact fv_x hok)], rfl⟩
              · refine Wl.icmpN 71 d8_68 (flt c541).2.2.1 ?_
                refine Wl.iconst 72 (1 : Int32) d8_71 (by decide) ?_
                refine Wl.goto 76 d8_72 ?_
                refine Wl.istore_n 77 #[.val (.ref a), .val (.int (Int32.ofNat i)), .val (.int (cs[i])), .val (.int (1 : Int32))] d8_76 (XS.store1 (o := o2) rfl ho2 rfl) ?_
                refine Wl.iload_n 78 d8_77 rfl ?_
                refine Wl.ifY 101 d8_78 (feq (by decide)).2 ?_
                have hok : okP cs[i] := by
                  simp only [Int32.lt_iff_toInt_lt, ← Int32.toInt_inj] at c507 c526 c527 c536 c537 c541
                  rw [show ((48 : Int32)).toInt = 48 by decide] at c537
                  rw [show ((57 : Int32)).toInt = 57 by decide] at c541
                  rw [show ((65 : Int32)).toInt = 65 by decide] at c527
                  rw [show ((90 : Int32)).toInt = 90 by decide] at c536
                  rw [show ((97 : Int32)).toInt = 97 by decide] at c507
                  rw [show ((122 : Int32)).toInt = 122 by decide] at c526
                  unfold okP
                  omega
                refine Wl.iinc 104 #[.val (.ref a), .val (.int (Int32.ofNat (i + 1))), .val (.int (cs[i])), .val (.int (1 : Int32))] (1 : Int32) d8_101 (by decide) rfl (by rw [nS]; rfl) ?_
                refine Wl.goto 21 d8_104 ?_
                exact ih (i + 1) _ _ (by omega) (Or.inr ⟨_, rfl, rfl⟩) (Or.inr ⟨_, rfl, rfl⟩) (fun z q => fv_y hok (ed ▸ hf z q)) (fun z q => hg z (by rw [ed, fv, okI, if_pos hok, if_neg (by decide)]; exact q))
          · refine Wl.icmpY 71 d8_56 (flt c536).2.2.2 ?_
            refine Wl.iconst 72 (1 : Int32) d8_71 (by decide) ?_
            refine Wl.goto 76 d8_72 ?_
            refine Wl.istore_n 77 #[.val (.ref a), .val (.int (Int32.ofNat i)), .val (.int (cs[i])), .val (.int (1 : Int32))] d8_76 (XS.store1 (o := o2) rfl ho2 rfl) ?_
            refine Wl.iload_n 78 d8_77 rfl ?_
            refine Wl.ifY 101 d8_78 (feq (by decide)).2 ?_
            have hok : okP cs[i] := by
              simp only [Int32.lt_iff_toInt_lt, ← Int32.toInt_inj] at c507 c526 c527 c536
              rw [show ((65 : Int32)).toInt = 65 by decide] at c527
              rw [show ((90 : Int32)).toInt = 90 by decide] at c536
              rw [show ((97 : Int32)).toInt = 97 by decide] at c507
              rw [show ((122 : Int32)).toInt = 122 by decide] at c526
              unfold okP
              omega
            refine Wl.iinc 104 #[.val (.ref a), .val (.int (Int32.ofNat (i + 1))), .val (.int (cs[i])), .val (.int (1 : Int32))] (1 : Int32) d8_101 (by decide) rfl (by rw [nS]; rfl) ?_
            refine Wl.goto 21 d8_104 ?_
            exact ih (i + 1) _ _ (by omega) (Or.inr ⟨_, rfl, rfl⟩) (Or.inr ⟨_, rfl, rfl⟩) (fun z q => fv_y hok (ed ▸ hf z q)) (fun z q => hg z (by rw [ed, fv, okI, if_pos hok, if_neg (by decide)]; exact q))
      · refine Wl.icmpY 71 d8_44 (flt c526).2.2.2 ?_
        refine Wl.iconst 72 (1 : Int32) d8_71 (by decide) ?_
        refine Wl.goto 76 d8_72 ?_
        refine Wl.istore_n 77 #[.val (.ref a), .val (.int (Int32.ofNat i)), .val (.int (cs[i])), .val (.int (1 : Int32))] d8_76 (XS.store1 (o := o2) rfl ho2 rfl) ?_
        refine Wl.iload_n 78 d8_77 rfl ?_
        refine Wl.ifY 101 d8_78 (feq (by decide)).2 ?_
        have hok : okP cs[i] := by
          simp only [Int32.lt_iff_toInt_lt, ← Int32.toInt_inj] at c507 c526
          rw [show ((97 : Int32)).toInt = 97 by decide] at c507
          rw [show ((122 : Int32)).toInt = 122 by decide] at c526
          unfold okP
          omega
        refine Wl.iinc 104 #[.val (.ref a), .val (.int (Int32.ofNat (i + 1))), .val (.int (cs[i])), .val (.int (1 : Int32))] (1 : Int32) d8_101 (by decide) rfl (by rw [nS]; rfl) ?_
        refine Wl.goto 21 d8_104 ?_
        exact ih (i + 1) _ _ (by omega) (Or.inr ⟨_, rfl, rfl⟩) (Or.inr ⟨_, rfl, rfl⟩) (fun z q => fv_y hok (ed ▸ hf z q)) (fun z q => hg z (by rw [ed, fv, okI, if_pos hok, if_neg (by decide)]; exact q))
set_option maxRecDepth 65536 in
set_option maxHeartbeats 40000000 in
theorem val_met {l : Launch} {Z : State} {a0 : Array Value} (hw : ∀ d ∈ tables_1, d.before a0 Z = true) (hcs : CSon Z) (hfm : Fmt Z) (hu : U16on Z) {h : Heap} {a : Addr} {cs : List Int32} (S : Stw Z h a cs) (hne : cs ≠ []) (h249 : cs.length ≤ 249) :
    Met l Z consts_1 ⟨"com/example/group_by_epoch/groupbyepoch/coordinator/Topic", "isValidName", "(Ljava/lang/String;)Z"⟩ prog_28_method_6_code 4 (some .boolean) [] { frames := 5, cells := 0, slots := 0, locals := 66 } #[.ref a] h [] (fun v h' => v = some (.int (fv cs)) ∧ h = h') := by
  refine Met.of_walk (a0 := a0) (Ls := #[.val (.ref a), .unset, .unset, .unset]) (plainFor_of_name pn_3) (own_hEL hw) rfl ?_
  refine Wl.aload_n 1 d8_0 rfl rfl ?_
  refine Wl.virtual 4 (argsL := []) d8_1 (w38 hw) (w39 hw) (w41 hw) (w40 hw) (w2 hw) (w42 hw) (nf_sel (w41 hw) rfl) (S).exa (show parseMethodDescriptor "()Z" = some ⟨[], some .boolean⟩ by decide +kernel) rfl (emptyW_met hw S hne) (fun _ q => nomatch q) rfl rfl rfl (by decide) ⟨⟨nle rfl, nle rfl⟩, nle rfl, nle rfl⟩ ?_
  intro v1 h2 hq3 _
  obtain ⟨rfl, rfl⟩ := hq3
  show WlO _ _ _ _ _ _ _ _ _ _ _ _ _ _ _ _ _ _ [.int (0 : Int32)]
  refine Wl.ifN 7 d8_4 (teq (by decide)).2 ?_
  refine Wl.aload_n 8 d8_7 rfl rfl ?_
  refine Wl.virtual 11 (argsL := []) d8_8 (w43 hw) (w44 hw) (w46 hw) (w45 hw) (w2 hw) (w47 hw) (nf_sel (w46 hw) rfl) (S).exa (show parseMethodDescriptor "()I" = some ⟨[], some .int⟩ by decide +kernel) rfl (lenW_met hw hcs S) (fun _ q => nomatch q) rfl rfl rfl (by decide) ⟨⟨nle rfl, nle rfl⟩, nle rfl, nle rfl⟩ ?_
  intro v4 h5 hq6 _
  obtain ⟨rfl, rfl⟩ := hq6
  show WlO _ _ _ _ _ _ _ _ _ _ _ _ _ _ _ _ _ _ [.int (Int32.ofNat cs.length)]
  refine Wl.sipush 14 (249 : Int32) d8_11 (by decide) ?_
  refine Wl.icmpY 19 d8_14 (flt (fun q => by rw [Int32.lt_iff_toInt_lt, nI (by omega)] at q; simp at q; omega)).2.2.2 ?_
  refine Wl.iconst 20 (0 : Int32) d8_19 (by decide) ?_
  refine Wl.istore_n 21 #[.val (.ref a), .val (.int (0 : Int32)), .unset, .unset] d8_20 rfl ?_
  exact val_loop hw hcs hfm hu S cs.length 0 _ _ (by omega) (Or.inl rfl) (Or.inl rfl) (fun z q => q) (fun z q => q)
set_option maxRecDepth 65536 in
set_option maxHeartbeats 40000000 in
theorem val0_met {l : Launch} {Z : State} {a0 : Array Value} (hw : ∀ d ∈ tables_1, d.before a0 Z = true) {h : Heap} {a : Addr} (S : Stl Z h a []) :
    Met l Z consts_1 ⟨"com/example/group_by_epoch/groupbyepoch/coordinator/Topic", "isValidName", "(Ljava/lang/String;)Z"⟩ prog_28_method_6_code 4 (some .boolean) [] { frames := 5, cells := 0, slots := 0, locals := 66 } #[.ref a] h [] (fun v h' => v = some (.int 0) ∧ h = h') := by
  refine Met.of_walk (a0 := a0) (Ls := #[.val (.ref a), .unset, .unset, .unset]) (plainFor_of_name pn_3) (own_hEL hw) rfl ?_
  refine Wl.aload_n 1 d8_0 rfl rfl ?_
  refine Wl.virtual 4 (argsL := []) d8_1 (w38 hw) (w39 hw) (w41 hw) (w40 hw) (w2 hw) (w42 hw) (nf_sel (w41 hw) rfl) (S).exa (show parseMethodDescriptor "()Z" = some ⟨[], some .boolean⟩ by decide +kernel) rfl (empty0_met hw S) (fun _ q => nomatch q) rfl rfl rfl (by decide) ⟨⟨nle rfl, nle rfl⟩, nle rfl, nle rfl⟩ ?_
  intro v1 h2 hq3 _
  obtain ⟨rfl, rfl⟩ := hq3
  show WlO _ _ _ _ _ _ _ _ _ _ _ _ _ _ _ _ _ _ [.int (1 : Int32)]
  refine Wl.ifY 17 d8_4 (feq (by decide)).2 ?_
  refine Wl.iconst 18 (0 : Int32) d8_17 (by decide) ?_
  exact Wl.ireturn d8_18 rfl rfl (by simp) (nle rfl) (nle rfl) ⟨rfl, rfl⟩
theorem ok01 {c : Int32} (h : ¬ okI c = 0) : okI c = 1 := by
  unfold okI at h ⊢
  split at h
  · exact if_pos (by assumption)
  · exact absurd rfl h
set_option maxRecDepth 65536 in
set_option maxHeartbeats 40000000 in
theorem law_t0 {l : Launch} {Z : State} {a0 : Array Value} (hw : ∀ d ∈ tables_1, d.before a0 Z = true) (hcs : CSon Z) (hfm : Fmt Z) (hu : U16on Z) {as : Array Value} {h : Heap} {i0 i1 i2 i3 c0 c1 c2 : Int32} (lc0 : Ch c0) (lc1 : Ch c1) (lc2 : Ch c2) :
    Wl l Z a0 consts_1 x code maxLocals ret room_1 as (fun v h' => v = some (.int 1)) [] h 0 0 17 #[.val (.int i0), .val (.int i1), .val (.int i2), .val (.int i3), .val (.int c0), .val (.int c1), .val (.int c2), .val (.int (0 : Int32)), .unset, .unset] [] := by
  refine Wl.iload 19 at_17 rfl ?_
  refine Wl.ifN 22 at_19 (teq (by decide)).2 ?_
  refine Wl.ldcS 24 0 (text := "") (vs := []) (z := (0 : Int32)) at_22 (w75 hw) (own_wS hw) (by decide) ⟨by decide, by decide⟩ (by decide) (by decide) (by decide) (by decide) (nle rfl) (nle rfl) ?_
  intro a1 h2 b3 k4 E5 X6 C7 V8 A9 ne10
  have B11 : Ext h h2 := E5
  have S12 : Stl Z h2 a1 [] := ⟨b3, k4, X6, C7, V8, A9, latN, by decide⟩
  refine Wl.astore 26 #[.val (.int i0), .val (.int i1), .val (.int i2), .val (.int i3), .val (.int c0), .val (.int c1), .val (.int c2), .val (.int (0 : Int32)), .val (.ref a1), .unset] at_24 rfl rfl ?_
  refine Wl.iconst 27 (0 : Int32) at_26 (by decide) ?_
  refine Wl.istore 29 #[.val (.int i0), .val (.int i1), .val (.int i2), .val (.int i3), .val (.int c0), .val (.int c1), .val (.int c2), .val (.int (0 : Int32)), .val (.ref a1), .val (.int (0 : Int32))] at_27 rfl ?_
  refine Wl.goto 177 at_29 ?_
  refine Wl.aload 179 at_177 rfl rfl ?_
  refine Wl.static 182 (argsL := [.ref a1]) at_179 (w34 hw) (w35 hw) (w36 hw) (w37 hw) (show parseMethodDescriptor "(Ljava/lang/String;)Z" = some ⟨[(.object "java/lang/String")], some .boolean⟩ by decide +kernel) rfl (val0_met hw S12) (fun _ q => nomatch q) rfl rfl rfl (by decide) ⟨⟨nle rfl, nle rfl⟩, nle rfl, nle rfl⟩ ?_
  intro v13 h14 hq15 _
  obtain ⟨rfl, rfl⟩ := hq15
  show WlO _ _ _ _ _ _ _ _ _ _ _ _ _ _ _ _ _ _ [.int (0 : Int32)]
  refine Wl.iload 184 at_182 rfl ?_
  refine Wl.icmpN 187 at_184 (teq (by decide)).2 ?_
  refine Wl.iconst 188 (1 : Int32) at_187 (by decide) ?_
  refine Wl.goto 192 at_188 ?_
  exact Wl.ireturn at_192 rfl rfl (by simp) (nle rfl) (nle rfl) rfl
set_option maxRecDepth 65536 in
set_option maxHeartbeats 40000000 in
theorem law_t1 {l : Launch} {Z : State} {a0 : Array Value} (hw : ∀ d ∈ tables_1, d.before a0 Z = true) (hcs : CSon Z) (hfm : Fmt Z) (hu : U16on Z) {as : Array Value} {h : Heap} {i0 i1 i2 i3 c0 c1 c2 : Int32} (lc0 : Ch c0) (lc1 : Ch c1) (lc2 : Ch c2) :
    Wl l Z a0 consts_1 x code maxLocals ret room_1 as (fun v h' => v = some (.int 1)) [] h 0 0 17 #[.val (.int i0), .val (.int i1), .val (.int i2), .val (.int i3), .val (.int c0), .val (.int c1), .val (.int c2), .val (.int (1 : Int32)), .unset, .unset] [] := by
  refine Wl.iload 19 at_17 rfl ?_
  refine Wl.ifY 32 at_19 (feq (by decide)).2 ?_
  refine Wl.iload 34 at_32 rfl ?_
  refine Wl.iconst 35 (1 : Int32) at_34 (by decide) ?_
  refine Wl.icmpN 38 at_35 (teq (by decide)).2 ?_
  refine Wl.new 41 at_38 (w0 hw) (w1 hw) (w2 hw) (nle rfl) (nle rfl) ?_
  intro a1 h2 q3 E4 X5 D6
  have z7 : h.size ≤ a1 := Nat.le_of_eq q3.symm
  have B8 : Ext h h2 := E4
  have F9 : Fld Z h2 a1 "java/lang/String" "coder" "B" (.int 0) := D6 (Or.inr (w27 hw)) (ty := .byte) (by decide)
  have F10 : Fld Z h2 a1 "java/lang/String" "value" "[B" (.null) := D6 (Or.inr (w29 hw)) (ty := (.array .byte)) (by decide)
  refine Wl.dup 42 at_41 rfl ?_
  refine Wl.iconst 43 (1 : Int32) at_42 (by decide) ?_
  refine Wl.newarray 45 1 at_43 (w3 hw) (by decide) (by decide) (by decide) (nle rfl) (nle rfl) ?_
  intro a11 h12 k13 q14 E15 A16
  have A16 : Arv Z h12 a11 k13 .char (1 : Int32) [.int 0] (.int 0) := A16
  have z17 : h.size ≤ a11 := Nat.le_trans B8.1 (Nat.le_of_eq q14.symm)
  have z18 : h2.size ≤ a11 := Nat.le_of_eq q14.symm
  have ne19 : a1 ≠ a11 := Nat.ne_of_lt (by rw [q14]; exact (X5).lt)
  have B20 : Ext h h12 := extTr B8 E15
  have B21 : Ext h2 h12 := E15
  refine Wl.dup 46 at_45 rfl ?_
  refine Wl.iconst 47 (0 : Int32) at_46 (by decide) ?_
  refine Wl.iload 49 at_47 rfl ?_
  refine Wl.castore 50 0 at_49 A16 (List.mem_of_getElem? (i := 0) rfl) (by decide) (by decide) (by decide) (nle rfl) ?_
  intro h22 W23 A24
  rw [nar_ch lc0] at A24
  have A24 : Arv Z h22 a11 k13 .char (1 : Int32) [.int c0] (.int 0) := A24
  have B25 : Ext h h22 := extWr B20 W23 z17
  have B26 : Ext h2 h22 := extWr B21 W23 z18
  refine Wl.special 53 (argsL := [.ref a11]) at_50 (w4 hw) (w5 hw) (w2 hw) (w6 hw) (show parseMethodDescriptor "([C)V" = some ⟨[(.array .char)], none⟩ by decide +kernel) rfl (strW_met hw hcs hu (cs := [c0]) 4 (nle rfl) (nle rfl) (by simp) (chC lc0 chN) (X5.ext B26) (F10.ext B26) (F9.ext B26) A24) (allS (List.mem_of_getElem? (i := 1) rfl) (fun _ q => nomatch q)) rfl rfl rfl rfl (by decide) ⟨⟨nle rfl, nle rfl⟩, nle rfl, nle rfl⟩ ?_
  intro v27 h28 hq29 _
  obtain ⟨rfl, K30, S31⟩ := hq29
  have B32 : Ext h h28 := extKeep B25 K30 (allS z7 all0)
  show WlO _ _ _ _ _ _ _ _ _ _ _ _ _ _ _ _ _ _ [.ref a1]
  refine Wl.astore 55 #[.val (.int i0), .val (.int i1), .val (.int i2), .val (.int i3), .val (.int c0), .val (.int c1), .val (.int c2), .val (.int (1 : Int32)), .val (.ref a1), .unset] at_53 rfl rfl ?_
  refine Wl.iload 57 at_55 rfl ?_
  refine Wl.static 60 (argsL := [.int c0]) at_57 (w30 hw) (w31 hw) (w32 hw) (w33 hw) (show parseMethodDescriptor "(C)Z" = some ⟨[.char], some .boolean⟩ by decide +kernel) rfl (ok_met hw) (fun _ q => nomatch q) rfl rfl rfl (by decide) ⟨⟨nle rfl, nle rfl⟩, nle rfl, nle rfl⟩ ?_
  intro v33 h34 hq35 _
  obtain ⟨rfl, rfl⟩ := hq35
  show WlO _ _ _ _ _ _ _ _ _ _ _ _ _ _ _ _ _ _ [.int (okI c0)]
  refine Wl.istore 62 #[.val (.int i0), .val (.int i1), .val (.int i2), .val (.int i3), .val (.int c0), .val (.int c1), .val (.int c2), .val (.int (1 : Int32)), .val (.ref a1), .val (.int (okI c0))] at_60 rfl ?_
  refine Wl.goto 177 at_62 ?_
  refine Wl.aload 179 at_177 rfl rfl ?_
  refine Wl.static 182 (argsL := [.ref a1]) at_179 (w34 hw) (w35 hw) (w36 hw) (w37 hw) (show parseMethodDescriptor "(Ljava/lang/String;)Z" = some ⟨[(.object "java/lang/String")], some .boolean⟩ by decide +kernel) rfl (val_met hw hcs hfm hu S31 (by simp) (nle rfl)) (fun _ q => nomatch q) rfl rfl rfl (by decide) ⟨⟨nle rfl, nle rfl⟩, nle rfl, nle rfl⟩ ?_
  intro v36 h37 hq38 _
  by_cases hk : okI c0 = 0
  · rw [show fv [c0] = (0 : Int32) from fv_0 hk] at hq38
    obtain ⟨rfl, rfl⟩ := hq38
    show WlO _ _ _ _ _ _ _ _ _ _ _ _ _ _ _ _ _ _ [.int (0 : Int32)]
    refine Wl.iload 184 at_182 rfl ?_
    refine Wl.icmpN 187 at_184 (teq hk.symm).2 ?_
    refine Wl.iconst 188 (1 : Int32) at_187 (by decide) ?_
    refine Wl.goto 192 at_188 ?_
    exact Wl.ireturn at_192 rfl rfl (by simp) (nle rfl) (nle rfl) rfl
  · rw [show fv [c0] = (1 : Int32) from fv_n hk rfl] at hq38
    obtain ⟨rfl, rfl⟩ := hq38
    show WlO _ _ _ _ _ _ _ _ _ _ _ _ _ _ _ _ _ _ [.int (1 : Int32)]
    refine Wl.iload 184 at_182 rfl ?_
    refine Wl.icmpN 187 at_184 (teq (ok01 hk).symm).2 ?_
    refine Wl.iconst 188 (1 : Int32) at_187 (by decide) ?_
    refine Wl.goto 192 at_188 ?_
    exact Wl.ireturn at_192 rfl rfl (by simp) (nle rfl) (nle rfl) rfl
set_option maxRecDepth 65536 in
set_option maxHeartbeats 40000000 in
theorem law_t2 {l : Launch} {Z : State} {a0 : Array Value} (hw : ∀ d ∈ tables_1, d.before a0 Z = true) (hcs : CSon Z) (hfm : Fmt Z) (hu : U16on Z) {as : Array Value} {h : Heap} {i0 i1 i2 i3 c0 c1 c2 : Int32} (lc0 : Ch c0) (lc1 : Ch c1) (lc2 : Ch c2) :
    Wl l Z a0 consts_1 x code maxLocals ret room_1 as (fun v h' => v = some (.int 1)) [] h 0 0 17 #[.val (.int i0), .val (.int i1), .val (.int i2), .val (.int i3), .val (.int c0), .val (.int c1), .val (.int c2), .val (.int (2 : Int32)), .unset, .unset] [] := by
  refine Wl.iload 19 at_17 rfl ?_
  refine Wl.ifY 32 at_19 (feq (by decide)).2 ?_
  refine Wl.iload 34 at_32 rfl ?_
  refine Wl.iconst 35 (1 : Int32) at_34 (by decide) ?_
  refine Wl.icmpY 65 at_35 (feq (by decide)).2 ?_
  refine Wl.iload 67 at_65 rfl ?_
  refine Wl.iconst 68 (2 : Int32) at_67 (by decide) ?_
  refine Wl.icmpN 71 at_68 (teq (by decide)).2 ?_
  refine Wl.new 74 at_71 (w0 hw) (w1 hw) (w2 hw) (nle rfl) (nle rfl) ?_
  intro a1 h2 q3 E4 X5 D6
  have z7 : h.size ≤ a1 := Nat.le_of_eq q3.symm
  have B8 : Ext h h2 := E4
  have F9 : Fld Z h2 a1 "java/lang/String" "coder" "B" (.int 0) := D6 (Or.inr (w27 hw)) (ty := .byte) (by decide)
  have F10 : Fld Z h2 a1 "java/lang/String" "value" "[B" (.null) := D6 (Or.inr (w29 hw)) (ty := (.array .byte)) (by decide)
  refine Wl.dup 75 at_74 rfl ?_
  refine Wl.iconst 76 (2 : Int32) at_75 (by decide) ?_
  refine Wl.newarray 78 2 at_76 (w3 hw) (by decide) (by decide) (by decide) (nle rfl) (nle rfl) ?_
  intro a11 h12 k13 q14 E15 A16
  have A16 : Arv Z h12 a11 k13 .char (2 : Int32) [.int 0, .int 0] (.int 0) := A16
  have z17 : h.size ≤ a11 := Nat.le_trans B8.1 (Nat.le_of_eq q14.symm)
  have z18 : h2.size ≤ a11 := Nat.le_of_eq q14.symm
  have ne19 : a1 ≠ a11 := Nat.ne_of_lt (by rw [q14]; exact (X5).lt)
  have B20 : Ext h h12 := extTr B8 E15
  have B21 : Ext h2 h12 := E15
  refine Wl.dup 79 at_78 rfl ?_
  refine Wl.iconst 80 (0 : Int32) at_79 (by decide) ?_
  refine Wl.iload 82 at_80 rfl ?_
  refine Wl.castore 83 0 at_82 A16 (List.mem_of_getElem? (i := 0) rfl) (by decide) (by decide) (by decide) (nle rfl) ?_
  intro h22 W23 A24
  rw [nar_ch lc0] at A24
  have A24 : Arv Z h22 a11 k13 .char (2 : Int32) [.int c0, .int (0 : Int32)] (.int 0) := A24
  have B25 : Ext h h22 := extWr B20 W23 z17
  have B26 : Ext h2 h22 := extWr B21 W23 z18
  refine Wl.dup 84 at_83 rfl ?_
  refine Wl.iconst 85 (1 : Int32) at_84 (by decide) ?_
  refine Wl.iload 87 at_85 rfl ?_
  refine Wl.castore 88 1 at_87 A24 (List.mem_of_getElem? (i := 0) rfl) (by decide) (by decide) (by decide) (nle rfl) ?_
  intro h27 W28 A29
  rw [nar_ch lc1] at A29
  have A29 : Arv Z h27 a11 k13 .char (2 : Int32) [.int c0, .int c1] (.int 0) := A29
  have B30 : Ext h h27 := extWr B25 W28 z17
  have B31 : Ext h2 h27 := extWr B26 W28 z18
  refine Wl.special 91 (argsL := [.ref a11]) at_88 (w4 hw) (w5 hw) (w2 hw) (w6 hw) (show parseMethodDescriptor "([C)V" = some ⟨[(.array .char)], none⟩ by decide +kernel) rfl (strW_met hw hcs hu (cs := [c0, c1]) 4 (nle rfl) (nle rfl) (by simp) (chC lc0 (chC lc1 chN)) (X5.ext B31) (F10.ext B31) (F9.ext B31) A29) (allS (List.mem_of_getElem? (i := 1) rfl) (fun _ q => nomatch q)) rfl rfl rfl rfl (by decide) ⟨⟨nle rfl, nle rfl⟩, nle rfl, nle rfl⟩ ?_
  intro v32 h33 hq34 _
  obtain ⟨rfl, K35, S36⟩ := hq34
  have B37 : Ext h h33 := extKeep B30 K35 (allS z7 all0)
  show WlO _ _ _ _ _ _ _ _ _ _ _ _ _ _ _ _ _ _ [.ref a1]
  refine Wl.astore 93 #[.val (.int i0), .val (.int i1), .val (.int i2), .val (.int i3), .val (.int c0), .val (.int c1), .val (.int c2), .val (.int (2 : Int32)), .val (.ref a1), .unset] at_91 rfl rfl ?_
  refine Wl.iload 95 at_93 rfl ?_
  refine Wl.static 98 (argsL := [.int c0]) at_95 (w30 hw) (w31 hw) (w32 hw) (w33 hw) (show parseMethodDescriptor "(C)Z" = some ⟨[.char], some .boolean⟩ by decide +kernel) rfl (ok_met hw) (fun _ q => nomatch q) rfl rfl rfl (by decide) ⟨⟨nle rfl, nle rfl⟩, nle rfl, nle rfl⟩ ?_
  intro v38 h39 hq40 _
  obtain ⟨rfl, rfl⟩ := hq40
  show WlO _ _ _ _ _ _ _ _ _ _ _ _ _ _ _ _ _ _ [.int (okI c0)]
  by_cases c41 : (okI c0) = (0 : Int32)
  · refine Wl.ifY 113 at_98 (teq c41).1 ?_
    refine Wl.iconst 114 (0 : Int32) at_113 (by decide) ?_
    refine Wl.istore 116 #[.val (.int i0), .val (.int i1), .val (.int i2), .val (.int i3), .val (.int c0), .val (.int c1), .val (.int c2), .val (.int (2 : Int32)), .val (.ref a1), .val (.int (0 : Int32))] at_114 rfl ?_
    refine Wl.goto 177 at_116 ?_
    refine Wl.aload 179 at_177 rfl rfl ?_
    refine Wl.static 182 (argsL := [.ref a1]) at_179 (w34 hw) (w35 hw) (w36 hw) (w37 hw) (show parseMethodDescriptor "(Ljava/lang/String;)Z" = some ⟨[(.object "java/lang/String")], some .boolean⟩ by decide +kernel) rfl (val_met hw hcs hfm hu S36 (by simp) (nle rfl)) (fun _ q => nomatch q) rfl rfl rfl (by decide) ⟨⟨nle rfl, nle rfl⟩, nle rfl, nle rfl⟩ ?_
    intro v42 h43 hq44 _
    rw [show fv [c0, c1] = (0 : Int32) from (fv_0 c41)] at hq44
    obtain ⟨rfl, rfl⟩ := hq44
    show WlO _ _ _ _ _ _ _ _ _ _ _ _ _ _ _ _ _ _ [.int (0 : Int32)]
    refine Wl.iload 184 at_182 rfl ?_
    refine Wl.icmpN 187 at_184 (teq (by decide)).2 ?_
    refine Wl.iconst 188 (1 : Int32) at_187 (by decide) ?_
    refine Wl.goto 192 at_188 ?_
    exact Wl.ireturn at_192 rfl rfl (by simp) (nle rfl) (nle rfl) rfl
  · refine Wl.ifN 101 at_98 (feq c41).1 ?_
    refine Wl.iload 103 at_101 rfl ?_
    refine Wl.static 106 (argsL := [.int c1]) at_103 (w30 hw) (w31 hw) (w32 hw) (w33 hw) (show parseMethodDescriptor "(C)Z" = some ⟨[.char], some .boolean⟩ by decide +kernel) rfl (ok_met hw) (fun _ q => nomatch q) rfl rfl rfl (by decide) ⟨⟨nle rfl, nle rfl⟩, nle rfl, nle rfl⟩ ?_
    intro v45 h46 hq47 _
    obtain ⟨rfl, rfl⟩ := hq47
    show WlO _ _ _ _ _ _ _ _ _ _ _ _ _ _ _ _ _ _ [.int (okI c1)]
    by_cases c48 : (okI c1) = (0 : Int32)
    · refine Wl.ifY 113 at_106 (teq c48).1 ?_
      refine Wl.iconst 114 (0 : Int32) at_113 (by decide) ?_
      refine Wl.istore 116 #[.val (.int i0), .val (.int i1), .val (.int i2), .val (.int i3), .val (.int c0), .val (.int c1), .val (.int c2), .val (.int (2 : Int32)), .val (.ref a1), .val (.int (0 : Int32))] at_114 rfl ?_
      refine Wl.goto 177 at_116 ?_
      refine Wl.aload 179 at_177 rfl rfl ?_
      refine Wl.static 182 (argsL := [.ref a1]) at_179 (w34 hw) (w35 hw) (w36 hw) (w37 hw) (show parseMethodDescriptor "(Ljava/lang/String;)Z" = some ⟨[(.object "java/lang/String")], some .boolean⟩ by decide +kernel) rfl (val_met hw hcs hfm hu S36 (by simp) (nle rfl)) (fun _ q => nomatch q) rfl rfl rfl (by decide) ⟨⟨nle rfl, nle rfl⟩, nle rfl, nle rfl⟩ ?_
      intro v49 h50 hq51 _
      rw [show fv [c0, c1] = (0 : Int32) from (fv_n c41 (fv_0 c48))] at hq51
      obtain ⟨rfl, rfl⟩ := hq51
      show WlO _ _ _ _ _ _ _ _ _ _ _ _ _ _ _ _ _ _ [.int (0 : Int32)]
      refine Wl.iload 184 at_182 rfl ?_
      refine Wl.icmpN 187 at_184 (teq (by decide)).2 ?_
      refine Wl.iconst 188 (1 : Int32) at_187 (by decide) ?_
      refine Wl.goto 192 at_188 ?_
      exact Wl.ireturn at_192 rfl rfl (by simp) (nle rfl) (nle rfl) rfl
    · refine Wl.ifN 109 at_106 (feq c48).1 ?_
      refine Wl.iconst 110 (1 : Int32) at_109 (by decide) ?_
      refine Wl.goto 114 at_110 ?_
      refine Wl.istore 116 #[.val (.int i0), .val (.int i1), .val (.int i2), .val (.int i3), .val (.int c0), .val (.int c1), .val (.int c2), .val (.int (2 : Int32)), .val (.ref a1), .val (.int (1 : Int32))] at_114 rfl ?_
      refine Wl.goto 177 at_116 ?_
      refine Wl.aload 179 at_177 rfl rfl ?_
      refine Wl.static 182 (argsL := [.ref a1]) at_179 (w34 hw) (w35 hw) (w36 hw) (w37 hw) (show parseMethodDescriptor "(Ljava/lang/String;)Z" = some ⟨[(.object "java/lang/String")], some .boolean⟩ by decide +kernel) rfl (val_met hw hcs hfm hu S36 (by simp) (nle rfl)) (fun _ q => nomatch q) rfl rfl rfl (by decide) ⟨⟨nle rfl, nle rfl⟩, nle rfl, nle rfl⟩ ?_
      intro v52 h53 hq54 _
      rw [show fv [c0, c1] = (1 : Int32) from (fv_n c41 (fv_n c48 rfl))] at hq54
      obtain ⟨rfl, rfl⟩ := hq54
      show WlO _ _ _ _ _ _ _ _ _ _ _ _ _ _ _ _ _ _ [.int (1 : Int32)]
      refine Wl.iload 184 at_182 rfl ?_
      refine Wl.icmpN 187 at_184 (teq (by decide)).2 ?_
      refine Wl.iconst 188 (1 : Int32) at_187 (by decide) ?_
      refine Wl.goto 192 at_188 ?_
      exact Wl.ireturn at_192 rfl rfl (by simp) (nle rfl) (nle rfl) rfl
set_option maxRecDepth 65536 in
set_option maxHeartbeats 40000000 in
theorem law_t3 {l : Launch} {Z : State} {a0 : Array Value} (hw : ∀ d ∈ tables_1, d.before a0 Z = true) (hcs : CSon Z) (hfm : Fmt Z) (hu : U16on Z) {as : Array Value} {h : Heap} {i0 i1 i2 i3 c0 c1 c2 : Int32} (lc0 : Ch c0) (lc1 : Ch c1) (lc2 : Ch c2) :
    Wl l Z a0 consts_1 x code maxLocals ret room_1 as (fun v h' => v = some (.int 1)) [] h 0 0 17 #[.val (.int i0), .val (.int i1), .val (.int i2), .val (.int i3), .val (.int c0), .val (.int c1), .val (.int c2), .val (.int (3 : Int32)), .unset, .unset] [] := by
  refine Wl.iload 19 at_17 rfl ?_
  refine Wl.ifY 32 at_19 (feq (by decide)).2 ?_
  refine Wl.iload 34 at_32 rfl ?_
  refine Wl.iconst 35 (1 : Int32) at_34 (by decide) ?_
  refine Wl.icmpY 65 at_35 (feq (by decide)).2 ?_
  refine Wl.iload 67 at_65 rfl ?_
  refine Wl.iconst 68 (2 : Int32) at_67 (by decide) ?_
  refine Wl.icmpY 119 at_68 (feq (by decide)).2 ?_
  refine Wl.new 122 at_119 (w0 hw) (w1 hw) (w2 hw) (nle rfl) (nle rfl) ?_
  intro a1 h2 q3 E4 X5 D6
  have z7 : h.size ≤ a1 := Nat.le_of_eq q3.symm
  have B8 : Ext h h2 := E4
  have F9 : Fld Z h2 a1 "java/lang/String" "coder" "B" (.int 0) := D6 (Or.inr (w27 hw)) (ty := .byte) (by decide)
  have F10 : Fld Z h2 a1 "java/lang/String" "value" "[B" (.null) := D6 (Or.inr (w29 hw)) (ty := (.array .byte)) (by decide)
  refine Wl.dup 123 at_122 rfl ?_
  refine Wl.iconst 124 (3 : Int32) at_123 (by decide) ?_
  refine Wl.newarray 126 3 at_124 (w3 hw) (by decide) (by decide) (by decide) (nle rfl) (nle rfl) ?_
  intro a11 h12 k13 q14 E15 A16
  have A16 : Arv Z h12 a11 k13 .char (3 : Int32) [.int 0, .int 0, .int 0] (.int 0) := A16
  have z17 : h.size ≤ a11 := Nat.le_trans B8.1 (Nat.le_of_eq q14.symm)
  have z18 : h2.size ≤ a11 := Nat.le_of_eq q14.symm
  have ne19 : a1 ≠ a11 := Nat.ne_of_lt (by rw [q14]; exact (X5).lt)
  have B20 : Ext h h12 := extTr B8 E15
  have B21 : Ext h2 h12 := E15
  refine Wl.dup 127 at_126 rfl ?_
  refine Wl.iconst 128 (0 : Int32) at_127 (by decide) ?_
  refine Wl.iload 130 at_128 rfl ?_
  refine Wl.castore 131 0 at_130 A16 (List.mem_of_getElem? (i := 0) rfl) (by decide) (by decide) (by decide) (nle rfl) ?_
  intro h22 W23 A24
  rw [nar_ch lc0] at A24
  have A24 : Arv Z h22 a11 k13 .char (3 : Int32) [.int c0, .int (0 : Int32), .int (0 : Int32)] (.int 0) := A24
  have B25 : Ext h h22 := extWr B20 W23 z17
  have B26 : Ext h2 h22 := extWr B21 W23 z18
  refine Wl.dup 132 at_131 rfl ?_
  refine Wl.iconst 133 (1 : Int32) at_132 (by decide) ?_
  refine Wl.iload 135 at_133 rfl ?_
  refine Wl.castore 136 1 at_135 A24 (List.mem_of_getElem? (i := 0) rfl) (by decide) (by decide) (by decide) (nle rfl) ?_
  intro h27 W28 A29
  rw [nar_ch lc1] at A29
  have A29 : Arv Z h27 a11 k13 .char (3 : Int32) [.int c0, .int c1, .int (0 : Int32)] (.int 0) := A29
  have B30 : Ext h h27 := extWr B25 W28 z17
  have B31 : Ext h2 h27 := extWr B26 W28 z18
  refine Wl.dup 137 at_136 rfl ?_
  refine Wl.iconst 138 (2 : Int32) at_137 (by decide) ?_
  refine Wl.iload 140 at_138 rfl ?_
  refine Wl.castore 141 2 at_140 A29 (List.mem_of_getElem? (i := 0) rfl) (by decide) (by decide) (by decide) (nle rfl) ?_
  intro h32 W33 A34
  rw [nar_ch lc2] at A34
  have A34 : Arv Z h32 a11 k13 .char (3 : Int32) [.int c0, .int c1, .int c2] (.int 0) := A34
  have B35 : Ext h h32 := extWr B30 W33 z17
  have B36 : Ext h2 h32 := extWr B31 W33 z18
  refine Wl.special 144 (argsL := [.ref a11]) at_141 (w4 hw) (w5 hw) (w2 hw) (w6 hw) (show parseMethodDescriptor "([C)V" = some ⟨[(.array .char)], none⟩ by decide +kernel) rfl (strW_met hw hcs hu (cs := [c0, c1, c2]) 4 (nle rfl) (nle rfl) (by simp) (chC lc0 (chC lc1 (chC lc2 chN))) (X5.ext B36) (F10.ext B36) (F9.ext B36) A34) (allS (List.mem_of_getElem? (i := 1) rfl) (fun _ q => nomatch q)) rfl rfl rfl rfl (by decide) ⟨⟨nle rfl, nle rfl⟩, nle rfl, nle rfl⟩ ?_
  intro v37 h38 hq39 _
  obtain ⟨rfl, K40, S41⟩ := hq39
  have B42 : Ext h h38 := extKeep B35 K40 (allS z7 all0)
  show WlO _ _ _ _ _ _ _ _ _ _ _ _ _ _ _ _ _ _ [.ref a1]
  refine Wl.astore 146 #[.val (.int i0), .val (.int i1), .val (.int i2), .val (.int i3), .val (.int c0), .val (.int c1), .val (.int c2), .val (.int (3 : Int32)), .val (.ref a1), .unset] at_144 rfl rfl ?_
  refine Wl.iload 148 at_146 rfl ?_
  refine Wl.static 151 (argsL := [.int c0]) at_148 (w30 hw) (w31 hw) (w32 hw) (w33 hw) (show parseMethodDescriptor "(C)Z" = some ⟨[.char], some .boolean⟩ by decide +kernel) rfl (ok_met hw) (fun _ q => nomatch q) rfl rfl rfl (by decide) ⟨⟨nle rfl, nle rfl⟩, nle rfl, nle rfl⟩ ?_
  intro v43 h44 hq45 _
  obtain ⟨rfl, rfl⟩ := hq45
  show WlO _ _ _ _ _ _ _ _ _ _ _ _ _ _ _ _ _ _ [.int (okI c0)]
  by_cases c46 : (okI c0) = (0 : Int32)
  · refine Wl.ifY 174 at_151 (teq c46).1 ?_
    refine Wl.iconst 175 (0 : Int32) at_174 (by decide) ?_
    refine Wl.istore 177 #[.val (.int i0), .val (.int i1), .val (.int i2), .val (.int i3), .val (.int c0), .val (.int c1), .val (.int c2), .val (.int (3 : Int32)), .val (.ref a1), .val (.int (0 : Int32))] at_175 rfl ?_
    refine Wl.aload 179 at_177 rfl rfl ?_
    refine Wl.static 182 (argsL := [.ref a1]) at_179 (w34 hw) (w35 hw) (w36 hw) (w37 hw) (show parseMethodDescriptor "(Ljava/lang/String;)Z" = some ⟨[(.object "java/lang/String")], some .boolean⟩ by decide +kernel) rfl (val_met hw hcs hfm hu S41 (by simp) (nle rfl)) (fun _ q => nomatch q) rfl rfl rfl (by decide) ⟨⟨nle rfl, nle rfl⟩, nle rfl, nle rfl⟩ ?_
    intro v47 h48 hq49 _
    rw [show fv [c0, c1, c2] = (0 : Int32) from (fv_0 c46)] at hq49
    obtain ⟨rfl, rfl⟩ := hq49
    show WlO _ _ _ _ _ _ _ _ _ _ _ _ _ _ _ _ _ _ [.int (0 : Int32)]
    refine Wl.iload 184 at_182 rfl ?_
    refine Wl.icmpN 187 at_184 (teq (by decide)).2 ?_
    refine Wl.iconst 188 (1 : Int32) at_187 (by decide) ?_
    refine Wl.goto 192 at_188 ?_
    exact Wl.ireturn at_192 rfl rfl (by simp) (nle rfl) (nle rfl) rfl
  · refine Wl.ifN 154 at_151 (feq c46).1 ?_
    refine Wl.iload 156 at_154 rfl ?_
    refine Wl.static 159 (argsL := [.int c1]) at_156 (w30 hw) (w31 hw) (w32 hw) (w33 hw) (show parseMethodDescriptor "(C)Z" = some ⟨[.char], some .boolean⟩ by decide +kernel) rfl (ok_met hw) (fun _ q => nomatch q) rfl rfl rfl (by decide) ⟨⟨nle rfl, nle rfl⟩, nle rfl, nle rfl⟩ ?_
    intro v50 h51 hq52 _
    obtain ⟨rfl, rfl⟩ := hq52
    show WlO _ _ _ _ _ _ _ _ _ _ _ _ _ _ _ _ _ _ [.int (okI c1)]
    by_cases c53 : (okI c1) = (0 : Int32)
    · refine Wl.ifY 174 at_159 (teq c53).1 ?_
      refine Wl.iconst 175 (0 : Int32) at_174 (by decide) ?_
      refine Wl.istore 177 #[.val (.int i0), .val (.int i1), .val (.int i2), .val (.int i3), .val (.int c0), .val (.int c1), .val (.int c2), .val (.int (3 : Int32)), .val (.ref a1), .val (.int (0 : Int32))] at_175 rfl ?_
      refine Wl.aload 179 at_177 rfl rfl ?_
      refine Wl.static 182 (argsL := [.ref a1]) at_179 (w34 hw) (w35 hw) (w36 hw) (w37 hw) (show parseMethodDescriptor "(Ljava/lang/String;)Z" = some ⟨[(.object "java/lang/String")], some .boolean⟩ by decide +kernel) rfl (val_met hw hcs hfm hu S41 (by simp) (nle rfl)) (fun _ q => nomatch q) rfl rfl rfl (by decide) ⟨⟨nle rfl, nle rfl⟩, nle rfl, nle rfl⟩ ?_
      intro v54 h55 hq56 _
      rw [show fv [c0, c1, c2] = (0 : Int32) from (fv_n c46 (fv_0 c53))] at hq56
      obtain ⟨rfl, rfl⟩ := hq56
      show WlO _ _ _ _ _ _ _ _ _ _ _ _ _ _ _ _ _ _ [.int (0 : Int32)]
      refine Wl.iload 184 at_182 rfl ?_
      refine Wl.icmpN 187 at_184 (teq (by decide)).2 ?_
      refine Wl.iconst 188 (1 : Int32) at_187 (by decide) ?_
      refine Wl.goto 192 at_188 ?_
      exact Wl.ireturn at_192 rfl rfl (by simp) (nle rfl) (nle rfl) rfl
    · refine Wl.ifN 162 at_159 (feq c53).1 ?_
      refine Wl.iload 164 at_162 rfl ?_
      refine Wl.static 167 (argsL := [.int c2]) at_164 (w30 hw) (w31 hw) (w32 hw) (w33 hw) (show parseMethodDescriptor "(C)Z" = some ⟨[.char], some .boolean⟩ by decide +kernel) rfl (ok_met hw) (fun _ q => nomatch q) rfl rfl rfl (by decide) ⟨⟨nle rfl, nle rfl⟩, nle rfl, nle rfl⟩ ?_
      intro v57 h58 hq59 _
      obtain ⟨rfl, rfl⟩ := hq59
      show WlO _ _ _ _ _ _ _ _ _ _ _ _ _ _ _ _ _ _ [.int (okI c2)]
      by_cases c60 : (okI c2) = (0 : Int32)
      · refine Wl.ifY 174 at_167 (teq c60).1 ?_
        refine Wl.iconst 175 (0 : Int32) at_174 (by decide) ?_
        refine Wl.istore 177 #[.val (.int i0), .val (.int i1), .val (.int i2), .val (.int i3), .val (.int c0), .val (.int c1), .val (.int c2), .val (.int (3 : Int32)), .val (.ref a1), .val (.int (0 : Int32))] at_175 rfl ?_
        refine Wl.aload 179 at_177 rfl rfl ?_
        refine Wl.static 182 (argsL := [.ref a1]) at_179 (w34 hw) (w35 hw) (w36 hw) (w37 hw) (show parseMethodDescriptor "(Ljava/lang/String;)Z" = some ⟨[(.object "java/lang/String")], some .boolean⟩ by decide +kernel) rfl (val_met hw hcs hfm hu S41 (by simp) (nle rfl)) (fun _ q => nomatch q) rfl rfl rfl (by decide) ⟨⟨nle rfl, nle rfl⟩, nle rfl, nle rfl⟩ ?_
        intro v61 h62 hq63 _
        rw [show fv [c0, c1, c2] = (0 : Int32) from (fv_n c46 (fv_n c53 (fv_0 c60)))] at hq63
        obtain ⟨rfl, rfl⟩ := hq63
        show WlO _ _ _ _ _ _ _ _ _ _ _ _ _ _ _ _ _ _ [.int (0 : Int32)]
        refine Wl.iload 184 at_182 rfl ?_
        refine Wl.icmpN 187 at_184 (teq (by decide)).2 ?_
        refine Wl.iconst 188 (1 : Int32) at_187 (by decide) ?_
        refine Wl.goto 192 at_188 ?_
        exact Wl.ireturn at_192 rfl rfl (by simp) (nle rfl) (nle rfl) rfl
      · refine Wl.ifN 170 at_167 (feq c60).1 ?_
        refine Wl.iconst 171 (1 : Int32) at_170 (by decide) ?_
        refine Wl.goto 175 at_171 ?_
        refine Wl.istore 177 #[.val (.int i0), .val (.int i1), .val (.int i2), .val (.int i3), .val (.int c0), .val (.int c1), .val (.int c2), .val (.int (3 : Int32)), .val (.ref a1), .val (.int (1 : Int32))] at_175 rfl ?_
        refine Wl.aload 179 at_177 rfl rfl ?_
        refine Wl.static 182 (argsL := [.ref a1]) at_179 (w34 hw) (w35 hw) (w36 hw) (w37 hw) (show parseMethodDescriptor "(Ljava/lang/String;)Z" = some ⟨[(.object "java/lang/String")], some .boolean⟩ by decide +kernel) rfl (val_met hw hcs hfm hu S41 (by simp) (nle rfl)) (fun _ q => nomatch q) rfl rfl rfl (by decide) ⟨⟨nle rfl, nle rfl⟩, nle rfl, nle rfl⟩ ?_
        intro v64 h65 hq66 _
        rw [show fv [c0, c1, c2] = (1 : Int32) from (fv_n c46 (fv_n c53 (fv_n c60 rfl)))] at hq66
        obtain ⟨rfl, rfl⟩ := hq66
        show WlO _ _ _ _ _ _ _ _ _ _ _ _ _ _ _ _ _ _ [.int (1 : Int32)]
        refine Wl.iload 184 at_182 rfl ?_
        refine Wl.icmpN 187 at_184 (teq (by decide)).2 ?_
        refine Wl.iconst 188 (1 : Int32) at_187 (by decide) ?_
        refine Wl.goto 192 at_188 ?_
        exact Wl.ireturn at_192 rfl rfl (by simp) (nle rfl) (nle rfl) rfl
theorem and3 (k : Int32) : (k &&& (3 : Int32)) = 0 ∨ (k &&& (3 : Int32)) = 1 ∨ (k &&& (3 : Int32)) = 2 ∨ (k &&& (3 : Int32)) = 3 := by
  have h := c_and k 3 (by decide)
  have e : (3 : Int32).toInt = 3 := by decide
  generalize (k &&& (3 : Int32)) = n at h ⊢
  have q : ∀ k : Int32, n.toInt = k.toInt → n = k := fun k h => Int32.toInt_inj.mp h
  have : n.toInt = 0 ∨ n.toInt = 1 ∨ n.toInt = 2 ∨ n.toInt = 3 := by omega
  rcases this with h | h | h | h
  · exact Or.inl (q 0 h)
  · exact Or.inr (Or.inl (q 1 h))
  · exact Or.inr (Or.inr (Or.inl (q 2 h)))
  · exact Or.inr (Or.inr (Or.inr (q 3 h)))
set_option maxRecDepth 65536 in
set_option maxHeartbeats 40000000 in
theorem law_met {l : Launch} {Z : State} {a0 : Array Value} (hw : ∀ d ∈ tables_1, d.before a0 Z = true) (hcs : CSon Z) (hfm : Fmt Z) (hu : U16on Z) (i0 i1 i2 i3 : Int32) :
    Met l Z consts_1 x code maxLocals ret tables_1 room_1 #[.int i0, .int i1, .int i2, .int i3] Z.heap [] (fun v h' => v = some (.int 1)) := by
  generalize hh0 : Z.heap = h
  refine Met.of_walk (a0 := a0) (Ls := #[.val (.int i0), .val (.int i1), .val (.int i2), .val (.int i3), .unset, .unset, .unset, .unset, .unset, .unset]) (plainFor_of_name pn_2) (own_hEL hw) rfl ?_
  refine Wl.iload_n 1 at_0 rfl ?_
  refine Wl.i2c 2 at_1 ?_
  refine Wl.istore 4 #[.val (.int i0), .val (.int i1), .val (.int i2), .val (.int i3), .val (.int ((i0).toUInt32.toUInt16.toUInt32.toInt32)), .unset, .unset, .unset, .unset, .unset] at_2 rfl ?_
  refine Wl.iload_n 5 at_4 rfl ?_
  refine Wl.i2c 6 at_5 ?_
  refine Wl.istore 8 #[.val (.int i0), .val (.int i1), .val (.int i2), .val (.int i3), .val (.int ((i0).toUInt32.toUInt16.toUInt32.toInt32)), .val (.int ((i1).toUInt32.toUInt16.toUInt32.toInt32)), .unset, .unset, .unset, .unset] at_6 rfl ?_
  refine Wl.iload_n 9 at_8 rfl ?_
  refine Wl.i2c 10 at_9 ?_
  refine Wl.istore 12 #[.val (.int i0), .val (.int i1), .val (.int i2), .val (.int i3), .val (.int ((i0).toUInt32.toUInt16.toUInt32.toInt32)), .val (.int ((i1).toUInt32.toUInt16.toUInt32.toInt32)), .val (.int ((i2).toUInt32.toUInt16.toUInt32.toInt32)), .unset, .unset, .unset] at_10 rfl ?_
  refine Wl.iload_n 13 at_12 rfl ?_
  refine Wl.iconst 14 (3 : Int32) at_13 (by decide) ?_
  refine Wl.iand 15 at_14 ?_
  refine Wl.istore 17 #[.val (.int i0), .val (.int i1), .val (.int i2), .val (.int i3), .val (.int ((i0).toUInt32.toUInt16.toUInt32.toInt32)), .val (.int ((i1).toUInt32.toUInt16.toUInt32.toInt32)), .val (.int ((i2).toUInt32.toUInt16.toUInt32.toInt32)), .val (.int (i3 &&& (3 : Int32))), .unset, .unset] at_15 rfl ?_
  rcases and3 i3 with e | e | e | e <;> rw [e]
  · exact law_t0 hw hcs hfm hu (i2c_ch _) (i2c_ch _) (i2c_ch _)
  · exact law_t1 hw hcs hfm hu (i2c_ch _) (i2c_ch _) (i2c_ch _)
  · exact law_t2 hw hcs hfm hu (i2c_ch _) (i2c_ch _) (i2c_ch _)
  · exact law_t3 hw hcs hfm hu (i2c_ch _) (i2c_ch _) (i2c_ch _)
/-! from the case's words to the law's walk, and the owed theorems -/
set_option maxRecDepth 65536 in
set_option maxHeartbeats 40000000 in
theorem comes_1 {Post : Tables → Env → Array Value → State → Outcome → State → Prop} (hpost : ∀ tb e args s v u, (limb_1_1.after args s (.returned v) u = true ∧ limb_1_2.after args s (.returned v) u = true ∧ True) → ReturnedEndW s (.returned v) u (Jvm.fieldLocs frame_1_writes args s ++ Jvm.arrayLocs frame_1_arrays args s ++ Jvm.staticLocs frame_1_statics s) 24 1152 → Post tb e args s (.returned v) u) :
    ArmFor flags0 classFile x code maxLocals ret World_1 tables_1 room_1 Calls_1 rest_1 Pre_1 Post := by
  intro l hfl _ _ p e ha hc hk s m args below hf hA hF happ hP
  obtain ⟨hcalls, hrest, hpre⟩ := hP
  obtain ⟨-, -, -, hnamed, -, -, -, hat⟩ := (Spec.applies_iff hf).mp happ
  obtain ⟨hg, hn⟩ := and_e (Cond.before_iff.mp (show (Jvm.Cond.and given_1 narrow_1).before args s = true from hpre))
  obtain ⟨g0, r0⟩ := and_e hg
  obtain ⟨g1, r1⟩ := and_e r0
  obtain ⟨g2, r2⟩ := and_e r1
  obtain ⟨g3, r3⟩ := and_e r2
  obtain ⟨w0_, w1_, w2_, w3_, rfl⟩ : ∃ w0_ w1_ w2_ w3_ : Value, args = #[w0_, w1_, w2_, w3_] := by
    have hs : args.size = 4 := by simpa [Cond.value, given_1] using g0
    obtain ⟨L⟩ := args
    match L, hs with
    | [w0_, w1_, w2_, w3_], _ => exact ⟨w0_, w1_, w2_, w3_, rfl⟩
  have hw := fun d (hd : d ∈ tables_1) => atoms_spec (ws := Jvm.Cond.code x code maxLocals ret :: tables_1) hat d (List.mem_cons_of_mem _ hd)
  obtain ⟨hsets, hown0⟩ := atoms_of _ (rest_1_c_eq ▸ (show rest_1_c.before _ s = true from hrest))
  obtain ⟨i0, ei0⟩ := is_v g1
  obtain rfl : w0_ = (.int i0) := Option.some.inj ei0
  obtain ⟨i1, ei1⟩ := is_v g2
  obtain rfl : w1_ = (.int i1) := Option.some.inj ei1
  obtain ⟨i2, ei2⟩ := is_v g3
  obtain rfl : w2_ = (.int i2) := Option.some.inj ei2
  obtain ⟨i3, ei3⟩ := is_v r3
  obtain rfl : w3_ = (.int i3) := Option.some.inj ei3
  have hcw : Jvm.Lit.compactW.before _ s = true := hsets _ (List.mem_of_getElem? (i := 2) rfl)
  have hcs : CSon s := by
    obtain ⟨cst, ev⟩ := is_v (Cond.before_iff.mp (hsets _ (List.mem_of_getElem? (i := 1) rfl)))
    refine ⟨cst, Sta.start ev (Or.inl (hsets _ (List.mem_of_getElem? (i := 0) rfl))), fun q => ?_⟩
    have h1 := not_v (Cond.before_iff.mp (hsets _ (List.mem_of_getElem? (i := 2) rfl)))
    rw [eq_i ev (Term.int_eval 0) (by rw [q])] at h1
    cases h1
  have hfm : Fmt s := by
    obtain ⟨f, ef, rf⟩ := isR_v (Cond.before_iff.mp (hsets _ (List.mem_of_getElem? (i := 8) rfl)))
    exact ⟨f, Sta.start ef (Or.inl (hsets _ (List.mem_of_getElem? (i := 7) rfl))), rf⟩
  have hu : U16on s := ⟨Sta.start (eqS (Cond.before_iff.mp (hsets _ (List.mem_of_getElem? (i := 12) rfl)))) (Or.inl (hsets _ (List.mem_of_getElem? (i := 11) rfl))), Sta.start (eqS (Cond.before_iff.mp (hsets _ (List.mem_of_getElem? (i := 15) rfl)))) (Or.inl (hsets _ (List.mem_of_getElem? (i := 14) rfl))), Sta.start (eqS (Cond.before_iff.mp (hsets _ (List.mem_of_getElem? (i := 18) rfl)))) (Or.inl (hsets _ (List.mem_of_getElem? (i := 17) rfl)))⟩
  obtain ⟨n, o, h1, h2, h3, v, L, rfl, ⟨hq, N⟩, -, hE, hH, -⟩ := law_met (l := l) (Z := s) hw hcs hfm hu i0 i1 i2 i3  p e ha hc hk s m _ below hf ((Spec.applies_iff_loose hf).mp happ).1 ⟨rfl, State.Warmed39.refl s, rfl, CHv.start (own_hEL hw) (fun q hq => hcalls.1 q hq) hcw (w19 hw) (w1 hw), ext_rfl _, Mine.nil⟩ trivial
  subst hq
  exact ⟨n, _, h1, h2, h3, hpost _ _ _ _ _ _ ⟨Cond.after_iff.mpr rfl, Cond.after_iff.mpr (eq_i res_at (Term.int_eval (1)) rfl), trivial⟩ ⟨hE.1, hE.2.1, hE.2.2.1, (hE.2.2.2.sift fun y hy => Or.inr (N y hy)).mono (by decide) (by decide)⟩⟩
theorem main_1_1 : Claimed_1_1 := comes_1 fun _ _ _ _ _ _ h hF => ⟨h.1, hF⟩
theorem main_1_2 : Claimed_1_2 := comes_1 fun _ _ _ _ _ _ h hF => ⟨h.2.1, hF⟩

end Jvm.Pilot.@@N@@
namespace Jvm.Pilot.@@N@@
open Jvm Jvm.ClassFile Sem Op Lib Jvm.Free Jvm.Stand Jvm.Pilot.@@N@@.Jvm.D
/-! MADE BY PROGRAM (witnessworld.py) out of the Statement's table words and the real class files: 20 classes; the members and pool entries that the words name. The judged class is class 1, her method 1. -/
namespace start1
open Jvm.ClassFile
def u (s : String) : CpInfo := .utf8 (stringToUtf16 s)
/-- a pool by its gaps: so many unusable entries, then the entry; so many at the end -/
def gap : Nat → List CpInfo → List CpInfo
  | 0, r => r
  | n + 1, r => .unusable :: gap n r
def poolList (es : List (Nat × CpInfo)) (last : Nat) : List CpInfo := es.foldr (fun e r => gap e.1 (e.2 :: r)) (gap last [])
def pool (es : List (Nat × CpInfo)) (last : Nat) : Array CpInfo := ⟨poolList es last⟩
def fileOf (pool : Array CpInfo) (this : Nat) (attrs : Array Attribute := #[]) (ms : Array MethodInfo := #[]) (fl : Nat := 33) (sup : Nat := 0) (ifs : Array Nat := #[]) (fds : Array FieldInfo := #[]) : ClassFile where
  minorVersion := 0
  majorVersion := 65
  constantPool := pool
  accessFlags := fl
  thisClass := this
  superClass := sup
  interfaces := ifs
  fields := fds
  methods := ms
  attributes := attrs
def plain (name : String) (sup : Option ClassId) : Class where
  name := name
  kind := .ordinary
  loader := none
  accessFlags := 33
  super := sup
  interfaces := #[]
  cf := none
  fields := #[]
  methods := #[]
  instanceTypes := #[]
  staticTypes := #[]
  resolved := #[]
  callSites := []
  init := .initialized
  statics := none
  mirror := none

def pool0 : Array CpInfo := pool [(5, u "<init>"), (0, u "()V"), (1, .class_ 10), (1, u "java/lang/Object")] 113

def k0c0 : Code := { maxStack := 0, maxLocals := 1, code := object_method_1_code, exceptionTable := #[], attributes := #[] }
def k0m0 : Method := { name := "<init>", desc := "()V", sig := { parameters := [], returnType := none }, accessFlags := 1, code := some k0c0 }
/-- java/lang/Object -/
def k0 : Class := { plain "java/lang/Object" none with
  accessFlags := 33
  interfaces := #[]
  cf := some (fileOf pool0 8 #[] #[{ accessFlags := 1, nameIndex := 5, descriptorIndex := 6, attributes := #[] }] 33 0 #[] #[])
  fields := #[]
  methods := #[k0m0]
  instanceTypes := #[]
  staticTypes := #[]
  resolved := Array.replicate 124 none
  statics := none }

def pool1 : Array CpInfo := pool [(2, .class_ 4), (1, u "java/lang/Object"), (0, u "<init>"), (0, u "()V"), (0, .string 8), (0, u ""), (0, .class_ 10), (0, u "java/lang/String"), (0, .methodref 9 12), (0, .nameAndType 5 13), (0, u "([C)V"), (0, .methodref 15 16), (0, .class_ 17), (0, .nameAndType 18 19), (0, u "com/example/group_by_epoch/groupbyepoch/coordinator/TopicIsValidNamePinLaw"), (0, u "ok"), (0, u "(C)Z"), (0, .methodref 21 22), (0, .class_ 23), (0, .nameAndType 24 25), (0, u "com/example/group_by_epoch/groupbyepoch/coordinator/Topic"), (0, u "isValidName"), (0, u "(Ljava/lang/String;)Z"), (2, u "law"), (0, u "(IIII)Z")] 3

def k1m0 : Method := { name := "<init>", desc := "()V", sig := { parameters := [], returnType := none }, accessFlags := 1, code := none }
def k1c1 : Code := { maxStack := 6, maxLocals := 10, code := code, exceptionTable := #[], attributes := #[] }
def k1m1 : Method := { name := "law", desc := "(IIII)Z", sig := { parameters := [.int, .int, .int, .int], returnType := some .boolean }, accessFlags := 9, code := some k1c1 }
def k1c2 : Code := { maxStack := 2, maxLocals := 1, code := method_3_code, exceptionTable := #[], attributes := #[] }
def k1m2 : Method := { name := "ok", desc := "(C)Z", sig := { parameters := [.char], returnType := some .boolean }, accessFlags := 10, code := some k1c2 }
/-- com/example/group_by_epoch/groupbyepoch/coordinator/TopicIsValidNamePinLaw -/
def k1 : Class := { plain "com/example/group_by_epoch/groupbyepoch/coordinator/TopicIsValidNamePinLaw" (some 0) with
  accessFlags := 49
  interfaces := #[]
  cf := some (fileOf pool1 15 #[] #[{ accessFlags := 1, nameIndex := 5, descriptorIndex := 6, attributes := #[] }, { accessFlags := 9, nameIndex := 28, descriptorIndex := 29, attributes := #[] }, { accessFlags := 10, nameIndex := 18, descriptorIndex := 19, attributes := #[] }] 49 2 #[] #[])
  fields := #[]
  methods := #[k1m0, k1m1, k1m2]
  instanceTypes := #[]
  staticTypes := #[]
  resolved := Array.replicate 33 none
  statics := none }

def pool2 : Array CpInfo := pool [(1, .class_ 2), (0, u "java/io/Serializable"), (0, .class_ 4), (0, u "java/lang/Object")] 2

/-- java/io/Serializable -/
def k2 : Class := { plain "java/io/Serializable" (some 0) with
  accessFlags := 1537
  interfaces := #[]
  cf := some (fileOf pool2 1 #[] #[] 1537 3 #[] #[])
  fields := #[]
  methods := #[]
  instanceTypes := #[]
  staticTypes := #[]
  resolved := Array.replicate 7 none
  statics := none }

def pool3 : Array CpInfo := pool [(1, .class_ 2), (0, u "java/lang/Comparable"), (0, .class_ 4), (0, u "java/lang/Object")] 7

/-- java/lang/Comparable -/
def k3 : Class := { plain "java/lang/Comparable" (some 0) with
  accessFlags := 1537
  interfaces := #[]
  cf := some (fileOf pool3 1 #[] #[] 1537 3 #[] #[])
  fields := #[]
  methods := #[]
  instanceTypes := #[]
  staticTypes := #[]
  resolved := Array.replicate 12 none
  statics := none }

def pool4 : Array CpInfo := pool [(2, .class_ 4), (1, u "java/lang/CharSequence"), (42, .class_ 48), (0, u "java/lang/CharSequence$1CodePointIterator"), (10, .class_ 60), (0, u "java/lang/CharSequence$1CharIterator"), (5, .class_ 67), (0, u "java/lang/Object")] 63

/-- java/lang/CharSequence -/
def k4 : Class := { plain "java/lang/CharSequence" (some 0) with
  accessFlags := 1537
  interfaces := #[]
  cf := some (fileOf pool4 2 #[.nestMembers #[47, 59]] #[] 1537 66 #[] #[])
  fields := #[]
  methods := #[]
  instanceTypes := #[]
  staticTypes := #[]
  resolved := Array.replicate 131 none
  statics := none }

def pool5 : Array CpInfo := pool [(1, .class_ 2), (0, u "java/lang/constant/Constable"), (0, .class_ 4), (0, u "java/lang/Object")] 6

/-- java/lang/constant/Constable -/
def k5 : Class := { plain "java/lang/constant/Constable" (some 0) with
  accessFlags := 1537
  interfaces := #[]
  cf := some (fileOf pool5 1 #[] #[] 1537 3 #[] #[])
  fields := #[]
  methods := #[]
  instanceTypes := #[]
  staticTypes := #[]
  resolved := Array.replicate 11 none
  statics := none }

def pool6 : Array CpInfo := pool [(1, .class_ 2), (0, u "java/lang/constant/ConstantDesc"), (0, .class_ 4), (0, u "java/lang/Object")] 32

/-- java/lang/constant/ConstantDesc -/
def k6 : Class := { plain "java/lang/constant/ConstantDesc" (some 0) with
  accessFlags := 1537
  interfaces := #[]
  cf := some (fileOf pool6 1 #[] #[] 1537 3 #[] #[])
  fields := #[]
  methods := #[]
  instanceTypes := #[]
  staticTypes := #[]
  resolved := Array.replicate 37 none
  statics := none }

def pool7 : Array CpInfo := pool [(1, .methodref 2 3), (0, .class_ 4), (0, .nameAndType 5 6), (0, u "java/lang/Object"), (0, u "<init>"), (0, u "()V"), (2, .fieldref 10 11), (0, .class_ 12), (0, .nameAndType 13 14), (0, u "java/lang/String"), (0, u "value"), (0, u "[B"), (0, .fieldref 10 16), (0, .nameAndType 17 18), (0, u "coder"), (0, u "B"), (2, u "hash"), (0, u "I"), (2, u "hashIsZero"), (0, u "Z"), (0, .methodref 10 28), (0, .nameAndType 5 29), (0, u "([CIILjava/lang/Void;)V"), (8, .fieldref 10 39), (0, .nameAndType 40 26), (0, u "COMPACT_STRINGS"), (1, .class_ 44), (1, u "java/lang/StringUTF16"), (0, u "compress"), (1, .methodref 42 48), (0, .nameAndType 49 50), (0, u "coderFromArrayLen"), (0, u "([BI)B"), (56, .class_ 109), (1, u "java/lang/StringLatin1"), (32, u "()Z"), (34, .methodref 42 178), (0, .nameAndType 45 179), (0, u "([CII)[B"), (154, u "()I"), (0, .methodref 10 336), (0, .nameAndType 17 337), (0, u "()B"), (25, u "([BI)C"), (27, u "(II)V"), (35, u "(I)C"), (64, .methodref 10 493), (0, .nameAndType 494 142), (0, u "isLatin1"), (0, .methodref 107 496), (0, .nameAndType 497 363), (0, u "charAt"), (0, .methodref 42 496), (2, u "checkIndex"), (5, u "length"), (67, .class_ 576), (0, u "java/lang/CharSequence"), (22, u "CASE_INSENSITIVE_ORDER"), (0, u "Ljava/util/Comparator;"), (91, u "isEmpty"), (317, u "([C)V"), (42, .fieldref 1054 1055), (0, .class_ 1056), (0, .nameAndType 1057 1058), (0, u "jdk/internal/util/Preconditions"), (0, u "SIOOBE_FORMATTER"), (0, u "Ljava/util/function/BiFunction;"), (0, .methodref 1054 1060), (0, .nameAndType 501 1061), (0, u "(IILjava/util/function/BiFunction;)I"), (39, u "serialPersistentFields"), (0, u "[Ljava/io/ObjectStreamField;"), (0, .class_ 1104), (0, u "java/lang/String$CaseInsensitiveComparator"), (1, .class_ 1107), (0, u "java/io/Serializable"), (0, .class_ 1109), (0, u "java/lang/Comparable"), (0, .class_ 1111), (0, u "java/lang/constant/Constable"), (0, .class_ 1113), (0, u "java/lang/constant/ConstantDesc"), (2, u "serialVersionUID"), (0, u "J"), (3, u "REPL"), (0, u "C"), (2, u "LATIN1"), (1, u "UTF16")] 323

def k7m0 : Method := { name := "<init>", desc := "()V", sig := { parameters := [], returnType := none }, accessFlags := 1, code := none }
def k7c1 : Code := { maxStack := 5, maxLocals := 2, code := jdk_42_method_3_code, exceptionTable := #[], attributes := #[] }
def k7m1 : Method := { name := "<init>", desc := "([C)V", sig := { parameters := [(.array .char)], returnType := none }, accessFlags := 1, code := some k7c1 }
def k7c2 : Code := { maxStack := 2, maxLocals := 1, code := jdk_42_method_54_code, exceptionTable := #[], attributes := #[] }
def k7m2 : Method := { name := "length", desc := "()I", sig := { parameters := [], returnType := some .int }, accessFlags := 1, code := some k7c2 }
def k7c3 : Code := { maxStack := 1, maxLocals := 1, code := jdk_42_method_55_code, exceptionTable := #[], attributes := #[] }
def k7m3 : Method := { name := "isEmpty", desc := "()Z", sig := { parameters := [], returnType := some .boolean }, accessFlags := 1, code := some k7c3 }
def k7c4 : Code := { maxStack := 2, maxLocals := 2, code := jdk_42_method_56_code, exceptionTable := #[], attributes := #[] }
def k7m4 : Method := { name := "charAt", desc := "(I)C", sig := { parameters := [.int], returnType := some .char }, accessFlags := 1, code := some k7c4 }
def k7c5 : Code := { maxStack := 4, maxLocals := 6, code := jdk_42_method_149_code, exceptionTable := #[], attributes := #[] }
def k7m5 : Method := { name := "<init>", desc := "([CIILjava/lang/Void;)V", sig := { parameters := [(.array .char), .int, .int, (.object "java/lang/Void")], returnType := none }, accessFlags := 2, code := some k7c5 }
def k7c6 : Code := { maxStack := 1, maxLocals := 1, code := jdk_42_method_152_code, exceptionTable := #[], attributes := #[] }
def k7m6 : Method := { name := "coder", desc := "()B", sig := { parameters := [], returnType := some .byte }, accessFlags := 0, code := some k7c6 }
def k7c7 : Code := { maxStack := 1, maxLocals := 1, code := jdk_42_method_154_code, exceptionTable := #[], attributes := #[] }
def k7m7 : Method := { name := "isLatin1", desc := "()Z", sig := { parameters := [], returnType := some .boolean }, accessFlags := 0, code := some k7c7 }
def k7c8 : Code := { maxStack := 3, maxLocals := 2, code := jdk_42_method_155_code, exceptionTable := #[], attributes := #[] }
def k7m8 : Method := { name := "checkIndex", desc := "(II)V", sig := { parameters := [.int, .int], returnType := none }, accessFlags := 8, code := some k7c8 }
/-- java/lang/String -/
def k7 : Class := { plain "java/lang/String" (some 0) with
  accessFlags := 49
  interfaces := #[2, 3, 4, 5, 6]
  cf := some (fileOf pool7 10 #[.nestMembers #[1103]] #[{ accessFlags := 1, nameIndex := 5, descriptorIndex := 6, attributes := #[] }, { accessFlags := 1, nameIndex := 5, descriptorIndex := 1010, attributes := #[] }, { accessFlags := 1, nameIndex := 507, descriptorIndex := 334, attributes := #[] }, { accessFlags := 1, nameIndex := 692, descriptorIndex := 142, attributes := #[] }, { accessFlags := 1, nameIndex := 497, descriptorIndex := 427, attributes := #[] }, { accessFlags := 2, nameIndex := 5, descriptorIndex := 29, attributes := #[] }, { accessFlags := 0, nameIndex := 17, descriptorIndex := 337, attributes := #[] }, { accessFlags := 0, nameIndex := 494, descriptorIndex := 142, attributes := #[] }, { accessFlags := 8, nameIndex := 501, descriptorIndex := 391, attributes := #[] }] 49 2 #[1106, 1108, 575, 1110, 1112] #[{ accessFlags := 18, nameIndex := 13, descriptorIndex := 14, attributes := #[] }, { accessFlags := 18, nameIndex := 17, descriptorIndex := 18, attributes := #[] }, { accessFlags := 2, nameIndex := 21, descriptorIndex := 22, attributes := #[] }, { accessFlags := 2, nameIndex := 25, descriptorIndex := 26, attributes := #[] }, { accessFlags := 26, nameIndex := 1116, descriptorIndex := 1117, attributes := #[] }, { accessFlags := 24, nameIndex := 40, descriptorIndex := 26, attributes := #[] }, { accessFlags := 26, nameIndex := 1101, descriptorIndex := 1102, attributes := #[] }, { accessFlags := 26, nameIndex := 1121, descriptorIndex := 1122, attributes := #[] }, { accessFlags := 25, nameIndex := 599, descriptorIndex := 600, attributes := #[] }, { accessFlags := 24, nameIndex := 1125, descriptorIndex := 18, attributes := #[] }, { accessFlags := 24, nameIndex := 1127, descriptorIndex := 18, attributes := #[] }])
  fields := #[{ name := "value", type := (.array .byte), accessFlags := 18, slot := 0, constantValue := 0 }, { name := "coder", type := .byte, accessFlags := 18, slot := 1, constantValue := 0 }, { name := "hash", type := .int, accessFlags := 2, slot := 2, constantValue := 0 }, { name := "hashIsZero", type := .boolean, accessFlags := 2, slot := 3, constantValue := 0 }, { name := "serialVersionUID", type := .long, accessFlags := 26, slot := 0, constantValue := 0 }, { name := "COMPACT_STRINGS", type := .boolean, accessFlags := 24, slot := 1, constantValue := 0 }, { name := "serialPersistentFields", type := (.array (.object "java/io/ObjectStreamField")), accessFlags := 26, slot := 2, constantValue := 0 }, { name := "REPL", type := .char, accessFlags := 26, slot := 3, constantValue := 0 }, { name := "CASE_INSENSITIVE_ORDER", type := (.object "java/util/Comparator"), accessFlags := 25, slot := 4, constantValue := 0 }, { name := "LATIN1", type := .byte, accessFlags := 24, slot := 5, constantValue := 0 }, { name := "UTF16", type := .byte, accessFlags := 24, slot := 6, constantValue := 0 }]
  methods := #[k7m0, k7m1, k7m2, k7m3, k7m4, k7m5, k7m6, k7m7, k7m8]
  instanceTypes := #[(.array .byte), .byte, .int, .boolean]
  staticTypes := #[.long, .boolean, (.array (.object "java/io/ObjectStreamField")), .char, (.object "java/util/Comparator"), .byte, .byte]
  resolved := Array.replicate 1451 none
  statics := some 0 }

def pool8 : Array CpInfo := pool [(3, .class_ 4), (0, u "java/lang/String"), (1, .class_ 8), (1, u "java/lang/Object"), (0, u "<init>"), (0, u "()V"), (0, .methodref 12 13), (0, .class_ 14), (0, .nameAndType 15 16), (0, u "java/lang/StringUTF16"), (0, u "newBytesLength"), (0, u "(I)I"), (3, .integer 1073741823), (23, .fieldref 12 45), (0, .nameAndType 46 47), (0, u "$assertionsDisabled"), (0, u "Z"), (0, .methodref 12 49), (0, .nameAndType 50 51), (0, u "length"), (0, u "([B)I"), (7, .fieldref 12 60), (0, .nameAndType 61 62), (0, u "HI_BYTE_SHIFT"), (0, u "I"), (0, .fieldref 12 64), (0, .nameAndType 65 62), (0, u "LO_BYTE_SHIFT"), (1, .methodref 12 68), (0, .nameAndType 69 70), (0, u "checkIndex"), (0, u "(I[B)V"), (0, .methodref 12 72), (0, .nameAndType 73 74), (0, u "getChar"), (0, u "([BI)C"), (32, .methodref 12 108), (0, .nameAndType 109 110), (0, u "newBytesFor"), (0, u "(I)[B"), (0, .methodref 12 112), (0, .nameAndType 113 114), (0, u "putChar"), (0, u "([BII)V"), (0, .methodref 12 116), (0, .nameAndType 117 118), (0, u "compress"), (0, u "([CI[BII)I"), (0, .methodref 12 120), (0, .nameAndType 121 122), (0, u "toBytes"), (0, u "([CII)[B"), (138, u "coderFromArrayLen"), (0, u "([BI)B"), (106, .class_ 371), (1, u "java/lang/StringUTF16$LinesSpliterator"), (20, u "charAt"), (21, .methodref 3 415), (0, .nameAndType 69 416), (0, u "(II)V"), (13, u "MAX_LENGTH"), (196, .class_ 628), (0, u "java/lang/StringUTF16$CodePointsSpliterator"), (0, .class_ 630), (0, u "java/lang/StringUTF16$CharsSpliterator")] 4

def k8m0 : Method := { name := "<init>", desc := "()V", sig := { parameters := [], returnType := none }, accessFlags := 0, code := none }
def k8c1 : Code := { maxStack := 1, maxLocals := 1, code := jdk_52_method_2_code, exceptionTable := #[], attributes := #[] }
def k8m1 : Method := { name := "newBytesFor", desc := "(I)[B", sig := { parameters := [.int], returnType := some (.array .byte) }, accessFlags := 9, code := some k8c1 }
def k8c2 : Code := { maxStack := 4, maxLocals := 1, code := jdk_52_method_3_code, exceptionTable := #[], attributes := #[] }
def k8m2 : Method := { name := "newBytesLength", desc := "(I)I", sig := { parameters := [.int], returnType := some .int }, accessFlags := 9, code := some k8c2 }
def k8c3 : Code := { maxStack := 4, maxLocals := 3, code := jdk_52_method_4_code, exceptionTable := #[], attributes := #[] }
def k8m3 : Method := { name := "putChar", desc := "([BII)V", sig := { parameters := [(.array .byte), .int, .int], returnType := none }, accessFlags := 8, code := some k8c3 }
def k8c4 : Code := { maxStack := 3, maxLocals := 2, code := jdk_52_method_5_code, exceptionTable := #[], attributes := #[] }
def k8m4 : Method := { name := "getChar", desc := "([BI)C", sig := { parameters := [(.array .byte), .int], returnType := some .char }, accessFlags := 8, code := some k8c4 }
def k8c5 : Code := { maxStack := 2, maxLocals := 1, code := jdk_52_method_6_code, exceptionTable := #[], attributes := #[] }
def k8m5 : Method := { name := "length", desc := "([B)I", sig := { parameters := [(.array .byte)], returnType := some .int }, accessFlags := 9, code := some k8c5 }
def k8c6 : Code := { maxStack := 4, maxLocals := 5, code := jdk_52_method_14_code, exceptionTable := #[], attributes := #[] }
def k8m6 : Method := { name := "toBytes", desc := "([CII)[B", sig := { parameters := [(.array .char), .int, .int], returnType := some (.array .byte) }, accessFlags := 9, code := some k8c6 }
def k8c7 : Code := { maxStack := 2, maxLocals := 2, code := jdk_52_method_15_code, exceptionTable := #[], attributes := #[] }
def k8m7 : Method := { name := "coderFromArrayLen", desc := "([BI)B", sig := { parameters := [(.array .byte), .int], returnType := some .byte }, accessFlags := 8, code := some k8c7 }
def k8c8 : Code := { maxStack := 5, maxLocals := 6, code := jdk_52_method_16_code, exceptionTable := #[], attributes := #[] }
def k8m8 : Method := { name := "compress", desc := "([CII)[B", sig := { parameters := [(.array .char), .int, .int], returnType := some (.array .byte) }, accessFlags := 9, code := some k8c8 }
def k8c9 : Code := { maxStack := 3, maxLocals := 7, code := jdk_52_method_21_code, exceptionTable := #[], attributes := #[] }
def k8m9 : Method := { name := "compress", desc := "([CI[BII)I", sig := { parameters := [(.array .char), .int, (.array .byte), .int, .int], returnType := some .int }, accessFlags := 9, code := some k8c9 }
def k8c10 : Code := { maxStack := 2, maxLocals := 2, code := jdk_52_method_83_code, exceptionTable := #[], attributes := #[] }
def k8m10 : Method := { name := "charAt", desc := "([BI)C", sig := { parameters := [(.array .byte), .int], returnType := some .char }, accessFlags := 9, code := some k8c10 }
def k8c11 : Code := { maxStack := 2, maxLocals := 2, code := jdk_52_method_91_code, exceptionTable := #[], attributes := #[] }
def k8m11 : Method := { name := "checkIndex", desc := "(I[B)V", sig := { parameters := [.int, (.array .byte)], returnType := none }, accessFlags := 9, code := some k8c11 }
/-- java/lang/StringUTF16 -/
def k8 : Class := { plain "java/lang/StringUTF16" (some 0) with
  accessFlags := 48
  interfaces := #[]
  cf := some (fileOf pool8 12 #[.nestMembers #[627, 629, 369]] #[{ accessFlags := 0, nameIndex := 9, descriptorIndex := 10, attributes := #[] }, { accessFlags := 9, nameIndex := 109, descriptorIndex := 110, attributes := #[] }, { accessFlags := 9, nameIndex := 15, descriptorIndex := 16, attributes := #[] }, { accessFlags := 8, nameIndex := 113, descriptorIndex := 114, attributes := #[] }, { accessFlags := 8, nameIndex := 73, descriptorIndex := 74, attributes := #[] }, { accessFlags := 9, nameIndex := 50, descriptorIndex := 51, attributes := #[] }, { accessFlags := 9, nameIndex := 121, descriptorIndex := 122, attributes := #[] }, { accessFlags := 8, nameIndex := 261, descriptorIndex := 262, attributes := #[] }, { accessFlags := 9, nameIndex := 117, descriptorIndex := 122, attributes := #[] }, { accessFlags := 9, nameIndex := 117, descriptorIndex := 118, attributes := #[] }, { accessFlags := 9, nameIndex := 392, descriptorIndex := 74, attributes := #[] }, { accessFlags := 9, nameIndex := 69, descriptorIndex := 70, attributes := #[] }] 48 6 #[] #[{ accessFlags := 26, nameIndex := 61, descriptorIndex := 62, attributes := #[] }, { accessFlags := 26, nameIndex := 65, descriptorIndex := 62, attributes := #[] }, { accessFlags := 24, nameIndex := 430, descriptorIndex := 62, attributes := #[] }, { accessFlags := 4120, nameIndex := 46, descriptorIndex := 47, attributes := #[] }])
  fields := #[{ name := "HI_BYTE_SHIFT", type := .int, accessFlags := 26, slot := 0, constantValue := 0 }, { name := "LO_BYTE_SHIFT", type := .int, accessFlags := 26, slot := 1, constantValue := 0 }, { name := "MAX_LENGTH", type := .int, accessFlags := 24, slot := 2, constantValue := 0 }, { name := "$assertionsDisabled", type := .boolean, accessFlags := 4120, slot := 3, constantValue := 0 }]
  methods := #[k8m0, k8m1, k8m2, k8m3, k8m4, k8m5, k8m6, k8m7, k8m8, k8m9, k8m10, k8m11]
  instanceTypes := #[]
  staticTypes := #[.int, .int, .int, .boolean]
  resolved := Array.replicate 635 none
  statics := some 1 }

def pool9 : Array CpInfo := pool [(2, .class_ 4), (1, u "java/lang/Object"), (3, .class_ 10), (1, u "com/example/group_by_epoch/groupbyepoch/coordinator/Topic"), (0, u "name"), (0, u "Ljava/lang/String;"), (2, u "id"), (0, u "Ljava/util/UUID;"), (2, u "partitionCount"), (0, u "I"), (0, .methodref 22 23), (0, .class_ 24), (0, .nameAndType 25 26), (0, u "java/lang/String"), (0, u "isEmpty"), (0, u "()Z"), (0, .methodref 22 28), (0, .nameAndType 29 30), (0, u "length"), (0, u "()I"), (0, .methodref 22 32), (0, .nameAndType 33 34), (0, u "charAt"), (0, u "(I)C"), (0, u "MAX_NAME_LENGTH"), (2, u "MAX_PARTITIONS"), (9, u "isValidName"), (0, u "(Ljava/lang/String;)Z")] 2

def k9c0 : Code := { maxStack := 2, maxLocals := 4, code := prog_28_method_6_code, exceptionTable := #[], attributes := #[] }
def k9m0 : Method := { name := "isValidName", desc := "(Ljava/lang/String;)Z", sig := { parameters := [(.object "java/lang/String")], returnType := some .boolean }, accessFlags := 9, code := some k9c0 }
/-- com/example/group_by_epoch/groupbyepoch/coordinator/Topic -/
def k9 : Class := { plain "com/example/group_by_epoch/groupbyepoch/coordinator/Topic" (some 0) with
  accessFlags := 33
  interfaces := #[]
  cf := some (fileOf pool9 8 #[] #[{ accessFlags := 9, nameIndex := 48, descriptorIndex := 49, attributes := #[] }] 33 2 #[] #[{ accessFlags := 25, nameIndex := 35, descriptorIndex := 20, attributes := #[] }, { accessFlags := 25, nameIndex := 38, descriptorIndex := 20, attributes := #[] }, { accessFlags := 18, nameIndex := 11, descriptorIndex := 12, attributes := #[] }, { accessFlags := 18, nameIndex := 15, descriptorIndex := 16, attributes := #[] }, { accessFlags := 18, nameIndex := 19, descriptorIndex := 20, attributes := #[] }])
  fields := #[{ name := "MAX_NAME_LENGTH", type := .int, accessFlags := 25, slot := 0, constantValue := 0 }, { name := "MAX_PARTITIONS", type := .int, accessFlags := 25, slot := 1, constantValue := 0 }, { name := "name", type := (.object "java/lang/String"), accessFlags := 18, slot := 0, constantValue := 0 }, { name := "id", type := (.object "java/util/UUID"), accessFlags := 18, slot := 1, constantValue := 0 }, { name := "partitionCount", type := .int, accessFlags := 18, slot := 2, constantValue := 0 }]
  methods := #[k9m0]
  instanceTypes := #[(.object "java/lang/String"), (.object "java/util/UUID"), .int]
  staticTypes := #[.int, .int]
  resolved := Array.replicate 52 none
  statics := none }

def pool10 : Array CpInfo := pool [(1, .class_ 2), (0, u "java/lang/String"), (1, .class_ 6), (1, u "java/lang/Object"), (0, u "<init>"), (0, u "()V"), (0, .methodref 1 10), (0, .nameAndType 11 12), (0, u "checkIndex"), (0, u "(II)V"), (1, .class_ 16), (1, u "java/lang/StringLatin1"), (36, u "([BI)C"), (67, u "$assertionsDisabled"), (0, u "Z"), (98, .class_ 223), (1, u "java/lang/StringLatin1$LinesSpliterator"), (28, u "charAt"), (137, .class_ 391), (0, u "java/lang/StringLatin1$CharsSpliterator")] 3

def k10m0 : Method := { name := "<init>", desc := "()V", sig := { parameters := [], returnType := none }, accessFlags := 0, code := none }
def k10c1 : Code := { maxStack := 2, maxLocals := 2, code := jdk_43_method_2_code, exceptionTable := #[], attributes := #[] }
def k10m1 : Method := { name := "charAt", desc := "([BI)C", sig := { parameters := [(.array .byte), .int], returnType := some .char }, accessFlags := 9, code := some k10c1 }
/-- java/lang/StringLatin1 -/
def k10 : Class := { plain "java/lang/StringLatin1" (some 0) with
  accessFlags := 48
  interfaces := #[]
  cf := some (fileOf pool10 14 #[.nestMembers #[390, 221]] #[{ accessFlags := 0, nameIndex := 7, descriptorIndex := 8, attributes := #[] }, { accessFlags := 9, nameIndex := 252, descriptorIndex := 53, attributes := #[] }] 48 4 #[] #[{ accessFlags := 4120, nameIndex := 121, descriptorIndex := 122, attributes := #[] }])
  fields := #[{ name := "$assertionsDisabled", type := .boolean, accessFlags := 4120, slot := 0, constantValue := 0 }]
  methods := #[k10m0, k10m1]
  instanceTypes := #[]
  staticTypes := #[.boolean]
  resolved := Array.replicate 395 none
  statics := none }

def pool11 : Array CpInfo := pool [(2, .class_ 4), (1, u "java/lang/Object"), (0, u "<init>"), (0, u "()V"), (17, .class_ 26), (1, u "jdk/internal/util/Preconditions"), (6, u "checkIndex"), (21, .class_ 56), (0, u "jdk/internal/util/Preconditions$4"), (57, .class_ 115), (0, u "jdk/internal/util/Preconditions$1"), (7, u "SIOOBE_FORMATTER"), (0, u "Ljava/util/function/BiFunction;"), (0, .class_ 126), (0, u "jdk/internal/util/Preconditions$2"), (3, u "AIOOBE_FORMATTER"), (0, .class_ 132), (0, u "jdk/internal/util/Preconditions$3"), (3, u "IOOBE_FORMATTER"), (41, u "(IILjava/util/function/BiFunction;)I")] 15

def k11m0 : Method := { name := "<init>", desc := "()V", sig := { parameters := [], returnType := none }, accessFlags := 1, code := none }
def k11c1 : Code := { maxStack := 3, maxLocals := 3, code := jdk_41_method_11_code, exceptionTable := #[], attributes := #[] }
def k11m1 : Method := { name := "checkIndex", desc := "(IILjava/util/function/BiFunction;)I", sig := { parameters := [.int, .int, (.object "java/util/function/BiFunction")], returnType := some .int }, accessFlags := 9, code := some k11c1 }
/-- jdk/internal/util/Preconditions -/
def k11 : Class := { plain "jdk/internal/util/Preconditions" (some 0) with
  accessFlags := 33
  interfaces := #[]
  cf := some (fileOf pool11 24 #[.nestMembers #[55, 131, 125, 114]] #[{ accessFlags := 1, nameIndex := 5, descriptorIndex := 6, attributes := #[] }, { accessFlags := 9, nameIndex := 33, descriptorIndex := 178, attributes := #[] }] 33 2 #[] #[{ accessFlags := 25, nameIndex := 123, descriptorIndex := 124, attributes := #[] }, { accessFlags := 25, nameIndex := 130, descriptorIndex := 124, attributes := #[] }, { accessFlags := 25, nameIndex := 136, descriptorIndex := 124, attributes := #[] }])
  fields := #[{ name := "SIOOBE_FORMATTER", type := (.object "java/util/function/BiFunction"), accessFlags := 25, slot := 0, constantValue := 0 }, { name := "AIOOBE_FORMATTER", type := (.object "java/util/function/BiFunction"), accessFlags := 25, slot := 1, constantValue := 0 }, { name := "IOOBE_FORMATTER", type := (.object "java/util/function/BiFunction"), accessFlags := 25, slot := 2, constantValue := 0 }]
  methods := #[k11m0, k11m1]
  instanceTypes := #[]
  staticTypes := #[(.object "java/util/function/BiFunction"), (.object "java/util/function/BiFunction"), (.object "java/util/function/BiFunction")]
  resolved := Array.replicate 194 none
  statics := some 2 }

def pool12 : Array CpInfo := pool [(9, u "<init>"), (6, .class_ 18), (1, u "java/lang/Object"), (0, u "()V"), (1, .class_ 23), (1, u "jdk/internal/util/ArraysSupport"), (0, u "LOG2_ARRAY_LONG_INDEX_SCALE"), (0, u "I"), (2, u "U"), (0, u "Ljdk/internal/misc/Unsafe;"), (8, u "BIG_ENDIAN"), (0, u "Z"), (8, u "LOG2_BYTE_BIT_SIZE"), (4, u "LOG2_ARRAY_INT_INDEX_SCALE"), (54, u "JLA"), (0, u "Ljdk/internal/access/JavaLangAccess;"), (11, u "LOG2_ARRAY_BOOLEAN_INDEX_SCALE"), (9, u "LOG2_ARRAY_BYTE_INDEX_SCALE"), (5, u "LOG2_ARRAY_CHAR_INDEX_SCALE"), (5, u "LOG2_ARRAY_SHORT_INDEX_SCALE"), (18, u "LOG2_ARRAY_FLOAT_INDEX_SCALE"), (24, u "LOG2_ARRAY_DOUBLE_INDEX_SCALE"), (89, u "T_BOOLEAN"), (2, u "T_CHAR"), (1, u "T_FLOAT"), (1, u "T_DOUBLE"), (1, u "T_BYTE"), (1, u "T_SHORT"), (1, u "T_INT"), (1, u "T_LONG"), (1, u "SOFT_MAX_ARRAY_LENGTH")] 83

def k12m0 : Method := { name := "<init>", desc := "()V", sig := { parameters := [], returnType := none }, accessFlags := 2, code := none }
/-- jdk/internal/util/ArraysSupport -/
def k12 : Class := { plain "jdk/internal/util/ArraysSupport" (some 0) with
  accessFlags := 33
  interfaces := #[]
  cf := some (fileOf pool12 21 #[] #[{ accessFlags := 2, nameIndex := 9, descriptorIndex := 19, attributes := #[] }] 33 16 #[] #[{ accessFlags := 24, nameIndex := 28, descriptorIndex := 29, attributes := #[] }, { accessFlags := 26, nameIndex := 38, descriptorIndex := 39, attributes := #[] }, { accessFlags := 25, nameIndex := 121, descriptorIndex := 25, attributes := #[] }, { accessFlags := 25, nameIndex := 131, descriptorIndex := 25, attributes := #[] }, { accessFlags := 25, nameIndex := 137, descriptorIndex := 25, attributes := #[] }, { accessFlags := 25, nameIndex := 143, descriptorIndex := 25, attributes := #[] }, { accessFlags := 25, nameIndex := 53, descriptorIndex := 25, attributes := #[] }, { accessFlags := 25, nameIndex := 24, descriptorIndex := 25, attributes := #[] }, { accessFlags := 25, nameIndex := 162, descriptorIndex := 25, attributes := #[] }, { accessFlags := 25, nameIndex := 187, descriptorIndex := 25, attributes := #[] }, { accessFlags := 26, nameIndex := 48, descriptorIndex := 25, attributes := #[] }, { accessFlags := 25, nameIndex := 277, descriptorIndex := 25, attributes := #[] }, { accessFlags := 25, nameIndex := 280, descriptorIndex := 25, attributes := #[] }, { accessFlags := 25, nameIndex := 282, descriptorIndex := 25, attributes := #[] }, { accessFlags := 25, nameIndex := 284, descriptorIndex := 25, attributes := #[] }, { accessFlags := 25, nameIndex := 286, descriptorIndex := 25, attributes := #[] }, { accessFlags := 25, nameIndex := 288, descriptorIndex := 25, attributes := #[] }, { accessFlags := 25, nameIndex := 290, descriptorIndex := 25, attributes := #[] }, { accessFlags := 25, nameIndex := 292, descriptorIndex := 25, attributes := #[] }, { accessFlags := 26, nameIndex := 108, descriptorIndex := 109, attributes := #[] }, { accessFlags := 25, nameIndex := 294, descriptorIndex := 25, attributes := #[] }])
  fields := #[{ name := "U", type := (.object "jdk/internal/misc/Unsafe"), accessFlags := 24, slot := 0, constantValue := 0 }, { name := "BIG_ENDIAN", type := .boolean, accessFlags := 26, slot := 1, constantValue := 0 }, { name := "LOG2_ARRAY_BOOLEAN_INDEX_SCALE", type := .int, accessFlags := 25, slot := 2, constantValue := 0 }, { name := "LOG2_ARRAY_BYTE_INDEX_SCALE", type := .int, accessFlags := 25, slot := 3, constantValue := 0 }, { name := "LOG2_ARRAY_CHAR_INDEX_SCALE", type := .int, accessFlags := 25, slot := 4, constantValue := 0 }, { name := "LOG2_ARRAY_SHORT_INDEX_SCALE", type := .int, accessFlags := 25, slot := 5, constantValue := 0 }, { name := "LOG2_ARRAY_INT_INDEX_SCALE", type := .int, accessFlags := 25, slot := 6, constantValue := 0 }, { name := "LOG2_ARRAY_LONG_INDEX_SCALE", type := .int, accessFlags := 25, slot := 7, constantValue := 0 }, { name := "LOG2_ARRAY_FLOAT_INDEX_SCALE", type := .int, accessFlags := 25, slot := 8, constantValue := 0 }, { name := "LOG2_ARRAY_DOUBLE_INDEX_SCALE", type := .int, accessFlags := 25, slot := 9, constantValue := 0 }, { name := "LOG2_BYTE_BIT_SIZE", type := .int, accessFlags := 26, slot := 10, constantValue := 0 }, { name := "T_BOOLEAN", type := .int, accessFlags := 25, slot := 11, constantValue := 0 }, { name := "T_CHAR", type := .int, accessFlags := 25, slot := 12, constantValue := 0 }, { name := "T_FLOAT", type := .int, accessFlags := 25, slot := 13, constantValue := 0 }, { name := "T_DOUBLE", type := .int, accessFlags := 25, slot := 14, constantValue := 0 }, { name := "T_BYTE", type := .int, accessFlags := 25, slot := 15, constantValue := 0 }, { name := "T_SHORT", type := .int, accessFlags := 25, slot := 16, constantValue := 0 }, { name := "T_INT", type := .int, accessFlags := 25, slot := 17, constantValue := 0 }, { name := "T_LONG", type := .int, accessFlags := 25, slot := 18, constantValue := 0 }, { name := "JLA", type := (.object "jdk/internal/access/JavaLangAccess"), accessFlags := 26, slot := 19, constantValue := 0 }, { name := "SOFT_MAX_ARRAY_LENGTH", type := .int, accessFlags := 25, slot := 20, constantValue := 0 }]
  methods := #[k12m0]
  instanceTypes := #[]
  staticTypes := #[(.object "jdk/internal/misc/Unsafe"), .boolean, .int, .int, .int, .int, .int, .int, .int, .int, .int, .int, .int, .int, .int, .int, .int, .int, .int, (.object "jdk/internal/access/JavaLangAccess"), .int]
  resolved := Array.replicate 378 none
  statics := none }

def pool13 : Array CpInfo := pool [(1, u "java/lang/Cloneable"), (0, .class_ 1), (0, u "java/lang/Object"), (0, .class_ 3)] 3

/-- java/lang/Cloneable -/
def k13 : Class := { plain "java/lang/Cloneable" (some 0) with
  accessFlags := 1537
  interfaces := #[]
  cf := some (fileOf pool13 2 #[] #[] 1537 4 #[] #[])
  fields := #[]
  methods := #[]
  instanceTypes := #[]
  staticTypes := #[]
  resolved := Array.replicate 8 none
  statics := none }

/-- the primitive byte -/
def k14 : Class := { plain "byte" none with kind := .primitive 'B', accessFlags := 0x411 }
/-- [B -/
def k15 : Class := { plain "[B" (some 0) with kind := .array 14 .byte, interfaces := #[13, 2], accessFlags := 1041 }

/-- the primitive char -/
def k16 : Class := { plain "char" none with kind := .primitive 'C', accessFlags := 0x411 }
/-- [C -/
def k17 : Class := { plain "[C" (some 0) with kind := .array 16 .char, interfaces := #[13, 2], accessFlags := 1041 }

/-- the primitive int -/
def k18 : Class := { plain "int" none with kind := .primitive 'I', accessFlags := 0x411 }
/-- [I -/
def k19 : Class := { plain "[I" (some 0) with kind := .array 18 .int, interfaces := #[13, 2], accessFlags := 1041 }

def heap : Heap := #[{ cls := 7, slots := #[.long 0, .int 1, .null, .int 0, .null, .int 0, .int 0], vm := .statics 7 },
  { cls := 8, slots := #[.int 0, .int 8, .int 0, .int 1], vm := .statics 8 },
  { cls := 11, slots := #[.null, .null, .null], vm := .statics 11 }]
def classes : Array Class := #[k0, k1, k2, k3, k4, k5, k6, k7, k8, k9, k10, k11, k12, k13, k14, k15, k16, k17, k18, k19]
def interned : List (Array UInt16 × Addr) := []
def slotsUsed : Nat := 14
def theMethod : MethodId := ⟨1, 1⟩
def args0 : Array Value := #[.int 5, .int 5, .int 5, .int 5]
def aboutOver (below : List Frame) : State where
  vm := { classes := classes, interned := interned.toArray }
  heap := heap
  slotsUsed := slotsUsed
  threads := #[{ frames := .invoking theMethod args0 :: below }]
def below0 : List Frame := [.native { method := ⟨0, 0⟩, args := #[] }]
def about1 : State := aboutOver below0
def p0 : Program := .bare "" "" ""
def e0 : Env := launch0.env 0 0 0
theorem w_frames : about1.frames = Frame.invoking theMethod args0 :: below0 := rfl
set_option maxRecDepth 65536 in
theorem w_args : argsFit about1.vm theMethod args0 = true := by decide +kernel
set_option maxRecDepth 65536 in
theorem w_heap : heapFits about1 = true := by decide +kernel
set_option maxRecDepth 65536 in
theorem w_runnable : about1.curStatus? = some .runnable := by decide +kernel
set_option maxRecDepth 65536 in
theorem w_alone : about1.alone = true := by decide +kernel
set_option maxRecDepth 65536 in
theorem w_named : about1.methodNamed? x = some theMethod := by decide +kernel
set_option maxRecDepth 65536 in
theorem w_hears : about1.hears theMethod below0 = true := by decide +kernel
set_option maxRecDepth 65536 in
theorem w_ripe : about1.ripe theMethod args0 below0 = true := by decide +kernel
theorem w_running : about1.status = .running := rfl
set_option maxRecDepth 65536 in
theorem w_room : about1.hasRoom e0.platform room_1 = true :=
  launch0.hasRoom_least _ room_1 (by decide +kernel) (by decide +kernel) (by decide +kernel) (by decide +kernel) (by decide +kernel) (by decide +kernel)
theorem allAtoms_all (ts : List Jvm.Cond) (a : Array Jvm.Value) (st : Jvm.State) : (allAtoms ts).before a st = ts.all (fun c => c.before a st) := by
  induction ts with
  | nil => rfl
  | cons c t ih =>
    show (Jvm.Cond.and c (allAtoms t)).before a st = _
    rw [Jvm.Cond.before_and, ih, List.all_cons]
def words1 : List Jvm.Cond := Jvm.Cond.code x code maxLocals ret :: tables_1
/-- a 'code' word, met by the world's own term for the bytes: nothing is compared byte by byte -/
theorem code_word {y : MethodName} {bytes : ByteArray} {mx : Nat} {rt : Option FieldType} {a : Array Value} {s : State} {m : MethodId} {meth : Method} {c : Code} (h1 : s.methodNamed? y = some m) (h2 : s.vm.method? m = some meth) (h3 : meth.code = some c) (h4 : c.code = bytes)
    (h5 : (c.maxLocals == mx && c.exceptionTable.isEmpty && decide (c.maxStack ≤ mostOperands) && decide (meth.sig.returnType = rt) && !meth.locks && decide (parseMethodDescriptor y.desc = some meth.sig)) = true) : (Jvm.Cond.code y bytes mx rt).before a s = true := by
  simp only [Bool.and_eq_true, beq_iff_eq, Bool.not_eq_true', decide_eq_true_eq] at h5
  obtain ⟨⟨⟨⟨⟨g1, g2⟩, g3⟩, g4⟩, g5⟩, g6⟩ := h5
  simp [Cond.before, Cond.holds, Cond.value, h1, h2, h3, h4, g1, g2, g3, g4, g5, g6]
def isCode : Jvm.Cond → Bool
  | .code _ _ _ _ => true
  | _ => false
theorem all_split {L : List Jvm.Cond} {P : Jvm.Cond → Bool} (h1 : L.all (fun c => isCode c || P c) = true) (h2 : ∀ c ∈ L.filter isCode, P c = true) : L.all P = true := by
  refine List.all_eq_true.mpr fun c hc => ?_
  have h := List.all_eq_true.mp h1 c hc
  rcases Bool.eq_false_or_eq_true (isCode c) with hi | hi
  · exact h2 c (List.mem_filter.mpr ⟨hc, hi⟩)
  · simpa [hi] using h
set_option maxRecDepth 65536 in
theorem w_c0 : (Jvm.Cond.code x code maxLocals ret).before args0 about1 = true := code_word (m := ⟨1, 1⟩) (meth := k1m1) (c := k1c1) (by decide +kernel) rfl rfl rfl (by decide +kernel)
set_option maxRecDepth 65536 in
theorem w_c1 : (Jvm.Cond.code ({ cls := "java/lang/String", name := "<init>", desc := "([C)V" } : Jvm.MethodName) jdk_42_method_3_code (2 : Nat) (Option.none : Option Jvm.ClassFile.FieldType)).before args0 about1 = true := code_word (m := ⟨7, 1⟩) (meth := k7m1) (c := k7c1) (by decide +kernel) rfl rfl rfl (by decide +kernel)
set_option maxRecDepth 65536 in
theorem w_c2 : (Jvm.Cond.code ({ cls := "java/lang/String", name := "<init>", desc := "([CIILjava/lang/Void;)V" } : Jvm.MethodName) jdk_42_method_149_code (6 : Nat) (Option.none : Option Jvm.ClassFile.FieldType)).before args0 about1 = true := code_word (m := ⟨7, 5⟩) (meth := k7m5) (c := k7c5) (by decide +kernel) rfl rfl rfl (by decide +kernel)
set_option maxRecDepth 65536 in
theorem w_c3 : (Jvm.Cond.code ({ cls := "java/lang/Object", name := "<init>", desc := "()V" } : Jvm.MethodName) object_method_1_code (1 : Nat) (Option.none : Option Jvm.ClassFile.FieldType)).before args0 about1 = true := code_word (m := ⟨0, 0⟩) (meth := k0m0) (c := k0c0) (by decide +kernel) rfl rfl rfl (by decide +kernel)
set_option maxRecDepth 65536 in
theorem w_c4 : (Jvm.Cond.code ({ cls := "java/lang/StringUTF16", name := "compress", desc := "([CII)[B" } : Jvm.MethodName) jdk_52_method_16_code (6 : Nat) (Option.some (Jvm.ClassFile.FieldType.array Jvm.ClassFile.FieldType.byte))).before args0 about1 = true := code_word (m := ⟨8, 8⟩) (meth := k8m8) (c := k8c8) (by decide +kernel) rfl rfl rfl (by decide +kernel)
set_option maxRecDepth 65536 in
theorem w_c5 : (Jvm.Cond.code ({ cls := "java/lang/StringUTF16", name := "compress", desc := "([CI[BII)I" } : Jvm.MethodName) jdk_52_method_21_code (7 : Nat) (Option.some Jvm.ClassFile.FieldType.int)).before args0 about1 = true := code_word (m := ⟨8, 9⟩) (meth := k8m9) (c := k8c9) (by decide +kernel) rfl rfl rfl (by decide +kernel)
set_option maxRecDepth 65536 in
theorem w_c6 : (Jvm.Cond.code ({ cls := "java/lang/StringUTF16", name := "coderFromArrayLen", desc := "([BI)B" } : Jvm.MethodName) jdk_52_method_15_code (2 : Nat) (Option.some Jvm.ClassFile.FieldType.byte)).before args0 about1 = true := code_word (m := ⟨8, 7⟩) (meth := k8m7) (c := k8c7) (by decide +kernel) rfl rfl rfl (by decide +kernel)
set_option maxRecDepth 65536 in
theorem w_c7 : (Jvm.Cond.code ({ cls := "com/example/group_by_epoch/groupbyepoch/coordinator/TopicIsValidNamePinLaw", name := "ok", desc := "(C)Z" } : Jvm.MethodName) method_3_code (1 : Nat) (Option.some Jvm.ClassFile.FieldType.boolean)).before args0 about1 = true := code_word (m := ⟨1, 2⟩) (meth := k1m2) (c := k1c2) (by decide +kernel) rfl rfl rfl (by decide +kernel)
set_option maxRecDepth 65536 in
theorem w_c8 : (Jvm.Cond.code ({ cls := "com/example/group_by_epoch/groupbyepoch/coordinator/Topic", name := "isValidName", desc := "(Ljava/lang/String;)Z" } : Jvm.MethodName) prog_28_method_6_code (4 : Nat) (Option.some Jvm.ClassFile.FieldType.boolean)).before args0 about1 = true := code_word (m := ⟨9, 0⟩) (meth := k9m0) (c := k9c0) (by decide +kernel) rfl rfl rfl (by decide +kernel)
set_option maxRecDepth 65536 in
theorem w_c9 : (Jvm.Cond.code ({ cls := "java/lang/String", name := "isEmpty", desc := "()Z" } : Jvm.MethodName) jdk_42_method_55_code (1 : Nat) (Option.some Jvm.ClassFile.FieldType.boolean)).before args0 about1 = true := code_word (m := ⟨7, 3⟩) (meth := k7m3) (c := k7c3) (by decide +kernel) rfl rfl rfl (by decide +kernel)
set_option maxRecDepth 65536 in
theorem w_c10 : (Jvm.Cond.code ({ cls := "java/lang/String", name := "length", desc := "()I" } : Jvm.MethodName) jdk_42_method_54_code (1 : Nat) (Option.some Jvm.ClassFile.FieldType.int)).before args0 about1 = true := code_word (m := ⟨7, 2⟩) (meth := k7m2) (c := k7c2) (by decide +kernel) rfl rfl rfl (by decide +kernel)
set_option maxRecDepth 65536 in
theorem w_c11 : (Jvm.Cond.code ({ cls := "java/lang/String", name := "coder", desc := "()B" } : Jvm.MethodName) jdk_42_method_152_code (1 : Nat) (Option.some Jvm.ClassFile.FieldType.byte)).before args0 about1 = true := code_word (m := ⟨7, 6⟩) (meth := k7m6) (c := k7c6) (by decide +kernel) rfl rfl rfl (by decide +kernel)
set_option maxRecDepth 65536 in
theorem w_c12 : (Jvm.Cond.code ({ cls := "java/lang/String", name := "charAt", desc := "(I)C" } : Jvm.MethodName) jdk_42_method_56_code (2 : Nat) (Option.some Jvm.ClassFile.FieldType.char)).before args0 about1 = true := code_word (m := ⟨7, 4⟩) (meth := k7m4) (c := k7c4) (by decide +kernel) rfl rfl rfl (by decide +kernel)
set_option maxRecDepth 65536 in
theorem w_c13 : (Jvm.Cond.code ({ cls := "java/lang/String", name := "isLatin1", desc := "()Z" } : Jvm.MethodName) jdk_42_method_154_code (1 : Nat) (Option.some Jvm.ClassFile.FieldType.boolean)).before args0 about1 = true := code_word (m := ⟨7, 7⟩) (meth := k7m7) (c := k7c7) (by decide +kernel) rfl rfl rfl (by decide +kernel)
set_option maxRecDepth 65536 in
theorem w_c14 : (Jvm.Cond.code ({ cls := "java/lang/StringLatin1", name := "charAt", desc := "([BI)C" } : Jvm.MethodName) jdk_43_method_2_code (2 : Nat) (Option.some Jvm.ClassFile.FieldType.char)).before args0 about1 = true := code_word (m := ⟨10, 1⟩) (meth := k10m1) (c := k10c1) (by decide +kernel) rfl rfl rfl (by decide +kernel)
set_option maxRecDepth 65536 in
theorem w_c15 : (Jvm.Cond.code ({ cls := "java/lang/String", name := "checkIndex", desc := "(II)V" } : Jvm.MethodName) jdk_42_method_155_code (2 : Nat) (Option.none : Option Jvm.ClassFile.FieldType)).before args0 about1 = true := code_word (m := ⟨7, 8⟩) (meth := k7m8) (c := k7c8) (by decide +kernel) rfl rfl rfl (by decide +kernel)
set_option maxRecDepth 65536 in
theorem w_c16 : (Jvm.Cond.code ({ cls := "jdk/internal/util/Preconditions", name := "checkIndex", desc := "(IILjava/util/function/BiFunction;)I" } : Jvm.MethodName) jdk_41_method_11_code (3 : Nat) (Option.some Jvm.ClassFile.FieldType.int)).before args0 about1 = true := code_word (m := ⟨11, 1⟩) (meth := k11m1) (c := k11c1) (by decide +kernel) rfl rfl rfl (by decide +kernel)
set_option maxRecDepth 65536 in
theorem w_c17 : (Jvm.Cond.code ({ cls := "java/lang/StringUTF16", name := "toBytes", desc := "([CII)[B" } : Jvm.MethodName) jdk_52_method_14_code (5 : Nat) (Option.some (Jvm.ClassFile.FieldType.array Jvm.ClassFile.FieldType.byte))).before args0 about1 = true := code_word (m := ⟨8, 6⟩) (meth := k8m6) (c := k8c6) (by decide +kernel) rfl rfl rfl (by decide +kernel)
set_option maxRecDepth 65536 in
theorem w_c18 : (Jvm.Cond.code ({ cls := "java/lang/StringUTF16", name := "newBytesFor", desc := "(I)[B" } : Jvm.MethodName) jdk_52_method_2_code (1 : Nat) (Option.some (Jvm.ClassFile.FieldType.array Jvm.ClassFile.FieldType.byte))).before args0 about1 = true := code_word (m := ⟨8, 1⟩) (meth := k8m1) (c := k8c1) (by decide +kernel) rfl rfl rfl (by decide +kernel)
set_option maxRecDepth 65536 in
theorem w_c19 : (Jvm.Cond.code ({ cls := "java/lang/StringUTF16", name := "newBytesLength", desc := "(I)I" } : Jvm.MethodName) jdk_52_method_3_code (1 : Nat) (Option.some Jvm.ClassFile.FieldType.int)).before args0 about1 = true := code_word (m := ⟨8, 2⟩) (meth := k8m2) (c := k8c2) (by decide +kernel) rfl rfl rfl (by decide +kernel)
set_option maxRecDepth 65536 in
theorem w_c20 : (Jvm.Cond.code ({ cls := "java/lang/StringUTF16", name := "putChar", desc := "([BII)V" } : Jvm.MethodName) jdk_52_method_4_code (3 : Nat) (Option.none : Option Jvm.ClassFile.FieldType)).before args0 about1 = true := code_word (m := ⟨8, 3⟩) (meth := k8m3) (c := k8c3) (by decide +kernel) rfl rfl rfl (by decide +kernel)
set_option maxRecDepth 65536 in
theorem w_c21 : (Jvm.Cond.code ({ cls := "java/lang/StringUTF16", name := "getChar", desc := "([BI)C" } : Jvm.MethodName) jdk_52_method_5_code (2 : Nat) (Option.some Jvm.ClassFile.FieldType.char)).before args0 about1 = true := code_word (m := ⟨8, 4⟩) (meth := k8m4) (c := k8c4) (by decide +kernel) rfl rfl rfl (by decide +kernel)
set_option maxRecDepth 65536 in
theorem w_c22 : (Jvm.Cond.code ({ cls := "java/lang/StringUTF16", name := "charAt", desc := "([BI)C" } : Jvm.MethodName) jdk_52_method_83_code (2 : Nat) (Option.some Jvm.ClassFile.FieldType.char)).before args0 about1 = true := code_word (m := ⟨8, 10⟩) (meth := k8m10) (c := k8c10) (by decide +kernel) rfl rfl rfl (by decide +kernel)
set_option maxRecDepth 65536 in
theorem w_c23 : (Jvm.Cond.code ({ cls := "java/lang/StringUTF16", name := "checkIndex", desc := "(I[B)V" } : Jvm.MethodName) jdk_52_method_91_code (2 : Nat) (Option.none : Option Jvm.ClassFile.FieldType)).before args0 about1 = true := code_word (m := ⟨8, 11⟩) (meth := k8m11) (c := k8c11) (by decide +kernel) rfl rfl rfl (by decide +kernel)
set_option maxRecDepth 65536 in
theorem w_c24 : (Jvm.Cond.code ({ cls := "java/lang/StringUTF16", name := "length", desc := "([B)I" } : Jvm.MethodName) jdk_52_method_6_code (1 : Nat) (Option.some Jvm.ClassFile.FieldType.int)).before args0 about1 = true := code_word (m := ⟨8, 5⟩) (meth := k8m5) (c := k8c5) (by decide +kernel) rfl rfl rfl (by decide +kernel)
def codes1 : List Jvm.Cond := [Jvm.Cond.code x code maxLocals ret, Jvm.Cond.code ({ cls := "java/lang/String", name := "<init>", desc := "([C)V" } : Jvm.MethodName) jdk_42_method_3_code (2 : Nat) (Option.none : Option Jvm.ClassFile.FieldType), Jvm.Cond.code ({ cls := "java/lang/String", name := "<init>", desc := "([CIILjava/lang/Void;)V" } : Jvm.MethodName) jdk_42_method_149_code (6 : Nat) (Option.none : Option Jvm.ClassFile.FieldType), Jvm.Cond.code ({ cls := "java/lang/Object", name := "<init>", desc := "()V" } : Jvm.MethodName) object_method_1_code (1 : Nat) (Option.none : Option Jvm.ClassFile.FieldType), Jvm.Cond.code ({ cls := "java/lang/StringUTF16", name := "compress", desc := "([CII)[B" } : Jvm.MethodName) jdk_52_method_16_code (6 : Nat) (Option.some (Jvm.ClassFile.FieldType.array Jvm.ClassFile.FieldType.byte)), Jvm.Cond.code ({ cls := "java/lang/StringUTF16", name := "compress", desc := "([CI[BII)I" } : Jvm.MethodName) jdk_52_method_21_code (7 : Nat) (Option.some Jvm.ClassFile.FieldType.int), Jvm.Cond.code ({ cls := "java/lang/StringUTF16", name := "coderFromArrayLen", desc := "([BI)B" } : Jvm.MethodName) jdk_52_method_15_code (2 : Nat) (Option.some Jvm.ClassFile.FieldType.byte), Jvm.Cond.code ({ cls := "com/example/group_by_epoch/groupbyepoch/coordinator/TopicIsValidNamePinLaw", name := "ok", desc := "(C)Z" } : Jvm.MethodName) method_3_code (1 : Nat) (Option.some Jvm.ClassFile.FieldType.boolean), Jvm.Cond.code ({ cls := "com/example/group_by_epoch/groupbyepoch/coordinator/Topic", name := "isValidName", desc := "(Ljava/lang/String;)Z" } : Jvm.MethodName) prog_28_method_6_code (4 : Nat) (Option.some Jvm.ClassFile.FieldType.boolean), Jvm.Cond.code ({ cls := "java/lang/String", name := "isEmpty", desc := "()Z" } : Jvm.MethodName) jdk_42_method_55_code (1 : Nat) (Option.some Jvm.ClassFile.FieldType.boolean), Jvm.Cond.code ({ cls := "java/lang/String", name := "length", desc := "()I" } : Jvm.MethodName) jdk_42_method_54_code (1 : Nat) (Option.some Jvm.ClassFile.FieldType.int), Jvm.Cond.code ({ cls := "java/lang/String", name := "coder", desc := "()B" } : Jvm.MethodName) jdk_42_method_152_code (1 : Nat) (Option.some Jvm.ClassFile.FieldType.byte), Jvm.Cond.code ({ cls := "java/lang/String", name := "charAt", desc := "(I)C" } : Jvm.MethodName) jdk_42_method_56_code (2 : Nat) (Option.some Jvm.ClassFile.FieldType.char), Jvm.Cond.code ({ cls := "java/lang/String", name := "isLatin1", desc := "()Z" } : Jvm.MethodName) jdk_42_method_154_code (1 : Nat) (Option.some Jvm.ClassFile.FieldType.boolean), Jvm.Cond.code ({ cls := "java/lang/StringLatin1", name := "charAt", desc := "([BI)C" } : Jvm.MethodName) jdk_43_method_2_code (2 : Nat) (Option.some Jvm.ClassFile.FieldType.char), Jvm.Cond.code ({ cls := "java/lang/String", name := "checkIndex", desc := "(II)V" } : Jvm.MethodName) jdk_42_method_155_code (2 : Nat) (Option.none : Option Jvm.ClassFile.FieldType), Jvm.Cond.code ({ cls := "jdk/internal/util/Preconditions", name := "checkIndex", desc := "(IILjava/util/function/BiFunction;)I" } : Jvm.MethodName) jdk_41_method_11_code (3 : Nat) (Option.some Jvm.ClassFile.FieldType.int), Jvm.Cond.code ({ cls := "java/lang/StringUTF16", name := "toBytes", desc := "([CII)[B" } : Jvm.MethodName) jdk_52_method_14_code (5 : Nat) (Option.some (Jvm.ClassFile.FieldType.array Jvm.ClassFile.FieldType.byte)), Jvm.Cond.code ({ cls := "java/lang/StringUTF16", name := "newBytesFor", desc := "(I)[B" } : Jvm.MethodName) jdk_52_method_2_code (1 : Nat) (Option.some (Jvm.ClassFile.FieldType.array Jvm.ClassFile.FieldType.byte)), Jvm.Cond.code ({ cls := "java/lang/StringUTF16", name := "newBytesLength", desc := "(I)I" } : Jvm.MethodName) jdk_52_method_3_code (1 : Nat) (Option.some Jvm.ClassFile.FieldType.int), Jvm.Cond.code ({ cls := "java/lang/StringUTF16", name := "putChar", desc := "([BII)V" } : Jvm.MethodName) jdk_52_method_4_code (3 : Nat) (Option.none : Option Jvm.ClassFile.FieldType), Jvm.Cond.code ({ cls := "java/lang/StringUTF16", name := "getChar", desc := "([BI)C" } : Jvm.MethodName) jdk_52_method_5_code (2 : Nat) (Option.some Jvm.ClassFile.FieldType.char), Jvm.Cond.code ({ cls := "java/lang/StringUTF16", name := "charAt", desc := "([BI)C" } : Jvm.MethodName) jdk_52_method_83_code (2 : Nat) (Option.some Jvm.ClassFile.FieldType.char), Jvm.Cond.code ({ cls := "java/lang/StringUTF16", name := "checkIndex", desc := "(I[B)V" } : Jvm.MethodName) jdk_52_method_91_code (2 : Nat) (Option.none : Option Jvm.ClassFile.FieldType), Jvm.Cond.code ({ cls := "java/lang/StringUTF16", name := "length", desc := "([B)I" } : Jvm.MethodName) jdk_52_method_6_code (1 : Nat) (Option.some Jvm.ClassFile.FieldType.int)]
set_option maxRecDepth 65536 in
theorem codes_eq : words1.filter isCode = codes1 := rfl
theorem w_codes : ∀ c ∈ words1.filter isCode, c.before args0 about1 = true := by
  rw [codes_eq]
  intro c hc
  simp only [codes1, List.mem_cons, List.not_mem_nil, or_false] at hc
  rcases hc with rfl | rfl | rfl | rfl | rfl | rfl | rfl | rfl | rfl | rfl | rfl | rfl | rfl | rfl | rfl | rfl | rfl | rfl | rfl | rfl | rfl | rfl | rfl | rfl | rfl
  · exact w_c0
  · exact w_c1
  · exact w_c2
  · exact w_c3
  · exact w_c4
  · exact w_c5
  · exact w_c6
  · exact w_c7
  · exact w_c8
  · exact w_c9
  · exact w_c10
  · exact w_c11
  · exact w_c12
  · exact w_c13
  · exact w_c14
  · exact w_c15
  · exact w_c16
  · exact w_c17
  · exact w_c18
  · exact w_c19
  · exact w_c20
  · exact w_c21
  · exact w_c22
  · exact w_c23
  · exact w_c24
set_option maxRecDepth 65536 in
theorem w_t1 : (words1.take 24).all (fun c => isCode c || c.before args0 about1) = true := by decide +kernel
set_option maxRecDepth 65536 in
theorem w_t2 : ((words1.drop 24).take 24).all (fun c => isCode c || c.before args0 about1) = true := by decide +kernel
set_option maxRecDepth 65536 in
theorem w_t3 : (((words1.drop 24).drop 24).take 24).all (fun c => isCode c || c.before args0 about1) = true := by decide +kernel
set_option maxRecDepth 65536 in
theorem w_t4 : ((((words1.drop 24).drop 24).drop 24).take 24).all (fun c => isCode c || c.before args0 about1) = true := by decide +kernel
set_option maxRecDepth 65536 in
theorem w_t5 : ((((words1.drop 24).drop 24).drop 24).drop 24).all (fun c => isCode c || c.before args0 about1) = true := by decide +kernel
theorem w_tables : (allAtoms (Jvm.Cond.code x code maxLocals ret :: tables_1)).before args0 about1 = true := by
  rw [allAtoms_all]
  show words1.all (fun c => c.before args0 about1) = true
  refine all_split ?_ w_codes
  rw [← List.take_append_drop 24 words1, List.all_append, w_t1, ← List.take_append_drop 24 (words1.drop 24), List.all_append, w_t2, ← List.take_append_drop 24 ((words1.drop 24).drop 24), List.all_append, w_t3, ← List.take_append_drop 24 (((words1.drop 24).drop 24).drop 24), List.all_append, w_t4, w_t5]
  rfl
set_option maxRecDepth 65536 in
theorem w_rest : rest_1_c.before args0 about1 = true := by decide +kernel
set_option maxRecDepth 65536 in
theorem w_case : (Jvm.Cond.and given_1 narrow_1).before args0 about1 = true := by decide +kernel
set_option maxRecDepth 65536 in
theorem w_consts : constsHeld consts_1 about1 := Jvm.Lit.constsHeldB_iff.mp (by decide +kernel)
theorem w_applies : (headSpec (Jvm.Cond.code x code maxLocals ret :: tables_1) room_1).applies x e0.platform about1 = true :=
  (Spec.applies_iff w_frames).mpr ⟨w_running, w_runnable, w_alone, w_named, w_hears, w_ripe, w_room, w_tables⟩
theorem atStart : AtStart classFile x code maxLocals ret World_1 tables_1 room_1 Calls_1 rest_1 Pre_1 launch0 p0 e0 about1 theMethod args0 below0 :=
  ⟨lists_1, trivial, launch0.admits_env _ _ _, launch0.least_env, fairChoices_fair.cas, fairChoices_fair.clock, w_frames, w_args, w_heap, w_applies, ⟨w_consts, trivial⟩, w_rest, w_case⟩
end start1
theorem witness_1 : WitnessClaimed_1 := ⟨start1.p0, start1.e0, start1.about1, start1.theMethod, start1.args0, start1.below0, start1.atStart⟩
end Jvm.Pilot.@@N@@
