import JvmDerived
import JvmDerived.Pilot.@@N@@Statement
import JvmDerived.Pilot.@@N@@Code
set_option linter.unusedVariables false
set_option linter.unusedSimpArgs false
namespace Jvm.Pilot.@@N@@
open Jvm Jvm.ClassFile Sem Op Lib Jvm.Free Jvm.Stand Jvm.LawKit Jvm.RoadKit Bundle Jvm.Pilot.@@N@@.Jvm.D
/-! OWN KIT: a walk as a judgement on (heap, frame) alone. Wl says: from every state that stands at this pc, with these locals and this stack over the heap h, the body runs to its return and Q holds there. -/
/-- own objects: no literal's cells, made since the law began, and there -/
def Mine (Z : State) (EL : List (String × Nat)) (vm : Vm) (h : Heap) (sf : List Addr) : Prop := ∀ x ∈ sf, Safe Z EL vm h x ∧ Z.heap.size ≤ x ∧ x < h.size
def Wk (l : Launch) (Z : State) (a0 : Array Value) (EL : List (String × Nat)) (y : MethodName) (bs : ByteArray) (ml : Nat) (rt : Option FieldType) (R : Room) (as : Array Value)
    (p : Program) (e : Env) (s : State) (m : MethodId) (below : List Frame) (meth : Method) (c : Code) (sf : List Addr) (T : State) (h : Heap) (k n : Nat) : Prop :=
  (p.tables.exec = Jvm.exec ∧ c.code = bs ∧ c.maxLocals = ml ∧ meth.sig.returnType = rt ∧ meth.locks = false ∧ meth.name = y.name ∧ s.vm.findClass y.cls = some m.cls ∧ EW Z a0 EL ∧ Ext Z.heap s.heap) ∧
  ∃ (vm0 : Vm) (locs : List Loc) (k0 : Nat), Stand p l e R (s.setVm vm0) m as below meth c T locs k n ∧ T.heap = h ∧ s.Since vm0 k0 ∧ k0 ≤ h.size ∧ Fr Z.heap.size locs ∧ Z.Warmed39 vm0 ∧ CHr Z EL s.vm s.heap vm0 h ∧ Mine Z EL vm0 h sf ∧ (EL = [] → s.WarmedH vm0)
def Go (Z : State) (EL : List (String × Nat)) (out : List Addr) (p : Program) (e : Env) (s : State) (below : List Frame) (C S : Nat) (Q : Option Value → Heap → Prop) (U : State) : Prop :=
  ∃ s₂ o, Steps p.tables e below U s₂ ∧ s₂.status = .running ∧ Ended s₂ below o ∧ ∃ v L, o = .returned v ∧ (Q v s₂.heap ∧ Fr Z.heap.size L) ∧ CHr Z EL s.vm s.heap s₂.vm s₂.heap ∧ ReturnedEndW s o s₂ L C S ∧ (EL = [] → s.WarmedH s₂.vm) ∧ Mine Z EL s₂.vm s₂.heap out
def WlO (l : Launch) (Z : State) (a0 : Array Value) (EL : List (String × Nat)) (y : MethodName) (bs : ByteArray) (ml : Nat) (rt : Option FieldType) (R : Room) (as : Array Value) (out : List Addr) (Q : Option Value → Heap → Prop)
    (sf : List Addr) (h : Heap) (k n : Nat) (pc : Nat) (Ls : Array Slot) (st : List Value) : Prop :=
  ∀ (p : Program) (e : Env) (s : State) (m : MethodId) (below : List Frame) (meth : Method) (c : Code) (T : State), Wk l Z a0 EL y bs ml rt R as p e s m below meth c sf T h k n → Go Z EL out p e s below R.cells R.slots Q (T.setTop (mkF m pc Ls st))
abbrev Wl (l : Launch) (Z : State) (a0 : Array Value) (EL : List (String × Nat)) (y : MethodName) (bs : ByteArray) (ml : Nat) (rt : Option FieldType) (R : Room) (as : Array Value) (Q : Option Value → Heap → Prop)
    (sf : List Addr) (h : Heap) (k n : Nat) (pc : Nat) (Ls : Array Slot) (st : List Value) : Prop := WlO l Z a0 EL y bs ml rt R as [] Q sf h k n pc Ls st
/-- the contract of a body at given arguments and a given heap -/
def MetO (l : Launch) (Z : State) (EL : List (String × Nat)) (y : MethodName) (bs : ByteArray) (ml : Nat) (rt : Option FieldType) (ws : List Jvm.Cond) (rm : Room) (as : Array Value) (h : Heap) (sf out : List Addr) (Q : Option Value → Heap → Prop) : Prop :=
  MetFree l y (head1 (Jvm.Cond.code y bs ml rt :: ws) rm) (fun a U => a = as ∧ Z.Warmed39 U.vm ∧ U.heap = h ∧ CHv Z EL U.vm h ∧ Ext Z.heap h ∧ Mine Z EL U.vm h sf) (fun _ _ _ _ _ => True)
    (fun _ U o U' => ∃ v L, o = .returned v ∧ (Q v U'.heap ∧ Fr Z.heap.size L) ∧ CHr Z EL U.vm U.heap U'.vm U'.heap ∧ ReturnedEndW U o U' L rm.cells rm.slots ∧ (EL = [] → U.WarmedH U'.vm) ∧ Mine Z EL U'.vm U'.heap out)
abbrev Met (l : Launch) (Z : State) (EL : List (String × Nat)) (y : MethodName) (bs : ByteArray) (ml : Nat) (rt : Option FieldType) (ws : List Jvm.Cond) (rm : Room) (as : Array Value) (h : Heap) (sf : List Addr) (Q : Option Value → Heap → Prop) : Prop := MetO l Z EL y bs ml rt ws rm as h sf [] Q
section OwnKit
variable {l : Launch} {Z : State} {a0 : Array Value} {EL : List (String × Nat)} {y : MethodName} {bs : ByteArray} {ml : Nat} {rt : Option FieldType} {R : Room} {as : Array Value} {Q : Option Value → Heap → Prop}
variable {p : Program} {e : Env} {s : State} {m : MethodId} {below : List Frame} {meth : Method} {c : Code} {T : State} {sf out : List Addr} {h h' : Heap} {k n pc : Nat} {Ls : Array Slot} {st : List Value} {C S : Nat}
theorem Go.of {U U' : State} (f : ∀ t, Steps p.tables e below U' t → Steps p.tables e below U t) (g : Go Z EL out p e s below C S Q U') : Go Z EL out p e s below C S Q U := by
  obtain ⟨s₂, o, h1, r⟩ := g
  exact ⟨s₂, o, f _ h1, r⟩
theorem Mine.nil {vm : Vm} : Mine Z EL vm h [] := fun _ q => nomatch q
theorem Mine.sub {vm : Vm} {sf' : List Addr} (M : Mine Z EL vm h sf) (q : ∀ x ∈ sf', x ∈ sf) : Mine Z EL vm h sf' := fun x hx => M x (q x hx)
theorem Mine.chr {vm vm1 : Vm} (M : Mine Z EL vm h sf) (A : CHr Z EL vm h vm1 h') : Mine Z EL vm1 h' sf := fun x hx => ⟨A.safe (M x hx).2.2 (M x hx).1, (M x hx).2.1, Nat.lt_of_lt_of_le (M x hx).2.2 A.2.1⟩
theorem Mine.cons {vm : Vm} {x : Addr} (M : Mine Z EL vm h sf) (q : Safe Z EL vm h x ∧ Z.heap.size ≤ x ∧ x < h.size) : Mine Z EL vm h (x :: sf) := fun z hz => (List.mem_cons.mp hz).elim (fun u => u ▸ q) (M z)
/-- the cells that stood when the law began stand -/
theorem Wk.old (W : Wk l Z a0 EL y bs ml rt R as p e s m below meth c sf T h k n) : Ext Z.heap h := by
  obtain ⟨⟨-, -, -, -, -, -, -, -, hO⟩, vm0, locs, k0, X, eT, -, -, hF, -, hC, -, -⟩ := W
  refine ⟨Nat.le_trans hO.1 hC.2.1, fun b cl hb => ?_⟩
  have hs := hO.2 b cl hb
  obtain ⟨c', h1, h2, -, h4⟩ := X.same.2.2.2.2.2 b cl hs
  have hlt := (Array.getElem?_eq_some_iff.mp hb).1
  have hsl : c'.slots = cl.slots := Array.ext_getElem? fun i => h4 i fun hm => absurd (hF _ hm) (Nat.not_le.mpr hlt)
  have hcc : c' = cl := by rw [h2, hsl]
  rw [← hcc, ← eT]; exact h1
theorem Wl.old (f : Ext Z.heap h → WlO l Z a0 EL y bs ml rt R as out Q sf h k n pc Ls st) : WlO l Z a0 EL y bs ml rt R as out Q sf h k n pc Ls st :=
  fun p e s m below meth c T W => f W.old p e s m below meth c T W
theorem Wl.mine {x : Addr} (hx : x ∈ sf) (f : Z.heap.size ≤ x → x < h.size → WlO l Z a0 EL y bs ml rt R as out Q sf h k n pc Ls st) : WlO l Z a0 EL y bs ml rt R as out Q sf h k n pc Ls st :=
  fun p e s m below meth c T W => by
    have W' := W
    obtain ⟨-, vm0, locs, k0, -, -, -, -, -, -, -, M, -⟩ := W'
    exact f (M x hx).2.1 (M x hx).2.2 p e s m below meth c T W
/-- fewer own objects, more room used -/
theorem Wl.weak {sf' : List Addr} {k' n' : Nat} (q : ∀ x ∈ sf', x ∈ sf) (hk : k ≤ k') (hn : n ≤ n') (hr : WlO l Z a0 EL y bs ml rt R as out Q sf' h k' n' pc Ls st) : WlO l Z a0 EL y bs ml rt R as out Q sf h k n pc Ls st :=
  fun p e s m below meth c T W => by
    obtain ⟨A, vm0, locs, k0, X, eT, hS, hk0, hF, hZ, hC, hM, hH⟩ := W
    exact hr p e s m below meth c T ⟨A, vm0, locs, k0, X.mono hk hn, eT, hS, hk0, hF, hZ, hC, hM.sub q, hH⟩
/-- a step that leaves the heap and writes nothing -/
theorem Wl.same {pc' : Nat} {Ls' : Array Slot} {st' : List Value}
    (f : ∀ (p : Program) (e : Env) (s : State) (m : MethodId) (below : List Frame) (meth : Method) (c : Code) (T : State) (vm0 : Vm) (locs : List Loc),
      p.tables.exec = Jvm.exec → c.code = bs → c.maxLocals = ml → vm0.findClass y.cls = some m.cls → Z.Warmed39 vm0 → Stand p l e R (s.setVm vm0) m as below meth c T locs k n → T.heap = h → Ext Z.heap h →
      ∃ T', Stand p l e R (s.setVm vm0) m as below meth c T' locs k n ∧ T'.heap = h ∧ ∀ t, Steps p.tables e below (T'.setTop (mkF m pc' Ls' st')) t → Steps p.tables e below (T.setTop (mkF m pc Ls st)) t)
    (hr : WlO l Z a0 EL y bs ml rt R as out Q sf h k n pc' Ls' st') : WlO l Z a0 EL y bs ml rt R as out Q sf h k n pc Ls st := by
  intro p e s m below meth c T W
  have hO := W.old
  obtain ⟨A, vm0, locs, k0, X, eT, hS, hk, hF, hZ, hC, hM, hH⟩ := W
  obtain ⟨T', X', e', stp⟩ := f p e s m below meth c T vm0 locs A.1 A.2.1 A.2.2.1 (by rw [hS.1.alike.findClass]; exact A.2.2.2.2.2.2.1) hZ X eT hO
  exact Go.of stp (hr p e s m below meth c T' ⟨A, vm0, locs, k0, X', e', hS, hk, hF, hZ, hC, hM, hH⟩)
theorem Wl.plain {pc' : Nat} {Ls' : Array Slot} {st' : List Value}
    (f : ∀ (p : Program) (e : Env) (m : MethodId) (below : List Frame) (c : Code) (T : State), p.tables.exec = Jvm.exec → c.code = bs → At T m c below → ∀ t, Steps p.tables e below (T.setTop (mkF m pc' Ls' st')) t → Steps p.tables e below (T.setTop (mkF m pc Ls st)) t)
    (hr : WlO l Z a0 EL y bs ml rt R as out Q sf h k n pc' Ls' st') : WlO l Z a0 EL y bs ml rt R as out Q sf h k n pc Ls st :=
  Wl.same (fun p e s m below meth c T vm0 locs hx hby _ _ _ X eT _ => ⟨T, X, eT, f p e m below c T hx hby X.here⟩) hr
/-- a step that makes one cell -/
theorem Wl.grow {pc' : Nat} {Ls' : Array Slot} {st' : Addr → List Value} {dk dn : Nat} {F : Heap → Addr → Prop}
    (f : ∀ (p : Program) (e : Env) (s : State) (m : MethodId) (below : List Frame) (meth : Method) (c : Code) (T : State) (vm0 : Vm) (locs : List Loc),
      p.tables.exec = Jvm.exec → c.code = bs → c.maxLocals = ml → vm0.findClass y.cls = some m.cls → Z.Warmed39 vm0 → Stand p l e R (s.setVm vm0) m as below meth c T locs k n → T.heap = h → Ext Z.heap h →
      ∃ T' h', Stand p l e R (s.setVm vm0) m as below meth c T' locs (k + dk) (n + dn) ∧ T'.heap = h' ∧ Ext h h' ∧ h.size < h'.size ∧ F h' h.size ∧ ∀ t, Steps p.tables e below (T'.setTop (mkF m pc' Ls' (st' h.size))) t → Steps p.tables e below (T.setTop (mkF m pc Ls st)) t)
    (hr : ∀ (a : Addr) (h' : Heap), a = h.size → Ext h h' → F h' a → WlO l Z a0 EL y bs ml rt R as out Q (a :: sf) h' (k + dk) (n + dn) pc' Ls' (st' a)) : WlO l Z a0 EL y bs ml rt R as out Q sf h k n pc Ls st := by
  intro p e s m below meth c T W
  have hO := W.old
  obtain ⟨A, vm0, locs, k0, X, eT, hS, hk, hF, hZ, hC, hM, hH⟩ := W
  obtain ⟨T', h', X', e', E, hlt, G, stp⟩ := f p e s m below meth c T vm0 locs A.1 A.2.1 A.2.2.1 (by rw [hS.1.alike.findClass]; exact A.2.2.2.2.2.2.1) hZ X eT hO
  have B := CHr.ext (Z := Z) (EL := EL) (vm := vm0) E hC.1
  exact Go.of stp (hr h.size h' rfl E G p e s m below meth c T' ⟨A, vm0, locs, k0, X', e', hS, Nat.le_trans hk E.1, hF, hZ, hC.trans B, (hM.chr B).cons ⟨Safe.ext E hC.1 (Safe.new (Nat.le_refl _)), hO.1, hlt⟩, hH⟩)
/-- a step that writes one place of an own object -/
theorem Wl.write {pc' : Nat} {Ls' : Array Slot} {st' : List Value} {a : Addr} {sl : Nat} {v : Value} (ha : a ∈ sf)
    (f : ∀ (p : Program) (e : Env) (s : State) (m : MethodId) (below : List Frame) (meth : Method) (c : Code) (T : State) (vm0 : Vm) (locs : List Loc),
      p.tables.exec = Jvm.exec → c.code = bs → meth.name = y.name → vm0.findClass y.cls = some m.cls → Z.Warmed39 vm0 → Stand p l e R (s.setVm vm0) m as below meth c T locs k n → T.heap = h →
      ∃ T' h', Stand p l e R (s.setVm vm0) m as below meth c T' (locs ++ [⟨a, sl⟩]) k n ∧ T'.heap = h' ∧ Wr h h' a sl v ∧ ∀ t, Steps p.tables e below (T'.setTop (mkF m pc' Ls' st')) t → Steps p.tables e below (T.setTop (mkF m pc Ls st)) t)
    (hr : ∀ h', Wr h h' a sl v → WlO l Z a0 EL y bs ml rt R as out Q sf h' k n pc' Ls' st') : WlO l Z a0 EL y bs ml rt R as out Q sf h k n pc Ls st := by
  intro p e s m below meth c T W
  obtain ⟨A, vm0, locs, k0, X, eT, hS, hk, hF, hZ, hC, hM, hH⟩ := W
  obtain ⟨T', h', X', e', Wv, stp⟩ := f p e s m below meth c T vm0 locs A.1 A.2.1 A.2.2.2.2.2.1 (by rw [hS.1.alike.findClass]; exact A.2.2.2.2.2.2.1) hZ X eT
  have B := CHr.wr (Z := Z) (EL := EL) (vm := vm0) Wv (hM a ha).1 hC.1
  exact Go.of stp (hr h' Wv p e s m below meth c T' ⟨A, vm0, locs ++ [⟨a, sl⟩], k0, X', e', hS, by rw [Wv.size]; exact hk, Fr.snoc X' hF (hM a ha).2.1, hZ, hC.trans B, hM.chr B, hH⟩)
/-! plain steps -/
theorem Wl.aload_n (pc' : Nat) {i : Fin 4} {v : Value} (hd : decode bs pc = .ok (.aload_n i, 1)) (hl : Ls[i.val]? = some (.val v)) (hv : v.isRef = true) (hr : WlO l Z a0 EL y bs ml rt R as out Q sf h k n pc' Ls (v :: st)) (hp : pc + 1 = pc' := by rfl) : WlO l Z a0 EL y bs ml rt R as out Q sf h k n pc Ls st := by
  subst hp; exact Wl.plain (fun p e m below c T hx hby A t kk => XS.aloadN A hx rfl (hb hby hd) hl hv kk) hr
theorem Wl.aload (pc' : Nat) {i : Nat} {v : Value} (hd : decode bs pc = .ok (.aload i, 2)) (hl : Ls[i]? = some (.val v)) (hv : v.isRef = true) (hr : WlO l Z a0 EL y bs ml rt R as out Q sf h k n pc' Ls (v :: st)) (hp : pc + 2 = pc' := by rfl) : WlO l Z a0 EL y bs ml rt R as out Q sf h k n pc Ls st := by
  subst hp; exact Wl.plain (fun p e m below c T hx hby A t kk => XS.aload A hx rfl (hb hby hd) hl hv kk) hr
theorem Wl.iload_n (pc' : Nat) {i : Fin 4} {v : Int32} (hd : decode bs pc = .ok (.iload_n i, 1)) (hl : Ls[i.val]? = some (.val (.int v))) (hr : WlO l Z a0 EL y bs ml rt R as out Q sf h k n pc' Ls (.int v :: st)) (hp : pc + 1 = pc' := by rfl) : WlO l Z a0 EL y bs ml rt R as out Q sf h k n pc Ls st := by
  subst hp; exact Wl.plain (fun p e m below c T hx hby A t kk => XS.iloadN A hx rfl (hb hby hd) hl kk) hr
theorem Wl.iload (pc' : Nat) {i : Nat} {v : Int32} (hd : decode bs pc = .ok (.iload i, 2)) (hl : Ls[i]? = some (.val (.int v))) (hr : WlO l Z a0 EL y bs ml rt R as out Q sf h k n pc' Ls (.int v :: st)) (hp : pc + 2 = pc' := by rfl) : WlO l Z a0 EL y bs ml rt R as out Q sf h k n pc Ls st := by
  subst hp; exact Wl.plain (fun p e m below c T hx hby A t kk => XS.iload A hx rfl (hb hby hd) hl kk) hr
theorem Wl.lload_n (pc' : Nat) {i : Fin 4} {v : Int64} (hd : decode bs pc = .ok (.lload_n i, 1)) (hl : Ls[i.val]? = some (.val (.long v))) (hr : WlO l Z a0 EL y bs ml rt R as out Q sf h k n pc' Ls (.long v :: st)) (hp : pc + 1 = pc' := by rfl) : WlO l Z a0 EL y bs ml rt R as out Q sf h k n pc Ls st := by
  subst hp; exact Wl.plain (fun p e m below c T hx hby A t kk => XS.lloadN A hx rfl (hb hby hd) hl kk) hr
theorem Wl.lload (pc' : Nat) {i : Nat} {v : Int64} (hd : decode bs pc = .ok (.lload i, 2)) (hl : Ls[i]? = some (.val (.long v))) (hr : WlO l Z a0 EL y bs ml rt R as out Q sf h k n pc' Ls (.long v :: st)) (hp : pc + 2 = pc' := by rfl) : WlO l Z a0 EL y bs ml rt R as out Q sf h k n pc Ls st := by
  subst hp; exact Wl.plain (fun p e m below c T hx hby A t kk => XS.lload A hx rfl (hb hby hd) hl kk) hr
theorem Wl.istore_n (pc' : Nat) (Ls' : Array Slot) {i : Fin 4} {v : Int32} (hd : decode bs pc = .ok (.istore_n i, 1)) (hl : storeLocals Ls i.val (.int v) = some Ls') (hr : WlO l Z a0 EL y bs ml rt R as out Q sf h k n pc' Ls' st) (hp : pc + 1 = pc' := by rfl) : WlO l Z a0 EL y bs ml rt R as out Q sf h k n pc Ls (.int v :: st) := by
  subst hp; exact Wl.plain (fun p e m below c T hx hby A t kk => XS.istoreN A hx rfl (hb hby hd) rfl hl kk) hr
theorem Wl.istore (pc' : Nat) (Ls' : Array Slot) {i : Nat} {v : Int32} (hd : decode bs pc = .ok (.istore i, 2)) (hl : storeLocals Ls i (.int v) = some Ls') (hr : WlO l Z a0 EL y bs ml rt R as out Q sf h k n pc' Ls' st) (hp : pc + 2 = pc' := by rfl) : WlO l Z a0 EL y bs ml rt R as out Q sf h k n pc Ls (.int v :: st) := by
  subst hp; exact Wl.plain (fun p e m below c T hx hby A t kk => XS.istore A hx rfl (hb hby hd) rfl hl kk) hr
theorem Wl.lstore (pc' : Nat) (Ls' : Array Slot) {i : Nat} {v : Int64} (hd : decode bs pc = .ok (.lstore i, 2)) (hl : storeLocals Ls i (.long v) = some Ls') (hr : WlO l Z a0 EL y bs ml rt R as out Q sf h k n pc' Ls' st) (hp : pc + 2 = pc' := by rfl) : WlO l Z a0 EL y bs ml rt R as out Q sf h k n pc Ls (.long v :: st) := by
  subst hp; exact Wl.plain (fun p e m below c T hx hby A t kk => XS.lstore A hx rfl (hb hby hd) rfl hl kk) hr
theorem Wl.astore_n (pc' : Nat) (Ls' : Array Slot) {i : Fin 4} {v : Value} (hd : decode bs pc = .ok (.astore_n i, 1)) (hv : v.isRef = true) (hl : storeLocals Ls i.val v = some Ls') (hr : WlO l Z a0 EL y bs ml rt R as out Q sf h k n pc' Ls' st) (hp : pc + 1 = pc' := by rfl) : WlO l Z a0 EL y bs ml rt R as out Q sf h k n pc Ls (v :: st) := by
  subst hp; exact Wl.plain (fun p e m below c T hx hby A t kk => XS.astoreN A hx rfl (hb hby hd) rfl hv hl kk) hr
theorem Wl.astore (pc' : Nat) (Ls' : Array Slot) {i : Nat} {v : Value} (hd : decode bs pc = .ok (.astore i, 2)) (hv : v.isRef = true) (hl : storeLocals Ls i v = some Ls') (hr : WlO l Z a0 EL y bs ml rt R as out Q sf h k n pc' Ls' st) (hp : pc + 2 = pc' := by rfl) : WlO l Z a0 EL y bs ml rt R as out Q sf h k n pc Ls (v :: st) := by
  subst hp; exact Wl.plain (fun p e m below c T hx hby A t kk => XS.astore A hx rfl (hb hby hd) rfl hv hl kk) hr
theorem Wl.iinc (pc' : Nat) (Ls' : Array Slot) {i : Nat} {cst : Int} {x : Int32} (v : Int32) (hd : decode bs pc = .ok (.iinc i cst, 3)) (hv : Int32.ofInt cst = v) (hl : Ls[i]? = some (.val (.int x))) (hl' : storeLocals Ls i (.int (x + v)) = some Ls') (hr : WlO l Z a0 EL y bs ml rt R as out Q sf h k n pc' Ls' st) (hp : pc + 3 = pc' := by rfl) : WlO l Z a0 EL y bs ml rt R as out Q sf h k n pc Ls st := by
  subst hp hv; exact Wl.plain (fun p e m below c T hx hby A t kk => XS.iinc A hx rfl (hb hby hd) hl hl' kk) hr
theorem Wl.iconst (pc' : Nat) (v : Int32) {i : Int} (hd : decode bs pc = .ok (.iconst i, 1)) (hv : Int32.ofInt i = v) (hr : WlO l Z a0 EL y bs ml rt R as out Q sf h k n pc' Ls (.int v :: st)) (hp : pc + 1 = pc' := by rfl) : WlO l Z a0 EL y bs ml rt R as out Q sf h k n pc Ls st := by
  subst hp hv; exact Wl.plain (fun p e m below c T hx hby A t kk => XS.iconst A hx rfl (hb hby hd) kk) hr
theorem Wl.bipush (pc' : Nat) (v : Int32) {i : Int} (hd : decode bs pc = .ok (.bipush i, 2)) (hv : (Int8.ofInt i).toInt32 = v) (hr : WlO l Z a0 EL y bs ml rt R as out Q sf h k n pc' Ls (.int v :: st)) (hp : pc + 2 = pc' := by rfl) : WlO l Z a0 EL y bs ml rt R as out Q sf h k n pc Ls st := by
  subst hp hv; exact Wl.plain (fun p e m below c T hx hby A t kk => XS.bipush A hx rfl (hb hby hd) kk) hr
theorem Wl.sipush (pc' : Nat) (v : Int32) {i : Int} (hd : decode bs pc = .ok (.sipush i, 3)) (hv : (Int16.ofInt i).toInt32 = v) (hr : WlO l Z a0 EL y bs ml rt R as out Q sf h k n pc' Ls (.int v :: st)) (hp : pc + 3 = pc' := by rfl) : WlO l Z a0 EL y bs ml rt R as out Q sf h k n pc Ls st := by
  subst hp hv; exact Wl.plain (fun p e m below c T hx hby A t kk => XS.sipush A hx rfl (hb hby hd) kk) hr
theorem Wl.aconst_null (pc' : Nat) (hd : decode bs pc = .ok (.aconst_null, 1)) (hr : WlO l Z a0 EL y bs ml rt R as out Q sf h k n pc' Ls (.null :: st)) (hp : pc + 1 = pc' := by rfl) : WlO l Z a0 EL y bs ml rt R as out Q sf h k n pc Ls st := by
  subst hp; exact Wl.plain (fun p e m below c T hx hby A t kk => XS.aconstNull A hx rfl (hb hby hd) kk) hr
theorem Wl.iadd (pc' : Nat) {x z : Int32} (hd : decode bs pc = .ok (.iadd, 1)) (hr : WlO l Z a0 EL y bs ml rt R as out Q sf h k n pc' Ls (.int (x + z) :: st)) (hp : pc + 1 = pc' := by rfl) : WlO l Z a0 EL y bs ml rt R as out Q sf h k n pc Ls (.int z :: .int x :: st) := by
  subst hp; exact Wl.plain (fun p e m below c T hx hby A t kk => XS.iadd A hx rfl (hb hby hd) rfl kk) hr
theorem Wl.isub (pc' : Nat) {x z : Int32} (hd : decode bs pc = .ok (.isub, 1)) (hr : WlO l Z a0 EL y bs ml rt R as out Q sf h k n pc' Ls (.int (x - z) :: st)) (hp : pc + 1 = pc' := by rfl) : WlO l Z a0 EL y bs ml rt R as out Q sf h k n pc Ls (.int z :: .int x :: st) := by
  subst hp; exact Wl.plain (fun p e m below c T hx hby A t kk => XS.isub A hx rfl (hb hby hd) rfl kk) hr
theorem Wl.imul (pc' : Nat) {x z : Int32} (hd : decode bs pc = .ok (.imul, 1)) (hr : WlO l Z a0 EL y bs ml rt R as out Q sf h k n pc' Ls (.int (x * z) :: st)) (hp : pc + 1 = pc' := by rfl) : WlO l Z a0 EL y bs ml rt R as out Q sf h k n pc Ls (.int z :: .int x :: st) := by
  subst hp; exact Wl.plain (fun p e m below c T hx hby A t kk => XS.imul A hx rfl (hb hby hd) rfl kk) hr
theorem Wl.irem (pc' : Nat) {x z : Int32} (hd : decode bs pc = .ok (.irem, 1)) (hz : z ≠ 0) (hr : WlO l Z a0 EL y bs ml rt R as out Q sf h k n pc' Ls (.int (x % z) :: st)) (hp : pc + 1 = pc' := by rfl) : WlO l Z a0 EL y bs ml rt R as out Q sf h k n pc Ls (.int z :: .int x :: st) := by
  subst hp; exact Wl.same (fun p e s m below meth c T vm0 locs hx hby _ _ _ X eT _ => ⟨T, X, eT, fun t kk => iremM X hx rfl (hb hby hd) rfl hz kk⟩) hr
theorem Wl.iand (pc' : Nat) {x z : Int32} (hd : decode bs pc = .ok (.iand, 1)) (hr : WlO l Z a0 EL y bs ml rt R as out Q sf h k n pc' Ls (.int (x &&& z) :: st)) (hp : pc + 1 = pc' := by rfl) : WlO l Z a0 EL y bs ml rt R as out Q sf h k n pc Ls (.int z :: .int x :: st) := by
  subst hp; exact Wl.plain (fun p e m below c T hx hby A t kk => XS.iand A hx rfl (hb hby hd) rfl kk) hr
theorem Wl.ior (pc' : Nat) {x z : Int32} (hd : decode bs pc = .ok (.ior, 1)) (hr : WlO l Z a0 EL y bs ml rt R as out Q sf h k n pc' Ls (.int (x ||| z) :: st)) (hp : pc + 1 = pc' := by rfl) : WlO l Z a0 EL y bs ml rt R as out Q sf h k n pc Ls (.int z :: .int x :: st) := by
  subst hp; exact Wl.plain (fun p e m below c T hx hby A t kk => XT.ior A hx rfl (hb hby hd) rfl kk) hr
theorem Wl.ixor (pc' : Nat) {x z : Int32} (hd : decode bs pc = .ok (.ixor, 1)) (hr : WlO l Z a0 EL y bs ml rt R as out Q sf h k n pc' Ls (.int (x ^^^ z) :: st)) (hp : pc + 1 = pc' := by rfl) : WlO l Z a0 EL y bs ml rt R as out Q sf h k n pc Ls (.int z :: .int x :: st) := by
  subst hp; exact Wl.plain (fun p e m below c T hx hby A t kk => XT.ixor A hx rfl (hb hby hd) rfl kk) hr
theorem Wl.ishl (pc' : Nat) {x z : Int32} (hd : decode bs pc = .ok (.ishl, 1)) (hr : WlO l Z a0 EL y bs ml rt R as out Q sf h k n pc' Ls (.int (x <<< (z &&& 31)) :: st)) (hp : pc + 1 = pc' := by rfl) : WlO l Z a0 EL y bs ml rt R as out Q sf h k n pc Ls (.int z :: .int x :: st) := by
  subst hp; exact Wl.plain (fun p e m below c T hx hby A t kk => XT.ishl A hx rfl (hb hby hd) rfl kk) hr
theorem Wl.ishr (pc' : Nat) {x z : Int32} (hd : decode bs pc = .ok (.ishr, 1)) (hr : WlO l Z a0 EL y bs ml rt R as out Q sf h k n pc' Ls (.int (x >>> (z &&& 31)) :: st)) (hp : pc + 1 = pc' := by rfl) : WlO l Z a0 EL y bs ml rt R as out Q sf h k n pc Ls (.int z :: .int x :: st) := by
  subst hp; exact Wl.plain (fun p e m below c T hx hby A t kk => XT.ishr A hx rfl (hb hby hd) rfl kk) hr
theorem Wl.iushr (pc' : Nat) {x z : Int32} (hd : decode bs pc = .ok (.iushr, 1)) (hr : WlO l Z a0 EL y bs ml rt R as out Q sf h k n pc' Ls (.int ((x.toUInt32 >>> (z &&& 31).toUInt32).toInt32) :: st)) (hp : pc + 1 = pc' := by rfl) : WlO l Z a0 EL y bs ml rt R as out Q sf h k n pc Ls (.int z :: .int x :: st) := by
  subst hp; exact Wl.plain (fun p e m below c T hx hby A t kk => XT.iushr A hx rfl (hb hby hd) rfl kk) hr
theorem Wl.ladd (pc' : Nat) {x z : Int64} (hd : decode bs pc = .ok (.ladd, 1)) (hr : WlO l Z a0 EL y bs ml rt R as out Q sf h k n pc' Ls (.long (x + z) :: st)) (hp : pc + 1 = pc' := by rfl) : WlO l Z a0 EL y bs ml rt R as out Q sf h k n pc Ls (.long z :: .long x :: st) := by
  subst hp; exact Wl.plain (fun p e m below c T hx hby A t kk => XT.ladd A hx rfl (hb hby hd) rfl kk) hr
theorem Wl.land (pc' : Nat) {x z : Int64} (hd : decode bs pc = .ok (.land, 1)) (hr : WlO l Z a0 EL y bs ml rt R as out Q sf h k n pc' Ls (.long (x &&& z) :: st)) (hp : pc + 1 = pc' := by rfl) : WlO l Z a0 EL y bs ml rt R as out Q sf h k n pc Ls (.long z :: .long x :: st) := by
  subst hp; exact Wl.plain (fun p e m below c T hx hby A t kk => XT.land A hx rfl (hb hby hd) rfl kk) hr
theorem Wl.lushr (pc' : Nat) {x : Int64} {z : Int32} (hd : decode bs pc = .ok (.lushr, 1)) (hr : WlO l Z a0 EL y bs ml rt R as out Q sf h k n pc' Ls (.long (Jvm.Free.XT.ushrL x z) :: st)) (hp : pc + 1 = pc' := by rfl) : WlO l Z a0 EL y bs ml rt R as out Q sf h k n pc Ls (.int z :: .long x :: st) := by
  subst hp; exact Wl.plain (fun p e m below c T hx hby A t kk => XT.lushr A hx rfl (hb hby hd) rfl kk) hr
theorem Wl.lcmp (pc' : Nat) {x z : Int64} (hd : decode bs pc = .ok (.lcmp, 1)) (hr : WlO l Z a0 EL y bs ml rt R as out Q sf h k n pc' Ls (.int (lcmpW x z) :: st)) (hp : pc + 1 = pc' := by rfl) : WlO l Z a0 EL y bs ml rt R as out Q sf h k n pc Ls (.long z :: .long x :: st) := by
  subst hp; exact Wl.plain (fun p e m below c T hx hby A t kk => XT.lcmp A hx rfl (hb hby hd) rfl kk) hr
theorem Wl.i2l (pc' : Nat) {x : Int32} (hd : decode bs pc = .ok (.i2l, 1)) (hr : WlO l Z a0 EL y bs ml rt R as out Q sf h k n pc' Ls (.long x.toInt64 :: st)) (hp : pc + 1 = pc' := by rfl) : WlO l Z a0 EL y bs ml rt R as out Q sf h k n pc Ls (.int x :: st) := by
  subst hp; exact Wl.plain (fun p e m below c T hx hby A t kk => XT.i2l A hx rfl (hb hby hd) rfl kk) hr
theorem Wl.l2i (pc' : Nat) {x : Int64} (hd : decode bs pc = .ok (.l2i, 1)) (hr : WlO l Z a0 EL y bs ml rt R as out Q sf h k n pc' Ls (.int x.toInt32 :: st)) (hp : pc + 1 = pc' := by rfl) : WlO l Z a0 EL y bs ml rt R as out Q sf h k n pc Ls (.long x :: st) := by
  subst hp; exact Wl.plain (fun p e m below c T hx hby A t kk => XT.l2i A hx rfl (hb hby hd) rfl kk) hr
theorem Wl.i2b (pc' : Nat) {x : Int32} (hd : decode bs pc = .ok (.i2b, 1)) (hr : WlO l Z a0 EL y bs ml rt R as out Q sf h k n pc' Ls (.int x.toInt8.toInt32 :: st)) (hp : pc + 1 = pc' := by rfl) : WlO l Z a0 EL y bs ml rt R as out Q sf h k n pc Ls (.int x :: st) := by
  subst hp; exact Wl.plain (fun p e m below c T hx hby A t kk => XT.i2b A hx rfl (hb hby hd) rfl kk) hr
theorem Wl.i2c (pc' : Nat) {x : Int32} (hd : decode bs pc = .ok (.i2c, 1)) (hr : WlO l Z a0 EL y bs ml rt R as out Q sf h k n pc' Ls (.int x.toUInt32.toUInt16.toUInt32.toInt32 :: st)) (hp : pc + 1 = pc' := by rfl) : WlO l Z a0 EL y bs ml rt R as out Q sf h k n pc Ls (.int x :: st) := by
  subst hp; exact Wl.plain (fun p e m below c T hx hby A t kk => XT.i2c A hx rfl (hb hby hd) rfl kk) hr
theorem Wl.dup (pc' : Nat) {v : Value} (hd : decode bs pc = .ok (.dup, 1)) (hc : v.category = 1) (hr : WlO l Z a0 EL y bs ml rt R as out Q sf h k n pc' Ls (v :: v :: st)) (hp : pc + 1 = pc' := by rfl) : WlO l Z a0 EL y bs ml rt R as out Q sf h k n pc Ls (v :: st) := by
  subst hp; exact Wl.plain (fun p e m below c T hx hby A t kk => XS.dup A hx rfl (hb hby hd) rfl hc kk) hr
theorem Wl.pop (pc' : Nat) {v : Value} (hd : decode bs pc = .ok (.pop, 1)) (hc : v.category = 1) (hr : WlO l Z a0 EL y bs ml rt R as out Q sf h k n pc' Ls st) (hp : pc + 1 = pc' := by rfl) : WlO l Z a0 EL y bs ml rt R as out Q sf h k n pc Ls (v :: st) := by
  subst hp; exact Wl.plain (fun p e m below c T hx hby A t kk => XT.pop A hx rfl (hb hby hd) rfl hc kk) hr
theorem Wl.goto (pc' : Nat) {o : Int} (hd : decode bs pc = .ok (.goto o, 3)) (hr : WlO l Z a0 EL y bs ml rt R as out Q sf h k n pc' Ls st) (ho : 0 ≤ (pc : Int) + o := by decide) (hp : ((pc : Int) + o).toNat = pc' := by decide) : WlO l Z a0 EL y bs ml rt R as out Q sf h k n pc Ls st :=
  Wl.plain (fun p e m below c T hx hby A t kk => XS.goto A hx rfl rfl (hb hby hd) ho hp kk) hr
theorem Wl.ifY (pc' : Nat) {cd : ClassFile.Cond} {o : Int} {x : Int32} (hd : decode bs pc = .ok (.ifCond cd o, 3)) (hc : if_icmp.holds cd x 0 = true) (hr : WlO l Z a0 EL y bs ml rt R as out Q sf h k n pc' Ls st) (ho : 0 ≤ (pc : Int) + o := by decide) (hp : ((pc : Int) + o).toNat = pc' := by decide) : WlO l Z a0 EL y bs ml rt R as out Q sf h k n pc Ls (.int x :: st) :=
  Wl.plain (fun p e m below c T hx hby A t kk => XS.ifYes A hx rfl rfl (hb hby hd) rfl ((if0 _ _).trans hc) ho hp kk) hr
theorem Wl.ifN (pc' : Nat) {cd : ClassFile.Cond} {o : Int} {x : Int32} (hd : decode bs pc = .ok (.ifCond cd o, 3)) (hc : if_icmp.holds cd x 0 = false) (hr : WlO l Z a0 EL y bs ml rt R as out Q sf h k n pc' Ls st) (hp : pc + 3 = pc' := by rfl) : WlO l Z a0 EL y bs ml rt R as out Q sf h k n pc Ls (.int x :: st) := by
  subst hp; exact Wl.plain (fun p e m below c T hx hby A t kk => XS.ifNo A hx rfl (hb hby hd) rfl ((if0 _ _).trans hc) kk) hr
theorem Wl.icmpY (pc' : Nat) {cd : ClassFile.Cond} {o : Int} {x z : Int32} (hd : decode bs pc = .ok (.if_icmp cd o, 3)) (hc : if_icmp.holds cd x z = true) (hr : WlO l Z a0 EL y bs ml rt R as out Q sf h k n pc' Ls st) (ho : 0 ≤ (pc : Int) + o := by decide) (hp : ((pc : Int) + o).toNat = pc' := by decide) : WlO l Z a0 EL y bs ml rt R as out Q sf h k n pc Ls (.int z :: .int x :: st) :=
  Wl.plain (fun p e m below c T hx hby A t kk => XS.icmpYes A hx rfl rfl (hb hby hd) rfl hc ho hp kk) hr
theorem Wl.icmpN (pc' : Nat) {cd : ClassFile.Cond} {o : Int} {x z : Int32} (hd : decode bs pc = .ok (.if_icmp cd o, 3)) (hc : if_icmp.holds cd x z = false) (hr : WlO l Z a0 EL y bs ml rt R as out Q sf h k n pc' Ls st) (hp : pc + 3 = pc' := by rfl) : WlO l Z a0 EL y bs ml rt R as out Q sf h k n pc Ls (.int z :: .int x :: st) := by
  subst hp; exact Wl.plain (fun p e m below c T hx hby A t kk => XS.icmpNo A hx rfl (hb hby hd) rfl hc kk) hr
theorem Wl.ifnullY (pc' : Nat) {o : Int} (hd : decode bs pc = .ok (.ifnull o, 3)) (hr : WlO l Z a0 EL y bs ml rt R as out Q sf h k n pc' Ls st) (ho : 0 ≤ (pc : Int) + o := by decide) (hp : ((pc : Int) + o).toNat = pc' := by decide) : WlO l Z a0 EL y bs ml rt R as out Q sf h k n pc Ls (.null :: st) :=
  Wl.plain (fun p e m below c T hx hby A t kk => XS.ifnullYes A hx rfl rfl (hb hby hd) rfl ho hp kk) hr
theorem Wl.ifnullN (pc' : Nat) {o : Int} {b : Addr} (hd : decode bs pc = .ok (.ifnull o, 3)) (hr : WlO l Z a0 EL y bs ml rt R as out Q sf h k n pc' Ls st) (hp : pc + 3 = pc' := by rfl) : WlO l Z a0 EL y bs ml rt R as out Q sf h k n pc Ls (.ref b :: st) := by
  subst hp; exact Wl.plain (fun p e m below c T hx hby A t kk => XS.ifnullNo A hx rfl (hb hby hd) rfl kk) hr
theorem Wl.ifnonnullY (pc' : Nat) {o : Int} {b : Addr} (hd : decode bs pc = .ok (.ifnonnull o, 3)) (hr : WlO l Z a0 EL y bs ml rt R as out Q sf h k n pc' Ls st) (ho : 0 ≤ (pc : Int) + o := by decide) (hp : ((pc : Int) + o).toNat = pc' := by decide) : WlO l Z a0 EL y bs ml rt R as out Q sf h k n pc Ls (.ref b :: st) :=
  Wl.plain (fun p e m below c T hx hby A t kk => XT.ifnonnullYes A hx rfl rfl (hb hby hd) rfl ho hp kk) hr
theorem Wl.ifnonnullN (pc' : Nat) {o : Int} (hd : decode bs pc = .ok (.ifnonnull o, 3)) (hr : WlO l Z a0 EL y bs ml rt R as out Q sf h k n pc' Ls st) (hp : pc + 3 = pc' := by rfl) : WlO l Z a0 EL y bs ml rt R as out Q sf h k n pc Ls (.null :: st) := by
  subst hp; exact Wl.plain (fun p e m below c T hx hby A t kk => XT.ifnonnullNo A hx rfl (hb hby hd) rfl kk) hr
theorem Wl.acmp (pc' : Nat) {cd : ACond} {o : Int} {v w : Value} (same : Bool) (hd : decode bs pc = .ok (.if_acmp cd o, 3)) (h1 : v.isRef = true) (h2 : w.isRef = true) (hq : decide (v = w) = same) (hr : WlO l Z a0 EL y bs ml rt R as out Q sf h k n pc' Ls st) (ho : 0 ≤ (pc : Int) + o := by decide) (hp : pc' = if acV cd same = true then ((pc : Int) + o).toNat else pc + 3 := by decide) : WlO l Z a0 EL y bs ml rt R as out Q sf h k n pc Ls (w :: v :: st) :=
  Wl.same (fun p e s m below meth c T vm0 locs hx hby _ _ _ X eT _ => ⟨T, X, eT, fun t kk => Jvm.RoadKit.acmp (g := mkF m pc Ls (w :: v :: st)) X hx rfl h1 h2 rfl (hb hby hd) rfl hq ho hp kk⟩) hr
/-! constants of the pool -/
theorem Wl.ldcI (pc' : Nat) {i : Nat} {v : Int32} (hd : decode bs pc = .ok (.ldc i, 2)) (w : (Jvm.Cond.constant y.cls i v).before a0 Z = true) (hr : WlO l Z a0 EL y bs ml rt R as out Q sf h k n pc' Ls (.int v :: st)) (hp : pc + 2 = pc' := by rfl) : WlO l Z a0 EL y bs ml rt R as out Q sf h k n pc Ls st := by
  subst hp; exact Wl.same (fun p e s m below meth c T vm0 locs hx hby _ hown hZ X eT _ => ⟨T, X, eT, fun t kk => Jvm.Stand.ldcI X hx (s := s.setVm vm0) hown (mv hZ w) rfl (hb hby hd) kk⟩) hr
theorem Wl.ldc_wI (pc' : Nat) {i : Nat} {v : Int32} (hd : decode bs pc = .ok (.ldc_w i, 3)) (w : (Jvm.Cond.constant y.cls i v).before a0 Z = true) (hr : WlO l Z a0 EL y bs ml rt R as out Q sf h k n pc' Ls (.int v :: st)) (hp : pc + 3 = pc' := by rfl) : WlO l Z a0 EL y bs ml rt R as out Q sf h k n pc Ls st := by
  subst hp; exact Wl.same (fun p e s m below meth c T vm0 locs hx hby _ hown hZ X eT _ => ⟨T, X, eT, fun t kk => Jvm.Stand.ldcWI X hx (s := s.setVm vm0) hown (mv hZ w) rfl (hb hby hd) kk⟩) hr
theorem Wl.ldc2J (pc' : Nat) {i : Nat} {v : Int64} (hd : decode bs pc = .ok (.ldc2_w i, 3)) (w : (Jvm.Cond.constantLong y.cls i v).before a0 Z = true) (hr : WlO l Z a0 EL y bs ml rt R as out Q sf h k n pc' Ls (.long v :: st)) (hp : pc + 3 = pc' := by rfl) : WlO l Z a0 EL y bs ml rt R as out Q sf h k n pc Ls st := by
  subst hp; exact Wl.same (fun p e s m below meth c T vm0 locs hx hby _ hown hZ X eT _ => ⟨T, X, eT, fun t kk => Jvm.Stand.ldc2J X hx (s := s.setVm vm0) hown (mv hZ w) rfl (hb hby hd) kk⟩) hr
/-! fields -/
theorem Wl.getfield (pc' : Nat) {i : Nat} {O fn d : String} {a : Addr} {v : Value} (hd : decode bs pc = .ok (.getfield i, 3)) (w : (Jvm.Cond.fieldLink y.cls i O fn d).before a0 Z = true) (F : Fld Z h a O fn d v) (hr : WlO l Z a0 EL y bs ml rt R as out Q sf h k n pc' Ls (v :: st)) (hp : pc + 3 = pc' := by rfl) : WlO l Z a0 EL y bs ml rt R as out Q sf h k n pc Ls (.ref a :: st) := by
  subst hp; exact Wl.same (fun p e s m below meth c T vm0 locs hx hby _ hown hZ X eT _ => getF X hx (s := s.setVm vm0) hZ hown (host := "") (Or.inl w) Via.refl eT F (g := mkF m pc Ls (.ref a :: st)) rfl rfl (hb hby hd)) hr
theorem Wl.getstatic (pc' : Nat) {i : Nat} {O fn d : String} {v : Value} (hd : decode bs pc = .ok (.getstatic i, 3)) (w : (Jvm.Cond.fieldLink y.cls i O fn d).before a0 Z = true) (F : Sta Z Z.heap O fn d v) (hr : WlO l Z a0 EL y bs ml rt R as out Q sf h k n pc' Ls (v :: st)) (hp : pc + 3 = pc' := by rfl) : WlO l Z a0 EL y bs ml rt R as out Q sf h k n pc Ls st := by
  subst hp; exact Wl.same (fun p e s m below meth c T vm0 locs hx hby _ hown hZ X eT hO => getS (host := "") X hx (s := s.setVm vm0) hZ hown w Via.refl eT (F.ext hO) (g := mkF m pc Ls st) rfl (hb hby hd)) hr
theorem Wl.getstaticN (pc' : Nat) {i : Nat} {O fn d host : String} {v : Value} (hd : decode bs pc = .ok (.getstatic i, 3)) (w : (Jvm.Cond.fieldLinkNest y.cls i O fn d host).before a0 Z = true) (F : Sta Z Z.heap O fn d v) (hr : WlO l Z a0 EL y bs ml rt R as out Q sf h k n pc' Ls (v :: st)) (hp : pc + 3 = pc' := by rfl) : WlO l Z a0 EL y bs ml rt R as out Q sf h k n pc Ls st := by
  subst hp; exact Wl.same (fun p e s m below meth c T vm0 locs hx hby _ hown hZ X eT hO => getS2 X hx (s := s.setVm vm0) hZ hown (Or.inr w) Via.refl eT (F.ext hO) (g := mkF m pc Ls st) rfl (hb hby hd)) hr
theorem Wl.putfield (pc' : Nat) {i kk : Nat} {O fn d K : String} {ty : FieldType} {a : Addr} {v old : Value} (hd : decode bs pc = .ok (.putfield i, 3)) (w : (Jvm.Cond.fieldLink y.cls i O fn d).before a0 Z = true) (F : Fld Z h a O fn d old) (E : Exa Z h a K)
    (L : (Jvm.Cond.lays K O fn d).before a0 Z = true ∨ ((Jvm.Cond.laysFinal K O fn d).before a0 Z = true ∧ y.cls = O ∧ y.name = "<init>")) (wi : (Jvm.Cond.instantiable K kk).before a0 Z = true) (hty : parseFieldDescriptor d = some ty) (hn : narrow ty v = v) (hf : fits ty v = true) (ha : a ∈ sf)
    (hr : ∀ h', Wr h h' a (Jvm.RoadKit.slotOf Z O fn d) v → WlO l Z a0 EL y bs ml rt R as out Q sf h' k n pc' Ls st) (hp : pc + 3 = pc' := by rfl) : WlO l Z a0 EL y bs ml rt R as out Q sf h k n pc Ls (v :: .ref a :: st) := by
  subst hp; exact Wl.write ha (fun p e s m below meth c T vm0 locs hx hby hnm hown hZ X eT => putF X hx (s := s.setVm vm0) hZ hown (host := "") (Or.inl w) Via.refl eT F E (L.imp id fun q => ⟨q.1, q.2.1, hnm.trans q.2.2⟩) wi hty hn hf (g := mkF m pc Ls (v :: .ref a :: st)) rfl rfl (hb hby hd)) hr
/-! new things -/
theorem Wl.new (pc' : Nat) {i cnt : Nat} {K : String} (hd : decode bs pc = .ok (.new i, 3)) (w : (Jvm.Cond.classLink y.cls i K).before a0 Z = true) (wi : (Jvm.Cond.instantiable K cnt).before a0 Z = true) (wz : (Jvm.Cond.initialized K).before a0 Z = true) (hc : k + 1 ≤ R.cells) (hl : n + cnt ≤ R.slots)
    (hr : ∀ (a : Addr) (h' : Heap), a = h.size → Ext h h' → Exa Z h' a K → (∀ {O nm d : String} {ty : FieldType}, Laid Z a0 K O nm d → parseFieldDescriptor d = some ty → Fld Z h' a O nm d (defaultValue ty)) → WlO l Z a0 EL y bs ml rt R as out Q (a :: sf) h' (k + 1) (n + cnt) pc' Ls (.ref a :: st)) (hp : pc + 3 = pc' := by rfl) : WlO l Z a0 EL y bs ml rt R as out Q sf h k n pc Ls st := by
  subst hp
  refine Wl.grow (st' := fun a => .ref a :: st) (F := fun h' a => Exa Z h' a K ∧ ∀ {O nm d : String} {ty : FieldType}, Laid Z a0 K O nm d → parseFieldDescriptor d = some ty → Fld Z h' a O nm d (defaultValue ty)) (fun p e s m below meth c T vm0 locs hx hby _ hown hZ X eT _ => ?_) (fun a h' ea E G => hr a h' ea E G.1 G.2)
  obtain ⟨T', h', X', e', E, G, D, -, stp⟩ := newO X hx (s := s.setVm vm0) hZ hown w wi wz eT (g := mkF m pc Ls st) rfl (hb hby hd) hc hl
  exact ⟨T', h', X', e', E, G.lt, ⟨G, D⟩, stp⟩
theorem Wl.newarray (pc' : Nat) {aty : ArrayType} {z : Int32} (cap : Nat) (hd : decode bs pc = .ok (.newarray aty, 2)) (w : (Jvm.Cond.arrayClass (newarray.typeOf aty)).before a0 Z = true) (hz : ¬ z < 0) (hcap : z.toNatClampNeg ≤ cap) (hb8 : cap * 8 ≤ 536870912) (hc : k + 1 ≤ R.cells) (hl : n + cap ≤ R.slots)
    (hr : ∀ (a : Addr) (h' : Heap) (cA : ClassId), a = h.size → Ext h h' → Arv Z h' a cA (newarray.typeOf aty) z (List.replicate z.toNatClampNeg (defaultValue (newarray.typeOf aty))) (defaultValue (newarray.typeOf aty)) → WlO l Z a0 EL y bs ml rt R as out Q (a :: sf) h' (k + 1) (n + cap) pc' Ls (.ref a :: st)) (hp : pc + 2 = pc' := by rfl) : WlO l Z a0 EL y bs ml rt R as out Q sf h k n pc Ls (.int z :: st) := by
  subst hp
  refine Wl.grow (st' := fun a => .ref a :: st) (F := fun h' a => ∃ cA, Arv Z h' a cA (newarray.typeOf aty) z (List.replicate z.toNatClampNeg (defaultValue (newarray.typeOf aty))) (defaultValue (newarray.typeOf aty))) (fun p e s m below meth c T vm0 locs hx hby _ hown hZ X eT _ => ?_) (fun a h' ea E G => by obtain ⟨cA, G⟩ := G; exact hr a h' cA ea E G)
  obtain ⟨T', h', cA, X', e', E, G, stp⟩ := newP X hx (s := s.setVm vm0) hZ w eT (g := mkF m pc Ls (.int z :: st)) rfl (hb hby hd) rfl hz hcap hb8 hc hl
  exact ⟨T', h', X', e', E, G.lt, ⟨cA, (Arv.new G hz).pad fun i => by simpa using pad_rep [] (defaultValue (newarray.typeOf aty)) z.toNatClampNeg i⟩, stp⟩
/-! arrays -/
theorem Wl.arraylength (pc' : Nat) {a : Addr} {kc : ClassId} {ty : FieldType} {z : Int32} {vs : List Value} {dv : Value} (hd : decode bs pc = .ok (.arraylength, 1)) (F : Arv Z h a kc ty z vs dv) (hr : WlO l Z a0 EL y bs ml rt R as out Q sf h k n pc' Ls (.int z :: st)) (hp : pc + 1 = pc' := by rfl) : WlO l Z a0 EL y bs ml rt R as out Q sf h k n pc Ls (.ref a :: st) := by
  subst hp
  refine Wl.same (fun p e s m below meth c T vm0 locs hx hby _ hown hZ X eT _ => ⟨T, X, eT, fun t kk => ?_⟩) hr
  obtain ⟨cl, A, q1, q2, q3, -⟩ := F
  refine X.arraylength hx (by rw [eT]; exact A.1) (State.isArrayOf_alike (T := s.setVm vm0) hZ.alike A.2.1) (g := mkF m pc Ls (.ref a :: st)) rfl rfl (hb hby hd) t ?_
  rw [len_of q2 q3]; exact kk
theorem inb {cl : Cell} {z j : Int32} {i : Nat} (S : cl.slots.size = z.toNatClampNeg) (hj : ¬ j < 0) (e : j.toNatClampNeg = i) (hi : i < z.toNatClampNeg) : ¬ (j < 0 ∨ cl.slots.size ≤ j.toNatClampNeg) := fun q => by
  rcases q with q | q
  · exact hj q
  · rw [S, e] at q; omega
theorem Wl.caload (pc' : Nat) {a : Addr} {kc : ClassId} {z j : Int32} {vs : List Value} {dv v : Value} (i : Nat) (hd : decode bs pc = .ok (.caload, 1)) (F : Arv Z h a kc .char z vs dv) (hj : ¬ j < 0) (ej : j.toNatClampNeg = i) (hi : i < z.toNatClampNeg) (hv : vs.getD i dv = v) (hr : WlO l Z a0 EL y bs ml rt R as out Q sf h k n pc' Ls (v :: st)) (hp : pc + 1 = pc' := by rfl) : WlO l Z a0 EL y bs ml rt R as out Q sf h k n pc Ls (.int j :: .ref a :: st) := by
  subst hp
  refine Wl.same (fun p e s m below meth c T vm0 locs hx hby _ hown hZ X eT _ => ⟨T, X, eT, fun t kk => ?_⟩) hr
  obtain ⟨cl, A, q1, q2, q3, H, -⟩ := F
  exact X.caload hx (by rw [eT]; exact A.1) (State.isArrayOf_alike (T := s.setVm vm0) hZ.alike A.2.1) A.2.2 (inb q2 hj ej hi) (H.at (inb q2 hj ej hi) (by rw [ej]; exact hv)) (g := mkF m pc Ls (.int j :: .ref a :: st)) rfl rfl (hb hby hd) t kk
theorem Wl.baload (pc' : Nat) {a : Addr} {kc : ClassId} {z j : Int32} {vs : List Value} {dv v : Value} (i : Nat) (hd : decode bs pc = .ok (.baload, 1)) (F : Arv Z h a kc .byte z vs dv) (hj : ¬ j < 0) (ej : j.toNatClampNeg = i) (hi : i < z.toNatClampNeg) (hv : vs.getD i dv = v) (hr : WlO l Z a0 EL y bs ml rt R as out Q sf h k n pc' Ls (v :: st)) (hp : pc + 1 = pc' := by rfl) : WlO l Z a0 EL y bs ml rt R as out Q sf h k n pc Ls (.int j :: .ref a :: st) := by
  subst hp
  refine Wl.same (fun p e s m below meth c T vm0 locs hx hby _ hown hZ X eT _ => ⟨T, X, eT, fun t kk => ?_⟩) hr
  obtain ⟨cl, A, q1, q2, q3, H, -⟩ := F
  exact X.baloadBytes hx (by rw [eT]; exact A.1) (State.isArrayOf_alike (T := s.setVm vm0) hZ.alike A.2.1) A.2.2 (inb q2 hj ej hi) (H.at (inb q2 hj ej hi) (by rw [ej]; exact hv)) (g := mkF m pc Ls (.int j :: .ref a :: st)) rfl rfl (hb hby hd) t kk
theorem Wl.castore (pc' : Nat) {a : Addr} {kc : ClassId} {z j x : Int32} {vs : List Value} {dv : Value} (i : Nat) (hd : decode bs pc = .ok (.castore, 1)) (F : Arv Z h a kc .char z vs dv) (ha : a ∈ sf) (hj : ¬ j < 0) (ej : j.toNatClampNeg = i) (hi : i < z.toNatClampNeg) (hi' : i < vs.length)
    (hr : ∀ h', Wr h h' a i (.int (nar .char x)) → Arv Z h' a kc .char z (vs.set i (.int (nar .char x))) dv → WlO l Z a0 EL y bs ml rt R as out Q sf h' k n pc' Ls st) (hp : pc + 1 = pc' := by rfl) : WlO l Z a0 EL y bs ml rt R as out Q sf h k n pc Ls (.int x :: .int j :: .ref a :: st) := by
  subst hp
  obtain ⟨cl, A, q1, q2, q3, H, G⟩ := F
  refine Wl.write (sl := i) (v := .int (nar .char x)) ha (fun p e s m below meth c T vm0 locs hx hby _ hown hZ X eT => ?_) (fun h' Wv => hr h' Wv (Arv.set A q1 q2 q3 H G (fits_nar_char x) (ej ▸ Wv) i ej hi'))
  subst ej
  exact stC X hx (s := s.setVm vm0) hZ eT A (inb q2 hj rfl hi) (g := mkF m pc Ls (.int x :: .int j :: .ref a :: st)) rfl rfl (hb hby hd)
theorem Wl.bastore (pc' : Nat) {a : Addr} {kc : ClassId} {z j x : Int32} {vs : List Value} {dv : Value} (i : Nat) (hd : decode bs pc = .ok (.bastore, 1)) (F : Arv Z h a kc .byte z vs dv) (ha : a ∈ sf) (hj : ¬ j < 0) (ej : j.toNatClampNeg = i) (hi : i < z.toNatClampNeg) (hi' : i < vs.length)
    (hr : ∀ h', Wr h h' a i (.int (nar .byte x)) → Arv Z h' a kc .byte z (vs.set i (.int (nar .byte x))) dv → WlO l Z a0 EL y bs ml rt R as out Q sf h' k n pc' Ls st) (hp : pc + 1 = pc' := by rfl) : WlO l Z a0 EL y bs ml rt R as out Q sf h k n pc Ls (.int x :: .int j :: .ref a :: st) := by
  subst hp
  obtain ⟨cl, A, q1, q2, q3, H, G⟩ := F
  refine Wl.write (sl := i) (v := .int (nar .byte x)) ha (fun p e s m below meth c T vm0 locs hx hby _ hown hZ X eT => ?_) (fun h' Wv => hr h' Wv (Arv.set A q1 q2 q3 H G (fits_nar_byte x) (ej ▸ Wv) i ej hi'))
  subst ej
  exact stB X hx (s := s.setVm vm0) hZ eT A (inb q2 hj rfl hi) (g := mkF m pc Ls (.int x :: .int j :: .ref a :: st)) rfl rfl (hb hby hd)
/-- System.arraycopy between arrays of one primitive kind, into an own array -/
theorem Wl.arraycopy (pc' : Nat) {i : Nat} {a b : Addr} {kc kc' : ClassId} {ty : FieldType} {z z' sp dp nn : Int32} {vs vd : List Value} {dv dd : Value} (hd : decode bs pc = .ok (.invokestatic i, 3))
    (w1 : (Jvm.Cond.methodLink y.cls i Jvm.Stand.acN).before a0 Z = true) (w2 : (Jvm.Cond.native Jvm.Stand.acN).before a0 Z = true) (w3 : (Jvm.Cond.static Jvm.Stand.acN).before a0 Z = true) (w4 : (Jvm.Cond.initialized "java/lang/System").before a0 Z = true)
    (A : Arv Z h a kc ty z vs dv) (B : Arv Z h b kc' ty z' vd dd) (hty : refKind ty = false) (h1 : ¬ sp < 0) (h2 : ¬ dp < 0) (h3 : ¬ nn < 0) (h4 : sp.toNatClampNeg + nn.toNatClampNeg ≤ z.toNatClampNeg) (h5 : dp.toNatClampNeg + nn.toNatClampNeg ≤ z'.toNatClampNeg) (hl : dp.toNatClampNeg + nn.toNatClampNeg ≤ vd.length) (hbs : b ∈ sf) (hsz : Ls.size = ml) (hf : 1 ≤ R.frames) (hlo : (st.map fun v => v.category).sum + (nativeFrameWords "java/lang/System" "arraycopy" 5 + 11) ≤ R.locals)
    (hr : ∀ h', Keep h h' [b] → Arv Z h' b kc' ty z' (vd.take dp.toNatClampNeg ++ ((List.range nn.toNatClampNeg).map fun i => vs.getD (sp.toNatClampNeg + i) dv) ++ vd.drop (dp.toNatClampNeg + nn.toNatClampNeg)) dd → WlO l Z a0 EL y bs ml rt R as out Q sf h' k n pc' Ls st) (hp : pc + 3 = pc' := by rfl) : WlO l Z a0 EL y bs ml rt R as out Q sf h k n pc Ls (.int nn :: .int dp :: .ref b :: .int sp :: .ref a :: st) := by
  subst hp
  intro p e s m below meth c T W
  obtain ⟨A0, vm0, locs, k0, X, eT, hS, hk, hF, hZ, hC, hM, hH⟩ := W
  obtain ⟨T', h', L', X', e', hF', K, G, stp⟩ := cpA X A0.1 (s := s.setVm vm0) hZ (by show vm0.findClass y.cls = _; rw [hS.1.alike.findClass]; exact A0.2.2.2.2.2.2.1) w1 w2 w3 w4 eT A B (Or.inl ⟨rfl, hty⟩) h1 h2 h3 h4 h5 rfl hl hF (hM b hbs).2.1 (g := mkF m pc Ls (.int nn :: .int dp :: .ref b :: .int sp :: .ref a :: st)) rfl (by rw [A0.2.2.1]; exact hsz) rfl (hb A0.2.1 hd) hf (W := (st.map fun v => v.category).sum) (by show 2 * 0 + _ ≤ _; omega) hlo
  have Bc := CHr.keep (Z := Z) (EL := EL) (vm := vm0) K (fun x hx => by cases List.mem_singleton.mp hx; exact (hM b hbs).1) hC.1
  exact Go.of stp (hr h' K G p e s m below meth c T' ⟨A0, vm0, L', k0, X', e', hS, Nat.le_trans hk K.1, hF', hZ, hC.trans Bc, hM.chr Bc, hH⟩)
/-! Object.<init>, classes -/
theorem Wl.initO (pc' : Nat) {i : Nat} {a : Addr} (hd : decode bs pc = .ok (.invokespecial i, 3)) (w1 : (Jvm.Cond.methodLink y.cls i Lib.objectInit).before a0 Z = true) (w2 : (Jvm.Cond.instanceMethod Lib.objectInit).before a0 Z = true) (w3 : (Jvm.Cond.code Lib.objectInit ⟨#[0xb1]⟩ 1 none).before a0 Z = true) (hsz : Ls.size = ml) (hf : 1 ≤ R.frames) (hl : (st.map fun v => v.category).sum + 12 ≤ R.locals)
    (hr : WlO l Z a0 EL y bs ml rt R as out Q sf h k n pc' Ls st) (hp : pc + 3 = pc' := by rfl) : WlO l Z a0 EL y bs ml rt R as out Q sf h k n pc Ls (.ref a :: st) := by
  subst hp; exact Wl.same (fun p e s m below meth c T vm0 locs hx hby hml hown hZ X eT _ => Jvm.RoadKit.initO X hx (s := s.setVm vm0) hZ hown w1 w2 w3 eT (g := mkF m pc Ls (.ref a :: st)) rfl (by rw [hml]; exact hsz) rfl (hb hby hd) hf (W := (st.map fun v => v.category).sum) (by show 2 * 0 + _ ≤ _; omega) hl) hr
theorem Wl.checkcast (pc' : Nat) {i : Nat} {K : String} {a : Addr} (hd : decode bs pc = .ok (.checkcast i, 3)) (w : (Jvm.Cond.classLink y.cls i K).before a0 Z = true) (F : Ins Z h a K true) (hr : WlO l Z a0 EL y bs ml rt R as out Q sf h k n pc' Ls (.ref a :: st)) (hp : pc + 3 = pc' := by rfl) : WlO l Z a0 EL y bs ml rt R as out Q sf h k n pc Ls (.ref a :: st) := by
  subst hp; exact Wl.same (fun p e s m below meth c T vm0 locs hx hby hml hown hZ X eT _ => castY X hx (s := s.setVm vm0) hZ hown w eT F (g := mkF m pc Ls (.ref a :: st)) rfl rfl (hb hby hd)) hr
theorem Wl.instY (pc' : Nat) {i : Nat} {K : String} {a : Addr} (hd : decode bs pc = .ok (.instanceof i, 3)) (w : (Jvm.Cond.classLink y.cls i K).before a0 Z = true) (F : Ins Z h a K true) (hr : WlO l Z a0 EL y bs ml rt R as out Q sf h k n pc' Ls (.int 1 :: st)) (hp : pc + 3 = pc' := by rfl) : WlO l Z a0 EL y bs ml rt R as out Q sf h k n pc Ls (.ref a :: st) := by
  subst hp; exact Wl.same (fun p e s m below meth c T vm0 locs hx hby hml hown hZ X eT _ => Jvm.RoadKit.instY X hx (s := s.setVm vm0) hZ hown w eT F (g := mkF m pc Ls (.ref a :: st)) rfl rfl (hb hby hd)) hr
theorem Wl.instN (pc' : Nat) {i : Nat} {K K' : String} {a : Addr} (hd : decode bs pc = .ok (.instanceof i, 3)) (w : (Jvm.Cond.classLink y.cls i K).before a0 Z = true) (E : Exa Z h a K') (F : ∃ c t, Z.vm.findClass K' = some c ∧ Z.vm.findClass K = some t ∧ Z.vm.assignable c t = false) (hr : WlO l Z a0 EL y bs ml rt R as out Q sf h k n pc' Ls (.int 0 :: st)) (hp : pc + 3 = pc' := by rfl) : WlO l Z a0 EL y bs ml rt R as out Q sf h k n pc Ls (.ref a :: st) := by
  subst hp; exact Wl.same (fun p e s m below meth c T vm0 locs hx hby hml hown hZ X eT _ => instNo X hx (s := s.setVm vm0) hZ hown w eT E F (g := mkF m pc Ls (.ref a :: st)) rfl rfl (hb hby hd)) hr
theorem Wl.instNull (pc' : Nat) {i : Nat} (hd : decode bs pc = .ok (.instanceof i, 3)) (hr : WlO l Z a0 EL y bs ml rt R as out Q sf h k n pc' Ls (.int 0 :: st)) (hp : pc + 3 = pc' := by rfl) : WlO l Z a0 EL y bs ml rt R as out Q sf h k n pc Ls (.null :: st) := by
  subst hp; exact Wl.same (fun p e s m below meth c T vm0 locs hx hby hml hown hZ X eT _ => ⟨T, X, eT, X.instanceofNull hx (g := mkF m pc Ls (.null :: st)) rfl rfl (hb hby hd)⟩) hr
/-- C's only superclass is S, who has none; K is another plain class -/
theorem notInst {K' S K : String} {cnt : Nat} (w : (Jvm.Cond.superclass K' S).before a0 Z = true) (wo : (Jvm.Cond.noSuperclass S).before a0 Z = true) (wi : (Jvm.Cond.instantiable K cnt).before a0 Z = true) (h1 : S ≠ K) (h2 : K' ≠ K) : ∃ c t, Z.vm.findClass K' = some c ∧ Z.vm.findClass K = some t ∧ Z.vm.assignable c t = false := by
  obtain ⟨t, kt, g0, g2, g5, g7, -⟩ := Cond.instantiable_spec wi
  obtain ⟨c', k', s1, s2, s3, -, -⟩ := Cond.noSuperclass_spec wo
  obtain ⟨c, h0⟩ := found_sup w
  obtain ⟨p, k, kp, q1, q2, q3, q4, q5, -, q7⟩ := Cond.superclass_spec h0 w
  cases s1.symm.trans q1
  have ne := ids_ne h0 g0 h2
  have ne' := ids_ne s1 g0 h1
  have hi : kt.isInterface = false := by
    cases hq : kt.isInterface with
    | false => rfl
    | true => rw [hq] at g7; simp at g7
  have n3 : ∀ fuel, Z.vm.isSubclassAux fuel c t = false := fun fuel => by
    cases fuel with
    | zero => rfl
    | succ f =>
      have m3 : Z.vm.isSubclassAux f c' t = false := by
        cases f with
        | zero => rfl
        | succ f => simp [Vm.isSubclassAux, ne', s2, s3]
      simp [Vm.isSubclassAux, ne, q2, q4, m3]
  refine ⟨c, t, h0, g0, ?_⟩
  show Z.vm.assignableAux (255 + 1) c t = false
  simp [Vm.assignableAux, ne, q2, g2, q5, g5, hi, Vm.isSubclass, n3]
/-! returns -/
theorem Wl.ret {v : Option Value} (hv : rt = none → v = none) (hk : k ≤ R.cells) (hn : n ≤ R.slots)
    (f : ∀ (p : Program) (e : Env) (s : State) (m : MethodId) (below : List Frame) (meth : Method) (c : Code) (T : State) (vm0 : Vm) (locs : List Loc) (fs : List Frame), p.tables.exec = Jvm.exec → c.code = bs → meth.sig.returnType = rt → Stand p l e R (s.setVm vm0) m as below meth c T locs k n →
      (∀ (f : JFrame) (acts : List Action), f.method = m → f.locked = none → f.entered = [] → (doReturn e (T.setTop f) acts v).1 = T.setFrames fs) → Steps p.tables e below (T.setTop (mkF m pc Ls st)) (T.setFrames fs))
    (hq : Q v h) (ho : ∀ x ∈ out, x ∈ sf) : WlO l Z a0 EL y bs ml rt R as out Q sf h k n pc Ls st := by
  intro p e s m below meth c T W
  obtain ⟨⟨hx, hby, hml, hrt, hlk, hnm, hown, hEL, hO⟩, vm0, locs, k0, X, eT, hS, hk0, hF, hZ, hC, hM, hH⟩ := W
  obtain ⟨fs, hr, hrun, hend, hE⟩ := X.leaveW hS (by rw [eT]; exact hk0) (v := v) (fun q => hv (hrt ▸ q)) hlk
  refine ⟨_, _, f p e s m below meth c T vm0 locs fs hx hby hrt X hr, hrun, hend, v, locs, rfl, ⟨by show Q v T.heap; rw [eT]; exact hq, hF⟩, ?_, ⟨hE.1, hE.2.1, hE.2.2.1, hE.2.2.2.mono hk hn⟩, fun q => State.WarmedH.trans (t := s.setVm vm0) (hH q) X.warmed, ?_⟩
  · show CHr Z EL s.vm s.heap T.vm T.heap
    rw [eT]
    exact hC.trans (CHv.at X hZ hEL hC.1)
  · show Mine Z EL T.vm T.heap out
    rw [eT]
    exact (hM.chr (CHv.at X hZ hEL hC.1)).sub ho
theorem Wl.return_ (hd : decode bs pc = .ok (.return_, 1)) (hrt : rt = none) (hk : k ≤ R.cells) (hn : n ≤ R.slots) (hq : Q none h) (ho : ∀ x ∈ out, x ∈ sf := by exact fun _ q => nomatch q) : WlO l Z a0 EL y bs ml rt R as out Q sf h k n pc Ls [] :=
  Wl.ret (fun _ => rfl) hk hn (fun p e s m below meth c T vm0 locs fs hx hby hr X hl => X.returnOut hx (hr.trans hrt) (hb hby hd) hl) hq ho
theorem Wl.areturn {v : Value} {t : FieldType} (hd : decode bs pc = .ok (.areturn, 1)) (hrt : rt = some t) (ht : t.isReference = true) (hv : v.isRef = true) (hk : k ≤ R.cells) (hn : n ≤ R.slots) (hq : Q (some v) h) (ho : ∀ x ∈ out, x ∈ sf := by exact fun _ q => nomatch q) : WlO l Z a0 EL y bs ml rt R as out Q sf h k n pc Ls [v] :=
  Wl.ret (fun q => by rw [hrt] at q; cases q) hk hn (fun p e s m below meth c T vm0 locs fs hx hby hr X hl => X.areturnOut hx hv (hr.trans hrt) ht (hb hby hd) hl) hq ho
theorem Wl.ireturn {x : Int32} {t : FieldType} (hd : decode bs pc = .ok (.ireturn, 1)) (hrt : rt = some t) (hn1 : narrow t (.int x) = .int x) (ht : t = .int ∨ t = .boolean ∨ t = .byte ∨ t = .char ∨ t = .short) (hk : k ≤ R.cells) (hn : n ≤ R.slots) (hq : Q (some (.int x)) h) (ho : ∀ x ∈ out, x ∈ sf := by exact fun _ q => nomatch q) : WlO l Z a0 EL y bs ml rt R as out Q sf h k n pc Ls [.int x] :=
  Wl.ret (fun q => by rw [hrt] at q; cases q) hk hn (fun p e s m below meth c T vm0 locs fs hx hby hr X hl => X.ireturnOut hx (hr.trans hrt) hn1 ht (hb hby hd) hl) hq ho
/-! a body's walk is its contract; a contract pays a call -/
theorem Met.of_walk {ws : List Jvm.Cond} (hpn : plainFor y = true) (hEL : EW Z a0 EL) (hE : argsToLocals as ml = Ls) (hw : WlO l Z a0 EL y bs ml rt R as out Q sf h 0 0 0 Ls []) : MetO l Z EL y bs ml rt ws R as h sf out Q := by
  refine MetFree.of_bodySF hpn hisR ?_
  intro p e s m args below meth c s₁ Bd hml0 hP hK
  obtain ⟨rfl, hZ, hh, hC, hO, hM⟩ := hP
  have X0 : Stand p l e R s m args below meth c s₁ [] 0 0 := Stand.of_body Bd
  have e0 : s₁.heap = h := by rw [← hh, Bd.state]; rfl
  have hown : s.vm.findClass y.cls = some m.cls := findClass_of_methodNamed Bd.named
  have g := hw p e s m below meth c s₁ ⟨⟨Bd.exec, Bd.bytes, hml0, Bd.returns, Bd.notSynchronized, (name_of_methodNamed Bd.named Bd.method).1, hown, hEL, by rw [hh]; exact hO⟩, s.vm, [], h.size, X0, e0, (State.WarmedH.refl s).since _, Nat.le_refl _, Fr.nil _, hZ, by rw [hh]; exact CHr.refl hC, hM, fun _ => State.WarmedH.refl s⟩
  obtain ⟨s₂, o, g1, g2, g3, g4⟩ := g
  refine ⟨s₂, o, ?_, g2, g3, g4⟩
  have q : entryFrame m args ml = mkF m 0 Ls [] := by rw [← hE]; rfl
  exact castTop q g1
theorem Met.back {y2 : MethodName} {bs2 : ByteArray} {ml2 : Nat} {rt2 : Option FieldType} {rm : Room} {as2 : Array Value} {sf2 out2 : List Addr} {Q2 : Option Value → Heap → Prop} {len W : Nat} {vm0 : Vm} {args : Array Value}
    (hM : MetO l Z EL y2 bs2 ml2 rt2 [] rm as2 h sf2 out2 Q2) (hZ : Z.Warmed39 vm0) (wc : (Jvm.Cond.code y2 bs2 ml2 rt2).before a0 Z = true) (wz : (Jvm.Cond.initialized y2.cls).before a0 Z = true) (hf : rm.frames + 1 ≤ R.frames) (hl : W + (ml2 + 11) + rm.locals ≤ R.locals) (hEL : EW Z a0 EL) (H : CHv Z EL vm0 h) (hO : Ext Z.heap h) (hS : Mine Z EL vm0 h sf2) :
    BackS l R p e below (s.setVm vm0) args y2 len W (fun A a => a = as2 ∧ A.U.heap = h ∧ A.cells + rm.cells ≤ R.cells ∧ A.slots + rm.slots ≤ R.slots)
      (fun A _ v B => ∃ L, (Q2 v B.U.heap ∧ Fr Z.heap.size L) ∧ B.locs = A.locs ++ L ∧ B.cells = A.cells + rm.cells ∧ B.slots = A.slots + rm.slots ∧ CHr Z EL vm0 h B.U.vm B.U.heap ∧ (EL = [] → (s.setVm vm0).WarmedH B.U.vm) ∧ Mine Z EL B.U.vm B.U.heap out2) :=
  BackS.of_freeW (bytes := bs2) (maxL := ml2) (ret := rt2) (E := fun _ first o t L k n => k = rm.cells ∧ n = rm.slots ∧ (∃ v, o = .returned v ∧ (Q2 v t.heap ∧ Fr Z.heap.size L)) ∧ CHr Z EL first.vm first.heap t.vm t.heap ∧ (EL = [] → first.WarmedH t.vm) ∧ Mine Z EL t.vm t.heap out2) hM hf hl
    (fun m meth c A a Y hp => have hU : Z.Warmed39 A.U.vm := wtrans (s := s.setVm vm0) hZ Y.warmed
      ⟨by show (Jvm.Cond.and _ .tt).before a A.U = true; rw [Cond.before_and, mv hU wc]; rfl, mv hU wc, mv hU wz, hp.2.2.1, hp.2.2.2⟩)
    (fun m meth c A a g mk Y hp => ⟨hp.1, wtrans (s := s.setVm vm0) hZ Y.warmed, hp.2.1, (show CHv Z EL A.U.vm h from (CHv.at Y hZ hEL H).1), hO, (show Mine Z EL A.U.vm h sf2 from hS.chr (CHv.at Y hZ hEL H))⟩) (fun _ _ _ _ _ _ _ _ _ => trivial)
    (fun _ _ _ _ ⟨v, L, h1, h2, h3, h4, h5⟩ => ⟨L, _, _, h4, rfl, rfl, ⟨v, h1, h2⟩, h3, h5⟩)
    (fun m meth c A a g mk v t L k n Y hp _ _ ⟨e1, e2, ⟨v', e3, e4⟩, e5, e6, e7⟩ => by
      cases e3; subst e1 e2
      refine ⟨L, e4, rfl, rfl, rfl, (CHv.at Y hZ hEL H).trans ?_, fun q => State.WarmedH.trans (t := A.U.calling g mk a) Y.warmed (e6 q), e7⟩
      rw [← hp.2.1]; exact e5)
/-- a call: what the three kinds share -/
theorem Wl.call {st0 : List Value} {y2 : MethodName} {bs2 : ByteArray} {ml2 : Nat} {rt2 : Option FieldType} {rm : Room} {as2 : Array Value} {sf2 out2 sf' : List Addr} {Q2 : Option Value → Heap → Prop} {len pc' : Nat}
    (hM : MetO l Z EL y2 bs2 ml2 rt2 [] rm as2 h sf2 out2 Q2) (wc : (Jvm.Cond.code y2 bs2 ml2 rt2).before a0 Z = true) (wz : (Jvm.Cond.initialized y2.cls).before a0 Z = true) (hsub : ∀ x ∈ sf2, x ∈ sf) (hf : rm.frames + 1 ≤ R.frames) (hl : (st.map fun v => v.category).sum + (ml2 + 11) + rm.locals ≤ R.locals) (hc : k + rm.cells ≤ R.cells) (hs : n + rm.slots ≤ R.slots)
    (f : ∀ (p : Program) (e : Env) (s : State) (m : MethodId) (below : List Frame) (meth : Method) (c : Code) (T : State) (vm0 : Vm) (locs : List Loc),
      p.tables.exec = Jvm.exec → c.code = bs → c.maxLocals = ml → vm0.findClass y.cls = some m.cls → Z.Warmed39 vm0 → Stand p l e R (s.setVm vm0) m as below meth c T locs k n → T.heap = h →
      ∀ {Post : Pt → Array Value → Option Value → Pt → Prop}, BackS l R p e below (s.setVm vm0) as y2 len (st.map fun v => v.category).sum (fun A a => a = as2 ∧ A.U.heap = h ∧ A.cells + rm.cells ≤ R.cells ∧ A.slots + rm.slots ≤ R.slots) Post →
      ∃ (v : Option Value) (vm₁ : Vm) (B : Pt), (s.setVm vm0).WarmedH vm₁ ∧ Stand p l e R ((s.setVm vm0).setVm B.U.vm) m as below meth c B.U B.locs B.cells B.slots ∧ (s.setVm vm0).Since B.U.vm B.U.heap.size ∧ T.heap.size ≤ B.U.heap.size ∧ Post ⟨T.setVm vm₁, locs, k, n⟩ as2 v B ∧
        Steps p.tables e below (T.setTop (mkF m pc Ls st0)) (B.U.setTop (mkF m pc' Ls (v.toList ++ st))))
    (hsf' : ∀ x ∈ sf', x ∈ out2 ∨ x ∈ sf) (hr : ∀ v h', Q2 v h' → h.size ≤ h'.size → WlO l Z a0 EL y bs ml rt R as out Q sf' h' (k + rm.cells) (n + rm.slots) pc' Ls (v.toList ++ st)) : WlO l Z a0 EL y bs ml rt R as out Q sf h k n pc Ls st0 := by
  intro p e s m below meth c T W
  have hO := W.old
  obtain ⟨A, vm0, locs, k0, X, eT, hS, hk, hF, hZ, hC, hMi, hH⟩ := W
  obtain ⟨v, vm₁, ⟨T', L', k', n'⟩, -, X', hS', hg, ⟨Lc, ⟨hq, hFc⟩, l1, l2, l3, hC', hH', hMo⟩, stp⟩ := f p e s m below meth c T vm0 locs A.1 A.2.1 A.2.2.1 (by rw [hS.1.alike.findClass]; exact A.2.2.2.2.2.2.1) hZ X eT (Met.back (W := (st.map fun v => v.category).sum) (R := R) (a0 := a0) hM hZ wc wz hf hl A.2.2.2.2.2.2.2.1 hC.1 hO (hMi.sub hsub))
  dsimp only [Pt.U, Pt.locs, Pt.cells, Pt.slots] at X' hS' hg hq l1 l2 l3 hC' hH' hMo stp
  subst l1 l2 l3
  have hS2 := hS.trans hS' (Nat.le_trans hk (by rw [← eT]; exact hg))
  refine Go.of (fun t kk => stp.trans kk) (hr v T'.heap hq hC'.2.1 p e s m below meth c T' ⟨A, T'.vm, locs ++ Lc, T'.heap.size, X', rfl, hS2, Nat.le_refl _, Fr.app hF hFc, State.Warmed39.trans (t := s.setVm vm0) hZ hS'.1, hC.trans hC', fun x hx => (hsf' x hx).elim (hMo x) ((hMi.chr hC') x), fun q => State.WarmedH.trans (s := s) (t := s.setVm vm0) (hH q) (hH' q)⟩)
theorem Wl.static (pc' : Nat) {st0 : List Value} {i : Nat} {y2 : MethodName} {bs2 : ByteArray} {ml2 : Nat} {rt2 : Option FieldType} {rm : Room} {argsL : List Value} {sf2 out2 : List Addr} {Q2 : Option Value → Heap → Prop} {ps : List FieldType} {r : Option FieldType}
    (hd : decode bs pc = .ok (.invokestatic i, 3)) (w1 : (Jvm.Cond.methodLink y.cls i y2).before a0 Z = true) (w2 : (Jvm.Cond.static y2).before a0 Z = true) (wz : (Jvm.Cond.initialized y2.cls).before a0 Z = true) (wc : (Jvm.Cond.code y2 bs2 ml2 rt2).before a0 Z = true)
    (hsig : parseMethodDescriptor y2.desc = some ⟨ps, r⟩) (hlen : argsL.length = ps.length) (hM : MetO l Z EL y2 bs2 ml2 rt2 [] rm argsL.toArray h sf2 out2 Q2) (hsub : ∀ x ∈ sf2, x ∈ sf) (hst : st0 = argsL.reverse ++ st) (hsz : Ls.size = ml) (hp : pc + 3 = pc') (hy : y2.cls ≠ "java/lang/invoke/MethodHandle" ∧ y2.cls ≠ "java/lang/invoke/VarHandle")
    (hroom : (rm.frames + 1 ≤ R.frames ∧ (st.map fun v => v.category).sum + (ml2 + 11) + rm.locals ≤ R.locals) ∧ k + rm.cells ≤ R.cells ∧ n + rm.slots ≤ R.slots)
    (hr : ∀ v h', Q2 v h' → h.size ≤ h'.size → WlO l Z a0 EL y bs ml rt R as out Q sf h' (k + rm.cells) (n + rm.slots) pc' Ls (v.toList ++ st)) : WlO l Z a0 EL y bs ml rt R as out Q sf h k n pc Ls st0 := by
  subst hp
  exact Wl.call (len := 3) hM wc wz hsub hroom.1.1 hroom.1.2 hroom.2.1 hroom.2.2 (fun p e s m below meth c T vm0 locs hx hby hml hown hZ X eT {Post} hK =>
    callSS X hx (s := s.setVm vm0) hown (mvT hZ w1) (mvT hZ w2) (mvT hZ wz) (mvT hZ wc) hy hK (g := mkF m pc Ls st0) rfl (by rw [hml]; exact hsz) (argsL := argsL) (rest := st) (lenOf hsig hlen) hst (by show 2 * 0 + _ ≤ _; omega) (hb hby hd) (fun _ _ => ⟨rfl, eT, hroom.2.1, hroom.2.2⟩)) (fun _ q => Or.inr q) hr
theorem Wl.staticO (pc' : Nat) {st0 : List Value} {i : Nat} {y2 : MethodName} {bs2 : ByteArray} {ml2 : Nat} {rt2 : Option FieldType} {rm : Room} {argsL : List Value} {sf2 : List Addr} {d : Addr} {Q2 : Option Value → Heap → Prop} {ps : List FieldType} {r : Option FieldType}
    (hd : decode bs pc = .ok (.invokestatic i, 3)) (w1 : (Jvm.Cond.methodLink y.cls i y2).before a0 Z = true) (w2 : (Jvm.Cond.static y2).before a0 Z = true) (wz : (Jvm.Cond.initialized y2.cls).before a0 Z = true) (wc : (Jvm.Cond.code y2 bs2 ml2 rt2).before a0 Z = true)
    (hsig : parseMethodDescriptor y2.desc = some ⟨ps, r⟩) (hlen : argsL.length = ps.length) (hM : MetO l Z EL y2 bs2 ml2 rt2 [] rm argsL.toArray h sf2 [d] Q2) (hsub : ∀ x ∈ sf2, x ∈ sf) (hst : st0 = argsL.reverse ++ st) (hsz : Ls.size = ml) (hp : pc + 3 = pc') (hy : y2.cls ≠ "java/lang/invoke/MethodHandle" ∧ y2.cls ≠ "java/lang/invoke/VarHandle")
    (hroom : (rm.frames + 1 ≤ R.frames ∧ (st.map fun v => v.category).sum + (ml2 + 11) + rm.locals ≤ R.locals) ∧ k + rm.cells ≤ R.cells ∧ n + rm.slots ≤ R.slots)
    (hr : ∀ v h', Q2 v h' → h.size ≤ h'.size → WlO l Z a0 EL y bs ml rt R as out Q (d :: sf) h' (k + rm.cells) (n + rm.slots) pc' Ls (v.toList ++ st)) : WlO l Z a0 EL y bs ml rt R as out Q sf h k n pc Ls st0 := by
  subst hp
  exact Wl.call (len := 3) hM wc wz hsub hroom.1.1 hroom.1.2 hroom.2.1 hroom.2.2 (fun p e s m below meth c T vm0 locs hx hby hml hown hZ X eT {Post} hK =>
    callSS X hx (s := s.setVm vm0) hown (mvT hZ w1) (mvT hZ w2) (mvT hZ wz) (mvT hZ wc) hy hK (g := mkF m pc Ls st0) rfl (by rw [hml]; exact hsz) (argsL := argsL) (rest := st) (lenOf hsig hlen) hst (by show 2 * 0 + _ ≤ _; omega) (hb hby hd) (fun _ _ => ⟨rfl, eT, hroom.2.1, hroom.2.2⟩)) (fun x q => (List.mem_cons.mp q).elim (fun e => Or.inl (e ▸ List.mem_singleton.mpr rfl)) Or.inr) hr
theorem Wl.special (pc' : Nat) {st0 : List Value} {i : Nat} {y2 : MethodName} {bs2 : ByteArray} {ml2 : Nat} {rm : Room} {a : Addr} {argsL : List Value} {sf2 out2 : List Addr} {Q2 : Option Value → Heap → Prop} {ps : List FieldType} {r : Option FieldType}
    (hd : decode bs pc = .ok (.invokespecial i, 3)) (w1 : (Jvm.Cond.methodLink y.cls i y2).before a0 Z = true) (w2 : (Jvm.Cond.instanceMethod y2).before a0 Z = true) (wz : (Jvm.Cond.initialized y2.cls).before a0 Z = true) (wc : (Jvm.Cond.code y2 bs2 ml2 none).before a0 Z = true)
    (hsig : parseMethodDescriptor y2.desc = some ⟨ps, r⟩) (hlen : argsL.length = ps.length) (hM : MetO l Z EL y2 bs2 ml2 none [] rm (.ref a :: argsL).toArray h sf2 out2 Q2) (hsub : ∀ x ∈ sf2, x ∈ sf) (hst : st0 = argsL.reverse ++ .ref a :: st) (hsz : Ls.size = ml) (hp : pc + 3 = pc') (hni : y2.name = "<init>") (hy : y2.cls ≠ "java/lang/invoke/MethodHandle" ∧ y2.cls ≠ "java/lang/invoke/VarHandle")
    (hroom : (rm.frames + 1 ≤ R.frames ∧ (st.map fun v => v.category).sum + (ml2 + 11) + rm.locals ≤ R.locals) ∧ k + rm.cells ≤ R.cells ∧ n + rm.slots ≤ R.slots)
    (hr : ∀ v h', Q2 v h' → h.size ≤ h'.size → WlO l Z a0 EL y bs ml rt R as out Q sf h' (k + rm.cells) (n + rm.slots) pc' Ls (v.toList ++ st)) : WlO l Z a0 EL y bs ml rt R as out Q sf h k n pc Ls st0 := by
  subst hp
  exact Wl.call (len := 3) hM wc wz hsub hroom.1.1 hroom.1.2 hroom.2.1 hroom.2.2 (fun p e s m below meth c T vm0 locs hx hby hml hown hZ X eT {Post} hK =>
    X.specialBackS hx (s := s.setVm vm0) hni hown (mvT hZ w1) (mvT hZ w2) (mvT hZ wc) hy hK (g := mkF m pc Ls st0) rfl (by rw [hml]; exact hsz) (Steps.refl _) (a := a) (argsL := argsL) (rest := st) (lenOf hsig hlen) hst (by show 2 * 0 + _ ≤ _; omega) (hb hby hd) (fun _ _ => ⟨rfl, eT, hroom.2.1, hroom.2.2⟩)) (fun _ q => Or.inr q) hr
theorem Wl.specialO (pc' : Nat) {st0 : List Value} {i : Nat} {y2 : MethodName} {bs2 : ByteArray} {ml2 : Nat} {rm : Room} {a : Addr} {argsL : List Value} {sf2 : List Addr} {d : Addr} {Q2 : Option Value → Heap → Prop} {ps : List FieldType} {r : Option FieldType}
    (hd : decode bs pc = .ok (.invokespecial i, 3)) (w1 : (Jvm.Cond.methodLink y.cls i y2).before a0 Z = true) (w2 : (Jvm.Cond.instanceMethod y2).before a0 Z = true) (wz : (Jvm.Cond.initialized y2.cls).before a0 Z = true) (wc : (Jvm.Cond.code y2 bs2 ml2 none).before a0 Z = true)
    (hsig : parseMethodDescriptor y2.desc = some ⟨ps, r⟩) (hlen : argsL.length = ps.length) (hM : MetO l Z EL y2 bs2 ml2 none [] rm (.ref a :: argsL).toArray h sf2 [d] Q2) (hsub : ∀ x ∈ sf2, x ∈ sf) (hst : st0 = argsL.reverse ++ .ref a :: st) (hsz : Ls.size = ml) (hp : pc + 3 = pc') (hni : y2.name = "<init>") (hy : y2.cls ≠ "java/lang/invoke/MethodHandle" ∧ y2.cls ≠ "java/lang/invoke/VarHandle")
    (hroom : (rm.frames + 1 ≤ R.frames ∧ (st.map fun v => v.category).sum + (ml2 + 11) + rm.locals ≤ R.locals) ∧ k + rm.cells ≤ R.cells ∧ n + rm.slots ≤ R.slots)
    (hr : ∀ v h', Q2 v h' → h.size ≤ h'.size → WlO l Z a0 EL y bs ml rt R as out Q (d :: sf) h' (k + rm.cells) (n + rm.slots) pc' Ls (v.toList ++ st)) : WlO l Z a0 EL y bs ml rt R as out Q sf h k n pc Ls st0 := by
  subst hp
  exact Wl.call (len := 3) hM wc wz hsub hroom.1.1 hroom.1.2 hroom.2.1 hroom.2.2 (fun p e s m below meth c T vm0 locs hx hby hml hown hZ X eT {Post} hK =>
    X.specialBackS hx (s := s.setVm vm0) hni hown (mvT hZ w1) (mvT hZ w2) (mvT hZ wc) hy hK (g := mkF m pc Ls st0) rfl (by rw [hml]; exact hsz) (Steps.refl _) (a := a) (argsL := argsL) (rest := st) (lenOf hsig hlen) hst (by show 2 * 0 + _ ≤ _; omega) (hb hby hd) (fun _ _ => ⟨rfl, eT, hroom.2.1, hroom.2.2⟩)) (fun x q => (List.mem_cons.mp q).elim (fun e => Or.inl (e ▸ List.mem_singleton.mpr rfl)) Or.inr) hr
theorem Wl.virtual (pc' : Nat) {st0 : List Value} {i : Nat} {y1 y2 : MethodName} {K : String} {bs2 : ByteArray} {ml2 : Nat} {rt2 : Option FieldType} {rm : Room} {a : Addr} {argsL : List Value} {sf2 out2 : List Addr} {Q2 : Option Value → Heap → Prop} {ps : List FieldType} {r : Option FieldType}
    (hd : decode bs pc = .ok (.invokevirtual i, 3)) (w1 : (Jvm.Cond.methodLink y.cls i y1).before a0 Z = true) (w2 : (Jvm.Cond.declares y1).before a0 Z = true) (w3 : (Jvm.Cond.selects K y1 y2).before a0 Z = true) (w4 : (Jvm.Cond.instanceMethod y2).before a0 Z = true) (wz : (Jvm.Cond.initialized y2.cls).before a0 Z = true) (wc : (Jvm.Cond.code y2 bs2 ml2 rt2).before a0 Z = true) (hnf : ∀ {vm0 : Vm} {s : State}, Z.Warmed39 vm0 → NotFace (s.setVm vm0) y1)
    (hE : Exa Z h a K) (hsig : parseMethodDescriptor y1.desc = some ⟨ps, r⟩) (hlen : argsL.length = ps.length) (hM : MetO l Z EL y2 bs2 ml2 rt2 [] rm (.ref a :: argsL).toArray h sf2 out2 Q2) (hsub : ∀ x ∈ sf2, x ∈ sf) (hst : st0 = argsL.reverse ++ .ref a :: st) (hsz : Ls.size = ml) (hp : pc + 3 = pc') (hy : y1.cls ≠ "java/lang/invoke/MethodHandle" ∧ y1.cls ≠ "java/lang/invoke/VarHandle")
    (hroom : (rm.frames + 1 ≤ R.frames ∧ (st.map fun v => v.category).sum + (ml2 + 11) + rm.locals ≤ R.locals) ∧ k + rm.cells ≤ R.cells ∧ n + rm.slots ≤ R.slots)
    (hr : ∀ v h', Q2 v h' → h.size ≤ h'.size → WlO l Z a0 EL y bs ml rt R as out Q sf h' (k + rm.cells) (n + rm.slots) pc' Ls (v.toList ++ st)) : WlO l Z a0 EL y bs ml rt R as out Q sf h k n pc Ls st0 := by
  subst hp
  refine Wl.call (len := 3) hM wc wz hsub hroom.1.1 hroom.1.2 hroom.2.1 hroom.2.2 (fun p e s m below meth c T vm0 locs hx hby hml hown hZ X eT {Post} hK => ?_) (fun _ q => Or.inr q) hr
  obtain ⟨cB, kB, i1, i2, i3⟩ := isOf (s := s.setVm vm0) hZ eT hE
  exact X.virtualBackS hx (s := s.setVm vm0) hown (mvT hZ w1) (mvT hZ w2) (hnf hZ) (mvT hZ w3) (mvT hZ w4) hy hK i1 i3 (g := mkF m pc Ls st0) rfl (by rw [hml]; exact hsz) (Steps.refl _) (argsL := argsL) (rest := st) (lenOf hsig hlen) hst (by show 2 * 0 + _ ≤ _; omega) (hb hby hd) (fun _ _ => ⟨rfl, eT, hroom.2.1, hroom.2.2⟩)
theorem Wl.virtualO (pc' : Nat) {st0 : List Value} {i : Nat} {y1 y2 : MethodName} {K : String} {bs2 : ByteArray} {ml2 : Nat} {rt2 : Option FieldType} {rm : Room} {a : Addr} {argsL : List Value} {sf2 : List Addr} {d : Addr} {Q2 : Option Value → Heap → Prop} {ps : List FieldType} {r : Option FieldType}
    (hd : decode bs pc = .ok (.invokevirtual i, 3)) (w1 : (Jvm.Cond.methodLink y.cls i y1).before a0 Z = true) (w2 : (Jvm.Cond.declares y1).before a0 Z = true) (w3 : (Jvm.Cond.selects K y1 y2).before a0 Z = true) (w4 : (Jvm.Cond.instanceMethod y2).before a0 Z = true) (wz : (Jvm.Cond.initialized y2.cls).before a0 Z = true) (wc : (Jvm.Cond.code y2 bs2 ml2 rt2).before a0 Z = true) (hnf : ∀ {vm0 : Vm} {s : State}, Z.Warmed39 vm0 → NotFace (s.setVm vm0) y1)
    (hE : Exa Z h a K) (hsig : parseMethodDescriptor y1.desc = some ⟨ps, r⟩) (hlen : argsL.length = ps.length) (hM : MetO l Z EL y2 bs2 ml2 rt2 [] rm (.ref a :: argsL).toArray h sf2 [d] Q2) (hsub : ∀ x ∈ sf2, x ∈ sf) (hst : st0 = argsL.reverse ++ .ref a :: st) (hsz : Ls.size = ml) (hp : pc + 3 = pc') (hy : y1.cls ≠ "java/lang/invoke/MethodHandle" ∧ y1.cls ≠ "java/lang/invoke/VarHandle")
    (hroom : (rm.frames + 1 ≤ R.frames ∧ (st.map fun v => v.category).sum + (ml2 + 11) + rm.locals ≤ R.locals) ∧ k + rm.cells ≤ R.cells ∧ n + rm.slots ≤ R.slots)
    (hr : ∀ v h', Q2 v h' → h.size ≤ h'.size → WlO l Z a0 EL y bs ml rt R as out Q (d :: sf) h' (k + rm.cells) (n + rm.slots) pc' Ls (v.toList ++ st)) : WlO l Z a0 EL y bs ml rt R as out Q sf h k n pc Ls st0 := by
  subst hp
  refine Wl.call (len := 3) hM wc wz hsub hroom.1.1 hroom.1.2 hroom.2.1 hroom.2.2 (fun p e s m below meth c T vm0 locs hx hby hml hown hZ X eT {Post} hK => ?_) (fun x q => (List.mem_cons.mp q).elim (fun e => Or.inl (e ▸ List.mem_singleton.mpr rfl)) Or.inr) hr
  obtain ⟨cB, kB, i1, i2, i3⟩ := isOf (s := s.setVm vm0) hZ eT hE
  exact X.virtualBackS hx (s := s.setVm vm0) hown (mvT hZ w1) (mvT hZ w2) (hnf hZ) (mvT hZ w3) (mvT hZ w4) hy hK i1 i3 (g := mkF m pc Ls st0) rfl (by rw [hml]; exact hsz) (Steps.refl _) (argsL := argsL) (rest := st) (lenOf hsig hlen) hst (by show 2 * 0 + _ ≤ _; omega) (hb hby hd) (fun _ _ => ⟨rfl, eT, hroom.2.1, hroom.2.2⟩)
theorem nf_sel {K : String} {y1 y2 : MethodName} (w : (Jvm.Cond.selects K y1 y2).before a0 Z = true) (e : y1 = y2) : ∀ {vm0 : Vm} {s : State}, Z.Warmed39 vm0 → NotFace (s.setVm vm0) y1 := fun {vm0 s} hZ => by
  subst e; exact notFace_of_selects (args := #[]) (mvT (s := s.setVm vm0) hZ w)
theorem Wl.interface (pc' : Nat) {st0 : List Value} {i cnt : Nat} {y1 y2 : MethodName} {K : String} {bs2 : ByteArray} {ml2 : Nat} {rt2 : Option FieldType} {rm : Room} {a : Addr} {argsL : List Value} {sf2 out2 : List Addr} {Q2 : Option Value → Heap → Prop} {ps : List FieldType} {r : Option FieldType}
    (hd : decode bs pc = .ok (.invokeinterface i cnt, 5)) (w1 : (Jvm.Cond.methodLink y.cls i y1).before a0 Z = true) (w2 : (Jvm.Cond.declares y1).before a0 Z = true) (w3 : ∀ {vm0 : Vm} {s : State}, Z.Warmed39 vm0 → (Jvm.Cond.interfaceMethod y1.cls y1.cls y1.name y1.desc).before as (s.setVm vm0) = true) (w4 : (Jvm.Cond.selects K y1 y2).before a0 Z = true) (w5 : (Jvm.Cond.instanceMethod y2).before a0 Z = true) (w6 : (Jvm.Cond.publicMethod y2).before a0 Z = true) (w7 : (Jvm.Cond.unhidden K y1.name y1.desc).before a0 Z = true) (w8 : (Jvm.Cond.castable K y1.cls).before a0 Z = true) (wz : (Jvm.Cond.initialized y2.cls).before a0 Z = true) (wc : (Jvm.Cond.code y2 bs2 ml2 rt2).before a0 Z = true)
    (hE : Exa Z h a K) (hsig : parseMethodDescriptor y1.desc = some ⟨ps, r⟩) (hlen : argsL.length = ps.length) (hM : MetO l Z EL y2 bs2 ml2 rt2 [] rm (.ref a :: argsL).toArray h sf2 out2 Q2) (hsub : ∀ x ∈ sf2, x ∈ sf) (hst : st0 = argsL.reverse ++ .ref a :: st) (hsz : Ls.size = ml) (hp : pc + 5 = pc') (hy : y1.cls ≠ "java/lang/invoke/MethodHandle" ∧ y1.cls ≠ "java/lang/invoke/VarHandle")
    (hroom : (rm.frames + 1 ≤ R.frames ∧ (st.map fun v => v.category).sum + (ml2 + 11) + rm.locals ≤ R.locals) ∧ k + rm.cells ≤ R.cells ∧ n + rm.slots ≤ R.slots)
    (hr : ∀ v h', Q2 v h' → h.size ≤ h'.size → WlO l Z a0 EL y bs ml rt R as out Q sf h' (k + rm.cells) (n + rm.slots) pc' Ls (v.toList ++ st)) : WlO l Z a0 EL y bs ml rt R as out Q sf h k n pc Ls st0 := by
  subst hp
  refine Wl.call (len := 5) hM wc wz hsub hroom.1.1 hroom.1.2 hroom.2.1 hroom.2.2 (fun p e s m below meth c T vm0 locs hx hby hml hown hZ X eT {Post} hK => ?_) (fun _ q => Or.inr q) hr
  obtain ⟨cB, kB, i1, i2, i3⟩ := isOf (s := s.setVm vm0) hZ eT hE
  exact X.interfaceBackS hx (s := s.setVm vm0) hown (mvT hZ w1) (mvT hZ w2) (w3 hZ) (mvT hZ w4) (mvT hZ w5) (mvT hZ w6) (mvT hZ w7) (mvT hZ w8) hy hK i1 i2 i3 (g := mkF m pc Ls st0) rfl (by rw [hml]; exact hsz) (Steps.refl _) (argsL := argsL) (rest := st) (lenOf hsig hlen) hst (by show 2 * 0 + _ ≤ _; omega) (hb hby hd) (fun _ _ => ⟨rfl, eT, hroom.2.1, hroom.2.2⟩)
theorem Wl.interfaceO (pc' : Nat) {st0 : List Value} {i cnt : Nat} {y1 y2 : MethodName} {K : String} {bs2 : ByteArray} {ml2 : Nat} {rt2 : Option FieldType} {rm : Room} {a : Addr} {argsL : List Value} {sf2 : List Addr} {d : Addr} {Q2 : Option Value → Heap → Prop} {ps : List FieldType} {r : Option FieldType}
    (hd : decode bs pc = .ok (.invokeinterface i cnt, 5)) (w1 : (Jvm.Cond.methodLink y.cls i y1).before a0 Z = true) (w2 : (Jvm.Cond.declares y1).before a0 Z = true) (w3 : ∀ {vm0 : Vm} {s : State}, Z.Warmed39 vm0 → (Jvm.Cond.interfaceMethod y1.cls y1.cls y1.name y1.desc).before as (s.setVm vm0) = true) (w4 : (Jvm.Cond.selects K y1 y2).before a0 Z = true) (w5 : (Jvm.Cond.instanceMethod y2).before a0 Z = true) (w6 : (Jvm.Cond.publicMethod y2).before a0 Z = true) (w7 : (Jvm.Cond.unhidden K y1.name y1.desc).before a0 Z = true) (w8 : (Jvm.Cond.castable K y1.cls).before a0 Z = true) (wz : (Jvm.Cond.initialized y2.cls).before a0 Z = true) (wc : (Jvm.Cond.code y2 bs2 ml2 rt2).before a0 Z = true)
    (hE : Exa Z h a K) (hsig : parseMethodDescriptor y1.desc = some ⟨ps, r⟩) (hlen : argsL.length = ps.length) (hM : MetO l Z EL y2 bs2 ml2 rt2 [] rm (.ref a :: argsL).toArray h sf2 [d] Q2) (hsub : ∀ x ∈ sf2, x ∈ sf) (hst : st0 = argsL.reverse ++ .ref a :: st) (hsz : Ls.size = ml) (hp : pc + 5 = pc') (hy : y1.cls ≠ "java/lang/invoke/MethodHandle" ∧ y1.cls ≠ "java/lang/invoke/VarHandle")
    (hroom : (rm.frames + 1 ≤ R.frames ∧ (st.map fun v => v.category).sum + (ml2 + 11) + rm.locals ≤ R.locals) ∧ k + rm.cells ≤ R.cells ∧ n + rm.slots ≤ R.slots)
    (hr : ∀ v h', Q2 v h' → h.size ≤ h'.size → WlO l Z a0 EL y bs ml rt R as out Q (d :: sf) h' (k + rm.cells) (n + rm.slots) pc' Ls (v.toList ++ st)) : WlO l Z a0 EL y bs ml rt R as out Q sf h k n pc Ls st0 := by
  subst hp
  refine Wl.call (len := 5) hM wc wz hsub hroom.1.1 hroom.1.2 hroom.2.1 hroom.2.2 (fun p e s m below meth c T vm0 locs hx hby hml hown hZ X eT {Post} hK => ?_) (fun x q => (List.mem_cons.mp q).elim (fun e => Or.inl (e ▸ List.mem_singleton.mpr rfl)) Or.inr) hr
  obtain ⟨cB, kB, i1, i2, i3⟩ := isOf (s := s.setVm vm0) hZ eT hE
  exact X.interfaceBackS hx (s := s.setVm vm0) hown (mvT hZ w1) (mvT hZ w2) (w3 hZ) (mvT hZ w4) (mvT hZ w5) (mvT hZ w6) (mvT hZ w7) (mvT hZ w8) hy hK i1 i2 i3 (g := mkF m pc Ls st0) rfl (by rw [hml]; exact hsz) (Steps.refl _) (argsL := argsL) (rest := st) (lenOf hsig hlen) hst (by show 2 * 0 + _ ≤ _; omega) (hb hby hd) (fun _ _ => ⟨rfl, eT, hroom.2.1, hroom.2.2⟩)
/-- invokevirtual of a private method -/
theorem Wl.priv (pc' : Nat) {st0 : List Value} {i : Nat} {y2 : MethodName} {K : String} {bs2 : ByteArray} {ml2 : Nat} {rt2 : Option FieldType} {rm : Room} {a : Addr} {argsL : List Value} {sf2 out2 : List Addr} {Q2 : Option Value → Heap → Prop} {ps : List FieldType} {r : Option FieldType}
    (hd : decode bs pc = .ok (.invokevirtual i, 3)) (w1 : (Jvm.Cond.methodLink y.cls i y2).before a0 Z = true) (w2 : (Jvm.Cond.privateMethod y2).before a0 Z = true) (w3 : (Jvm.Cond.selects K y2 y2).before a0 Z = true) (w4 : (Jvm.Cond.instanceMethod y2).before a0 Z = true) (wz : (Jvm.Cond.initialized y2.cls).before a0 Z = true) (wc : (Jvm.Cond.code y2 bs2 ml2 rt2).before a0 Z = true)
    (hE : Exa Z h a K) (hsig : parseMethodDescriptor y2.desc = some ⟨ps, r⟩) (hlen : argsL.length = ps.length) (hM : MetO l Z EL y2 bs2 ml2 rt2 [] rm (.ref a :: argsL).toArray h sf2 out2 Q2) (hsub : ∀ x ∈ sf2, x ∈ sf) (hst : st0 = argsL.reverse ++ .ref a :: st) (hsz : Ls.size = ml) (hp : pc + 3 = pc') (hy : y2.cls ≠ "java/lang/invoke/MethodHandle" ∧ y2.cls ≠ "java/lang/invoke/VarHandle")
    (hroom : (rm.frames + 1 ≤ R.frames ∧ (st.map fun v => v.category).sum + (ml2 + 11) + rm.locals ≤ R.locals) ∧ k + rm.cells ≤ R.cells ∧ n + rm.slots ≤ R.slots)
    (hr : ∀ v h', Q2 v h' → h.size ≤ h'.size → WlO l Z a0 EL y bs ml rt R as out Q sf h' (k + rm.cells) (n + rm.slots) pc' Ls (v.toList ++ st)) : WlO l Z a0 EL y bs ml rt R as out Q sf h k n pc Ls st0 := by
  subst hp
  refine Wl.call (len := 3) hM wc wz hsub hroom.1.1 hroom.1.2 hroom.2.1 hroom.2.2 (fun p e s m below meth c T vm0 locs hx hby hml hown hZ X eT {Post} hK => ?_) (fun _ q => Or.inr q) hr
  obtain ⟨cB, kB, i1, i2, cell, i3, i4, i5⟩ := isOf (s := s.setVm vm0) hZ eT hE
  obtain ⟨mk, methM, hnamed, hmethM, hstM, habM⟩ := Cond.instanceMethod_spec (mvT (s := s.setVm vm0) (args := as) hZ w4)
  obtain ⟨methM', cM, hmethM', -, -, -, -, -, -, hsigM⟩ := Cond.code_spec hnamed (mvT (s := s.setVm vm0) (args := as) hZ wc)
  cases hmethM.symm.trans hmethM'
  obtain ⟨c2, r2, m2, -, -, q3, -, kP, hkP, hkPi⟩ := Cond.selects_spec (mvT (s := s.setVm vm0) (args := as) hZ w3)
  cases hnamed.symm.trans q3
  have hselP : selectMethod e.platform (s.setVm vm0).vm cell.cls mk = .method mk := selectMethod_private hmethM (Cond.privateMethod_at (mvP (s := s.setVm vm0) (args := as) hZ w2) mk methM hnamed hmethM)
  obtain ⟨vm₁, X₁, hstep₁⟩ := X.invokevirtual hx hown (mvT hZ w1) hnamed hmethM hstM hkP hkPi hy (a := a) (cell := cell) i3 (fun z h => by rw [h] at i5; cases i5) hselP hmethM habM hkP hkPi (g := mkF m pc Ls st0) rfl (argsL := argsL) (rest := st) (lenOf hsig hlen _ hsigM) hst (hb hby hd)
  obtain ⟨v, B, X', hS, hgr, hpost, hsteps⟩ := hK m meth c ⟨T.setVm vm₁, locs, k, n⟩ { mkF m pc Ls st0 with stack := st } (.invokevirtual i) mk (.ref a :: argsL).toArray X₁ rfl (by show Ls.size = c.maxLocals; rw [hml]; exact hsz) (hb hby hd) (by show 2 * 0 + (st.map fun v => v.category).sum ≤ (st.map fun v => v.category).sum; omega) (X₁.named hnamed) ⟨rfl, eT, hroom.2.1, hroom.2.2⟩
  exact ⟨v, vm₁, B, X₁.warmed, X', hS, hgr, hpost, (hstep₁ _ fun acts => by rw [doInvoke_state]; exact Steps.refl _).trans hsteps⟩
/-- invokespecial of the superclass's method -/
theorem Wl.up (pc' : Nat) {st0 : List Value} {i : Nat} {y2 : MethodName} {K : String} {bs2 : ByteArray} {ml2 : Nat} {rt2 : Option FieldType} {rm : Room} {a : Addr} {argsL : List Value} {sf2 out2 : List Addr} {Q2 : Option Value → Heap → Prop} {ps : List FieldType} {r : Option FieldType}
    (hd : decode bs pc = .ok (.invokespecial i, 3)) (w1 : (Jvm.Cond.methodLink y.cls i y2).before a0 Z = true) (w2 : (Jvm.Cond.sameMethod y2.cls y2.cls y2.name y2.desc).before a0 Z = true) (w3 : (Jvm.Cond.instanceMethod y2).before a0 Z = true) (w4 : (Jvm.Cond.superclass y.cls y2.cls).before a0 Z = true) (wz : (Jvm.Cond.initialized y2.cls).before a0 Z = true) (wc : (Jvm.Cond.code y2 bs2 ml2 rt2).before a0 Z = true)
    (hE : Exa Z h a K) (hsig : parseMethodDescriptor y2.desc = some ⟨ps, r⟩) (hlen : argsL.length = ps.length) (hM : MetO l Z EL y2 bs2 ml2 rt2 [] rm (.ref a :: argsL).toArray h sf2 out2 Q2) (hsub : ∀ x ∈ sf2, x ∈ sf) (hst : st0 = argsL.reverse ++ .ref a :: st) (hsz : Ls.size = ml) (hp : pc + 3 = pc') (hni : y2.name ≠ "<init>")
    (hroom : (rm.frames + 1 ≤ R.frames ∧ (st.map fun v => v.category).sum + (ml2 + 11) + rm.locals ≤ R.locals) ∧ k + rm.cells ≤ R.cells ∧ n + rm.slots ≤ R.slots)
    (hr : ∀ v h', Q2 v h' → h.size ≤ h'.size → WlO l Z a0 EL y bs ml rt R as out Q sf h' (k + rm.cells) (n + rm.slots) pc' Ls (v.toList ++ st)) : WlO l Z a0 EL y bs ml rt R as out Q sf h k n pc Ls st0 := by
  subst hp
  refine Wl.call (len := 3) hM wc wz hsub hroom.1.1 hroom.1.2 hroom.2.1 hroom.2.2 (fun p e s m below meth c T vm0 locs hx hby hml hown hZ X eT {Post} hK => ?_) (fun _ q => Or.inr q) hr
  exact superBackS X hx (s := s.setVm vm0) hZ hown w1 w2 w3 w4 hni hK eT (Ins.self hE) (g := mkF m pc Ls st0) rfl (by rw [hml]; exact hsz) wc (argsL := argsL) (rest := st) (lenOf hsig hlen) hst (by show 2 * 0 + _ ≤ _; omega) (hb hby hd) (fun _ _ => ⟨rfl, eT, hroom.2.1, hroom.2.2⟩)
/-- a class that declares y and is seen as no interface elsewhere -/
theorem nf_cls {K : String} {y1 y2 : MethodName} (wd : (Jvm.Cond.declares y1).before a0 Z = true) (w : (Jvm.Cond.selects K y2 y2).before a0 Z = true) (e : y2.cls = y1.cls) : ∀ {vm0 : Vm} {s : State}, Z.Warmed39 vm0 → NotFace (s.setVm vm0) y1 := fun {vm0 s} hZ r0 h0 => by
  obtain ⟨c2, r2, m2, q1, q2, q3, q4, kP, hkP, hkPi⟩ := Cond.selects_spec (mvT (s := s.setVm vm0) (args := #[]) hZ w)
  have hc0 := findClass_of_methodNamed h0
  have hc1 := findClass_of_methodNamed q3
  rw [e] at hc1
  have q := Option.some.inj (hc0.symm.trans hc1)
  exact ⟨kP, by rw [q]; exact hkP, hkPi⟩
/-- a String constant of the pool, read -/
theorem Wl.ldcS (pc' : Nat) {i : Nat} {text : String} {vs : List Value} {z : Int32} (cap : Nat) (hd : decode bs pc = .ok (.ldc i, 2)) (w : (Jvm.Cond.stringLink y.cls i text).before a0 Z = true) (wS : ∀ a ∈ Bundle.stringAtoms, a.before a0 Z = true) (hmem : (y.cls, i) ∈ EL)
    (ht : (∀ c ∈ text.toList, c.toNat < 256) ∧ text.toList.map (fun c => Value.int (Jvm.Lit.byteI c.toNat.toUInt16)) = vs) (hz : ¬ z < 0) (hl : z.toNatClampNeg = vs.length) (hn : 4 * text.toList.length ≤ cap) (hbig : cap ≤ 536870912) (hc : k + 2 ≤ R.cells) (hl' : n + (cap + 4) ≤ R.slots)
    (hr : ∀ (a : Addr) (h' : Heap) (b : Addr) (kc : ClassId), Ext h h' → Exa Z h' a "java/lang/String" → Fld Z h' a "java/lang/String" "coder" "B" (.int 0) → Fld Z h' a "java/lang/String" "value" "[B" (.ref b) → Arv Z h' b kc .byte z vs (.int 0) → (∀ x ∈ sf, x ≠ a ∧ x ≠ b) → WlO l Z a0 EL y bs ml rt R as out Q sf h' (k + 2) (n + (cap + 4)) pc' Ls (.ref a :: st)) (hp : pc + 2 = pc' := by rfl) : WlO l Z a0 EL y bs ml rt R as out Q sf h k n pc Ls st := by
  subst hp
  intro p e s m below meth c T W
  obtain ⟨A, vm0, locs, k0, X, eT, hS, hk, hF, hZ, hC, hM, hH⟩ := W
  obtain ⟨a, T', h', k1, b, kc, X', e', E, hS', hk', hZ', hown', r1, r2, r3, r4, r5, r6, hC', r7, r8, stp⟩ := ldcCH X A.1 hZ (by rw [hS.1.alike.findClass]; exact A.2.2.2.2.2.2.1) w wS eT hS hk A.2.2.2.2.2.2.2.1 hmem hC.1 ht hz hl (g := mkF m pc Ls st) rfl (hb A.2.1 hd) hn hbig hc hl'
  exact Go.of stp (hr a h' b kc E r1 r2 r3 r4 (fun x hx => r8 x ((hM.chr hC') x hx).1) p e s m below meth c T' ⟨A, T'.vm, locs, k1, X', e', hS', hk', hF, hZ', hC.trans hC', hM.chr hC', fun q => by rw [q] at hmem; cases hmem⟩)
end OwnKit

/-! own small facts on ints, chars, lists and heaps -/
section OwnNums
theorem extTr {h h1 h2 : Heap} (A : Ext h h1) (B : Ext h1 h2) : Ext h h2 := ⟨Nat.le_trans A.1 B.1, fun a c q => B.2 a c (A.2 a c q)⟩
theorem ext_rfl (h : Heap) : Ext h h := ⟨Nat.le_refl _, fun _ _ q => q⟩
theorem extKeep {h h1 h2 : Heap} {ws : List Addr} (A : Ext h h1) (K : Keep h1 h2 ws) (q : ∀ x ∈ ws, h.size ≤ x) : Ext h h2 :=
  ⟨Nat.le_trans A.1 K.1, fun a c r => K.2.1 a c (A.2 a c r) fun z => absurd (Array.getElem?_eq_some_iff.mp r).1 (Nat.not_lt.mpr (q a z))⟩
theorem extWr {h h1 h2 : Heap} {a : Addr} {sl : Nat} {v : Value} (A : Ext h h1) (W : Wr h1 h2 a sl v) (q : h.size ≤ a) : Ext h h2 := extKeep A (Keep.of_wr W) (allS q all0)
/-- a char; a char below 256 -/
abbrev Ch (x : Int32) : Prop := 0 ≤ x.toInt ∧ x.toInt < 65536
abbrev Lat (x : Int32) : Prop := 0 ≤ x.toInt ∧ x.toInt < 256
theorem Lat.ch {x : Int32} (q : Lat x) : Ch x := ⟨q.1, by have := q.2; omega⟩
theorem i2c_ch (x : Int32) : Ch x.toUInt32.toUInt16.toUInt32.toInt32 := (c_i2c x).2
theorem i2c_id {x : Int32} (q : Ch x) : x.toUInt32.toUInt16.toUInt32.toInt32 = x := by
  have h := c_i2c x
  apply Int32.toInt_inj.mp
  have := q.1; have := q.2
  omega
theorem nar_ch {x : Int32} (q : Ch x) : nar .char x = x := i2c_id q
theorem mask_lat (x : Int32) : Lat (x &&& 255) := by
  have h := c_and x 255 (by decide)
  have e : (255 : Int32).toInt = 255 := by decide
  exact ⟨h.1, by have := h.2; omega⟩
theorem i2c_mask_lat (x : Int32) : Lat ((x &&& 255).toUInt32.toUInt16.toUInt32.toInt32) := by rw [i2c_id (mask_lat x).ch]; exact mask_lat x
theorem i2b_id (x : Int32) : x.toInt8.toInt32.toInt8.toInt32 = x.toInt8.toInt32 := by simp
/-- small nats as ints -/
theorem nI {i : Nat} (hi : i < 2147483648) : (Int32.ofNat i).toInt = i := Int32.toInt_ofNat_small hi
theorem nCl {i : Nat} (hi : i < 2147483648) : (Int32.ofNat i).toNatClampNeg = i := by rw [Int32.toNatClampNeg, nI hi]; simp
theorem nNn {i : Nat} (hi : i < 2147483648) : ¬ Int32.ofNat i < 0 := by rw [Int32.lt_iff_toInt_lt, nI hi]; simp
theorem nLt {i j : Nat} (hi : i < 2147483648) (hj : j < 2147483648) : Int32.ofNat i < Int32.ofNat j ↔ i < j := by rw [Int32.lt_iff_toInt_lt, nI hi, nI hj]; omega
theorem nEq {i j : Nat} (hi : i < 2147483648) (hj : j < 2147483648) : Int32.ofNat i = Int32.ofNat j ↔ i = j := by rw [← Int32.toInt_inj, nI hi, nI hj]; omega
theorem nS (i : Nat) : Int32.ofNat i + 1 = Int32.ofNat (i + 1) := by simp [Int32.ofNat_add]
theorem nAdd (i j : Nat) : Int32.ofNat i + Int32.ofNat j = Int32.ofNat (i + j) := by simp [Int32.ofNat_add]
theorem nSub {i j : Nat} (hj : j ≤ i) (hi : i < 2147483648) : Int32.ofNat i - Int32.ofNat j = Int32.ofNat (i - j) := by
  apply Int32.toInt_inj.mp
  have h := c_isub (Int32.ofNat i) (Int32.ofNat j)
  have r := rng32 (Int32.ofNat i - Int32.ofNat j)
  rw [nI hi, nI (by omega)] at h
  rw [nI (by omega)]
  omega
/-- a byte read back -/
theorem lo8 {c : Int32} (q : Lat c) : c.toInt8.toInt32 &&& 255 = c := by
  apply Int32.toInt_inj.mp
  have h1 := c_mask c.toInt8.toInt32 255 8 (by decide) (by decide)
  have h2 := c_i2b c
  have := q.1; have := q.2
  omega
theorem lat_le {c : Int32} (q : Lat c) : ¬ (255 : Int32) < c := by
  rw [Int32.lt_iff_toInt_lt]
  have e : (255 : Int32).toInt = 255 := by decide
  have := q.2; omega
def byV (c : Int32) : Value := .int c.toInt8.toInt32
/-- a list filled from the left -/
def fil {α : Type} (xs : List α) (z : α) (i : Nat) : List α := xs.take i ++ List.replicate (xs.length - i) z
theorem fil_len {α : Type} (xs : List α) (z : α) (i : Nat) (hi : i ≤ xs.length) : (fil xs z i).length = xs.length := by simp [fil]; omega
theorem fil_zero {α : Type} (xs : List α) (z : α) : fil xs z 0 = List.replicate xs.length z := by simp [fil]
theorem fil_all {α : Type} (xs : List α) (z : α) : fil xs z xs.length = xs := by simp [fil]
theorem fil_set {α : Type} (xs : List α) (z v : α) (i : Nat) (hi : i < xs.length) (hv : xs[i] = v) : (fil xs z i).set i v = fil xs z (i + 1) := by
  subst hv
  apply List.ext_getElem?
  intro j
  simp only [fil, List.getElem?_set, List.getElem?_append, List.length_take, List.getElem?_take, List.getElem?_replicate, List.length_append, List.length_replicate]
  rw [show min i xs.length = i by omega, show min (i + 1) xs.length = i + 1 by omega]
  by_cases h1 : i = j
  · subst h1
    rw [if_pos rfl, if_pos (by omega), if_pos (by omega), if_pos (by omega)]
    exact (List.getElem?_eq_getElem hi).symm
  · rw [if_neg h1]
    by_cases h2 : j < i
    · rw [if_pos h2, if_pos h2, if_pos (by omega), if_pos (by omega)]
    · rw [if_neg h2, if_neg (show ¬ j < i + 1 by omega)]
      by_cases h3 : j - i < xs.length - i
      · rw [if_pos h3, if_pos (by omega)]
      · rw [if_neg h3, if_neg (by omega)]
theorem narC {x : Int32} (q : Ch x) : narrow .char (.int x) = .int x := by have := Jvm.Free.XT.narrow_c x; rwa [i2c_id q] at this
theorem ref_cat {v : Value} (r : v.isRef = true) : v.category = 1 := by cases v <;> first | rfl | (simp [Value.isRef] at r)
theorem latNn {c : Int32} (q : Lat c) : ¬ c < 0 := by
  rw [Int32.lt_iff_toInt_lt, show (0 : Int32).toInt = 0 by decide]
  have := q.1
  omega
theorem small30 {n : Nat} (h : n < 1048576) : Int32.ofNat n < 1073741823 := by
  rw [Int32.lt_iff_toInt_lt, nI (by omega), show (1073741823 : Int32).toInt = 1073741823 by decide]
  omega
end OwnNums
/-! a Latin-1 String: its chars -/
def Stl (Z : State) (h : Heap) (a : Addr) (cs : List Int32) : Prop :=
  ∃ (b : Addr) (kb : ClassId), Exa Z h a "java/lang/String" ∧ Fld Z h a "java/lang/String" "coder" "B" (.int 0) ∧ Fld Z h a "java/lang/String" "value" "[B" (.ref b) ∧ Arv Z h b kb .byte (Int32.ofNat cs.length) (cs.map byV) (.int 0) ∧ (∀ c ∈ cs, Lat c) ∧ cs.length < 65536
theorem Stl.ext {Z : State} {h h' : Heap} {a : Addr} {cs : List Int32} (S : Stl Z h a cs) (E : Ext h h') : Stl Z h' a cs := by
  obtain ⟨b, kb, h1, h2, h3, h4, r⟩ := S
  exact ⟨b, kb, h1.ext E, h2.ext E, h3.ext E, h4.ext E, r⟩
theorem Stl.exa {Z : State} {h : Heap} {a : Addr} {cs : List Int32} (S : Stl Z h a cs) : Exa Z h a "java/lang/String" := by obtain ⟨b, kb, h1, -⟩ := S; exact h1
/-- a char[] that holds cs -/
def Cha (Z : State) (h : Heap) (b : Addr) (cs : List Int32) : Prop := ∃ kb, Arv Z h b kb .char (Int32.ofNat cs.length) (cs.map Value.int) (.int 0)
theorem Cha.ext {Z : State} {h h' : Heap} {a : Addr} {cs : List Int32} (S : Cha Z h a cs) (E : Ext h h') : Cha Z h' a cs := by obtain ⟨k, A⟩ := S; exact ⟨k, A.ext E⟩
/-- compact strings are on -/
def CSon (Z : State) : Prop := ∃ c : Int32, Sta Z Z.heap "java/lang/String" "COMPACT_STRINGS" "Z" (.int c) ∧ c ≠ 0
theorem nle {n m : Nat} (h : Nat.ble n m = true) : n ≤ m := Nat.le_of_ble_eq_true h
theorem narO {v : Value} {s : String} (r : v.isRef = true) : narrow (.object s) v = v := by cases v <;> first | rfl | (simp [Value.isRef] at r)
theorem fitO {v : Value} {s : String} (r : v.isRef = true) : fits (.object s) v = true := by cases v <;> first | rfl | (simp [Value.isRef] at r)
theorem latN : ∀ c ∈ ([] : List Int32), Lat c := fun _ q => nomatch q
theorem latC {x : Int32} {xs : List Int32} (p : Lat x) (r : ∀ c ∈ xs, Lat c) : ∀ c ∈ x :: xs, Lat c := fun c q => (List.mem_cons.mp q).elim (fun e => e ▸ p) (r c)

theorem pn_str : plainName "java/lang/String" = true := by first | (simp [plainName, overriddenIn]; done) | decide +kernel
section Words
variable {Z : State} {a0 : Array Value}
theorem w0 (hw : ∀ d ∈ tables_1, d.before a0 Z = true) : (Jvm.Cond.fieldLink "com/example/grantwork/grantwork/TokenIsKeywordPinLaw" (16 : Nat) "com/example/grantwork/grantwork/Token$Kind" "WORD" "Lcom/example/grantwork/grantwork/Token$Kind;").before a0 Z = true := hw _ (List.mem_of_getElem? (i := 0) rfl)
theorem w1 (hw : ∀ d ∈ tables_1, d.before a0 Z = true) : (Jvm.Cond.initialized "com/example/grantwork/grantwork/Token$Kind").before a0 Z = true := hw _ (List.mem_of_getElem? (i := 1) rfl)
theorem w2 (hw : ∀ d ∈ tables_1, d.before a0 Z = true) : (Jvm.Cond.laysStatic "com/example/grantwork/grantwork/Token$Kind" "WORD" "Lcom/example/grantwork/grantwork/Token$Kind;").before a0 Z = true := hw _ (List.mem_of_getElem? (i := 2) rfl)
theorem w3 (hw : ∀ d ∈ tables_1, d.before a0 Z = true) : (Jvm.Cond.methodLink "com/example/grantwork/grantwork/TokenIsKeywordPinLaw" (19 : Nat) ({ cls := "com/example/grantwork/grantwork/TokenIsKeywordPinLaw", name := "textChar", desc := "(JII)C" } : Jvm.MethodName)).before a0 Z = true := hw _ (List.mem_of_getElem? (i := 3) rfl)
theorem w4 (hw : ∀ d ∈ tables_1, d.before a0 Z = true) : (Jvm.Cond.static ({ cls := "com/example/grantwork/grantwork/TokenIsKeywordPinLaw", name := "textChar", desc := "(JII)C" } : Jvm.MethodName)).before a0 Z = true := hw _ (List.mem_of_getElem? (i := 4) rfl)
theorem w5 (hw : ∀ d ∈ tables_1, d.before a0 Z = true) : (Jvm.Cond.initialized "com/example/grantwork/grantwork/TokenIsKeywordPinLaw").before a0 Z = true := hw _ (List.mem_of_getElem? (i := 5) rfl)
theorem w6 (hw : ∀ d ∈ tables_1, d.before a0 Z = true) : (Jvm.Cond.code ({ cls := "com/example/grantwork/grantwork/TokenIsKeywordPinLaw", name := "textChar", desc := "(JII)C" } : Jvm.MethodName) method_3_code (6 : Nat) (Option.some Jvm.ClassFile.FieldType.char)).before a0 Z = true := hw _ (List.mem_of_getElem? (i := 6) rfl)
theorem w7 (hw : ∀ d ∈ tables_1, d.before a0 Z = true) : (Jvm.Cond.constantLong "com/example/grantwork/grantwork/TokenIsKeywordPinLaw" (46 : Nat) (255 : Int64)).before a0 Z = true := hw _ (List.mem_of_getElem? (i := 7) rfl)
theorem w8 (hw : ∀ d ∈ tables_1, d.before a0 Z = true) : (Jvm.Cond.methodLink "com/example/grantwork/grantwork/TokenIsKeywordPinLaw" (25 : Nat) ({ cls := "com/example/grantwork/grantwork/TokenIsKeywordPinLaw", name := "keyChar", desc := "(CJII)C" } : Jvm.MethodName)).before a0 Z = true := hw _ (List.mem_of_getElem? (i := 8) rfl)
theorem w9 (hw : ∀ d ∈ tables_1, d.before a0 Z = true) : (Jvm.Cond.static ({ cls := "com/example/grantwork/grantwork/TokenIsKeywordPinLaw", name := "keyChar", desc := "(CJII)C" } : Jvm.MethodName)).before a0 Z = true := hw _ (List.mem_of_getElem? (i := 9) rfl)
theorem w10 (hw : ∀ d ∈ tables_1, d.before a0 Z = true) : (Jvm.Cond.code ({ cls := "com/example/grantwork/grantwork/TokenIsKeywordPinLaw", name := "keyChar", desc := "(CJII)C" } : Jvm.MethodName) method_4_code (7 : Nat) (Option.some Jvm.ClassFile.FieldType.char)).before a0 Z = true := hw _ (List.mem_of_getElem? (i := 10) rfl)
theorem w11 (hw : ∀ d ∈ tables_1, d.before a0 Z = true) : (Jvm.Cond.methodLink "com/example/grantwork/grantwork/TokenIsKeywordPinLaw" (29 : Nat) ({ cls := "com/example/grantwork/grantwork/TokenIsKeywordPinLaw", name := "str", desc := "(CCCI)Ljava/lang/String;" } : Jvm.MethodName)).before a0 Z = true := hw _ (List.mem_of_getElem? (i := 11) rfl)
theorem w12 (hw : ∀ d ∈ tables_1, d.before a0 Z = true) : (Jvm.Cond.static ({ cls := "com/example/grantwork/grantwork/TokenIsKeywordPinLaw", name := "str", desc := "(CCCI)Ljava/lang/String;" } : Jvm.MethodName)).before a0 Z = true := hw _ (List.mem_of_getElem? (i := 12) rfl)
theorem w13 (hw : ∀ d ∈ tables_1, d.before a0 Z = true) : (Jvm.Cond.code ({ cls := "com/example/grantwork/grantwork/TokenIsKeywordPinLaw", name := "str", desc := "(CCCI)Ljava/lang/String;" } : Jvm.MethodName) method_6_code (4 : Nat) (Option.some (Jvm.ClassFile.FieldType.object "java/lang/String"))).before a0 Z = true := hw _ (List.mem_of_getElem? (i := 13) rfl)
theorem w14 (hw : ∀ d ∈ tables_1, d.before a0 Z = true) : (Jvm.Cond.classLink "com/example/grantwork/grantwork/TokenIsKeywordPinLaw" (50 : Nat) "java/lang/String").before a0 Z = true := hw _ (List.mem_of_getElem? (i := 14) rfl)
theorem w15 (hw : ∀ d ∈ tables_1, d.before a0 Z = true) : (Jvm.Cond.instantiable "java/lang/String" (4 : Nat)).before a0 Z = true := hw _ (List.mem_of_getElem? (i := 15) rfl)
theorem w16 (hw : ∀ d ∈ tables_1, d.before a0 Z = true) : (Jvm.Cond.initialized "java/lang/String").before a0 Z = true := hw _ (List.mem_of_getElem? (i := 16) rfl)
theorem w17 (hw : ∀ d ∈ tables_1, d.before a0 Z = true) : (Jvm.Cond.arrayClass Jvm.ClassFile.FieldType.char).before a0 Z = true := hw _ (List.mem_of_getElem? (i := 17) rfl)
theorem w18 (hw : ∀ d ∈ tables_1, d.before a0 Z = true) : (Jvm.Cond.methodLink "com/example/grantwork/grantwork/TokenIsKeywordPinLaw" (52 : Nat) ({ cls := "java/lang/String", name := "<init>", desc := "([C)V" } : Jvm.MethodName)).before a0 Z = true := hw _ (List.mem_of_getElem? (i := 18) rfl)
theorem w19 (hw : ∀ d ∈ tables_1, d.before a0 Z = true) : (Jvm.Cond.instanceMethod ({ cls := "java/lang/String", name := "<init>", desc := "([C)V" } : Jvm.MethodName)).before a0 Z = true := hw _ (List.mem_of_getElem? (i := 19) rfl)
theorem w20 (hw : ∀ d ∈ tables_1, d.before a0 Z = true) : (Jvm.Cond.code ({ cls := "java/lang/String", name := "<init>", desc := "([C)V" } : Jvm.MethodName) jdk_42_method_3_code (2 : Nat) (Option.none : Option Jvm.ClassFile.FieldType)).before a0 Z = true := hw _ (List.mem_of_getElem? (i := 20) rfl)
theorem w21 (hw : ∀ d ∈ tables_1, d.before a0 Z = true) : (Jvm.Cond.methodLink "java/lang/String" (27 : Nat) ({ cls := "java/lang/String", name := "<init>", desc := "([CIILjava/lang/Void;)V" } : Jvm.MethodName)).before a0 Z = true := hw _ (List.mem_of_getElem? (i := 21) rfl)
theorem w22 (hw : ∀ d ∈ tables_1, d.before a0 Z = true) : (Jvm.Cond.instanceMethod ({ cls := "java/lang/String", name := "<init>", desc := "([CIILjava/lang/Void;)V" } : Jvm.MethodName)).before a0 Z = true := hw _ (List.mem_of_getElem? (i := 22) rfl)
theorem w24 (hw : ∀ d ∈ tables_1, d.before a0 Z = true) : (Jvm.Cond.code ({ cls := "java/lang/String", name := "<init>", desc := "([CIILjava/lang/Void;)V" } : Jvm.MethodName) jdk_42_method_149_code (6 : Nat) (Option.none : Option Jvm.ClassFile.FieldType)).before a0 Z = true := hw _ (List.mem_of_getElem? (i := 24) rfl)
theorem w25 (hw : ∀ d ∈ tables_1, d.before a0 Z = true) : (Jvm.Cond.methodLink "java/lang/String" (1 : Nat) ({ cls := "java/lang/Object", name := "<init>", desc := "()V" } : Jvm.MethodName)).before a0 Z = true := hw _ (List.mem_of_getElem? (i := 25) rfl)
theorem w26 (hw : ∀ d ∈ tables_1, d.before a0 Z = true) : (Jvm.Cond.instanceMethod ({ cls := "java/lang/Object", name := "<init>", desc := "()V" } : Jvm.MethodName)).before a0 Z = true := hw _ (List.mem_of_getElem? (i := 26) rfl)
theorem w27 (hw : ∀ d ∈ tables_1, d.before a0 Z = true) : (Jvm.Cond.code ({ cls := "java/lang/Object", name := "<init>", desc := "()V" } : Jvm.MethodName) object_method_1_code (1 : Nat) (Option.none : Option Jvm.ClassFile.FieldType)).before a0 Z = true := hw _ (List.mem_of_getElem? (i := 27) rfl)
theorem w28 (hw : ∀ d ∈ tables_1, d.before a0 Z = true) : (Jvm.Cond.stringLink "java/lang/String" (7 : Nat) "").before a0 Z = true := hw _ (List.mem_of_getElem? (i := 28) rfl)
theorem w29 (hw : ∀ d ∈ tables_1, d.before a0 Z = true) : (Jvm.Cond.arrayClass Jvm.ClassFile.FieldType.byte).before a0 Z = true := hw _ (List.mem_of_getElem? (i := 29) rfl)
theorem w30 (hw : ∀ d ∈ tables_1, d.before a0 Z = true) : (Jvm.Cond.laysFinal "java/lang/String" "java/lang/String" "value" "[B").before a0 Z = true := hw _ (List.mem_of_getElem? (i := 30) rfl)
theorem w31 (hw : ∀ d ∈ tables_1, d.before a0 Z = true) : (Jvm.Cond.laysFinal "java/lang/String" "java/lang/String" "coder" "B").before a0 Z = true := hw _ (List.mem_of_getElem? (i := 31) rfl)
theorem w32 (hw : ∀ d ∈ tables_1, d.before a0 Z = true) : (Jvm.Cond.soleField "java/lang/String" "value").before a0 Z = true := hw _ (List.mem_of_getElem? (i := 32) rfl)
theorem w33 (hw : ∀ d ∈ tables_1, d.before a0 Z = true) : (Jvm.Cond.soleField "java/lang/String" "coder").before a0 Z = true := hw _ (List.mem_of_getElem? (i := 33) rfl)
theorem w34 (hw : ∀ d ∈ tables_1, d.before a0 Z = true) : (Jvm.Cond.fieldLink "java/lang/String" (9 : Nat) "java/lang/String" "value" "[B").before a0 Z = true := hw _ (List.mem_of_getElem? (i := 34) rfl)
theorem w35 (hw : ∀ d ∈ tables_1, d.before a0 Z = true) : (Jvm.Cond.fieldLink "java/lang/String" (15 : Nat) "java/lang/String" "coder" "B").before a0 Z = true := hw _ (List.mem_of_getElem? (i := 35) rfl)
theorem w36 (hw : ∀ d ∈ tables_1, d.before a0 Z = true) : (Jvm.Cond.classLink "com/example/grantwork/grantwork/TokenIsKeywordPinLaw" (33 : Nat) "com/example/grantwork/grantwork/Token").before a0 Z = true := hw _ (List.mem_of_getElem? (i := 36) rfl)
theorem w37 (hw : ∀ d ∈ tables_1, d.before a0 Z = true) : (Jvm.Cond.instantiable "com/example/grantwork/grantwork/Token" (4 : Nat)).before a0 Z = true := hw _ (List.mem_of_getElem? (i := 37) rfl)
theorem w38 (hw : ∀ d ∈ tables_1, d.before a0 Z = true) : (Jvm.Cond.initialized "com/example/grantwork/grantwork/Token").before a0 Z = true := hw _ (List.mem_of_getElem? (i := 38) rfl)
theorem w39 (hw : ∀ d ∈ tables_1, d.before a0 Z = true) : (Jvm.Cond.methodLink "com/example/grantwork/grantwork/TokenIsKeywordPinLaw" (35 : Nat) ({ cls := "com/example/grantwork/grantwork/Token", name := "<init>", desc := "(Lcom/example/grantwork/grantwork/Token$Kind;Ljava/lang/String;JI)V" } : Jvm.MethodName)).before a0 Z = true := hw _ (List.mem_of_getElem? (i := 39) rfl)
theorem w40 (hw : ∀ d ∈ tables_1, d.before a0 Z = true) : (Jvm.Cond.instanceMethod ({ cls := "com/example/grantwork/grantwork/Token", name := "<init>", desc := "(Lcom/example/grantwork/grantwork/Token$Kind;Ljava/lang/String;JI)V" } : Jvm.MethodName)).before a0 Z = true := hw _ (List.mem_of_getElem? (i := 40) rfl)
theorem w41 (hw : ∀ d ∈ tables_1, d.before a0 Z = true) : (Jvm.Cond.code ({ cls := "com/example/grantwork/grantwork/Token", name := "<init>", desc := "(Lcom/example/grantwork/grantwork/Token$Kind;Ljava/lang/String;JI)V" } : Jvm.MethodName) prog_70_method_1_code (6 : Nat) (Option.none : Option Jvm.ClassFile.FieldType)).before a0 Z = true := hw _ (List.mem_of_getElem? (i := 41) rfl)
theorem w42 (hw : ∀ d ∈ tables_1, d.before a0 Z = true) : (Jvm.Cond.methodLink "com/example/grantwork/grantwork/Token" (1 : Nat) ({ cls := "java/lang/Record", name := "<init>", desc := "()V" } : Jvm.MethodName)).before a0 Z = true := hw _ (List.mem_of_getElem? (i := 42) rfl)
theorem w43 (hw : ∀ d ∈ tables_1, d.before a0 Z = true) : (Jvm.Cond.instanceMethod ({ cls := "java/lang/Record", name := "<init>", desc := "()V" } : Jvm.MethodName)).before a0 Z = true := hw _ (List.mem_of_getElem? (i := 43) rfl)
theorem w45 (hw : ∀ d ∈ tables_1, d.before a0 Z = true) : (Jvm.Cond.initialized "java/lang/Record").before a0 Z = true := hw _ (List.mem_of_getElem? (i := 45) rfl)
theorem w46 (hw : ∀ d ∈ tables_1, d.before a0 Z = true) : (Jvm.Cond.code ({ cls := "java/lang/Record", name := "<init>", desc := "()V" } : Jvm.MethodName) jdk_30_method_1_code (1 : Nat) (Option.none : Option Jvm.ClassFile.FieldType)).before a0 Z = true := hw _ (List.mem_of_getElem? (i := 46) rfl)
theorem w47 (hw : ∀ d ∈ tables_1, d.before a0 Z = true) : (Jvm.Cond.methodLink "java/lang/Record" (1 : Nat) ({ cls := "java/lang/Object", name := "<init>", desc := "()V" } : Jvm.MethodName)).before a0 Z = true := hw _ (List.mem_of_getElem? (i := 47) rfl)
theorem w48 (hw : ∀ d ∈ tables_1, d.before a0 Z = true) : (Jvm.Cond.fieldLink "com/example/grantwork/grantwork/Token" (7 : Nat) "com/example/grantwork/grantwork/Token" "kind" "Lcom/example/grantwork/grantwork/Token$Kind;").before a0 Z = true := hw _ (List.mem_of_getElem? (i := 48) rfl)
theorem w49 (hw : ∀ d ∈ tables_1, d.before a0 Z = true) : (Jvm.Cond.laysFinal "com/example/grantwork/grantwork/Token" "com/example/grantwork/grantwork/Token" "kind" "Lcom/example/grantwork/grantwork/Token$Kind;").before a0 Z = true := hw _ (List.mem_of_getElem? (i := 49) rfl)
theorem w50 (hw : ∀ d ∈ tables_1, d.before a0 Z = true) : (Jvm.Cond.fieldLink "com/example/grantwork/grantwork/Token" (13 : Nat) "com/example/grantwork/grantwork/Token" "text" "Ljava/lang/String;").before a0 Z = true := hw _ (List.mem_of_getElem? (i := 50) rfl)
theorem w51 (hw : ∀ d ∈ tables_1, d.before a0 Z = true) : (Jvm.Cond.laysFinal "com/example/grantwork/grantwork/Token" "com/example/grantwork/grantwork/Token" "text" "Ljava/lang/String;").before a0 Z = true := hw _ (List.mem_of_getElem? (i := 51) rfl)
theorem w52 (hw : ∀ d ∈ tables_1, d.before a0 Z = true) : (Jvm.Cond.fieldLink "com/example/grantwork/grantwork/Token" (17 : Nat) "com/example/grantwork/grantwork/Token" "length" "J").before a0 Z = true := hw _ (List.mem_of_getElem? (i := 52) rfl)
theorem w53 (hw : ∀ d ∈ tables_1, d.before a0 Z = true) : (Jvm.Cond.laysFinal "com/example/grantwork/grantwork/Token" "com/example/grantwork/grantwork/Token" "length" "J").before a0 Z = true := hw _ (List.mem_of_getElem? (i := 53) rfl)
theorem w54 (hw : ∀ d ∈ tables_1, d.before a0 Z = true) : (Jvm.Cond.fieldLink "com/example/grantwork/grantwork/Token" (21 : Nat) "com/example/grantwork/grantwork/Token" "line" "I").before a0 Z = true := hw _ (List.mem_of_getElem? (i := 54) rfl)
theorem w55 (hw : ∀ d ∈ tables_1, d.before a0 Z = true) : (Jvm.Cond.laysFinal "com/example/grantwork/grantwork/Token" "com/example/grantwork/grantwork/Token" "line" "I").before a0 Z = true := hw _ (List.mem_of_getElem? (i := 55) rfl)
theorem w56 (hw : ∀ d ∈ tables_1, d.before a0 Z = true) : (Jvm.Cond.methodLink "com/example/grantwork/grantwork/TokenIsKeywordPinLaw" (42 : Nat) ({ cls := "com/example/grantwork/grantwork/Token", name := "isKeyword", desc := "(Ljava/lang/String;)Z" } : Jvm.MethodName)).before a0 Z = true := hw _ (List.mem_of_getElem? (i := 56) rfl)
theorem w57 (hw : ∀ d ∈ tables_1, d.before a0 Z = true) : (Jvm.Cond.declares ({ cls := "com/example/grantwork/grantwork/Token", name := "isKeyword", desc := "(Ljava/lang/String;)Z" } : Jvm.MethodName)).before a0 Z = true := hw _ (List.mem_of_getElem? (i := 57) rfl)
theorem w58 (hw : ∀ d ∈ tables_1, d.before a0 Z = true) : (Jvm.Cond.instanceMethod ({ cls := "com/example/grantwork/grantwork/Token", name := "isKeyword", desc := "(Ljava/lang/String;)Z" } : Jvm.MethodName)).before a0 Z = true := hw _ (List.mem_of_getElem? (i := 58) rfl)
theorem w59 (hw : ∀ d ∈ tables_1, d.before a0 Z = true) : (Jvm.Cond.selects "com/example/grantwork/grantwork/Token" ({ cls := "com/example/grantwork/grantwork/Token", name := "isKeyword", desc := "(Ljava/lang/String;)Z" } : Jvm.MethodName) ({ cls := "com/example/grantwork/grantwork/Token", name := "isKeyword", desc := "(Ljava/lang/String;)Z" } : Jvm.MethodName)).before a0 Z = true := hw _ (List.mem_of_getElem? (i := 59) rfl)
theorem w60 (hw : ∀ d ∈ tables_1, d.before a0 Z = true) : (Jvm.Cond.code ({ cls := "com/example/grantwork/grantwork/Token", name := "isKeyword", desc := "(Ljava/lang/String;)Z" } : Jvm.MethodName) prog_70_method_3_code (5 : Nat) (Option.some Jvm.ClassFile.FieldType.boolean)).before a0 Z = true := hw _ (List.mem_of_getElem? (i := 60) rfl)
theorem w61 (hw : ∀ d ∈ tables_1, d.before a0 Z = true) : (Jvm.Cond.fieldLink "com/example/grantwork/grantwork/Token" (36 : Nat) "com/example/grantwork/grantwork/Token$Kind" "WORD" "Lcom/example/grantwork/grantwork/Token$Kind;").before a0 Z = true := hw _ (List.mem_of_getElem? (i := 61) rfl)
theorem w62 (hw : ∀ d ∈ tables_1, d.before a0 Z = true) : (Jvm.Cond.methodLink "com/example/grantwork/grantwork/Token" (39 : Nat) ({ cls := "java/lang/String", name := "length", desc := "()I" } : Jvm.MethodName)).before a0 Z = true := hw _ (List.mem_of_getElem? (i := 62) rfl)
theorem w63 (hw : ∀ d ∈ tables_1, d.before a0 Z = true) : (Jvm.Cond.declares ({ cls := "java/lang/String", name := "length", desc := "()I" } : Jvm.MethodName)).before a0 Z = true := hw _ (List.mem_of_getElem? (i := 63) rfl)
theorem w64 (hw : ∀ d ∈ tables_1, d.before a0 Z = true) : (Jvm.Cond.instanceMethod ({ cls := "java/lang/String", name := "length", desc := "()I" } : Jvm.MethodName)).before a0 Z = true := hw _ (List.mem_of_getElem? (i := 64) rfl)
theorem w65 (hw : ∀ d ∈ tables_1, d.before a0 Z = true) : (Jvm.Cond.selects "java/lang/String" ({ cls := "java/lang/String", name := "length", desc := "()I" } : Jvm.MethodName) ({ cls := "java/lang/String", name := "length", desc := "()I" } : Jvm.MethodName)).before a0 Z = true := hw _ (List.mem_of_getElem? (i := 65) rfl)
theorem w66 (hw : ∀ d ∈ tables_1, d.before a0 Z = true) : (Jvm.Cond.code ({ cls := "java/lang/String", name := "length", desc := "()I" } : Jvm.MethodName) jdk_42_method_54_code (1 : Nat) (Option.some Jvm.ClassFile.FieldType.int)).before a0 Z = true := hw _ (List.mem_of_getElem? (i := 66) rfl)
theorem w67 (hw : ∀ d ∈ tables_1, d.before a0 Z = true) : (Jvm.Cond.methodLink "java/lang/String" (335 : Nat) ({ cls := "java/lang/String", name := "coder", desc := "()B" } : Jvm.MethodName)).before a0 Z = true := hw _ (List.mem_of_getElem? (i := 67) rfl)
theorem w68 (hw : ∀ d ∈ tables_1, d.before a0 Z = true) : (Jvm.Cond.declares ({ cls := "java/lang/String", name := "coder", desc := "()B" } : Jvm.MethodName)).before a0 Z = true := hw _ (List.mem_of_getElem? (i := 68) rfl)
theorem w69 (hw : ∀ d ∈ tables_1, d.before a0 Z = true) : (Jvm.Cond.instanceMethod ({ cls := "java/lang/String", name := "coder", desc := "()B" } : Jvm.MethodName)).before a0 Z = true := hw _ (List.mem_of_getElem? (i := 69) rfl)
theorem w70 (hw : ∀ d ∈ tables_1, d.before a0 Z = true) : (Jvm.Cond.selects "java/lang/String" ({ cls := "java/lang/String", name := "coder", desc := "()B" } : Jvm.MethodName) ({ cls := "java/lang/String", name := "coder", desc := "()B" } : Jvm.MethodName)).before a0 Z = true := hw _ (List.mem_of_getElem? (i := 70) rfl)
theorem w71 (hw : ∀ d ∈ tables_1, d.before a0 Z = true) : (Jvm.Cond.code ({ cls := "java/lang/String", name := "coder", desc := "()B" } : Jvm.MethodName) jdk_42_method_152_code (1 : Nat) (Option.some Jvm.ClassFile.FieldType.byte)).before a0 Z = true := hw _ (List.mem_of_getElem? (i := 71) rfl)
theorem w72 (hw : ∀ d ∈ tables_1, d.before a0 Z = true) : (Jvm.Cond.fieldLink "java/lang/String" (38 : Nat) "java/lang/String" "COMPACT_STRINGS" "Z").before a0 Z = true := hw _ (List.mem_of_getElem? (i := 72) rfl)
theorem w73 (hw : ∀ d ∈ tables_1, d.before a0 Z = true) : (Jvm.Cond.methodLink "com/example/grantwork/grantwork/TokenIsKeywordPinLaw" (55 : Nat) ({ cls := "java/lang/String", name := "valueOf", desc := "(C)Ljava/lang/String;" } : Jvm.MethodName)).before a0 Z = true := hw _ (List.mem_of_getElem? (i := 73) rfl)
theorem w74 (hw : ∀ d ∈ tables_1, d.before a0 Z = true) : (Jvm.Cond.static ({ cls := "java/lang/String", name := "valueOf", desc := "(C)Ljava/lang/String;" } : Jvm.MethodName)).before a0 Z = true := hw _ (List.mem_of_getElem? (i := 74) rfl)
theorem w75 (hw : ∀ d ∈ tables_1, d.before a0 Z = true) : (Jvm.Cond.code ({ cls := "java/lang/String", name := "valueOf", desc := "(C)Ljava/lang/String;" } : Jvm.MethodName) jdk_42_method_139_code (1 : Nat) (Option.some (Jvm.ClassFile.FieldType.object "java/lang/String"))).before a0 Z = true := hw _ (List.mem_of_getElem? (i := 75) rfl)
theorem w76 (hw : ∀ d ∈ tables_1, d.before a0 Z = true) : (Jvm.Cond.methodLink "java/lang/String" (1015 : Nat) ({ cls := "java/lang/StringLatin1", name := "canEncode", desc := "(C)Z" } : Jvm.MethodName)).before a0 Z = true := hw _ (List.mem_of_getElem? (i := 76) rfl)
theorem w77 (hw : ∀ d ∈ tables_1, d.before a0 Z = true) : (Jvm.Cond.static ({ cls := "java/lang/StringLatin1", name := "canEncode", desc := "(C)Z" } : Jvm.MethodName)).before a0 Z = true := hw _ (List.mem_of_getElem? (i := 77) rfl)
theorem w78 (hw : ∀ d ∈ tables_1, d.before a0 Z = true) : (Jvm.Cond.initialized "java/lang/StringLatin1").before a0 Z = true := hw _ (List.mem_of_getElem? (i := 78) rfl)
theorem w79 (hw : ∀ d ∈ tables_1, d.before a0 Z = true) : (Jvm.Cond.code ({ cls := "java/lang/StringLatin1", name := "canEncode", desc := "(C)Z" } : Jvm.MethodName) jdk_43_method_3_code (1 : Nat) (Option.some Jvm.ClassFile.FieldType.boolean)).before a0 Z = true := hw _ (List.mem_of_getElem? (i := 79) rfl)
theorem w80 (hw : ∀ d ∈ tables_1, d.before a0 Z = true) : (Jvm.Cond.classLink "java/lang/String" (10 : Nat) "java/lang/String").before a0 Z = true := hw _ (List.mem_of_getElem? (i := 80) rfl)
theorem w81 (hw : ∀ d ∈ tables_1, d.before a0 Z = true) : (Jvm.Cond.methodLink "java/lang/String" (1018 : Nat) ({ cls := "java/lang/StringLatin1", name := "toBytes", desc := "(C)[B" } : Jvm.MethodName)).before a0 Z = true := hw _ (List.mem_of_getElem? (i := 81) rfl)
theorem w82 (hw : ∀ d ∈ tables_1, d.before a0 Z = true) : (Jvm.Cond.static ({ cls := "java/lang/StringLatin1", name := "toBytes", desc := "(C)[B" } : Jvm.MethodName)).before a0 Z = true := hw _ (List.mem_of_getElem? (i := 82) rfl)
theorem w83 (hw : ∀ d ∈ tables_1, d.before a0 Z = true) : (Jvm.Cond.code ({ cls := "java/lang/StringLatin1", name := "toBytes", desc := "(C)[B" } : Jvm.MethodName) jdk_43_method_46_code (1 : Nat) (Option.some (Jvm.ClassFile.FieldType.array Jvm.ClassFile.FieldType.byte))).before a0 Z = true := hw _ (List.mem_of_getElem? (i := 83) rfl)
theorem w84 (hw : ∀ d ∈ tables_1, d.before a0 Z = true) : (Jvm.Cond.methodLink "java/lang/String" (209 : Nat) ({ cls := "java/lang/String", name := "<init>", desc := "([BB)V" } : Jvm.MethodName)).before a0 Z = true := hw _ (List.mem_of_getElem? (i := 84) rfl)
theorem w85 (hw : ∀ d ∈ tables_1, d.before a0 Z = true) : (Jvm.Cond.instanceMethod ({ cls := "java/lang/String", name := "<init>", desc := "([BB)V" } : Jvm.MethodName)).before a0 Z = true := hw _ (List.mem_of_getElem? (i := 85) rfl)
theorem w86 (hw : ∀ d ∈ tables_1, d.before a0 Z = true) : (Jvm.Cond.code ({ cls := "java/lang/String", name := "<init>", desc := "([BB)V" } : Jvm.MethodName) jdk_42_method_151_code (3 : Nat) (Option.none : Option Jvm.ClassFile.FieldType)).before a0 Z = true := hw _ (List.mem_of_getElem? (i := 86) rfl)
theorem w87 (hw : ∀ d ∈ tables_1, d.before a0 Z = true) : (Jvm.Cond.methodLink "com/example/grantwork/grantwork/TokenIsKeywordPinLaw" (38 : Nat) ({ cls := "com/example/grantwork/grantwork/TokenIsKeywordPinLaw", name := "same", desc := "(CC)Z" } : Jvm.MethodName)).before a0 Z = true := hw _ (List.mem_of_getElem? (i := 87) rfl)
theorem w88 (hw : ∀ d ∈ tables_1, d.before a0 Z = true) : (Jvm.Cond.static ({ cls := "com/example/grantwork/grantwork/TokenIsKeywordPinLaw", name := "same", desc := "(CC)Z" } : Jvm.MethodName)).before a0 Z = true := hw _ (List.mem_of_getElem? (i := 88) rfl)
theorem w89 (hw : ∀ d ∈ tables_1, d.before a0 Z = true) : (Jvm.Cond.code ({ cls := "com/example/grantwork/grantwork/TokenIsKeywordPinLaw", name := "same", desc := "(CC)Z" } : Jvm.MethodName) method_5_code (2 : Nat) (Option.some Jvm.ClassFile.FieldType.boolean)).before a0 Z = true := hw _ (List.mem_of_getElem? (i := 89) rfl)
theorem w90 (hw : ∀ d ∈ tables_1, d.before a0 Z = true) : (Jvm.Cond.methodLink "com/example/grantwork/grantwork/Token" (42 : Nat) ({ cls := "java/lang/String", name := "charAt", desc := "(I)C" } : Jvm.MethodName)).before a0 Z = true := hw _ (List.mem_of_getElem? (i := 90) rfl)
theorem w91 (hw : ∀ d ∈ tables_1, d.before a0 Z = true) : (Jvm.Cond.declares ({ cls := "java/lang/String", name := "charAt", desc := "(I)C" } : Jvm.MethodName)).before a0 Z = true := hw _ (List.mem_of_getElem? (i := 91) rfl)
theorem w92 (hw : ∀ d ∈ tables_1, d.before a0 Z = true) : (Jvm.Cond.instanceMethod ({ cls := "java/lang/String", name := "charAt", desc := "(I)C" } : Jvm.MethodName)).before a0 Z = true := hw _ (List.mem_of_getElem? (i := 92) rfl)
theorem w93 (hw : ∀ d ∈ tables_1, d.before a0 Z = true) : (Jvm.Cond.selects "java/lang/String" ({ cls := "java/lang/String", name := "charAt", desc := "(I)C" } : Jvm.MethodName) ({ cls := "java/lang/String", name := "charAt", desc := "(I)C" } : Jvm.MethodName)).before a0 Z = true := hw _ (List.mem_of_getElem? (i := 93) rfl)
theorem w94 (hw : ∀ d ∈ tables_1, d.before a0 Z = true) : (Jvm.Cond.code ({ cls := "java/lang/String", name := "charAt", desc := "(I)C" } : Jvm.MethodName) jdk_42_method_56_code (2 : Nat) (Option.some Jvm.ClassFile.FieldType.char)).before a0 Z = true := hw _ (List.mem_of_getElem? (i := 94) rfl)
theorem w95 (hw : ∀ d ∈ tables_1, d.before a0 Z = true) : (Jvm.Cond.methodLink "java/lang/String" (492 : Nat) ({ cls := "java/lang/String", name := "isLatin1", desc := "()Z" } : Jvm.MethodName)).before a0 Z = true := hw _ (List.mem_of_getElem? (i := 95) rfl)
theorem w96 (hw : ∀ d ∈ tables_1, d.before a0 Z = true) : (Jvm.Cond.declares ({ cls := "java/lang/String", name := "isLatin1", desc := "()Z" } : Jvm.MethodName)).before a0 Z = true := hw _ (List.mem_of_getElem? (i := 96) rfl)
theorem w97 (hw : ∀ d ∈ tables_1, d.before a0 Z = true) : (Jvm.Cond.instanceMethod ({ cls := "java/lang/String", name := "isLatin1", desc := "()Z" } : Jvm.MethodName)).before a0 Z = true := hw _ (List.mem_of_getElem? (i := 97) rfl)
theorem w98 (hw : ∀ d ∈ tables_1, d.before a0 Z = true) : (Jvm.Cond.selects "java/lang/String" ({ cls := "java/lang/String", name := "isLatin1", desc := "()Z" } : Jvm.MethodName) ({ cls := "java/lang/String", name := "isLatin1", desc := "()Z" } : Jvm.MethodName)).before a0 Z = true := hw _ (List.mem_of_getElem? (i := 98) rfl)
theorem w99 (hw : ∀ d ∈ tables_1, d.before a0 Z = true) : (Jvm.Cond.code ({ cls := "java/lang/String", name := "isLatin1", desc := "()Z" } : Jvm.MethodName) jdk_42_method_154_code (1 : Nat) (Option.some Jvm.ClassFile.FieldType.boolean)).before a0 Z = true := hw _ (List.mem_of_getElem? (i := 99) rfl)
theorem w100 (hw : ∀ d ∈ tables_1, d.before a0 Z = true) : (Jvm.Cond.methodLink "java/lang/String" (495 : Nat) ({ cls := "java/lang/StringLatin1", name := "charAt", desc := "([BI)C" } : Jvm.MethodName)).before a0 Z = true := hw _ (List.mem_of_getElem? (i := 100) rfl)
theorem w101 (hw : ∀ d ∈ tables_1, d.before a0 Z = true) : (Jvm.Cond.static ({ cls := "java/lang/StringLatin1", name := "charAt", desc := "([BI)C" } : Jvm.MethodName)).before a0 Z = true := hw _ (List.mem_of_getElem? (i := 101) rfl)
theorem w102 (hw : ∀ d ∈ tables_1, d.before a0 Z = true) : (Jvm.Cond.code ({ cls := "java/lang/StringLatin1", name := "charAt", desc := "([BI)C" } : Jvm.MethodName) jdk_43_method_2_code (2 : Nat) (Option.some Jvm.ClassFile.FieldType.char)).before a0 Z = true := hw _ (List.mem_of_getElem? (i := 102) rfl)
theorem w103 (hw : ∀ d ∈ tables_1, d.before a0 Z = true) : (Jvm.Cond.methodLink "java/lang/StringLatin1" (9 : Nat) ({ cls := "java/lang/String", name := "checkIndex", desc := "(II)V" } : Jvm.MethodName)).before a0 Z = true := hw _ (List.mem_of_getElem? (i := 103) rfl)
theorem w104 (hw : ∀ d ∈ tables_1, d.before a0 Z = true) : (Jvm.Cond.static ({ cls := "java/lang/String", name := "checkIndex", desc := "(II)V" } : Jvm.MethodName)).before a0 Z = true := hw _ (List.mem_of_getElem? (i := 104) rfl)
theorem w105 (hw : ∀ d ∈ tables_1, d.before a0 Z = true) : (Jvm.Cond.code ({ cls := "java/lang/String", name := "checkIndex", desc := "(II)V" } : Jvm.MethodName) jdk_42_method_155_code (2 : Nat) (Option.none : Option Jvm.ClassFile.FieldType)).before a0 Z = true := hw _ (List.mem_of_getElem? (i := 105) rfl)
theorem w106 (hw : ∀ d ∈ tables_1, d.before a0 Z = true) : (Jvm.Cond.fieldLink "java/lang/String" (1053 : Nat) "jdk/internal/util/Preconditions" "SIOOBE_FORMATTER" "Ljava/util/function/BiFunction;").before a0 Z = true := hw _ (List.mem_of_getElem? (i := 106) rfl)
theorem w107 (hw : ∀ d ∈ tables_1, d.before a0 Z = true) : (Jvm.Cond.initialized "jdk/internal/util/Preconditions").before a0 Z = true := hw _ (List.mem_of_getElem? (i := 107) rfl)
theorem w108 (hw : ∀ d ∈ tables_1, d.before a0 Z = true) : (Jvm.Cond.methodLink "java/lang/String" (1059 : Nat) ({ cls := "jdk/internal/util/Preconditions", name := "checkIndex", desc := "(IILjava/util/function/BiFunction;)I" } : Jvm.MethodName)).before a0 Z = true := hw _ (List.mem_of_getElem? (i := 108) rfl)
theorem w109 (hw : ∀ d ∈ tables_1, d.before a0 Z = true) : (Jvm.Cond.static ({ cls := "jdk/internal/util/Preconditions", name := "checkIndex", desc := "(IILjava/util/function/BiFunction;)I" } : Jvm.MethodName)).before a0 Z = true := hw _ (List.mem_of_getElem? (i := 109) rfl)
theorem w110 (hw : ∀ d ∈ tables_1, d.before a0 Z = true) : (Jvm.Cond.code ({ cls := "jdk/internal/util/Preconditions", name := "checkIndex", desc := "(IILjava/util/function/BiFunction;)I" } : Jvm.MethodName) jdk_41_method_11_code (3 : Nat) (Option.some Jvm.ClassFile.FieldType.int)).before a0 Z = true := hw _ (List.mem_of_getElem? (i := 110) rfl)
theorem w111 (hw : ∀ d ∈ tables_1, d.before a0 Z = true) : (Jvm.Cond.fieldLink "com/example/grantwork/grantwork/TokenIsKeywordPinLaw" (7 : Nat) "com/example/grantwork/grantwork/Token$Kind" "SYMBOL" "Lcom/example/grantwork/grantwork/Token$Kind;").before a0 Z = true := hw _ (List.mem_of_getElem? (i := 111) rfl)
theorem w112 (hw : ∀ d ∈ tables_1, d.before a0 Z = true) : (Jvm.Cond.laysStatic "com/example/grantwork/grantwork/Token$Kind" "SYMBOL" "Lcom/example/grantwork/grantwork/Token$Kind;").before a0 Z = true := hw _ (List.mem_of_getElem? (i := 112) rfl)
theorem w113 (hw : ∀ d ∈ tables_1, d.before a0 Z = true) : (Jvm.Cond.constantLong "com/example/grantwork/grantwork/TokenIsKeywordPinLaw" (48 : Nat) (65535 : Int64)).before a0 Z = true := hw _ (List.mem_of_getElem? (i := 113) rfl)
theorem w114 (hw : ∀ d ∈ tables_1, d.before a0 Z = true) : (Jvm.Cond.methodLink "java/lang/String" (177 : Nat) ({ cls := "java/lang/StringUTF16", name := "compress", desc := "([CII)[B" } : Jvm.MethodName)).before a0 Z = true := hw _ (List.mem_of_getElem? (i := 114) rfl)
theorem w115 (hw : ∀ d ∈ tables_1, d.before a0 Z = true) : (Jvm.Cond.static ({ cls := "java/lang/StringUTF16", name := "compress", desc := "([CII)[B" } : Jvm.MethodName)).before a0 Z = true := hw _ (List.mem_of_getElem? (i := 115) rfl)
theorem w116 (hw : ∀ d ∈ tables_1, d.before a0 Z = true) : (Jvm.Cond.initialized "java/lang/StringUTF16").before a0 Z = true := hw _ (List.mem_of_getElem? (i := 116) rfl)
theorem w117 (hw : ∀ d ∈ tables_1, d.before a0 Z = true) : (Jvm.Cond.code ({ cls := "java/lang/StringUTF16", name := "compress", desc := "([CII)[B" } : Jvm.MethodName) jdk_52_method_16_code (6 : Nat) (Option.some (Jvm.ClassFile.FieldType.array Jvm.ClassFile.FieldType.byte))).before a0 Z = true := hw _ (List.mem_of_getElem? (i := 117) rfl)
theorem w118 (hw : ∀ d ∈ tables_1, d.before a0 Z = true) : (Jvm.Cond.methodLink "java/lang/StringUTF16" (115 : Nat) ({ cls := "java/lang/StringUTF16", name := "compress", desc := "([CI[BII)I" } : Jvm.MethodName)).before a0 Z = true := hw _ (List.mem_of_getElem? (i := 118) rfl)
theorem w119 (hw : ∀ d ∈ tables_1, d.before a0 Z = true) : (Jvm.Cond.static ({ cls := "java/lang/StringUTF16", name := "compress", desc := "([CI[BII)I" } : Jvm.MethodName)).before a0 Z = true := hw _ (List.mem_of_getElem? (i := 119) rfl)
theorem w120 (hw : ∀ d ∈ tables_1, d.before a0 Z = true) : (Jvm.Cond.code ({ cls := "java/lang/StringUTF16", name := "compress", desc := "([CI[BII)I" } : Jvm.MethodName) jdk_52_method_21_code (7 : Nat) (Option.some Jvm.ClassFile.FieldType.int)).before a0 Z = true := hw _ (List.mem_of_getElem? (i := 120) rfl)
theorem w121 (hw : ∀ d ∈ tables_1, d.before a0 Z = true) : (Jvm.Cond.methodLink "java/lang/StringUTF16" (119 : Nat) ({ cls := "java/lang/StringUTF16", name := "toBytes", desc := "([CII)[B" } : Jvm.MethodName)).before a0 Z = true := hw _ (List.mem_of_getElem? (i := 121) rfl)
theorem w122 (hw : ∀ d ∈ tables_1, d.before a0 Z = true) : (Jvm.Cond.static ({ cls := "java/lang/StringUTF16", name := "toBytes", desc := "([CII)[B" } : Jvm.MethodName)).before a0 Z = true := hw _ (List.mem_of_getElem? (i := 122) rfl)
theorem w123 (hw : ∀ d ∈ tables_1, d.before a0 Z = true) : (Jvm.Cond.code ({ cls := "java/lang/StringUTF16", name := "toBytes", desc := "([CII)[B" } : Jvm.MethodName) jdk_52_method_14_code (5 : Nat) (Option.some (Jvm.ClassFile.FieldType.array Jvm.ClassFile.FieldType.byte))).before a0 Z = true := hw _ (List.mem_of_getElem? (i := 123) rfl)
theorem w124 (hw : ∀ d ∈ tables_1, d.before a0 Z = true) : (Jvm.Cond.methodLink "java/lang/StringUTF16" (107 : Nat) ({ cls := "java/lang/StringUTF16", name := "newBytesFor", desc := "(I)[B" } : Jvm.MethodName)).before a0 Z = true := hw _ (List.mem_of_getElem? (i := 124) rfl)
theorem w125 (hw : ∀ d ∈ tables_1, d.before a0 Z = true) : (Jvm.Cond.static ({ cls := "java/lang/StringUTF16", name := "newBytesFor", desc := "(I)[B" } : Jvm.MethodName)).before a0 Z = true := hw _ (List.mem_of_getElem? (i := 125) rfl)
theorem w126 (hw : ∀ d ∈ tables_1, d.before a0 Z = true) : (Jvm.Cond.code ({ cls := "java/lang/StringUTF16", name := "newBytesFor", desc := "(I)[B" } : Jvm.MethodName) jdk_52_method_2_code (1 : Nat) (Option.some (Jvm.ClassFile.FieldType.array Jvm.ClassFile.FieldType.byte))).before a0 Z = true := hw _ (List.mem_of_getElem? (i := 126) rfl)
theorem w127 (hw : ∀ d ∈ tables_1, d.before a0 Z = true) : (Jvm.Cond.methodLink "java/lang/StringUTF16" (11 : Nat) ({ cls := "java/lang/StringUTF16", name := "newBytesLength", desc := "(I)I" } : Jvm.MethodName)).before a0 Z = true := hw _ (List.mem_of_getElem? (i := 127) rfl)
theorem w128 (hw : ∀ d ∈ tables_1, d.before a0 Z = true) : (Jvm.Cond.static ({ cls := "java/lang/StringUTF16", name := "newBytesLength", desc := "(I)I" } : Jvm.MethodName)).before a0 Z = true := hw _ (List.mem_of_getElem? (i := 128) rfl)
theorem w129 (hw : ∀ d ∈ tables_1, d.before a0 Z = true) : (Jvm.Cond.code ({ cls := "java/lang/StringUTF16", name := "newBytesLength", desc := "(I)I" } : Jvm.MethodName) jdk_52_method_3_code (1 : Nat) (Option.some Jvm.ClassFile.FieldType.int)).before a0 Z = true := hw _ (List.mem_of_getElem? (i := 129) rfl)
theorem w130 (hw : ∀ d ∈ tables_1, d.before a0 Z = true) : (Jvm.Cond.constant "java/lang/StringUTF16" (20 : Nat) (1073741823 : Int32)).before a0 Z = true := hw _ (List.mem_of_getElem? (i := 130) rfl)
theorem w131 (hw : ∀ d ∈ tables_1, d.before a0 Z = true) : (Jvm.Cond.methodLink "java/lang/StringUTF16" (111 : Nat) ({ cls := "java/lang/StringUTF16", name := "putChar", desc := "([BII)V" } : Jvm.MethodName)).before a0 Z = true := hw _ (List.mem_of_getElem? (i := 131) rfl)
theorem w132 (hw : ∀ d ∈ tables_1, d.before a0 Z = true) : (Jvm.Cond.static ({ cls := "java/lang/StringUTF16", name := "putChar", desc := "([BII)V" } : Jvm.MethodName)).before a0 Z = true := hw _ (List.mem_of_getElem? (i := 132) rfl)
theorem w133 (hw : ∀ d ∈ tables_1, d.before a0 Z = true) : (Jvm.Cond.code ({ cls := "java/lang/StringUTF16", name := "putChar", desc := "([BII)V" } : Jvm.MethodName) jdk_52_method_4_code (3 : Nat) (Option.none : Option Jvm.ClassFile.FieldType)).before a0 Z = true := hw _ (List.mem_of_getElem? (i := 133) rfl)
theorem w134 (hw : ∀ d ∈ tables_1, d.before a0 Z = true) : (Jvm.Cond.fieldLink "java/lang/StringUTF16" (44 : Nat) "java/lang/StringUTF16" "$assertionsDisabled" "Z").before a0 Z = true := hw _ (List.mem_of_getElem? (i := 134) rfl)
theorem w135 (hw : ∀ d ∈ tables_1, d.before a0 Z = true) : (Jvm.Cond.fieldLink "java/lang/StringUTF16" (59 : Nat) "java/lang/StringUTF16" "HI_BYTE_SHIFT" "I").before a0 Z = true := hw _ (List.mem_of_getElem? (i := 135) rfl)
theorem w136 (hw : ∀ d ∈ tables_1, d.before a0 Z = true) : (Jvm.Cond.fieldLink "java/lang/StringUTF16" (63 : Nat) "java/lang/StringUTF16" "LO_BYTE_SHIFT" "I").before a0 Z = true := hw _ (List.mem_of_getElem? (i := 136) rfl)
theorem w137 (hw : ∀ d ∈ tables_1, d.before a0 Z = true) : (Jvm.Cond.methodLink "java/lang/StringUTF16" (71 : Nat) ({ cls := "java/lang/StringUTF16", name := "getChar", desc := "([BI)C" } : Jvm.MethodName)).before a0 Z = true := hw _ (List.mem_of_getElem? (i := 137) rfl)
theorem w138 (hw : ∀ d ∈ tables_1, d.before a0 Z = true) : (Jvm.Cond.static ({ cls := "java/lang/StringUTF16", name := "getChar", desc := "([BI)C" } : Jvm.MethodName)).before a0 Z = true := hw _ (List.mem_of_getElem? (i := 138) rfl)
theorem w139 (hw : ∀ d ∈ tables_1, d.before a0 Z = true) : (Jvm.Cond.code ({ cls := "java/lang/StringUTF16", name := "getChar", desc := "([BI)C" } : Jvm.MethodName) jdk_52_method_5_code (2 : Nat) (Option.some Jvm.ClassFile.FieldType.char)).before a0 Z = true := hw _ (List.mem_of_getElem? (i := 139) rfl)
theorem w140 (hw : ∀ d ∈ tables_1, d.before a0 Z = true) : (Jvm.Cond.methodLink "java/lang/String" (47 : Nat) ({ cls := "java/lang/StringUTF16", name := "coderFromArrayLen", desc := "([BI)B" } : Jvm.MethodName)).before a0 Z = true := hw _ (List.mem_of_getElem? (i := 140) rfl)
theorem w141 (hw : ∀ d ∈ tables_1, d.before a0 Z = true) : (Jvm.Cond.static ({ cls := "java/lang/StringUTF16", name := "coderFromArrayLen", desc := "([BI)B" } : Jvm.MethodName)).before a0 Z = true := hw _ (List.mem_of_getElem? (i := 141) rfl)
theorem w142 (hw : ∀ d ∈ tables_1, d.before a0 Z = true) : (Jvm.Cond.code ({ cls := "java/lang/StringUTF16", name := "coderFromArrayLen", desc := "([BI)B" } : Jvm.MethodName) jdk_52_method_15_code (2 : Nat) (Option.some Jvm.ClassFile.FieldType.byte)).before a0 Z = true := hw _ (List.mem_of_getElem? (i := 142) rfl)
theorem w143 (hw : ∀ d ∈ tables_1, d.before a0 Z = true) : (Jvm.Cond.fieldLink "com/example/grantwork/grantwork/TokenIsKeywordPinLaw" (13 : Nat) "com/example/grantwork/grantwork/Token$Kind" "INVALID" "Lcom/example/grantwork/grantwork/Token$Kind;").before a0 Z = true := hw _ (List.mem_of_getElem? (i := 143) rfl)
theorem w144 (hw : ∀ d ∈ tables_1, d.before a0 Z = true) : (Jvm.Cond.laysStatic "com/example/grantwork/grantwork/Token$Kind" "INVALID" "Lcom/example/grantwork/grantwork/Token$Kind;").before a0 Z = true := hw _ (List.mem_of_getElem? (i := 144) rfl)
theorem w145 (hw : ∀ d ∈ tables_1, d.before a0 Z = true) : (Jvm.Cond.methodLink "java/lang/String" (1021 : Nat) ({ cls := "java/lang/StringUTF16", name := "toBytes", desc := "(C)[B" } : Jvm.MethodName)).before a0 Z = true := hw _ (List.mem_of_getElem? (i := 145) rfl)
theorem w146 (hw : ∀ d ∈ tables_1, d.before a0 Z = true) : (Jvm.Cond.static ({ cls := "java/lang/StringUTF16", name := "toBytes", desc := "(C)[B" } : Jvm.MethodName)).before a0 Z = true := hw _ (List.mem_of_getElem? (i := 146) rfl)
theorem w147 (hw : ∀ d ∈ tables_1, d.before a0 Z = true) : (Jvm.Cond.code ({ cls := "java/lang/StringUTF16", name := "toBytes", desc := "(C)[B" } : Jvm.MethodName) jdk_52_method_24_code (2 : Nat) (Option.some (Jvm.ClassFile.FieldType.array Jvm.ClassFile.FieldType.byte))).before a0 Z = true := hw _ (List.mem_of_getElem? (i := 147) rfl)
theorem w148 (hw : ∀ d ∈ tables_1, d.before a0 Z = true) : (Jvm.Cond.methodLink "java/lang/String" (498 : Nat) ({ cls := "java/lang/StringUTF16", name := "charAt", desc := "([BI)C" } : Jvm.MethodName)).before a0 Z = true := hw _ (List.mem_of_getElem? (i := 148) rfl)
theorem w149 (hw : ∀ d ∈ tables_1, d.before a0 Z = true) : (Jvm.Cond.static ({ cls := "java/lang/StringUTF16", name := "charAt", desc := "([BI)C" } : Jvm.MethodName)).before a0 Z = true := hw _ (List.mem_of_getElem? (i := 149) rfl)
theorem w150 (hw : ∀ d ∈ tables_1, d.before a0 Z = true) : (Jvm.Cond.code ({ cls := "java/lang/StringUTF16", name := "charAt", desc := "([BI)C" } : Jvm.MethodName) jdk_52_method_83_code (2 : Nat) (Option.some Jvm.ClassFile.FieldType.char)).before a0 Z = true := hw _ (List.mem_of_getElem? (i := 150) rfl)
theorem w151 (hw : ∀ d ∈ tables_1, d.before a0 Z = true) : (Jvm.Cond.methodLink "java/lang/StringUTF16" (67 : Nat) ({ cls := "java/lang/StringUTF16", name := "checkIndex", desc := "(I[B)V" } : Jvm.MethodName)).before a0 Z = true := hw _ (List.mem_of_getElem? (i := 151) rfl)
theorem w152 (hw : ∀ d ∈ tables_1, d.before a0 Z = true) : (Jvm.Cond.static ({ cls := "java/lang/StringUTF16", name := "checkIndex", desc := "(I[B)V" } : Jvm.MethodName)).before a0 Z = true := hw _ (List.mem_of_getElem? (i := 152) rfl)
theorem w153 (hw : ∀ d ∈ tables_1, d.before a0 Z = true) : (Jvm.Cond.code ({ cls := "java/lang/StringUTF16", name := "checkIndex", desc := "(I[B)V" } : Jvm.MethodName) jdk_52_method_91_code (2 : Nat) (Option.none : Option Jvm.ClassFile.FieldType)).before a0 Z = true := hw _ (List.mem_of_getElem? (i := 153) rfl)
theorem w154 (hw : ∀ d ∈ tables_1, d.before a0 Z = true) : (Jvm.Cond.methodLink "java/lang/StringUTF16" (48 : Nat) ({ cls := "java/lang/StringUTF16", name := "length", desc := "([B)I" } : Jvm.MethodName)).before a0 Z = true := hw _ (List.mem_of_getElem? (i := 154) rfl)
theorem w155 (hw : ∀ d ∈ tables_1, d.before a0 Z = true) : (Jvm.Cond.static ({ cls := "java/lang/StringUTF16", name := "length", desc := "([B)I" } : Jvm.MethodName)).before a0 Z = true := hw _ (List.mem_of_getElem? (i := 155) rfl)
theorem w156 (hw : ∀ d ∈ tables_1, d.before a0 Z = true) : (Jvm.Cond.code ({ cls := "java/lang/StringUTF16", name := "length", desc := "([B)I" } : Jvm.MethodName) jdk_52_method_6_code (1 : Nat) (Option.some Jvm.ClassFile.FieldType.int)).before a0 Z = true := hw _ (List.mem_of_getElem? (i := 156) rfl)
theorem w157 (hw : ∀ d ∈ tables_1, d.before a0 Z = true) : (Jvm.Cond.methodLink "java/lang/StringUTF16" (414 : Nat) ({ cls := "java/lang/String", name := "checkIndex", desc := "(II)V" } : Jvm.MethodName)).before a0 Z = true := hw _ (List.mem_of_getElem? (i := 157) rfl)
end Words
theorem d1_0 : decode method_3_code 0 = .ok (.lload_n 0, 1) := by decide +kernel
theorem d1_1 : decode method_3_code 1 = .ok (.bipush 16, 2) := by decide +kernel
theorem d1_3 : decode method_3_code 3 = .ok (.iload_n 2, 1) := by decide +kernel
theorem d1_4 : decode method_3_code 4 = .ok (.imul, 1) := by decide +kernel
theorem d1_5 : decode method_3_code 5 = .ok (.lushr, 1) := by decide +kernel
theorem d1_6 : decode method_3_code 6 = .ok (.lstore 4, 2) := by decide +kernel
theorem d1_8 : decode method_3_code 8 = .ok (.iload_n 3, 1) := by decide +kernel
theorem d1_9 : decode method_3_code 9 = .ok (.iconst 1, 1) := by decide +kernel
theorem d1_10 : decode method_3_code 10 = .ok (.iand, 1) := by decide +kernel
theorem d1_11 : decode method_3_code 11 = .ok (.ifCond .ne 12, 3) := by decide +kernel
theorem d1_14 : decode method_3_code 14 = .ok (.lload 4, 2) := by decide +kernel
theorem d1_16 : decode method_3_code 16 = .ok (.ldc2_w 46, 3) := by decide +kernel
theorem d1_19 : decode method_3_code 19 = .ok (.land, 1) := by decide +kernel
theorem d1_20 : decode method_3_code 20 = .ok (.goto 9, 3) := by decide +kernel
theorem d1_23 : decode method_3_code 23 = .ok (.lload 4, 2) := by decide +kernel
theorem d1_25 : decode method_3_code 25 = .ok (.ldc2_w 48, 3) := by decide +kernel
theorem d1_28 : decode method_3_code 28 = .ok (.land, 1) := by decide +kernel
theorem d1_29 : decode method_3_code 29 = .ok (.l2i, 1) := by decide +kernel
theorem d1_30 : decode method_3_code 30 = .ok (.i2c, 1) := by decide +kernel
theorem d1_31 : decode method_3_code 31 = .ok (.ireturn, 1) := by decide +kernel
theorem d2_0 : decode method_4_code 0 = .ok (.iload 4, 2) := by decide +kernel
theorem d2_2 : decode method_4_code 2 = .ok (.iconst 3, 1) := by decide +kernel
theorem d2_3 : decode method_4_code 3 = .ok (.iand, 1) := by decide +kernel
theorem d2_4 : decode method_4_code 4 = .ok (.istore 5, 2) := by decide +kernel
theorem d2_6 : decode method_4_code 6 = .ok (.iload 5, 2) := by decide +kernel
theorem d2_8 : decode method_4_code 8 = .ok (.ifCond .ne 9, 3) := by decide +kernel
theorem d2_11 : decode method_4_code 11 = .ok (.iload_n 0, 1) := by decide +kernel
theorem d2_12 : decode method_4_code 12 = .ok (.istore 6, 2) := by decide +kernel
theorem d2_14 : decode method_4_code 14 = .ok (.goto 53, 3) := by decide +kernel
theorem d2_17 : decode method_4_code 17 = .ok (.iload 5, 2) := by decide +kernel
theorem d2_19 : decode method_4_code 19 = .ok (.iconst 1, 1) := by decide +kernel
theorem d2_20 : decode method_4_code 20 = .ok (.if_icmp .ne 12, 3) := by decide +kernel
theorem d2_23 : decode method_4_code 23 = .ok (.iload_n 0, 1) := by decide +kernel
theorem d2_24 : decode method_4_code 24 = .ok (.bipush 32, 2) := by decide +kernel
theorem d2_26 : decode method_4_code 26 = .ok (.ixor, 1) := by decide +kernel
theorem d2_27 : decode method_4_code 27 = .ok (.istore 6, 2) := by decide +kernel
theorem d2_29 : decode method_4_code 29 = .ok (.goto 38, 3) := by decide +kernel
theorem d2_32 : decode method_4_code 32 = .ok (.iload 5, 2) := by decide +kernel
theorem d2_34 : decode method_4_code 34 = .ok (.iconst 2, 1) := by decide +kernel
theorem d2_35 : decode method_4_code 35 = .ok (.if_icmp .ne 19, 3) := by decide +kernel
theorem d2_38 : decode method_4_code 38 = .ok (.lload_n 1, 1) := by decide +kernel
theorem d2_39 : decode method_4_code 39 = .ok (.bipush 16, 2) := by decide +kernel
theorem d2_41 : decode method_4_code 41 = .ok (.iload_n 3, 1) := by decide +kernel
theorem d2_42 : decode method_4_code 42 = .ok (.imul, 1) := by decide +kernel
theorem d2_43 : decode method_4_code 43 = .ok (.lushr, 1) := by decide +kernel
theorem d2_44 : decode method_4_code 44 = .ok (.ldc2_w 48, 3) := by decide +kernel
theorem d2_47 : decode method_4_code 47 = .ok (.land, 1) := by decide +kernel
theorem d2_48 : decode method_4_code 48 = .ok (.l2i, 1) := by decide +kernel
theorem d2_49 : decode method_4_code 49 = .ok (.istore 6, 2) := by decide +kernel
theorem d2_51 : decode method_4_code 51 = .ok (.goto 16, 3) := by decide +kernel
theorem d2_54 : decode method_4_code 54 = .ok (.lload_n 1, 1) := by decide +kernel
theorem d2_55 : decode method_4_code 55 = .ok (.bipush 16, 2) := by decide +kernel
theorem d2_57 : decode method_4_code 57 = .ok (.iload_n 3, 1) := by decide +kernel
theorem d2_58 : decode method_4_code 58 = .ok (.imul, 1) := by decide +kernel
theorem d2_59 : decode method_4_code 59 = .ok (.lushr, 1) := by decide +kernel
theorem d2_60 : decode method_4_code 60 = .ok (.ldc2_w 46, 3) := by decide +kernel
theorem d2_63 : decode method_4_code 63 = .ok (.land, 1) := by decide +kernel
theorem d2_64 : decode method_4_code 64 = .ok (.l2i, 1) := by decide +kernel
theorem d2_65 : decode method_4_code 65 = .ok (.istore 6, 2) := by decide +kernel
theorem d2_67 : decode method_4_code 67 = .ok (.iload 6, 2) := by decide +kernel
theorem d2_69 : decode method_4_code 69 = .ok (.bipush 97, 2) := by decide +kernel
theorem d2_71 : decode method_4_code 71 = .ok (.if_icmp .lt 17, 3) := by decide +kernel
theorem d2_74 : decode method_4_code 74 = .ok (.iload 6, 2) := by decide +kernel
theorem d2_76 : decode method_4_code 76 = .ok (.bipush 122, 2) := by decide +kernel
theorem d2_78 : decode method_4_code 78 = .ok (.if_icmp .gt 10, 3) := by decide +kernel
theorem d2_81 : decode method_4_code 81 = .ok (.iload 6, 2) := by decide +kernel
theorem d2_83 : decode method_4_code 83 = .ok (.bipush 32, 2) := by decide +kernel
theorem d2_85 : decode method_4_code 85 = .ok (.isub, 1) := by decide +kernel
theorem d2_86 : decode method_4_code 86 = .ok (.istore 6, 2) := by decide +kernel
theorem d2_88 : decode method_4_code 88 = .ok (.iload 6, 2) := by decide +kernel
theorem d2_90 : decode method_4_code 90 = .ok (.i2c, 1) := by decide +kernel
theorem d2_91 : decode method_4_code 91 = .ok (.ireturn, 1) := by decide +kernel
theorem d3_0 : decode method_6_code 0 = .ok (.iload_n 3, 1) := by decide +kernel
theorem d3_1 : decode method_6_code 1 = .ok (.ifCond .ne 14, 3) := by decide +kernel
theorem d3_4 : decode method_6_code 4 = .ok (.new 50, 3) := by decide +kernel
theorem d3_7 : decode method_6_code 7 = .ok (.dup, 1) := by decide +kernel
theorem d3_8 : decode method_6_code 8 = .ok (.iconst 0, 1) := by decide +kernel
theorem d3_9 : decode method_6_code 9 = .ok (.newarray .char, 2) := by decide +kernel
theorem d3_11 : decode method_6_code 11 = .ok (.invokespecial 52, 3) := by decide +kernel
theorem d3_14 : decode method_6_code 14 = .ok (.areturn, 1) := by decide +kernel
theorem d3_15 : decode method_6_code 15 = .ok (.iload_n 3, 1) := by decide +kernel
theorem d3_16 : decode method_6_code 16 = .ok (.iconst 1, 1) := by decide +kernel
theorem d3_17 : decode method_6_code 17 = .ok (.if_icmp .ne 8, 3) := by decide +kernel
theorem d3_20 : decode method_6_code 20 = .ok (.iload_n 0, 1) := by decide +kernel
theorem d3_21 : decode method_6_code 21 = .ok (.invokestatic 55, 3) := by decide +kernel
theorem d3_24 : decode method_6_code 24 = .ok (.areturn, 1) := by decide +kernel
theorem d3_25 : decode method_6_code 25 = .ok (.iload_n 3, 1) := by decide +kernel
theorem d3_26 : decode method_6_code 26 = .ok (.iconst 2, 1) := by decide +kernel
theorem d3_27 : decode method_6_code 27 = .ok (.if_icmp .ne 22, 3) := by decide +kernel
theorem d3_30 : decode method_6_code 30 = .ok (.new 50, 3) := by decide +kernel
theorem d3_33 : decode method_6_code 33 = .ok (.dup, 1) := by decide +kernel
theorem d3_34 : decode method_6_code 34 = .ok (.iconst 2, 1) := by decide +kernel
theorem d3_35 : decode method_6_code 35 = .ok (.newarray .char, 2) := by decide +kernel
theorem d3_37 : decode method_6_code 37 = .ok (.dup, 1) := by decide +kernel
theorem d3_38 : decode method_6_code 38 = .ok (.iconst 0, 1) := by decide +kernel
theorem d3_39 : decode method_6_code 39 = .ok (.iload_n 0, 1) := by decide +kernel
theorem d3_40 : decode method_6_code 40 = .ok (.castore, 1) := by decide +kernel
theorem d3_41 : decode method_6_code 41 = .ok (.dup, 1) := by decide +kernel
theorem d3_42 : decode method_6_code 42 = .ok (.iconst 1, 1) := by decide +kernel
theorem d3_43 : decode method_6_code 43 = .ok (.iload_n 1, 1) := by decide +kernel
theorem d3_44 : decode method_6_code 44 = .ok (.castore, 1) := by decide +kernel
theorem d3_45 : decode method_6_code 45 = .ok (.invokespecial 52, 3) := by decide +kernel
theorem d3_48 : decode method_6_code 48 = .ok (.areturn, 1) := by decide +kernel
theorem d3_49 : decode method_6_code 49 = .ok (.new 50, 3) := by decide +kernel
theorem d3_52 : decode method_6_code 52 = .ok (.dup, 1) := by decide +kernel
theorem d3_53 : decode method_6_code 53 = .ok (.iconst 3, 1) := by decide +kernel
theorem d3_54 : decode method_6_code 54 = .ok (.newarray .char, 2) := by decide +kernel
theorem d3_56 : decode method_6_code 56 = .ok (.dup, 1) := by decide +kernel
theorem d3_57 : decode method_6_code 57 = .ok (.iconst 0, 1) := by decide +kernel
theorem d3_58 : decode method_6_code 58 = .ok (.iload_n 0, 1) := by decide +kernel
theorem d3_59 : decode method_6_code 59 = .ok (.castore, 1) := by decide +kernel
theorem d3_60 : decode method_6_code 60 = .ok (.dup, 1) := by decide +kernel
theorem d3_61 : decode method_6_code 61 = .ok (.iconst 1, 1) := by decide +kernel
theorem d3_62 : decode method_6_code 62 = .ok (.iload_n 1, 1) := by decide +kernel
theorem d3_63 : decode method_6_code 63 = .ok (.castore, 1) := by decide +kernel
theorem d3_64 : decode method_6_code 64 = .ok (.dup, 1) := by decide +kernel
theorem d3_65 : decode method_6_code 65 = .ok (.iconst 2, 1) := by decide +kernel
theorem d3_66 : decode method_6_code 66 = .ok (.iload_n 2, 1) := by decide +kernel
theorem d3_67 : decode method_6_code 67 = .ok (.castore, 1) := by decide +kernel
theorem d3_68 : decode method_6_code 68 = .ok (.invokespecial 52, 3) := by decide +kernel
theorem d3_71 : decode method_6_code 71 = .ok (.areturn, 1) := by decide +kernel
theorem d4_0 : decode jdk_42_method_3_code 0 = .ok (.aload_n 0, 1) := by decide +kernel
theorem d4_1 : decode jdk_42_method_3_code 1 = .ok (.aload_n 1, 1) := by decide +kernel
theorem d4_2 : decode jdk_42_method_3_code 2 = .ok (.iconst 0, 1) := by decide +kernel
theorem d4_3 : decode jdk_42_method_3_code 3 = .ok (.aload_n 1, 1) := by decide +kernel
theorem d4_4 : decode jdk_42_method_3_code 4 = .ok (.arraylength, 1) := by decide +kernel
theorem d4_5 : decode jdk_42_method_3_code 5 = .ok (.aconst_null, 1) := by decide +kernel
theorem d4_6 : decode jdk_42_method_3_code 6 = .ok (.invokespecial 27, 3) := by decide +kernel
theorem d4_9 : decode jdk_42_method_3_code 9 = .ok (.return_, 1) := by decide +kernel
theorem d5_0 : decode jdk_42_method_149_code 0 = .ok (.aload_n 0, 1) := by decide +kernel
theorem d5_1 : decode jdk_42_method_149_code 1 = .ok (.invokespecial 1, 3) := by decide +kernel
theorem d5_4 : decode jdk_42_method_149_code 4 = .ok (.iload_n 3, 1) := by decide +kernel
theorem d5_5 : decode jdk_42_method_149_code 5 = .ok (.ifCond .ne 22, 3) := by decide +kernel
theorem d5_8 : decode jdk_42_method_149_code 8 = .ok (.aload_n 0, 1) := by decide +kernel
theorem d5_9 : decode jdk_42_method_149_code 9 = .ok (.ldc 7, 2) := by decide +kernel
theorem d5_11 : decode jdk_42_method_149_code 11 = .ok (.getfield 9, 3) := by decide +kernel
theorem d5_14 : decode jdk_42_method_149_code 14 = .ok (.putfield 9, 3) := by decide +kernel
theorem d5_17 : decode jdk_42_method_149_code 17 = .ok (.aload_n 0, 1) := by decide +kernel
theorem d5_18 : decode jdk_42_method_149_code 18 = .ok (.ldc 7, 2) := by decide +kernel
theorem d5_20 : decode jdk_42_method_149_code 20 = .ok (.getfield 15, 3) := by decide +kernel
theorem d5_23 : decode jdk_42_method_149_code 23 = .ok (.putfield 15, 3) := by decide +kernel
theorem d5_26 : decode jdk_42_method_149_code 26 = .ok (.return_, 1) := by decide +kernel
theorem d5_27 : decode jdk_42_method_149_code 27 = .ok (.getstatic 38, 3) := by decide +kernel
theorem d5_30 : decode jdk_42_method_149_code 30 = .ok (.ifCond .eq 28, 3) := by decide +kernel
theorem d5_33 : decode jdk_42_method_149_code 33 = .ok (.aload_n 1, 1) := by decide +kernel
theorem d5_34 : decode jdk_42_method_149_code 34 = .ok (.iload_n 2, 1) := by decide +kernel
theorem d5_35 : decode jdk_42_method_149_code 35 = .ok (.iload_n 3, 1) := by decide +kernel
theorem d5_36 : decode jdk_42_method_149_code 36 = .ok (.invokestatic 177, 3) := by decide +kernel
theorem d5_39 : decode jdk_42_method_149_code 39 = .ok (.astore 5, 2) := by decide +kernel
theorem d5_41 : decode jdk_42_method_149_code 41 = .ok (.aload_n 0, 1) := by decide +kernel
theorem d5_42 : decode jdk_42_method_149_code 42 = .ok (.aload 5, 2) := by decide +kernel
theorem d5_44 : decode jdk_42_method_149_code 44 = .ok (.iload_n 3, 1) := by decide +kernel
theorem d5_45 : decode jdk_42_method_149_code 45 = .ok (.invokestatic 47, 3) := by decide +kernel
theorem d5_48 : decode jdk_42_method_149_code 48 = .ok (.putfield 15, 3) := by decide +kernel
theorem d5_51 : decode jdk_42_method_149_code 51 = .ok (.aload_n 0, 1) := by decide +kernel
theorem d5_52 : decode jdk_42_method_149_code 52 = .ok (.aload 5, 2) := by decide +kernel
theorem d5_54 : decode jdk_42_method_149_code 54 = .ok (.putfield 9, 3) := by decide +kernel
theorem d5_57 : decode jdk_42_method_149_code 57 = .ok (.return_, 1) := by decide +kernel
theorem d7_0 : decode prog_70_method_1_code 0 = .ok (.aload_n 0, 1) := by decide +kernel
theorem d7_1 : decode prog_70_method_1_code 1 = .ok (.invokespecial 1, 3) := by decide +kernel
theorem d7_4 : decode prog_70_method_1_code 4 = .ok (.aload_n 0, 1) := by decide +kernel
theorem d7_5 : decode prog_70_method_1_code 5 = .ok (.aload_n 1, 1) := by decide +kernel
theorem d7_6 : decode prog_70_method_1_code 6 = .ok (.putfield 7, 3) := by decide +kernel
theorem d7_9 : decode prog_70_method_1_code 9 = .ok (.aload_n 0, 1) := by decide +kernel
theorem d7_10 : decode prog_70_method_1_code 10 = .ok (.aload_n 2, 1) := by decide +kernel
theorem d7_11 : decode prog_70_method_1_code 11 = .ok (.putfield 13, 3) := by decide +kernel
theorem d7_14 : decode prog_70_method_1_code 14 = .ok (.aload_n 0, 1) := by decide +kernel
theorem d7_15 : decode prog_70_method_1_code 15 = .ok (.lload_n 3, 1) := by decide +kernel
theorem d7_16 : decode prog_70_method_1_code 16 = .ok (.putfield 17, 3) := by decide +kernel
theorem d7_19 : decode prog_70_method_1_code 19 = .ok (.aload_n 0, 1) := by decide +kernel
theorem d7_20 : decode prog_70_method_1_code 20 = .ok (.iload 5, 2) := by decide +kernel
theorem d7_22 : decode prog_70_method_1_code 22 = .ok (.putfield 21, 3) := by decide +kernel
theorem d7_25 : decode prog_70_method_1_code 25 = .ok (.return_, 1) := by decide +kernel
theorem d8_0 : decode jdk_30_method_1_code 0 = .ok (.aload_n 0, 1) := by decide +kernel
theorem d8_1 : decode jdk_30_method_1_code 1 = .ok (.invokespecial 1, 3) := by decide +kernel
theorem d8_4 : decode jdk_30_method_1_code 4 = .ok (.return_, 1) := by decide +kernel
theorem d9_0 : decode prog_70_method_3_code 0 = .ok (.aload_n 0, 1) := by decide +kernel
theorem d9_1 : decode prog_70_method_3_code 1 = .ok (.getfield 7, 3) := by decide +kernel
theorem d9_4 : decode prog_70_method_3_code 4 = .ok (.getstatic 36, 3) := by decide +kernel
theorem d9_7 : decode prog_70_method_3_code 7 = .ok (.if_acmp .ne 17, 3) := by decide +kernel
theorem d9_10 : decode prog_70_method_3_code 10 = .ok (.aload_n 0, 1) := by decide +kernel
theorem d9_11 : decode prog_70_method_3_code 11 = .ok (.getfield 13, 3) := by decide +kernel
theorem d9_14 : decode prog_70_method_3_code 14 = .ok (.invokevirtual 39, 3) := by decide +kernel
theorem d9_17 : decode prog_70_method_3_code 17 = .ok (.aload_n 1, 1) := by decide +kernel
theorem d9_18 : decode prog_70_method_3_code 18 = .ok (.invokevirtual 39, 3) := by decide +kernel
theorem d9_21 : decode prog_70_method_3_code 21 = .ok (.if_icmp .eq 5, 3) := by decide +kernel
theorem d9_24 : decode prog_70_method_3_code 24 = .ok (.iconst 0, 1) := by decide +kernel
theorem d9_25 : decode prog_70_method_3_code 25 = .ok (.ireturn, 1) := by decide +kernel
theorem d9_26 : decode prog_70_method_3_code 26 = .ok (.iconst 0, 1) := by decide +kernel
theorem d9_27 : decode prog_70_method_3_code 27 = .ok (.istore_n 2, 1) := by decide +kernel
theorem d9_28 : decode prog_70_method_3_code 28 = .ok (.iload_n 2, 1) := by decide +kernel
theorem d9_29 : decode prog_70_method_3_code 29 = .ok (.aload_n 0, 1) := by decide +kernel
theorem d9_30 : decode prog_70_method_3_code 30 = .ok (.getfield 13, 3) := by decide +kernel
theorem d9_33 : decode prog_70_method_3_code 33 = .ok (.invokevirtual 39, 3) := by decide +kernel
theorem d9_36 : decode prog_70_method_3_code 36 = .ok (.if_icmp .ge 56, 3) := by decide +kernel
theorem d9_39 : decode prog_70_method_3_code 39 = .ok (.aload_n 0, 1) := by decide +kernel
theorem d9_40 : decode prog_70_method_3_code 40 = .ok (.getfield 13, 3) := by decide +kernel
theorem d9_43 : decode prog_70_method_3_code 43 = .ok (.iload_n 2, 1) := by decide +kernel
theorem d9_44 : decode prog_70_method_3_code 44 = .ok (.invokevirtual 42, 3) := by decide +kernel
theorem d9_47 : decode prog_70_method_3_code 47 = .ok (.istore_n 3, 1) := by decide +kernel
theorem d9_48 : decode prog_70_method_3_code 48 = .ok (.iload_n 3, 1) := by decide +kernel
theorem d9_49 : decode prog_70_method_3_code 49 = .ok (.bipush 97, 2) := by decide +kernel
theorem d9_51 : decode prog_70_method_3_code 51 = .ok (.if_icmp .lt 20, 3) := by decide +kernel
theorem d9_54 : decode prog_70_method_3_code 54 = .ok (.iload_n 3, 1) := by decide +kernel
theorem d9_55 : decode prog_70_method_3_code 55 = .ok (.bipush 122, 2) := by decide +kernel
theorem d9_57 : decode prog_70_method_3_code 57 = .ok (.if_icmp .gt 14, 3) := by decide +kernel
theorem d9_60 : decode prog_70_method_3_code 60 = .ok (.iload_n 3, 1) := by decide +kernel
theorem d9_61 : decode prog_70_method_3_code 61 = .ok (.bipush 97, 2) := by decide +kernel
theorem d9_63 : decode prog_70_method_3_code 63 = .ok (.isub, 1) := by decide +kernel
theorem d9_64 : decode prog_70_method_3_code 64 = .ok (.bipush 65, 2) := by decide +kernel
theorem d9_66 : decode prog_70_method_3_code 66 = .ok (.iadd, 1) := by decide +kernel
theorem d9_67 : decode prog_70_method_3_code 67 = .ok (.i2c, 1) := by decide +kernel
theorem d9_68 : decode prog_70_method_3_code 68 = .ok (.goto 4, 3) := by decide +kernel
theorem d9_71 : decode prog_70_method_3_code 71 = .ok (.iload_n 3, 1) := by decide +kernel
theorem d9_72 : decode prog_70_method_3_code 72 = .ok (.istore 4, 2) := by decide +kernel
theorem d9_74 : decode prog_70_method_3_code 74 = .ok (.iload 4, 2) := by decide +kernel
theorem d9_76 : decode prog_70_method_3_code 76 = .ok (.aload_n 1, 1) := by decide +kernel
theorem d9_77 : decode prog_70_method_3_code 77 = .ok (.iload_n 2, 1) := by decide +kernel
theorem d9_78 : decode prog_70_method_3_code 78 = .ok (.invokevirtual 42, 3) := by decide +kernel
theorem d9_81 : decode prog_70_method_3_code 81 = .ok (.if_icmp .eq 5, 3) := by decide +kernel
theorem d9_84 : decode prog_70_method_3_code 84 = .ok (.iconst 0, 1) := by decide +kernel
theorem d9_85 : decode prog_70_method_3_code 85 = .ok (.ireturn, 1) := by decide +kernel
theorem d9_86 : decode prog_70_method_3_code 86 = .ok (.iinc 2 1, 3) := by decide +kernel
theorem d9_89 : decode prog_70_method_3_code 89 = .ok (.goto (-61), 3) := by decide +kernel
theorem d9_92 : decode prog_70_method_3_code 92 = .ok (.iconst 1, 1) := by decide +kernel
theorem d9_93 : decode prog_70_method_3_code 93 = .ok (.ireturn, 1) := by decide +kernel
theorem d10_0 : decode jdk_42_method_54_code 0 = .ok (.aload_n 0, 1) := by decide +kernel
theorem d10_1 : decode jdk_42_method_54_code 1 = .ok (.getfield 9, 3) := by decide +kernel
theorem d10_4 : decode jdk_42_method_54_code 4 = .ok (.arraylength, 1) := by decide +kernel
theorem d10_5 : decode jdk_42_method_54_code 5 = .ok (.aload_n 0, 1) := by decide +kernel
theorem d10_6 : decode jdk_42_method_54_code 6 = .ok (.invokevirtual 335, 3) := by decide +kernel
theorem d10_9 : decode jdk_42_method_54_code 9 = .ok (.ishr, 1) := by decide +kernel
theorem d10_10 : decode jdk_42_method_54_code 10 = .ok (.ireturn, 1) := by decide +kernel
theorem d11_0 : decode jdk_42_method_152_code 0 = .ok (.getstatic 38, 3) := by decide +kernel
theorem d11_3 : decode jdk_42_method_152_code 3 = .ok (.ifCond .eq 10, 3) := by decide +kernel
theorem d11_6 : decode jdk_42_method_152_code 6 = .ok (.aload_n 0, 1) := by decide +kernel
theorem d11_7 : decode jdk_42_method_152_code 7 = .ok (.getfield 15, 3) := by decide +kernel
theorem d11_10 : decode jdk_42_method_152_code 10 = .ok (.goto 4, 3) := by decide +kernel
theorem d11_14 : decode jdk_42_method_152_code 14 = .ok (.ireturn, 1) := by decide +kernel
theorem d12_0 : decode jdk_42_method_139_code 0 = .ok (.getstatic 38, 3) := by decide +kernel
theorem d12_3 : decode jdk_42_method_139_code 3 = .ok (.ifCond .eq 23, 3) := by decide +kernel
theorem d12_6 : decode jdk_42_method_139_code 6 = .ok (.iload_n 0, 1) := by decide +kernel
theorem d12_7 : decode jdk_42_method_139_code 7 = .ok (.invokestatic 1015, 3) := by decide +kernel
theorem d12_10 : decode jdk_42_method_139_code 10 = .ok (.ifCond .eq 16, 3) := by decide +kernel
theorem d12_13 : decode jdk_42_method_139_code 13 = .ok (.new 10, 3) := by decide +kernel
theorem d12_16 : decode jdk_42_method_139_code 16 = .ok (.dup, 1) := by decide +kernel
theorem d12_17 : decode jdk_42_method_139_code 17 = .ok (.iload_n 0, 1) := by decide +kernel
theorem d12_18 : decode jdk_42_method_139_code 18 = .ok (.invokestatic 1018, 3) := by decide +kernel
theorem d12_21 : decode jdk_42_method_139_code 21 = .ok (.iconst 0, 1) := by decide +kernel
theorem d12_22 : decode jdk_42_method_139_code 22 = .ok (.invokespecial 209, 3) := by decide +kernel
theorem d12_25 : decode jdk_42_method_139_code 25 = .ok (.areturn, 1) := by decide +kernel
theorem d12_26 : decode jdk_42_method_139_code 26 = .ok (.new 10, 3) := by decide +kernel
theorem d12_29 : decode jdk_42_method_139_code 29 = .ok (.dup, 1) := by decide +kernel
theorem d12_30 : decode jdk_42_method_139_code 30 = .ok (.iload_n 0, 1) := by decide +kernel
theorem d12_31 : decode jdk_42_method_139_code 31 = .ok (.invokestatic 1021, 3) := by decide +kernel
theorem d12_34 : decode jdk_42_method_139_code 34 = .ok (.iconst 1, 1) := by decide +kernel
theorem d12_35 : decode jdk_42_method_139_code 35 = .ok (.invokespecial 209, 3) := by decide +kernel
theorem d12_38 : decode jdk_42_method_139_code 38 = .ok (.areturn, 1) := by decide +kernel
theorem d13_0 : decode jdk_43_method_3_code 0 = .ok (.iload_n 0, 1) := by decide +kernel
theorem d13_1 : decode jdk_43_method_3_code 1 = .ok (.sipush 255, 3) := by decide +kernel
theorem d13_4 : decode jdk_43_method_3_code 4 = .ok (.if_icmp .gt 7, 3) := by decide +kernel
theorem d13_7 : decode jdk_43_method_3_code 7 = .ok (.iconst 1, 1) := by decide +kernel
theorem d13_8 : decode jdk_43_method_3_code 8 = .ok (.goto 4, 3) := by decide +kernel
theorem d13_11 : decode jdk_43_method_3_code 11 = .ok (.iconst 0, 1) := by decide +kernel
theorem d13_12 : decode jdk_43_method_3_code 12 = .ok (.ireturn, 1) := by decide +kernel
theorem d14_0 : decode jdk_43_method_46_code 0 = .ok (.iconst 1, 1) := by decide +kernel
theorem d14_1 : decode jdk_43_method_46_code 1 = .ok (.newarray .byte, 2) := by decide +kernel
theorem d14_3 : decode jdk_43_method_46_code 3 = .ok (.dup, 1) := by decide +kernel
theorem d14_4 : decode jdk_43_method_46_code 4 = .ok (.iconst 0, 1) := by decide +kernel
theorem d14_5 : decode jdk_43_method_46_code 5 = .ok (.iload_n 0, 1) := by decide +kernel
theorem d14_6 : decode jdk_43_method_46_code 6 = .ok (.i2b, 1) := by decide +kernel
theorem d14_7 : decode jdk_43_method_46_code 7 = .ok (.bastore, 1) := by decide +kernel
theorem d14_8 : decode jdk_43_method_46_code 8 = .ok (.areturn, 1) := by decide +kernel
theorem d15_0 : decode jdk_42_method_151_code 0 = .ok (.aload_n 0, 1) := by decide +kernel
theorem d15_1 : decode jdk_42_method_151_code 1 = .ok (.invokespecial 1, 3) := by decide +kernel
theorem d15_4 : decode jdk_42_method_151_code 4 = .ok (.aload_n 0, 1) := by decide +kernel
theorem d15_5 : decode jdk_42_method_151_code 5 = .ok (.aload_n 1, 1) := by decide +kernel
theorem d15_6 : decode jdk_42_method_151_code 6 = .ok (.putfield 9, 3) := by decide +kernel
theorem d15_9 : decode jdk_42_method_151_code 9 = .ok (.aload_n 0, 1) := by decide +kernel
theorem d15_10 : decode jdk_42_method_151_code 10 = .ok (.iload_n 2, 1) := by decide +kernel
theorem d15_11 : decode jdk_42_method_151_code 11 = .ok (.putfield 15, 3) := by decide +kernel
theorem d15_14 : decode jdk_42_method_151_code 14 = .ok (.return_, 1) := by decide +kernel
theorem d16_0 : decode method_5_code 0 = .ok (.iload_n 0, 1) := by decide +kernel
theorem d16_1 : decode method_5_code 1 = .ok (.iload_n 1, 1) := by decide +kernel
theorem d16_2 : decode method_5_code 2 = .ok (.if_icmp .eq 23, 3) := by decide +kernel
theorem d16_5 : decode method_5_code 5 = .ok (.iload_n 1, 1) := by decide +kernel
theorem d16_6 : decode method_5_code 6 = .ok (.bipush 65, 2) := by decide +kernel
theorem d16_8 : decode method_5_code 8 = .ok (.if_icmp .lt 21, 3) := by decide +kernel
theorem d16_11 : decode method_5_code 11 = .ok (.iload_n 1, 1) := by decide +kernel
theorem d16_12 : decode method_5_code 12 = .ok (.bipush 90, 2) := by decide +kernel
theorem d16_14 : decode method_5_code 14 = .ok (.if_icmp .gt 15, 3) := by decide +kernel
theorem d16_17 : decode method_5_code 17 = .ok (.iload_n 0, 1) := by decide +kernel
theorem d16_18 : decode method_5_code 18 = .ok (.iload_n 1, 1) := by decide +kernel
theorem d16_19 : decode method_5_code 19 = .ok (.bipush 32, 2) := by decide +kernel
theorem d16_21 : decode method_5_code 21 = .ok (.iadd, 1) := by decide +kernel
theorem d16_22 : decode method_5_code 22 = .ok (.if_icmp .ne 7, 3) := by decide +kernel
theorem d16_25 : decode method_5_code 25 = .ok (.iconst 1, 1) := by decide +kernel
theorem d16_26 : decode method_5_code 26 = .ok (.goto 4, 3) := by decide +kernel
theorem d16_29 : decode method_5_code 29 = .ok (.iconst 0, 1) := by decide +kernel
theorem d16_30 : decode method_5_code 30 = .ok (.ireturn, 1) := by decide +kernel
theorem d17_0 : decode jdk_42_method_56_code 0 = .ok (.aload_n 0, 1) := by decide +kernel
theorem d17_1 : decode jdk_42_method_56_code 1 = .ok (.invokevirtual 492, 3) := by decide +kernel
theorem d17_4 : decode jdk_42_method_56_code 4 = .ok (.ifCond .eq 12, 3) := by decide +kernel
theorem d17_7 : decode jdk_42_method_56_code 7 = .ok (.aload_n 0, 1) := by decide +kernel
theorem d17_8 : decode jdk_42_method_56_code 8 = .ok (.getfield 9, 3) := by decide +kernel
theorem d17_11 : decode jdk_42_method_56_code 11 = .ok (.iload_n 1, 1) := by decide +kernel
theorem d17_12 : decode jdk_42_method_56_code 12 = .ok (.invokestatic 495, 3) := by decide +kernel
theorem d17_15 : decode jdk_42_method_56_code 15 = .ok (.ireturn, 1) := by decide +kernel
theorem d17_16 : decode jdk_42_method_56_code 16 = .ok (.aload_n 0, 1) := by decide +kernel
theorem d17_17 : decode jdk_42_method_56_code 17 = .ok (.getfield 9, 3) := by decide +kernel
theorem d17_20 : decode jdk_42_method_56_code 20 = .ok (.iload_n 1, 1) := by decide +kernel
theorem d17_21 : decode jdk_42_method_56_code 21 = .ok (.invokestatic 498, 3) := by decide +kernel
theorem d17_24 : decode jdk_42_method_56_code 24 = .ok (.ireturn, 1) := by decide +kernel
theorem d18_0 : decode jdk_42_method_154_code 0 = .ok (.getstatic 38, 3) := by decide +kernel
theorem d18_3 : decode jdk_42_method_154_code 3 = .ok (.ifCond .eq 14, 3) := by decide +kernel
theorem d18_6 : decode jdk_42_method_154_code 6 = .ok (.aload_n 0, 1) := by decide +kernel
theorem d18_7 : decode jdk_42_method_154_code 7 = .ok (.getfield 15, 3) := by decide +kernel
theorem d18_10 : decode jdk_42_method_154_code 10 = .ok (.ifCond .ne 7, 3) := by decide +kernel
theorem d18_13 : decode jdk_42_method_154_code 13 = .ok (.iconst 1, 1) := by decide +kernel
theorem d18_14 : decode jdk_42_method_154_code 14 = .ok (.goto 4, 3) := by decide +kernel
theorem d18_17 : decode jdk_42_method_154_code 17 = .ok (.iconst 0, 1) := by decide +kernel
theorem d18_18 : decode jdk_42_method_154_code 18 = .ok (.ireturn, 1) := by decide +kernel
theorem d19_0 : decode jdk_43_method_2_code 0 = .ok (.iload_n 1, 1) := by decide +kernel
theorem d19_1 : decode jdk_43_method_2_code 1 = .ok (.aload_n 0, 1) := by decide +kernel
theorem d19_2 : decode jdk_43_method_2_code 2 = .ok (.arraylength, 1) := by decide +kernel
theorem d19_3 : decode jdk_43_method_2_code 3 = .ok (.invokestatic 9, 3) := by decide +kernel
theorem d19_6 : decode jdk_43_method_2_code 6 = .ok (.aload_n 0, 1) := by decide +kernel
theorem d19_7 : decode jdk_43_method_2_code 7 = .ok (.iload_n 1, 1) := by decide +kernel
theorem d19_8 : decode jdk_43_method_2_code 8 = .ok (.baload, 1) := by decide +kernel
theorem d19_9 : decode jdk_43_method_2_code 9 = .ok (.sipush 255, 3) := by decide +kernel
theorem d19_12 : decode jdk_43_method_2_code 12 = .ok (.iand, 1) := by decide +kernel
theorem d19_13 : decode jdk_43_method_2_code 13 = .ok (.i2c, 1) := by decide +kernel
theorem d19_14 : decode jdk_43_method_2_code 14 = .ok (.ireturn, 1) := by decide +kernel
theorem d20_0 : decode jdk_42_method_155_code 0 = .ok (.iload_n 0, 1) := by decide +kernel
theorem d20_1 : decode jdk_42_method_155_code 1 = .ok (.iload_n 1, 1) := by decide +kernel
theorem d20_2 : decode jdk_42_method_155_code 2 = .ok (.getstatic 1053, 3) := by decide +kernel
theorem d20_5 : decode jdk_42_method_155_code 5 = .ok (.invokestatic 1059, 3) := by decide +kernel
theorem d20_8 : decode jdk_42_method_155_code 8 = .ok (.pop, 1) := by decide +kernel
theorem d20_9 : decode jdk_42_method_155_code 9 = .ok (.return_, 1) := by decide +kernel
theorem d21_0 : decode jdk_41_method_11_code 0 = .ok (.iload_n 0, 1) := by decide +kernel
theorem d21_1 : decode jdk_41_method_11_code 1 = .ok (.ifCond .lt 8, 3) := by decide +kernel
theorem d21_4 : decode jdk_41_method_11_code 4 = .ok (.iload_n 0, 1) := by decide +kernel
theorem d21_5 : decode jdk_41_method_11_code 5 = .ok (.iload_n 1, 1) := by decide +kernel
theorem d21_6 : decode jdk_41_method_11_code 6 = .ok (.if_icmp .lt 10, 3) := by decide +kernel
theorem d21_16 : decode jdk_41_method_11_code 16 = .ok (.iload_n 0, 1) := by decide +kernel
theorem d21_17 : decode jdk_41_method_11_code 17 = .ok (.ireturn, 1) := by decide +kernel
theorem d22_0 : decode jdk_52_method_16_code 0 = .ok (.iload_n 2, 1) := by decide +kernel
theorem d22_1 : decode jdk_52_method_16_code 1 = .ok (.newarray .byte, 2) := by decide +kernel
theorem d22_3 : decode jdk_52_method_16_code 3 = .ok (.astore_n 3, 1) := by decide +kernel
theorem d22_4 : decode jdk_52_method_16_code 4 = .ok (.aload_n 0, 1) := by decide +kernel
theorem d22_5 : decode jdk_52_method_16_code 5 = .ok (.iload_n 1, 1) := by decide +kernel
theorem d22_6 : decode jdk_52_method_16_code 6 = .ok (.aload_n 3, 1) := by decide +kernel
theorem d22_7 : decode jdk_52_method_16_code 7 = .ok (.iconst 0, 1) := by decide +kernel
theorem d22_8 : decode jdk_52_method_16_code 8 = .ok (.iload_n 2, 1) := by decide +kernel
theorem d22_9 : decode jdk_52_method_16_code 9 = .ok (.invokestatic 115, 3) := by decide +kernel
theorem d22_12 : decode jdk_52_method_16_code 12 = .ok (.istore 4, 2) := by decide +kernel
theorem d22_14 : decode jdk_52_method_16_code 14 = .ok (.iload 4, 2) := by decide +kernel
theorem d22_16 : decode jdk_52_method_16_code 16 = .ok (.iload_n 2, 1) := by decide +kernel
theorem d22_17 : decode jdk_52_method_16_code 17 = .ok (.if_icmp .eq 40, 3) := by decide +kernel
theorem d22_20 : decode jdk_52_method_16_code 20 = .ok (.aload_n 0, 1) := by decide +kernel
theorem d22_21 : decode jdk_52_method_16_code 21 = .ok (.iload_n 1, 1) := by decide +kernel
theorem d22_22 : decode jdk_52_method_16_code 22 = .ok (.iload_n 2, 1) := by decide +kernel
theorem d22_23 : decode jdk_52_method_16_code 23 = .ok (.invokestatic 119, 3) := by decide +kernel
theorem d22_26 : decode jdk_52_method_16_code 26 = .ok (.astore 5, 2) := by decide +kernel
theorem d22_28 : decode jdk_52_method_16_code 28 = .ok (.aload 5, 2) := by decide +kernel
theorem d22_30 : decode jdk_52_method_16_code 30 = .ok (.iload 4, 2) := by decide +kernel
theorem d22_32 : decode jdk_52_method_16_code 32 = .ok (.invokestatic 71, 3) := by decide +kernel
theorem d22_35 : decode jdk_52_method_16_code 35 = .ok (.sipush 255, 3) := by decide +kernel
theorem d22_38 : decode jdk_52_method_16_code 38 = .ok (.if_icmp .gt 16, 3) := by decide +kernel
theorem d22_54 : decode jdk_52_method_16_code 54 = .ok (.aload 5, 2) := by decide +kernel
theorem d22_56 : decode jdk_52_method_16_code 56 = .ok (.areturn, 1) := by decide +kernel
theorem d22_57 : decode jdk_52_method_16_code 57 = .ok (.aload_n 3, 1) := by decide +kernel
theorem d22_58 : decode jdk_52_method_16_code 58 = .ok (.areturn, 1) := by decide +kernel
theorem d23_0 : decode jdk_52_method_21_code 0 = .ok (.iconst 0, 1) := by decide +kernel
theorem d23_1 : decode jdk_52_method_21_code 1 = .ok (.istore 5, 2) := by decide +kernel
theorem d23_3 : decode jdk_52_method_21_code 3 = .ok (.iload 5, 2) := by decide +kernel
theorem d23_5 : decode jdk_52_method_21_code 5 = .ok (.iload 4, 2) := by decide +kernel
theorem d23_7 : decode jdk_52_method_21_code 7 = .ok (.if_icmp .ge 37, 3) := by decide +kernel
theorem d23_10 : decode jdk_52_method_21_code 10 = .ok (.aload_n 0, 1) := by decide +kernel
theorem d23_11 : decode jdk_52_method_21_code 11 = .ok (.iload_n 1, 1) := by decide +kernel
theorem d23_12 : decode jdk_52_method_21_code 12 = .ok (.caload, 1) := by decide +kernel
theorem d23_13 : decode jdk_52_method_21_code 13 = .ok (.istore 6, 2) := by decide +kernel
theorem d23_15 : decode jdk_52_method_21_code 15 = .ok (.iload 6, 2) := by decide +kernel
theorem d23_17 : decode jdk_52_method_21_code 17 = .ok (.sipush 255, 3) := by decide +kernel
theorem d23_20 : decode jdk_52_method_21_code 20 = .ok (.if_icmp .le 6, 3) := by decide +kernel
theorem d23_23 : decode jdk_52_method_21_code 23 = .ok (.iload 5, 2) := by decide +kernel
theorem d23_25 : decode jdk_52_method_21_code 25 = .ok (.ireturn, 1) := by decide +kernel
theorem d23_26 : decode jdk_52_method_21_code 26 = .ok (.aload_n 2, 1) := by decide +kernel
theorem d23_27 : decode jdk_52_method_21_code 27 = .ok (.iload_n 3, 1) := by decide +kernel
theorem d23_28 : decode jdk_52_method_21_code 28 = .ok (.iload 6, 2) := by decide +kernel
theorem d23_30 : decode jdk_52_method_21_code 30 = .ok (.i2b, 1) := by decide +kernel
theorem d23_31 : decode jdk_52_method_21_code 31 = .ok (.bastore, 1) := by decide +kernel
theorem d23_32 : decode jdk_52_method_21_code 32 = .ok (.iinc 1 1, 3) := by decide +kernel
theorem d23_35 : decode jdk_52_method_21_code 35 = .ok (.iinc 3 1, 3) := by decide +kernel
theorem d23_38 : decode jdk_52_method_21_code 38 = .ok (.iinc 5 1, 3) := by decide +kernel
theorem d23_41 : decode jdk_52_method_21_code 41 = .ok (.goto (-38), 3) := by decide +kernel
theorem d23_44 : decode jdk_52_method_21_code 44 = .ok (.iload 4, 2) := by decide +kernel
theorem d23_46 : decode jdk_52_method_21_code 46 = .ok (.ireturn, 1) := by decide +kernel
theorem d24_0 : decode jdk_52_method_14_code 0 = .ok (.iload_n 2, 1) := by decide +kernel
theorem d24_1 : decode jdk_52_method_14_code 1 = .ok (.invokestatic 107, 3) := by decide +kernel
theorem d24_4 : decode jdk_52_method_14_code 4 = .ok (.astore_n 3, 1) := by decide +kernel
theorem d24_5 : decode jdk_52_method_14_code 5 = .ok (.iconst 0, 1) := by decide +kernel
theorem d24_6 : decode jdk_52_method_14_code 6 = .ok (.istore 4, 2) := by decide +kernel
theorem d24_8 : decode jdk_52_method_14_code 8 = .ok (.iload 4, 2) := by decide +kernel
theorem d24_10 : decode jdk_52_method_14_code 10 = .ok (.iload_n 2, 1) := by decide +kernel
theorem d24_11 : decode jdk_52_method_14_code 11 = .ok (.if_icmp .ge 21, 3) := by decide +kernel
theorem d24_14 : decode jdk_52_method_14_code 14 = .ok (.aload_n 3, 1) := by decide +kernel
theorem d24_15 : decode jdk_52_method_14_code 15 = .ok (.iload 4, 2) := by decide +kernel
theorem d24_17 : decode jdk_52_method_14_code 17 = .ok (.aload_n 0, 1) := by decide +kernel
theorem d24_18 : decode jdk_52_method_14_code 18 = .ok (.iload_n 1, 1) := by decide +kernel
theorem d24_19 : decode jdk_52_method_14_code 19 = .ok (.caload, 1) := by decide +kernel
theorem d24_20 : decode jdk_52_method_14_code 20 = .ok (.invokestatic 111, 3) := by decide +kernel
theorem d24_23 : decode jdk_52_method_14_code 23 = .ok (.iinc 1 1, 3) := by decide +kernel
theorem d24_26 : decode jdk_52_method_14_code 26 = .ok (.iinc 4 1, 3) := by decide +kernel
theorem d24_29 : decode jdk_52_method_14_code 29 = .ok (.goto (-21), 3) := by decide +kernel
theorem d24_32 : decode jdk_52_method_14_code 32 = .ok (.aload_n 3, 1) := by decide +kernel
theorem d24_33 : decode jdk_52_method_14_code 33 = .ok (.areturn, 1) := by decide +kernel
theorem d25_0 : decode jdk_52_method_2_code 0 = .ok (.iload_n 0, 1) := by decide +kernel
theorem d25_1 : decode jdk_52_method_2_code 1 = .ok (.invokestatic 11, 3) := by decide +kernel
theorem d25_4 : decode jdk_52_method_2_code 4 = .ok (.newarray .byte, 2) := by decide +kernel
theorem d25_6 : decode jdk_52_method_2_code 6 = .ok (.areturn, 1) := by decide +kernel
theorem d26_0 : decode jdk_52_method_3_code 0 = .ok (.iload_n 0, 1) := by decide +kernel
theorem d26_1 : decode jdk_52_method_3_code 1 = .ok (.ifCond .ge 11, 3) := by decide +kernel
theorem d26_12 : decode jdk_52_method_3_code 12 = .ok (.iload_n 0, 1) := by decide +kernel
theorem d26_13 : decode jdk_52_method_3_code 13 = .ok (.ldc 20, 2) := by decide +kernel
theorem d26_15 : decode jdk_52_method_3_code 15 = .ok (.if_icmp .lt 40, 3) := by decide +kernel
theorem d26_55 : decode jdk_52_method_3_code 55 = .ok (.iload_n 0, 1) := by decide +kernel
theorem d26_56 : decode jdk_52_method_3_code 56 = .ok (.iconst 1, 1) := by decide +kernel
theorem d26_57 : decode jdk_52_method_3_code 57 = .ok (.ishl, 1) := by decide +kernel
theorem d26_58 : decode jdk_52_method_3_code 58 = .ok (.ireturn, 1) := by decide +kernel
theorem d27_0 : decode jdk_52_method_4_code 0 = .ok (.getstatic 44, 3) := by decide +kernel
theorem d27_3 : decode jdk_52_method_4_code 3 = .ok (.ifCond .ne 25, 3) := by decide +kernel
theorem d27_28 : decode jdk_52_method_4_code 28 = .ok (.iload_n 1, 1) := by decide +kernel
theorem d27_29 : decode jdk_52_method_4_code 29 = .ok (.iconst 1, 1) := by decide +kernel
theorem d27_30 : decode jdk_52_method_4_code 30 = .ok (.ishl, 1) := by decide +kernel
theorem d27_31 : decode jdk_52_method_4_code 31 = .ok (.istore_n 1, 1) := by decide +kernel
theorem d27_32 : decode jdk_52_method_4_code 32 = .ok (.aload_n 0, 1) := by decide +kernel
theorem d27_33 : decode jdk_52_method_4_code 33 = .ok (.iload_n 1, 1) := by decide +kernel
theorem d27_34 : decode jdk_52_method_4_code 34 = .ok (.iinc 1 1, 3) := by decide +kernel
theorem d27_37 : decode jdk_52_method_4_code 37 = .ok (.iload_n 2, 1) := by decide +kernel
theorem d27_38 : decode jdk_52_method_4_code 38 = .ok (.getstatic 59, 3) := by decide +kernel
theorem d27_41 : decode jdk_52_method_4_code 41 = .ok (.ishr, 1) := by decide +kernel
theorem d27_42 : decode jdk_52_method_4_code 42 = .ok (.i2b, 1) := by decide +kernel
theorem d27_43 : decode jdk_52_method_4_code 43 = .ok (.bastore, 1) := by decide +kernel
theorem d27_44 : decode jdk_52_method_4_code 44 = .ok (.aload_n 0, 1) := by decide +kernel
theorem d27_45 : decode jdk_52_method_4_code 45 = .ok (.iload_n 1, 1) := by decide +kernel
theorem d27_46 : decode jdk_52_method_4_code 46 = .ok (.iload_n 2, 1) := by decide +kernel
theorem d27_47 : decode jdk_52_method_4_code 47 = .ok (.getstatic 63, 3) := by decide +kernel
theorem d27_50 : decode jdk_52_method_4_code 50 = .ok (.ishr, 1) := by decide +kernel
theorem d27_51 : decode jdk_52_method_4_code 51 = .ok (.i2b, 1) := by decide +kernel
theorem d27_52 : decode jdk_52_method_4_code 52 = .ok (.bastore, 1) := by decide +kernel
theorem d27_53 : decode jdk_52_method_4_code 53 = .ok (.return_, 1) := by decide +kernel
theorem d28_0 : decode jdk_52_method_5_code 0 = .ok (.getstatic 44, 3) := by decide +kernel
theorem d28_3 : decode jdk_52_method_5_code 3 = .ok (.ifCond .ne 25, 3) := by decide +kernel
theorem d28_28 : decode jdk_52_method_5_code 28 = .ok (.iload_n 1, 1) := by decide +kernel
theorem d28_29 : decode jdk_52_method_5_code 29 = .ok (.iconst 1, 1) := by decide +kernel
theorem d28_30 : decode jdk_52_method_5_code 30 = .ok (.ishl, 1) := by decide +kernel
theorem d28_31 : decode jdk_52_method_5_code 31 = .ok (.istore_n 1, 1) := by decide +kernel
theorem d28_32 : decode jdk_52_method_5_code 32 = .ok (.aload_n 0, 1) := by decide +kernel
theorem d28_33 : decode jdk_52_method_5_code 33 = .ok (.iload_n 1, 1) := by decide +kernel
theorem d28_34 : decode jdk_52_method_5_code 34 = .ok (.iinc 1 1, 3) := by decide +kernel
theorem d28_37 : decode jdk_52_method_5_code 37 = .ok (.baload, 1) := by decide +kernel
theorem d28_38 : decode jdk_52_method_5_code 38 = .ok (.sipush 255, 3) := by decide +kernel
theorem d28_41 : decode jdk_52_method_5_code 41 = .ok (.iand, 1) := by decide +kernel
theorem d28_42 : decode jdk_52_method_5_code 42 = .ok (.getstatic 59, 3) := by decide +kernel
theorem d28_45 : decode jdk_52_method_5_code 45 = .ok (.ishl, 1) := by decide +kernel
theorem d28_46 : decode jdk_52_method_5_code 46 = .ok (.aload_n 0, 1) := by decide +kernel
theorem d28_47 : decode jdk_52_method_5_code 47 = .ok (.iload_n 1, 1) := by decide +kernel
theorem d28_48 : decode jdk_52_method_5_code 48 = .ok (.baload, 1) := by decide +kernel
theorem d28_49 : decode jdk_52_method_5_code 49 = .ok (.sipush 255, 3) := by decide +kernel
theorem d28_52 : decode jdk_52_method_5_code 52 = .ok (.iand, 1) := by decide +kernel
theorem d28_53 : decode jdk_52_method_5_code 53 = .ok (.getstatic 63, 3) := by decide +kernel
theorem d28_56 : decode jdk_52_method_5_code 56 = .ok (.ishl, 1) := by decide +kernel
theorem d28_57 : decode jdk_52_method_5_code 57 = .ok (.ior, 1) := by decide +kernel
theorem d28_58 : decode jdk_52_method_5_code 58 = .ok (.i2c, 1) := by decide +kernel
theorem d28_59 : decode jdk_52_method_5_code 59 = .ok (.ireturn, 1) := by decide +kernel
theorem d29_0 : decode jdk_52_method_15_code 0 = .ok (.iload_n 1, 1) := by decide +kernel
theorem d29_1 : decode jdk_52_method_15_code 1 = .ok (.aload_n 0, 1) := by decide +kernel
theorem d29_2 : decode jdk_52_method_15_code 2 = .ok (.arraylength, 1) := by decide +kernel
theorem d29_3 : decode jdk_52_method_15_code 3 = .ok (.isub, 1) := by decide +kernel
theorem d29_4 : decode jdk_52_method_15_code 4 = .ok (.bipush 31, 2) := by decide +kernel
theorem d29_6 : decode jdk_52_method_15_code 6 = .ok (.iushr, 1) := by decide +kernel
theorem d29_7 : decode jdk_52_method_15_code 7 = .ok (.i2b, 1) := by decide +kernel
theorem d29_8 : decode jdk_52_method_15_code 8 = .ok (.ireturn, 1) := by decide +kernel
theorem d30_0 : decode jdk_52_method_24_code 0 = .ok (.iconst 2, 1) := by decide +kernel
theorem d30_1 : decode jdk_52_method_24_code 1 = .ok (.newarray .byte, 2) := by decide +kernel
theorem d30_3 : decode jdk_52_method_24_code 3 = .ok (.astore_n 1, 1) := by decide +kernel
theorem d30_4 : decode jdk_52_method_24_code 4 = .ok (.aload_n 1, 1) := by decide +kernel
theorem d30_5 : decode jdk_52_method_24_code 5 = .ok (.iconst 0, 1) := by decide +kernel
theorem d30_6 : decode jdk_52_method_24_code 6 = .ok (.iload_n 0, 1) := by decide +kernel
theorem d30_7 : decode jdk_52_method_24_code 7 = .ok (.invokestatic 111, 3) := by decide +kernel
theorem d30_10 : decode jdk_52_method_24_code 10 = .ok (.aload_n 1, 1) := by decide +kernel
theorem d30_11 : decode jdk_52_method_24_code 11 = .ok (.areturn, 1) := by decide +kernel
theorem d31_0 : decode jdk_52_method_83_code 0 = .ok (.iload_n 1, 1) := by decide +kernel
theorem d31_1 : decode jdk_52_method_83_code 1 = .ok (.aload_n 0, 1) := by decide +kernel
theorem d31_2 : decode jdk_52_method_83_code 2 = .ok (.invokestatic 67, 3) := by decide +kernel
theorem d31_5 : decode jdk_52_method_83_code 5 = .ok (.aload_n 0, 1) := by decide +kernel
theorem d31_6 : decode jdk_52_method_83_code 6 = .ok (.iload_n 1, 1) := by decide +kernel
theorem d31_7 : decode jdk_52_method_83_code 7 = .ok (.invokestatic 71, 3) := by decide +kernel
theorem d31_10 : decode jdk_52_method_83_code 10 = .ok (.ireturn, 1) := by decide +kernel
theorem d32_0 : decode jdk_52_method_91_code 0 = .ok (.iload_n 0, 1) := by decide +kernel
theorem d32_1 : decode jdk_52_method_91_code 1 = .ok (.aload_n 1, 1) := by decide +kernel
theorem d32_2 : decode jdk_52_method_91_code 2 = .ok (.invokestatic 48, 3) := by decide +kernel
theorem d32_5 : decode jdk_52_method_91_code 5 = .ok (.invokestatic 414, 3) := by decide +kernel
theorem d32_8 : decode jdk_52_method_91_code 8 = .ok (.return_, 1) := by decide +kernel
theorem d33_0 : decode jdk_52_method_6_code 0 = .ok (.aload_n 0, 1) := by decide +kernel
theorem d33_1 : decode jdk_52_method_6_code 1 = .ok (.arraylength, 1) := by decide +kernel
theorem d33_2 : decode jdk_52_method_6_code 2 = .ok (.iconst 1, 1) := by decide +kernel
theorem d33_3 : decode jdk_52_method_6_code 3 = .ok (.ishr, 1) := by decide +kernel
theorem d33_4 : decode jdk_52_method_6_code 4 = .ok (.ireturn, 1) := by decide +kernel
theorem pn_2 : plainName "com/example/grantwork/grantwork/TokenIsKeywordPinLaw" = true := by first | (simp [plainName, overriddenIn]; done) | decide +kernel
theorem pn_3 : plainName "java/lang/Record" = true := by first | (simp [plainName, overriddenIn]; done) | decide +kernel
theorem pn_4 : plainName "com/example/grantwork/grantwork/Token" = true := by first | (simp [plainName, overriddenIn]; done) | decide +kernel
/-! new String(char[]), all chars below 256: the JDK's bodies walked -/
section StrInit
variable {l : Launch} {Z : State} {a0 : Array Value}
theorem own_hEL (hw : ∀ d ∈ tables_1, d.before a0 Z = true) : EW Z a0 consts_1 := (EW.cons (w28 hw) (by decide) EW.nil)
theorem own_wS (hw : ∀ d ∈ tables_1, d.before a0 Z = true) : ∀ a ∈ Bundle.stringAtoms, a.before a0 Z = true := by
  intro a ha
  simp only [Bundle.stringAtoms, List.mem_cons, List.not_mem_nil, or_false] at ha
  rcases ha with rfl | rfl | rfl | rfl | rfl | rfl | rfl
  · exact (w16 hw)
  · exact (w15 hw)
  · exact (w29 hw)
  · exact (w30 hw)
  · exact (w31 hw)
  · exact (w32 hw)
  · exact (w33 hw)
theorem pn_utf16 : plainName "java/lang/StringUTF16" = true := by first | (simp [plainName, overriddenIn]; done) | decide +kernel
theorem pf_str (n d : String) (q : plainFor ⟨"java/lang/String", n, d⟩ = true) : plainFor ⟨"java/lang/String", n, d⟩ = true := q
abbrev rm0 : Room := { frames := 0, cells := 0, slots := 0, locals := 0 }
theorem coderLen_met (hw : ∀ d ∈ tables_1, d.before a0 Z = true) {h : Heap} {b : Addr} {kb : ClassId} {z zz : Int32} {vs : List Value} {dv : Value} (F : Arv Z h b kb .byte z vs dv) :
    Met l Z consts_1 ⟨"java/lang/StringUTF16", "coderFromArrayLen", "([BI)B"⟩ jdk_52_method_15_code 2 (some .byte) [] rm0 #[.ref b, .int zz] h [] (fun v h' => v = some (.int (((zz - z).toUInt32 >>> ((31 : Int32) &&& 31).toUInt32).toInt32.toInt8.toInt32)) ∧ h = h') := by
  refine Met.of_walk (a0 := a0) (Ls := #[.val (.ref b), .val (.int zz)]) (plainFor_of_name pn_utf16) (own_hEL hw) rfl ?_
  refine Wl.iload_n 1 d29_0 rfl ?_
  refine Wl.aload_n 2 d29_1 rfl rfl ?_
  refine Wl.arraylength 3 d29_2 F ?_
  refine Wl.isub 4 d29_3 ?_
  refine Wl.bipush 6 (31 : Int32) d29_4 (by decide) ?_
  refine Wl.iushr 7 d29_6 ?_
  refine Wl.i2b 8 d29_7 ?_
  exact Wl.ireturn (t := .byte) d29_8 rfl (Jvm.Free.XT.narrow_b _) (by simp) (by decide) (by decide) ⟨rfl, rfl⟩
/-- the inner compress: the loop -/
theorem comp2_loop (hw : ∀ d ∈ tables_1, d.before a0 Z = true) {h0 : Heap} {b d : Addr} {kb kd : ClassId} {cs : List Int32} (hn : cs.length < 65536) (hlat : ∀ c ∈ cs, Lat c) (hne : b ≠ d) (j : Nat) :
    ∀ (i : Nat) (h : Heap) (o : Slot), i + j = cs.length → (o = .unset ∨ ∃ w, o = .val w ∧ w.category = 1) → Arv Z h b kb .char (Int32.ofNat cs.length) (cs.map Value.int) (.int 0) → Arv Z h d kd .byte (Int32.ofNat cs.length) (fil (cs.map byV) (.int 0) i) (.int 0) → Keep h0 h [d] →
    Wl l Z a0 consts_1 ⟨"java/lang/StringUTF16", "compress", "([CI[BII)I"⟩ jdk_52_method_21_code 7 (some .int) rm0 #[.ref b, .int 0, .ref d, .int 0, .int (Int32.ofNat cs.length)] (fun v h' => v = some (.int (Int32.ofNat cs.length)) ∧ Keep h0 h' [d] ∧ Arv Z h' d kd .byte (Int32.ofNat cs.length) (cs.map byV) (.int 0)) [d] h 0 0 3
      #[.val (.ref b), .val (.int (Int32.ofNat i)), .val (.ref d), .val (.int (Int32.ofNat i)), .val (.int (Int32.ofNat cs.length)), .val (.int (Int32.ofNat i)), o] [] := by
  induction j with
  | zero =>
    intro i h o hij ho Kb Kd K
    have hi : i = cs.length := by omega
    subst hi
    refine Wl.iload 5 d23_3 rfl ?_
    refine Wl.iload 7 d23_5 rfl ?_
    refine Wl.icmpY 44 d23_7 (flt Int32.lt_irrefl).2.1 ?_
    refine Wl.iload 46 d23_44 rfl ?_
    have e : fil (cs.map byV) (.int 0) cs.length = cs.map byV := by
      have := fil_all (cs.map byV) (.int 0); rwa [List.length_map] at this
    rw [e] at Kd
    exact Wl.ireturn (t := .int) d23_46 rfl rfl (by simp) (by decide) (by decide) ⟨rfl, K, Kd⟩
  | succ j ih =>
    intro i h o hij ho Kb Kd K
    have hi : i < cs.length := by omega
    have h31 : i < 2147483648 := by omega
    have hl : Lat cs[i] := hlat _ (List.getElem_mem hi)
    have hcl := nCl (i := cs.length) (by omega)
    refine Wl.iload 5 d23_3 rfl ?_
    refine Wl.iload 7 d23_5 rfl ?_
    refine Wl.icmpN 10 d23_7 (tlt ((nLt h31 (by omega)).mpr hi)).2.1 ?_
    refine Wl.aload_n 11 d23_10 rfl rfl ?_
    refine Wl.iload_n 12 d23_11 rfl ?_
    refine Wl.caload 13 i d23_12 Kb (nNn h31) (nCl h31) (by rw [hcl]; exact hi) (v := .int cs[i]) (by simp [List.getD_eq_getElem?_getD, hi]) ?_
    refine Wl.istore 15 #[.val (.ref b), .val (.int (Int32.ofNat i)), .val (.ref d), .val (.int (Int32.ofNat i)), .val (.int (Int32.ofNat cs.length)), .val (.int (Int32.ofNat i)), .val (.int cs[i])] d23_13 (XS.store1 (o := o) rfl ho rfl) ?_
    refine Wl.iload 17 d23_15 rfl ?_
    refine Wl.sipush 20 (255 : Int32) d23_17 (by decide) ?_
    refine Wl.icmpY 26 d23_20 (flt (lat_le hl)).2.2.2 ?_
    refine Wl.aload_n 27 d23_26 rfl rfl ?_
    refine Wl.iload_n 28 d23_27 rfl ?_
    refine Wl.iload 30 d23_28 rfl ?_
    refine Wl.i2b 31 d23_30 ?_
    refine Wl.bastore 32 i d23_31 Kd (List.mem_of_getElem? (i := 0) rfl) (nNn h31) (nCl h31) (by rw [hcl]; exact hi) (by rw [fil_len _ _ _ (by rw [List.length_map]; omega), List.length_map]; exact hi) ?_
    intro h' W Kd'
    rw [show nar .byte (cs[i]).toInt8.toInt32 = (cs[i]).toInt8.toInt32 from i2b_id _, fil_set (cs.map byV) (.int 0) _ i (by rw [List.length_map]; exact hi) (by simp [byV])] at Kd'
    refine Wl.iinc 35 #[.val (.ref b), .val (.int (Int32.ofNat (i + 1))), .val (.ref d), .val (.int (Int32.ofNat i)), .val (.int (Int32.ofNat cs.length)), .val (.int (Int32.ofNat i)), .val (.int cs[i])] (1 : Int32) d23_32 (by decide) rfl (by rw [nS]; rfl) ?_
    refine Wl.iinc 38 #[.val (.ref b), .val (.int (Int32.ofNat (i + 1))), .val (.ref d), .val (.int (Int32.ofNat (i + 1))), .val (.int (Int32.ofNat cs.length)), .val (.int (Int32.ofNat i)), .val (.int cs[i])] (1 : Int32) d23_35 (by decide) rfl (by rw [nS]; rfl) ?_
    refine Wl.iinc 41 #[.val (.ref b), .val (.int (Int32.ofNat (i + 1))), .val (.ref d), .val (.int (Int32.ofNat (i + 1))), .val (.int (Int32.ofNat cs.length)), .val (.int (Int32.ofNat (i + 1))), .val (.int cs[i])] (1 : Int32) d23_38 (by decide) rfl (by rw [nS]; rfl) ?_
    refine Wl.goto 3 d23_41 ?_
    exact ih (i + 1) h' _ (by omega) (Or.inr ⟨_, rfl, rfl⟩) (Kb.other W hne) Kd' (K.wr W (Or.inl (List.mem_of_getElem? (i := 0) rfl)))
theorem comp2_met (hw : ∀ d ∈ tables_1, d.before a0 Z = true) {h : Heap} {b d : Addr} {kb kd : ClassId} {cs : List Int32} (hn : cs.length < 65536) (hlat : ∀ c ∈ cs, Lat c) (hne : b ≠ d) (Kb : Arv Z h b kb .char (Int32.ofNat cs.length) (cs.map Value.int) (.int 0)) (Kd : Arv Z h d kd .byte (Int32.ofNat cs.length) (List.replicate cs.length (.int 0)) (.int 0)) :
    Met l Z consts_1 ⟨"java/lang/StringUTF16", "compress", "([CI[BII)I"⟩ jdk_52_method_21_code 7 (some .int) [] rm0 #[.ref b, .int 0, .ref d, .int 0, .int (Int32.ofNat cs.length)] h [d] (fun v h' => v = some (.int (Int32.ofNat cs.length)) ∧ Keep h h' [d] ∧ Arv Z h' d kd .byte (Int32.ofNat cs.length) (cs.map byV) (.int 0)) := by
  refine Met.of_walk (a0 := a0) (Ls := #[.val (.ref b), .val (.int 0), .val (.ref d), .val (.int 0), .val (.int (Int32.ofNat cs.length)), .unset, .unset]) (plainFor_of_name pn_utf16) (own_hEL hw) rfl ?_
  refine Wl.iconst 1 (0 : Int32) d23_0 (by decide) ?_
  refine Wl.istore 3 #[.val (.ref b), .val (.int 0), .val (.ref d), .val (.int 0), .val (.int (Int32.ofNat cs.length)), .val (.int 0), .unset] d23_1 rfl ?_
  exact comp2_loop hw hn hlat hne cs.length 0 h _ (by omega) (Or.inl rfl) Kb (by have e := fil_zero (cs.map byV) (.int 0); rw [List.length_map] at e; rw [e]; exact Kd) (Keep.refl h [d])
/-- compress(char[], int, int) -/
theorem comp1_met (hw : ∀ d ∈ tables_1, d.before a0 Z = true) {h : Heap} {b : Addr} {kb : ClassId} {cs : List Int32} {N : Nat} (hn : cs.length < 65536) (hN : cs.length ≤ N) (hN2 : N < 65536) (hlat : ∀ c ∈ cs, Lat c) (Kb : Arv Z h b kb .char (Int32.ofNat cs.length) (cs.map Value.int) (.int 0)) :
    Met l Z consts_1 ⟨"java/lang/StringUTF16", "compress", "([CII)[B"⟩ jdk_52_method_16_code 6 (some (.array .byte)) [] { frames := 1, cells := 1, slots := N, locals := 18 } #[.ref b, .int 0, .int (Int32.ofNat cs.length)] h [] (fun v h' => ∃ (d : Addr) (kd : ClassId), v = some (.ref d) ∧ h.size ≤ d ∧ Ext h h' ∧ Arv Z h' d kd .byte (Int32.ofNat cs.length) (cs.map byV) (.int 0)) := by
  refine Met.of_walk (a0 := a0) (Ls := #[.val (.ref b), .val (.int 0), .val (.int (Int32.ofNat cs.length)), .unset, .unset, .unset]) (plainFor_of_name pn_utf16) (own_hEL hw) rfl ?_
  refine Wl.iload_n 1 d22_0 rfl ?_
  refine Wl.newarray 3 N d22_1 (w29 hw) (nNn (by omega)) (by rw [nCl (by omega)]; exact hN) (by omega) (by show 0 + 1 ≤ 1; omega) (by show 0 + N ≤ N; omega) ?_
  intro d h1 kd q E A
  rw [nCl (by omega)] at A
  have A : Arv Z h1 d kd .byte (Int32.ofNat cs.length) (List.replicate cs.length (.int 0)) (.int 0) := A
  have hne : b ≠ d := Nat.ne_of_lt (by rw [q]; exact Kb.lt)
  refine Wl.astore_n 4 #[.val (.ref b), .val (.int 0), .val (.int (Int32.ofNat cs.length)), .val (.ref d), .unset, .unset] d22_3 rfl rfl ?_
  refine Wl.aload_n 5 d22_4 rfl rfl ?_
  refine Wl.iload_n 6 d22_5 rfl ?_
  refine Wl.aload_n 7 d22_6 rfl rfl ?_
  refine Wl.iconst 8 (0 : Int32) d22_7 (by decide) ?_
  refine Wl.iload_n 9 d22_8 rfl ?_
  refine Wl.static 12 (argsL := [.ref b, .int 0, .ref d, .int 0, .int (Int32.ofNat cs.length)]) d22_9 (w118 hw) (w119 hw) (w116 hw) (w120 hw) (show parseMethodDescriptor "([CI[BII)I" = some ⟨[.array .char, .int, .array .byte, .int, .int], some .int⟩ by decide +kernel) rfl (comp2_met hw hn hlat hne (Kb.ext E) A) (allS (List.mem_of_getElem? (i := 0) rfl) (fun _ q => nomatch q)) rfl rfl rfl (by decide) ⟨⟨by show 0 + 1 ≤ 1; omega, by show 0 + (7 + 11) + 0 ≤ 18; omega⟩, by show 0 + 1 + 0 ≤ 1; omega, by show 0 + N + 0 ≤ N; omega⟩ ?_
  intro v h2 hq _
  obtain ⟨rfl, K, A2⟩ := hq
  refine Wl.istore 14 #[.val (.ref b), .val (.int 0), .val (.int (Int32.ofNat cs.length)), .val (.ref d), .val (.int (Int32.ofNat cs.length)), .unset] d22_12 rfl ?_
  refine Wl.iload 16 d22_14 rfl ?_
  refine Wl.iload_n 17 d22_16 rfl ?_
  refine Wl.icmpY 57 d22_17 (teq rfl).1 ?_
  refine Wl.aload_n 58 d22_57 rfl rfl ?_
  exact Wl.areturn d22_58 rfl rfl rfl (by show 0 + 1 + 0 ≤ 1; omega) (by show 0 + N + 0 ≤ N; omega) ⟨d, kd, rfl, Nat.le_of_eq q.symm, extKeep E K (allS (Nat.le_of_eq q.symm) all0), A2⟩
/-- String(char[], int, int, Void) -/
theorem strV_met (hw : ∀ d ∈ tables_1, d.before a0 Z = true) (hcs : CSon Z) {h : Heap} {a b : Addr} {kb : ClassId} {cs : List Int32} {N : Nat} (hN : cs.length ≤ N) (hN2 : N < 65536) (hlat : ∀ c ∈ cs, Lat c) (E : Exa Z h a "java/lang/String") (FV : Fld Z h a "java/lang/String" "value" "[B" .null) (FC : Fld Z h a "java/lang/String" "coder" "B" (.int 0)) (Kb : Arv Z h b kb .char (Int32.ofNat cs.length) (cs.map Value.int) (.int 0)) :
    Met l Z consts_1 ⟨"java/lang/String", "<init>", "([CIILjava/lang/Void;)V"⟩ jdk_42_method_149_code 6 none [] { frames := 2, cells := 4, slots := N + 8, locals := 36 } #[.ref a, .ref b, .int 0, .int (Int32.ofNat cs.length), .null] h [a] (fun v h' => v = none ∧ Keep h h' [a] ∧ Stl Z h' a cs) := by
  refine Met.of_walk (a0 := a0) (Ls := #[.val (.ref a), .val (.ref b), .val (.int 0), .val (.int (Int32.ofNat cs.length)), .val .null, .unset]) (plainFor_of_name pn_str) (own_hEL hw) rfl ?_
  refine Wl.aload_n 1 d5_0 rfl rfl ?_
  refine Wl.initO 4 d5_1 (w25 hw) (w26 hw) (w27 hw) rfl (by show 1 ≤ 2; omega) (by show 0 + 12 ≤ 36; omega) ?_
  refine Wl.iload_n 5 d5_4 rfl ?_
  obtain ⟨cst, hS, hcn⟩ := hcs
  have L1 : Laid Z a0 "java/lang/String" "java/lang/String" "value" "[B" := Or.inr (w30 hw)
  have L2 : Laid Z a0 "java/lang/String" "java/lang/String" "coder" "B" := Or.inr (w31 hw)
  have hsl : Jvm.RoadKit.slotOf Z "java/lang/String" "value" "[B" ≠ Jvm.RoadKit.slotOf Z "java/lang/String" "coder" "B" := slot_ne L1 L2 (by decide) (t := .array .byte) (t' := .byte) (by decide) (by decide)
  by_cases h0 : cs = []
  · subst h0
    refine Wl.ifN 8 d5_5 (teq (by decide)).2 ?_
    refine Wl.aload_n 9 d5_8 rfl rfl ?_
    refine Wl.ldcS 11 0 (text := "") (vs := []) (z := (0 : Int32)) d5_9 (w28 hw) (own_wS hw) (by decide) ⟨by simp, rfl⟩ (by decide) (by decide) (by decide) (by decide) (by show 0 + 2 ≤ 4; omega) (by show 0 + (0 + 4) ≤ N + 8; omega) ?_
    intro x1 h1 b1 k1 E1 X1 C1 V1 A1 hnx1
    refine Wl.getfield 14 d5_11 (w34 hw) V1 ?_
    have na1 := hnx1 a (List.mem_of_getElem? (i := 0) rfl)
    refine Wl.putfield 17 d5_14 (w34 hw) (FV.ext E1) (E.ext E1) (Or.inr ⟨(w30 hw), rfl, rfl⟩) (w15 hw) (ty := .array .byte) (by decide) rfl rfl (List.mem_of_getElem? (i := 0) rfl) ?_
    intro h2 W2
    refine Wl.aload_n 18 d5_17 rfl rfl ?_
    refine Wl.ldcS 20 0 (text := "") (vs := []) (z := (0 : Int32)) d5_18 (w28 hw) (own_wS hw) (by decide) ⟨by simp, rfl⟩ (by decide) (by decide) (by decide) (by decide) (by show 0 + 2 + 2 ≤ 4; omega) (by show 0 + (0 + 4) + (0 + 4) ≤ N + 8; omega) ?_
    intro x3 h3 b3 k3 E3 X3 C3 V3 A3 hnx3
    refine Wl.getfield 23 d5_20 (w35 hw) C3 ?_
    refine Wl.putfield 26 d5_23 (w35 hw) (((FC.ext E1).other W2 (Or.inr hsl.symm)).ext E3) (((E.ext E1).wr W2).ext E3) (Or.inr ⟨(w31 hw), rfl, rfl⟩) (w15 hw) (ty := .byte) (by decide) rfl rfl (List.mem_of_getElem? (i := 0) rfl) ?_
    intro h4 W4
    refine Wl.return_ d5_26 rfl (by show 0 + 2 + 2 ≤ 4; omega) (by show 0 + (0 + 4) + (0 + 4) ≤ N + 8; omega) ⟨rfl, ?_, ?_⟩
    · exact ((((Keep.refl h [a]).ext E1).wr W2 (Or.inl (List.mem_of_getElem? (i := 0) rfl))).ext E3).wr W4 (Or.inl (List.mem_of_getElem? (i := 0) rfl))
    · refine ⟨b1, k1, (((E.ext E1).wr W2).ext E3).wr W4, (((FC.ext E1).other W2 (Or.inr hsl.symm)).ext E3).same W4, ((((FV.ext E1).same W2).ext E3).other W4 (Or.inr hsl)), (((A1.other W2 na1.2.symm).ext E3).other W4 na1.2.symm), (fun c hc => nomatch hc), by decide⟩
  · have hpos : 0 < cs.length := List.length_pos_iff.mpr h0
    refine Wl.ifY 27 d5_5 (feq (fun q => by have := congrArg Int32.toInt q; rw [nI (by omega), show (0 : Int32).toInt = 0 by decide] at this; omega)).2 ?_
    refine Wl.getstatic 30 d5_27 (w72 hw) hS ?_
    refine Wl.ifN 33 d5_30 (feq hcn).1 ?_
    refine Wl.aload_n 34 d5_33 rfl rfl ?_
    refine Wl.iload_n 35 d5_34 rfl ?_
    refine Wl.iload_n 36 d5_35 rfl ?_
    refine Wl.static 39 (argsL := [.ref b, .int 0, .int (Int32.ofNat cs.length)]) d5_36 (w114 hw) (w115 hw) (w116 hw) (w117 hw) (show parseMethodDescriptor "([CII)[B" = some ⟨[.array .char, .int, .int], some (.array .byte)⟩ by decide +kernel) rfl (comp1_met hw (by omega) hN hN2 hlat Kb) (fun _ q => nomatch q) rfl rfl rfl (by decide) ⟨⟨by show 1 + 1 ≤ 2; omega, by show 0 + (6 + 11) + 18 ≤ 36; omega⟩, by show 0 + 1 ≤ 4; omega, by show 0 + N ≤ N + 8; omega⟩ ?_
    intro v h1 hq _
    obtain ⟨d, kd, rfl, hd, E1, A1⟩ := hq
    have hne : d ≠ a := Nat.ne_of_gt (Nat.lt_of_lt_of_le E.lt hd)
    refine Wl.astore 41 #[.val (.ref a), .val (.ref b), .val (.int 0), .val (.int (Int32.ofNat cs.length)), .val .null, .val (.ref d)] d5_39 rfl rfl ?_
    refine Wl.aload_n 42 d5_41 rfl rfl ?_
    refine Wl.aload 44 d5_42 rfl rfl ?_
    refine Wl.iload_n 45 d5_44 rfl ?_
    refine Wl.static 48 (argsL := [.ref d, .int (Int32.ofNat cs.length)]) d5_45 (w140 hw) (w141 hw) (w116 hw) (w142 hw) (show parseMethodDescriptor "([BI)B" = some ⟨[.array .byte, .int], some .byte⟩ by decide +kernel) rfl (coderLen_met hw A1) (fun _ q => nomatch q) rfl rfl rfl (by decide) ⟨⟨by show 0 + 1 ≤ 2; omega, by show 1 + (2 + 11) + 0 ≤ 36; omega⟩, by show 0 + 1 + 0 ≤ 4; omega, by show 0 + N + 0 ≤ N + 8; omega⟩ ?_
    intro v h2 hq _
    obtain ⟨rfl, rfl⟩ := hq
    have e0 : ((Int32.ofNat cs.length - Int32.ofNat cs.length).toUInt32 >>> ((31 : Int32) &&& 31).toUInt32).toInt32.toInt8.toInt32 = 0 := by rw [Int32.sub_self]; decide
    rw [e0]
    refine Wl.putfield 51 d5_48 (w35 hw) (FC.ext E1) (E.ext E1) (Or.inr ⟨(w31 hw), rfl, rfl⟩) (w15 hw) (ty := .byte) (by decide) rfl rfl (List.mem_of_getElem? (i := 0) rfl) ?_
    intro h3 W3
    refine Wl.aload_n 52 d5_51 rfl rfl ?_
    refine Wl.aload 54 d5_52 rfl rfl ?_
    refine Wl.putfield 57 d5_54 (w34 hw) ((FV.ext E1).other W3 (Or.inr hsl)) ((E.ext E1).wr W3) (Or.inr ⟨(w30 hw), rfl, rfl⟩) (w15 hw) (ty := .array .byte) (by decide) rfl rfl (List.mem_of_getElem? (i := 0) rfl) ?_
    intro h4 W4
    refine Wl.return_ d5_57 rfl (by show 0 + 1 + 0 ≤ 4; omega) (by show 0 + N + 0 ≤ N + 8; omega) ⟨rfl, ?_, ?_⟩
    · exact ((((Keep.refl h [a]).ext E1)).wr W3 (Or.inl (List.mem_of_getElem? (i := 0) rfl))).wr W4 (Or.inl (List.mem_of_getElem? (i := 0) rfl))
    · exact ⟨d, kd, ((E.ext E1).wr W3).wr W4, ((FC.ext E1).same W3).other W4 (Or.inr hsl.symm), ((FV.ext E1).other W3 (Or.inr hsl)).same W4, (A1.other W3 hne).other W4 hne, hlat, by omega⟩
/-- String(char[]) -/
theorem strC_met (hw : ∀ d ∈ tables_1, d.before a0 Z = true) (hcs : CSon Z) {h : Heap} {a b : Addr} {kb : ClassId} {cs : List Int32} (N : Nat) (hN : cs.length ≤ N) (hN2 : N < 65536) (hlat : ∀ c ∈ cs, Lat c) (E : Exa Z h a "java/lang/String") (FV : Fld Z h a "java/lang/String" "value" "[B" .null) (FC : Fld Z h a "java/lang/String" "coder" "B" (.int 0)) (Kb : Arv Z h b kb .char (Int32.ofNat cs.length) (cs.map Value.int) (.int 0)) :
    Met l Z consts_1 ⟨"java/lang/String", "<init>", "([C)V"⟩ jdk_42_method_3_code 2 none [] { frames := 3, cells := 4, slots := N + 8, locals := 53 } #[.ref a, .ref b] h [a] (fun v h' => v = none ∧ Keep h h' [a] ∧ Stl Z h' a cs) := by
  refine Met.of_walk (a0 := a0) (Ls := #[.val (.ref a), .val (.ref b)]) (plainFor_of_name pn_str) (own_hEL hw) rfl ?_
  refine Wl.aload_n 1 d4_0 rfl rfl ?_
  refine Wl.aload_n 2 d4_1 rfl rfl ?_
  refine Wl.iconst 3 (0 : Int32) d4_2 (by decide) ?_
  refine Wl.aload_n 4 d4_3 rfl rfl ?_
  refine Wl.arraylength 5 d4_4 Kb ?_
  refine Wl.aconst_null 6 d4_5 ?_
  refine Wl.special 9 (argsL := [.ref b, .int 0, .int (Int32.ofNat cs.length), .null]) d4_6 (w21 hw) (w22 hw) (w16 hw) (w24 hw) (show parseMethodDescriptor "([CIILjava/lang/Void;)V" = some ⟨[.array .char, .int, .int, .object "java/lang/Void"], none⟩ by decide +kernel) rfl (strV_met hw hcs hN hN2 hlat E FV FC Kb) (allS (List.mem_of_getElem? (i := 0) rfl) (fun _ q => nomatch q)) rfl rfl rfl rfl (by decide) ⟨⟨by show 2 + 1 ≤ 3; omega, by show 0 + (6 + 11) + 36 ≤ 53; omega⟩, by show 0 + 4 ≤ 4; omega, by show 0 + (N + 8) ≤ N + 8; omega⟩ ?_
  intro v h1 hq _
  obtain ⟨rfl, K1, S1⟩ := hq
  exact Wl.return_ d4_9 rfl (by show 0 + 4 ≤ 4; omega) (by show 0 + (N + 8) ≤ N + 8; omega) ⟨rfl, K1, S1⟩
end StrInit

section OpLen
variable {l : Launch} {Z : State} {a0 : Array Value}
theorem coder_met (hw : ∀ d ∈ tables_1, d.before a0 Z = true) (hcs : CSon Z) {h : Heap} {a : Addr} {cd : Int32} (hnar : narrow .byte (.int cd) = .int cd) (FC : Fld Z h a "java/lang/String" "coder" "B" (.int cd)) :
    Met l Z consts_1 ⟨"java/lang/String", "coder", "()B"⟩ jdk_42_method_152_code 1 (some .byte) [] rm0 #[.ref a] h [] (fun v h' => v = some (.int cd) ∧ h = h') := by
  obtain ⟨cst, hS, hcn⟩ := hcs
  refine Met.of_walk (a0 := a0) (Ls := #[.val (.ref a)]) (plainFor_of_name pn_str) (own_hEL hw) rfl ?_
  refine Wl.getstatic 3 d11_0 (w72 hw) hS ?_
  refine Wl.ifN 6 d11_3 (feq hcn).1 ?_
  refine Wl.aload_n 7 d11_6 rfl rfl ?_
  refine Wl.getfield 10 d11_7 (w35 hw) FC ?_
  refine Wl.goto 14 d11_10 ?_
  exact Wl.ireturn (t := .byte) d11_14 rfl hnar (by simp) (nle rfl) (nle rfl) ⟨rfl, rfl⟩
theorem len_met (hw : ∀ d ∈ tables_1, d.before a0 Z = true) (hcs : CSon Z) {h : Heap} {a : Addr} {cs : List Int32} (S : Stl Z h a cs) :
    Met l Z consts_1 ⟨"java/lang/String", "length", "()I"⟩ jdk_42_method_54_code 1 (some .int) [] { frames := 1, cells := 0, slots := 0, locals := 13 } #[.ref a] h [] (fun v h' => v = some (.int (Int32.ofNat cs.length)) ∧ h = h') := by
  obtain ⟨b, kb, X, C, Vl, A, hlat, hn⟩ := S
  refine Met.of_walk (a0 := a0) (Ls := #[.val (.ref a)]) (plainFor_of_name pn_str) (own_hEL hw) rfl ?_
  refine Wl.aload_n 1 d10_0 rfl rfl ?_
  refine Wl.getfield 4 d10_1 (w34 hw) Vl ?_
  refine Wl.arraylength 5 d10_4 A ?_
  refine Wl.aload_n 6 d10_5 rfl rfl ?_
  refine Wl.virtual 9 (argsL := []) d10_6 (w67 hw) (w68 hw) (w70 hw) (w69 hw) (w16 hw) (w71 hw) (nf_sel (w70 hw) rfl) X (show parseMethodDescriptor "()B" = some ⟨[], some .byte⟩ by decide +kernel) rfl (coder_met hw hcs rfl C) (fun _ q => nomatch q) rfl rfl rfl (by decide) ⟨⟨nle rfl, nle rfl⟩, nle rfl, nle rfl⟩ ?_
  intro v h1 hq _
  obtain ⟨rfl, rfl⟩ := hq
  show Wl _ _ _ _ _ _ _ _ _ _ _ _ _ _ _ _ _ [.int 0, .int (Int32.ofNat cs.length)]
  refine Wl.ishr 10 d10_9 ?_
  rw [show (Int32.ofNat cs.length >>> ((0 : Int32) &&& 31)) = Int32.ofNat cs.length by simp]
  exact Wl.ireturn (t := .int) d10_10 rfl rfl (by simp) (nle rfl) (nle rfl) ⟨rfl, rfl⟩
end OpLen

/-- the formatter of an index that lies outside: a reference -/
def Fmt (Z : State) : Prop := ∃ f : Value, Sta Z Z.heap "jdk/internal/util/Preconditions" "SIOOBE_FORMATTER" "Ljava/util/function/BiFunction;" f ∧ f.isRef = true
section OpChar
variable {l : Launch} {Z : State} {a0 : Array Value}
theorem pn_prec : plainName "jdk/internal/util/Preconditions" = true := by first | (simp [plainName, overriddenIn]; done) | decide +kernel
theorem pn_lat : plainName "java/lang/StringLatin1" = true := by first | (simp [plainName, overriddenIn]; done) | decide +kernel
theorem isLatin1_met (hw : ∀ d ∈ tables_1, d.before a0 Z = true) (hcs : CSon Z) {h : Heap} {a : Addr} (FC : Fld Z h a "java/lang/String" "coder" "B" (.int 0)) :
    Met l Z consts_1 ⟨"java/lang/String", "isLatin1", "()Z"⟩ jdk_42_method_154_code 1 (some .boolean) [] rm0 #[.ref a] h [] (fun v h' => v = some (.int 1) ∧ h = h') := by
  obtain ⟨cst, hS, hcn⟩ := hcs
  refine Met.of_walk (a0 := a0) (Ls := #[.val (.ref a)]) (plainFor_of_name pn_str) (own_hEL hw) rfl ?_
  refine Wl.getstatic 3 d18_0 (w72 hw) hS ?_
  refine Wl.ifN 6 d18_3 (feq hcn).1 ?_
  refine Wl.aload_n 7 d18_6 rfl rfl ?_
  refine Wl.getfield 10 d18_7 (w35 hw) FC ?_
  refine Wl.ifN 13 d18_10 (teq rfl).2 ?_
  refine Wl.iconst 14 (1 : Int32) d18_13 (by decide) ?_
  refine Wl.goto 18 d18_14 ?_
  exact Wl.ireturn (t := .boolean) d18_18 rfl rfl (by simp) (nle rfl) (nle rfl) ⟨rfl, rfl⟩
theorem chk_met (hw : ∀ d ∈ tables_1, d.before a0 Z = true) {h : Heap} {i z : Int32} {f : Value} (hf : f.isRef = true) (h1 : ¬ i < 0) (h2 : i < z) :
    Met l Z consts_1 ⟨"jdk/internal/util/Preconditions", "checkIndex", "(IILjava/util/function/BiFunction;)I"⟩ jdk_41_method_11_code 3 (some .int) [] rm0 #[.int i, .int z, f] h [] (fun v h' => v = some (.int i) ∧ h = h') := by
  refine Met.of_walk (a0 := a0) (Ls := #[.val (.int i), .val (.int z), .val f]) (plainFor_of_name pn_prec) (own_hEL hw) (by rcases ref_cases hf with rfl | ⟨x, rfl⟩ <;> rfl) ?_
  refine Wl.iload_n 1 d21_0 rfl ?_
  refine Wl.ifN 4 d21_1 (flt h1).1 ?_
  refine Wl.iload_n 5 d21_4 rfl ?_
  refine Wl.iload_n 6 d21_5 rfl ?_
  refine Wl.icmpY 16 d21_6 (tlt h2).1 ?_
  refine Wl.iload_n 17 d21_16 rfl ?_
  exact Wl.ireturn (t := .int) d21_17 rfl rfl (by simp) (nle rfl) (nle rfl) ⟨rfl, rfl⟩
theorem chkS_met (hw : ∀ d ∈ tables_1, d.before a0 Z = true) (hfm : Fmt Z) {h : Heap} {i z : Int32} (h1 : ¬ i < 0) (h2 : i < z) :
    Met l Z consts_1 ⟨"java/lang/String", "checkIndex", "(II)V"⟩ jdk_42_method_155_code 2 none [] { frames := 1, cells := 0, slots := 0, locals := 14 } #[.int i, .int z] h [] (fun v h' => v = none ∧ h = h') := by
  obtain ⟨f, hS, hf⟩ := hfm
  refine Met.of_walk (a0 := a0) (Ls := #[.val (.int i), .val (.int z)]) (plainFor_of_name pn_str) (own_hEL hw) rfl ?_
  refine Wl.iload_n 1 d20_0 rfl ?_
  refine Wl.iload_n 2 d20_1 rfl ?_
  refine Wl.getstatic 5 d20_2 (w106 hw) hS ?_
  refine Wl.static 8 (argsL := [.int i, .int z, f]) d20_5 (w108 hw) (w109 hw) (w107 hw) (w110 hw) (show parseMethodDescriptor "(IILjava/util/function/BiFunction;)I" = some ⟨[.int, .int, .object "java/util/function/BiFunction"], some .int⟩ by decide +kernel) rfl (chk_met hw hf h1 h2) (fun _ q => nomatch q) rfl rfl rfl (by decide) ⟨⟨nle rfl, nle rfl⟩, nle rfl, nle rfl⟩ ?_
  intro v h1 hq _
  obtain ⟨rfl, rfl⟩ := hq
  show Wl _ _ _ _ _ _ _ _ _ _ _ _ _ _ _ _ _ [.int i]
  refine Wl.pop 9 d20_8 rfl ?_
  exact Wl.return_ d20_9 rfl (nle rfl) (nle rfl) ⟨rfl, rfl⟩
theorem charL_met (hw : ∀ d ∈ tables_1, d.before a0 Z = true) (hfm : Fmt Z) {h : Heap} {b : Addr} {kb : ClassId} {cs : List Int32} (A : Arv Z h b kb .byte (Int32.ofNat cs.length) (cs.map byV) (.int 0)) (hlat : ∀ c ∈ cs, Lat c) (hn : cs.length < 65536) {i : Nat} (hi : i < cs.length) :
    Met l Z consts_1 ⟨"java/lang/StringLatin1", "charAt", "([BI)C"⟩ jdk_43_method_2_code 2 (some .char) [] { frames := 2, cells := 0, slots := 0, locals := 27 } #[.ref b, .int (Int32.ofNat i)] h [] (fun v h' => v = some (.int cs[i]) ∧ h = h') := by
  have hl : Lat cs[i] := hlat _ (List.getElem_mem hi)
  refine Met.of_walk (a0 := a0) (Ls := #[.val (.ref b), .val (.int (Int32.ofNat i))]) (plainFor_of_name pn_lat) (own_hEL hw) rfl ?_
  refine Wl.iload_n 1 d19_0 rfl ?_
  refine Wl.aload_n 2 d19_1 rfl rfl ?_
  refine Wl.arraylength 3 d19_2 A ?_
  refine Wl.static 6 (argsL := [.int (Int32.ofNat i), .int (Int32.ofNat cs.length)]) d19_3 (w103 hw) (w104 hw) (w16 hw) (w105 hw) (show parseMethodDescriptor "(II)V" = some ⟨[.int, .int], none⟩ by decide +kernel) rfl (chkS_met hw hfm (nNn (by omega)) ((nLt (by omega) (by omega)).mpr hi)) (fun _ q => nomatch q) rfl rfl rfl (by decide) ⟨⟨nle rfl, nle rfl⟩, nle rfl, nle rfl⟩ ?_
  intro v h1 hq _
  obtain ⟨rfl, rfl⟩ := hq
  show Wl _ _ _ _ _ _ _ _ _ _ _ _ _ _ _ _ _ []
  refine Wl.aload_n 7 d19_6 rfl rfl ?_
  refine Wl.iload_n 8 d19_7 rfl ?_
  refine Wl.baload 9 i d19_8 A (nNn (by omega)) (nCl (by omega)) (by rw [nCl (by omega)]; exact hi) (v := .int (cs[i]).toInt8.toInt32) (by simp [List.getD_eq_getElem?_getD, hi, byV]) ?_
  refine Wl.sipush 12 (255 : Int32) d19_9 (by decide) ?_
  refine Wl.iand 13 d19_12 ?_
  refine Wl.i2c 14 d19_13 ?_
  rw [lo8 hl, i2c_id hl.ch]
  exact Wl.ireturn (t := .char) d19_14 rfl (narC hl.ch) (by simp) (nle rfl) (nle rfl) ⟨rfl, rfl⟩
theorem charAt_met (hw : ∀ d ∈ tables_1, d.before a0 Z = true) (hcs : CSon Z) (hfm : Fmt Z) {h : Heap} {a : Addr} {cs : List Int32} (S : Stl Z h a cs) {i : Nat} (hi : i < cs.length) :
    Met l Z consts_1 ⟨"java/lang/String", "charAt", "(I)C"⟩ jdk_42_method_56_code 2 (some .char) [] { frames := 3, cells := 0, slots := 0, locals := 40 } #[.ref a, .int (Int32.ofNat i)] h [] (fun v h' => v = some (.int cs[i]) ∧ h = h') := by
  obtain ⟨b, kb, X, C, Vl, A, hlat, hn⟩ := S
  have hl : Lat cs[i] := hlat _ (List.getElem_mem hi)
  refine Met.of_walk (a0 := a0) (Ls := #[.val (.ref a), .val (.int (Int32.ofNat i))]) (plainFor_of_name pn_str) (own_hEL hw) rfl ?_
  refine Wl.aload_n 1 d17_0 rfl rfl ?_
  refine Wl.virtual 4 (argsL := []) d17_1 (w95 hw) (w96 hw) (w98 hw) (w97 hw) (w16 hw) (w99 hw) (nf_sel (w98 hw) rfl) X (show parseMethodDescriptor "()Z" = some ⟨[], some .boolean⟩ by decide +kernel) rfl (isLatin1_met hw hcs C) (fun _ q => nomatch q) rfl rfl rfl (by decide) ⟨⟨nle rfl, nle rfl⟩, nle rfl, nle rfl⟩ ?_
  intro v h1 hq _
  obtain ⟨rfl, rfl⟩ := hq
  show Wl _ _ _ _ _ _ _ _ _ _ _ _ _ _ _ _ _ [.int 1]
  refine Wl.ifN 7 d17_4 (by decide) ?_
  refine Wl.aload_n 8 d17_7 rfl rfl ?_
  refine Wl.getfield 11 d17_8 (w34 hw) Vl ?_
  refine Wl.iload_n 12 d17_11 rfl ?_
  refine Wl.static 15 (argsL := [.ref b, .int (Int32.ofNat i)]) d17_12 (w100 hw) (w101 hw) (w78 hw) (w102 hw) (show parseMethodDescriptor "([BI)C" = some ⟨[.array .byte, .int], some .char⟩ by decide +kernel) rfl (charL_met hw hfm A hlat hn hi) (fun _ q => nomatch q) rfl rfl rfl (by decide) ⟨⟨nle rfl, nle rfl⟩, nle rfl, nle rfl⟩ ?_
  intro v h2 hq _
  obtain ⟨rfl, rfl⟩ := hq
  show Wl _ _ _ _ _ _ _ _ _ _ _ _ _ _ _ _ _ [.int cs[i]]
  exact Wl.ireturn (t := .char) d17_15 rfl (narC hl.ch) (by simp) (nle rfl) (nle rfl) ⟨rfl, rfl⟩
end OpChar

/-! UTF-16 Strings (little endian, as STR-35's sister set says of StringUTF16's statics) -/
def U16on (Z : State) : Prop := Sta Z Z.heap "java/lang/StringUTF16" "$assertionsDisabled" "Z" (.int 1) ∧ Sta Z Z.heap "java/lang/StringUTF16" "HI_BYTE_SHIFT" "I" (.int 0) ∧ Sta Z Z.heap "java/lang/StringUTF16" "LO_BYTE_SHIFT" "I" (.int 8)
def loB (c : Int32) : Int32 := (c >>> ((0 : Int32) &&& 31)).toInt8.toInt32
def hiB (c : Int32) : Int32 := (c >>> ((8 : Int32) &&& 31)).toInt8.toInt32
/-- the bytes of chars, two each -/
def b16 : List Int32 → List Value
  | [] => []
  | c :: cs => .int (loB c) :: .int (hiB c) :: b16 cs
theorem b16_len : ∀ cs : List Int32, (b16 cs).length = 2 * cs.length
  | [] => rfl
  | c :: cs => by simp [b16, b16_len cs]; omega
theorem b16_get : ∀ (cs : List Int32) (i : Nat) (h : i < cs.length), (b16 cs).getD (2 * i) (.int 0) = .int (loB cs[i]) ∧ (b16 cs).getD (2 * i + 1) (.int 0) = .int (hiB cs[i])
  | [], i, h => absurd h (Nat.not_lt_zero _)
  | c :: cs, 0, _ => ⟨rfl, rfl⟩
  | c :: cs, i + 1, h => by
    have q := b16_get cs i (Nat.lt_of_succ_lt_succ h)
    rw [show 2 * (i + 1) = 2 * i + 2 by omega, show 2 * i + 2 + 1 = (2 * i + 1) + 2 by omega]
    exact q
/-- the first i chars' bytes laid, the rest 0 -/
def fil16 (cs : List Int32) (i : Nat) : List Value := b16 (cs.take i) ++ List.replicate (2 * (cs.length - i)) (.int 0)
theorem fil16_len (cs : List Int32) (i : Nat) (hi : i ≤ cs.length) : (fil16 cs i).length = 2 * cs.length := by
  simp [fil16, b16_len]; omega
theorem fil16_zero (cs : List Int32) : fil16 cs 0 = List.replicate (2 * cs.length) (.int 0) := by simp [fil16, b16]
theorem fil16_all (cs : List Int32) : fil16 cs cs.length = b16 cs := by simp [fil16]
theorem b16_app : ∀ (xs ys : List Int32), b16 (xs ++ ys) = b16 xs ++ b16 ys
  | [], ys => rfl
  | x :: xs, ys => by simp [b16, b16_app xs ys]
theorem fil16_set (cs : List Int32) (i : Nat) (hi : i < cs.length) : ((fil16 cs i).set (2 * i) (.int (loB cs[i]))).set (2 * i + 1) (.int (hiB cs[i])) = fil16 cs (i + 1) := by
  have hl : (b16 (cs.take i)).length = 2 * i := by rw [b16_len, List.length_take]; omega
  have hr : List.replicate (2 * (cs.length - i)) (Value.int 0) = .int 0 :: .int 0 :: List.replicate (2 * (cs.length - (i + 1))) (.int 0) := by
    rw [show 2 * (cs.length - i) = 2 * (cs.length - (i + 1)) + 1 + 1 by omega, List.replicate_succ, List.replicate_succ]
  have ht : cs.take (i + 1) = cs.take i ++ [cs[i]] := by rw [List.take_succ_eq_append_getElem hi]
  unfold fil16
  rw [hr, ht, b16_app, List.set_append_right _ _ (show (b16 (List.take i cs)).length ≤ 2 * i by omega), hl, show 2 * i - 2 * i = 0 by omega, List.set_cons_zero, List.set_append_right _ _ (show (b16 (List.take i cs)).length ≤ 2 * i + 1 by omega), hl, show 2 * i + 1 - 2 * i = 1 by omega]
  simp [b16, List.append_assoc]
/-- a char out of its two bytes -/
theorem join16 {c : Int32} (q : Ch c) : (((loB c &&& 255) <<< ((0 : Int32) &&& 31)) ||| ((hiB c &&& 255) <<< ((8 : Int32) &&& 31))).toUInt32.toUInt16.toUInt32.toInt32 = c := by
  have e1 : (loB c &&& 255).toInt = c.toInt % 256 := by
    have h1 := c_mask (loB c) 255 8 (by decide) (by decide)
    have h2 := c_i2b (c >>> ((0 : Int32) &&& 31))
    have h3 := c_ishr c 0 0 (by decide)
    rw [show ((2 ^ 0 : Nat) : Int) = 1 by decide] at h3
    unfold loB at h1 ⊢
    rw [h1]; omega
  have e2 : (hiB c &&& 255).toInt = c.toInt / 256 % 256 := by
    have h1 := c_mask (hiB c) 255 8 (by decide) (by decide)
    have h2 := c_i2b (c >>> ((8 : Int32) &&& 31))
    have h3 := c_ishr c 8 8 (by decide)
    rw [show ((2 ^ 8 : Nat) : Int) = 256 by decide] at h3
    unfold hiB at h1 ⊢
    rw [h1]; omega
  have f1 := c_ishl (loB c &&& 255) 0 0 (by decide)
  have f2 := c_ishl (hiB c &&& 255) 8 8 (by decide)
  rw [show ((2 ^ 0 : Nat) : Int) = 1 by decide] at f1
  rw [show ((2 ^ 8 : Nat) : Int) = 256 by decide] at f2
  have r1 := rng32 ((loB c &&& 255) <<< ((0 : Int32) &&& 31))
  have r2 := rng32 ((hiB c &&& 255) <<< ((8 : Int32) &&& 31))
  have q1 := q.1; have q2 := q.2
  have g1 : ((loB c &&& 255) <<< ((0 : Int32) &&& 31)).toInt = c.toInt % 256 := by omega
  have g2 : ((hiB c &&& 255) <<< ((8 : Int32) &&& 31)).toInt = c.toInt / 256 * 256 := by omega
  have g3 := c_or' ((loB c &&& 255) <<< ((0 : Int32) &&& 31)) ((hiB c &&& 255) <<< ((8 : Int32) &&& 31)) 8 (by decide) 256 (by decide) (by omega) (by omega) (by omega)
  have r3 := rng32 (((loB c &&& 255) <<< ((0 : Int32) &&& 31)) ||| ((hiB c &&& 255) <<< ((8 : Int32) &&& 31)))
  have g4 : (((loB c &&& 255) <<< ((0 : Int32) &&& 31)) ||| ((hiB c &&& 255) <<< ((8 : Int32) &&& 31))) = c := by
    apply Int32.toInt_inj.mp; omega
  rw [g4, i2c_id q]
/-- a String of chars that needs UTF-16 -/
def Sth (Z : State) (h : Heap) (a : Addr) (cs : List Int32) : Prop :=
  ∃ (b : Addr) (kb : ClassId), Exa Z h a "java/lang/String" ∧ Fld Z h a "java/lang/String" "coder" "B" (.int 1) ∧ Fld Z h a "java/lang/String" "value" "[B" (.ref b) ∧ Arv Z h b kb .byte (Int32.ofNat (2 * cs.length)) (b16 cs) (.int 0) ∧ (∀ c ∈ cs, Ch c) ∧ cs.length < 65536
theorem Sth.ext {Z : State} {h h' : Heap} {a : Addr} {cs : List Int32} (S : Sth Z h a cs) (E : Ext h h') : Sth Z h' a cs := by
  obtain ⟨b, kb, h1, h2, h3, h4, r⟩ := S
  exact ⟨b, kb, h1.ext E, h2.ext E, h3.ext E, h4.ext E, r⟩
/-- a String of chars, in either form -/
def Stw (Z : State) (h : Heap) (a : Addr) (cs : List Int32) : Prop := Stl Z h a cs ∨ Sth Z h a cs
theorem Stw.ext {Z : State} {h h' : Heap} {a : Addr} {cs : List Int32} (S : Stw Z h a cs) (E : Ext h h') : Stw Z h' a cs := S.imp (·.ext E) (·.ext E)
theorem Stw.exa {Z : State} {h : Heap} {a : Addr} {cs : List Int32} (S : Stw Z h a cs) : Exa Z h a "java/lang/String" := S.elim Stl.exa fun S => by obtain ⟨b, kb, h1, -⟩ := S; exact h1
theorem Stw.ch {Z : State} {h : Heap} {a : Addr} {cs : List Int32} (S : Stw Z h a cs) : (∀ c ∈ cs, Ch c) ∧ cs.length < 65536 := by
  rcases S with S | S
  · obtain ⟨b, kb, -, -, -, -, hl, hn⟩ := S; exact ⟨fun c q => (hl c q).ch, hn⟩
  · obtain ⟨b, kb, -, -, -, -, hl, hn⟩ := S; exact ⟨hl, hn⟩
theorem lat_of {c : Int32} (q : Ch c) (h : ¬ (255 : Int32) < c) : Lat c := ⟨q.1, by
  rw [Int32.lt_iff_toInt_lt] at h
  have e : (255 : Int32).toInt = 255 := by decide
  omega⟩
theorem gt_of {c : Int32} (q : Ch c) (h : ¬ Lat c) : (255 : Int32) < c := by
  rw [Int32.lt_iff_toInt_lt]
  have e : (255 : Int32).toInt = 255 := by decide
  rcases Int.lt_or_le 255 c.toInt with g | g
  · omega
  · exact absurd ⟨q.1, by omega⟩ h
theorem nDbl {i : Nat} (hi : i < 1073741824) : Int32.ofNat i <<< ((1 : Int32) &&& 31) = Int32.ofNat (2 * i) := by
  apply Int32.toInt_inj.mp
  have h := c_ishl (Int32.ofNat i) 1 1 (by decide)
  have r := rng32 (Int32.ofNat i <<< ((1 : Int32) &&& 31))
  rw [nI (by omega), show ((2 ^ 1 : Nat) : Int) = 2 by decide] at h
  rw [nI (by omega)]
  omega
theorem nHalf {i : Nat} (hi : i < 1073741824) : Int32.ofNat (2 * i) >>> ((1 : Int32) &&& 31) = Int32.ofNat i := by
  apply Int32.toInt_inj.mp
  have h := c_ishr (Int32.ofNat (2 * i)) 1 1 (by decide)
  rw [nI (by omega), show ((2 ^ 1 : Nat) : Int) = 2 by decide] at h
  rw [nI (by omega), h]
  omega
theorem sign1 {x : Int32} (h : x.toInt < 0) : (x.toUInt32 >>> ((31 : Int32) &&& 31).toUInt32).toInt32.toInt8.toInt32 = 1 := by
  have h1 := c_iushr x 31 31 (by decide) (by decide)
  have r := rng32 x
  have e : ((x.toUInt32 >>> ((31 : Int32) &&& 31).toUInt32).toInt32) = 1 := by
    apply Int32.toInt_inj.mp
    rw [h1, show ((2 ^ 31 : Nat) : Int) = 2147483648 by decide]
    have : (1 : Int32).toInt = 1 := by decide
    omega
  rw [e]; decide
theorem eqS {args : Array Value} {first s : State} {o : Option Outcome} {idx : List Nat} {t : Jvm.Term} {z : Int32} (h : (Jvm.Cond.eq t (.int z)).value args first o s idx = some true) : t.eval args first o idx s = some (.int z) := by
  obtain ⟨x, w, hx, hw, -, k⟩ := cmp_v (Or.inl h)
  rw [Term.int_eval] at hw
  cases hw
  obtain ⟨q, rfl⟩ := k
  rw [hx]
  have e : (Jvm.Cond.eq t (.int z)).value args first o s idx = some (decide (q = z)) := by simp [Cond.value, hx, Term.int_eval]
  rw [gotT e h]
theorem chN : ∀ c ∈ ([] : List Int32), Ch c := fun _ q => nomatch q
theorem chC {x : Int32} {xs : List Int32} (p : Ch x) (r : ∀ c ∈ xs, Ch c) : ∀ c ∈ x :: xs, Ch c := fun c q => (List.mem_cons.mp q).elim (fun e => e ▸ p) (r c)
section Utf16
variable {l : Launch} {Z : State} {a0 : Array Value}
theorem ulen_met (hw : ∀ d ∈ tables_1, d.before a0 Z = true) {h : Heap} {b : Addr} {kb : ClassId} {n : Nat} {vs : List Value} {dv : Value} (hn : n < 1073741824) (A : Arv Z h b kb .byte (Int32.ofNat (2 * n)) vs dv) :
    Met l Z consts_1 ⟨"java/lang/StringUTF16", "length", "([B)I"⟩ jdk_52_method_6_code 1 (some .int) [] rm0 #[.ref b] h [] (fun v h' => v = some (.int (Int32.ofNat n)) ∧ h = h') := by
  refine Met.of_walk (a0 := a0) (Ls := #[.val (.ref b)]) (plainFor_of_name pn_utf16) (own_hEL hw) rfl ?_
  refine Wl.aload_n 1 d33_0 rfl rfl ?_
  refine Wl.arraylength 2 d33_1 A ?_
  refine Wl.iconst 3 (1 : Int32) d33_2 (by decide) ?_
  refine Wl.ishr 4 d33_3 ?_
  rw [nHalf hn]
  exact Wl.ireturn (t := .int) d33_4 rfl rfl (by simp) (nle rfl) (nle rfl) ⟨rfl, rfl⟩
/-- putChar(val, i, c) -/
theorem putC_met (hw : ∀ d ∈ tables_1, d.before a0 Z = true) (hu : U16on Z) {h : Heap} {b : Addr} {kb : ClassId} {n i : Nat} {c : Int32} {vs : List Value} (hn : n < 1048576) (hi : i < n) (hl : vs.length = 2 * n) (A : Arv Z h b kb .byte (Int32.ofNat (2 * n)) vs (.int 0)) :
    Met l Z consts_1 ⟨"java/lang/StringUTF16", "putChar", "([BII)V"⟩ jdk_52_method_4_code 3 none [] rm0 #[.ref b, .int (Int32.ofNat i), .int c] h [b] (fun v h' => v = none ∧ Keep h h' [b] ∧ Arv Z h' b kb .byte (Int32.ofNat (2 * n)) ((vs.set (2 * i) (.int (loB c))).set (2 * i + 1) (.int (hiB c))) (.int 0)) := by
  refine Met.of_walk (a0 := a0) (Ls := #[.val (.ref b), .val (.int (Int32.ofNat i)), .val (.int c)]) (plainFor_of_name pn_utf16) (own_hEL hw) rfl ?_
  refine Wl.getstatic 3 d27_0 (w134 hw) hu.1 ?_
  refine Wl.ifY 28 d27_3 (by decide) ?_
  refine Wl.iload_n 29 d27_28 rfl ?_
  refine Wl.iconst 30 (1 : Int32) d27_29 (by decide) ?_
  refine Wl.ishl 31 d27_30 ?_
  rw [nDbl (by omega)]
  refine Wl.istore_n 32 #[.val (.ref b), .val (.int (Int32.ofNat (2 * i))), .val (.int c)] d27_31 rfl ?_
  refine Wl.aload_n 33 d27_32 rfl rfl ?_
  refine Wl.iload_n 34 d27_33 rfl ?_
  refine Wl.iinc 37 #[.val (.ref b), .val (.int (Int32.ofNat (2 * i + 1))), .val (.int c)] (1 : Int32) d27_34 (by decide) rfl (by rw [nS]; rfl) ?_
  refine Wl.iload_n 38 d27_37 rfl ?_
  refine Wl.getstatic 41 d27_38 (w135 hw) hu.2.1 ?_
  refine Wl.ishr 42 d27_41 ?_
  refine Wl.i2b 43 d27_42 ?_
  refine Wl.bastore 44 (2 * i) d27_43 A (List.mem_of_getElem? (i := 0) rfl) (nNn (by omega)) (nCl (by omega)) (by rw [nCl (by omega)]; omega) (by omega) ?_
  intro h1 W1 A1
  rw [show nar .byte (c >>> ((0 : Int32) &&& 31)).toInt8.toInt32 = loB c from i2b_id _] at A1
  refine Wl.aload_n 45 d27_44 rfl rfl ?_
  refine Wl.iload_n 46 d27_45 rfl ?_
  refine Wl.iload_n 47 d27_46 rfl ?_
  refine Wl.getstatic 50 d27_47 (w136 hw) hu.2.2 ?_
  refine Wl.ishr 51 d27_50 ?_
  refine Wl.i2b 52 d27_51 ?_
  refine Wl.bastore 53 (2 * i + 1) d27_52 A1 (List.mem_of_getElem? (i := 0) rfl) (nNn (by omega)) (nCl (by omega)) (by rw [nCl (by omega)]; omega) (by rw [List.length_set]; omega) ?_
  intro h2 W2 A2
  rw [show nar .byte (c >>> ((8 : Int32) &&& 31)).toInt8.toInt32 = hiB c from i2b_id _] at A2
  exact Wl.return_ d27_53 rfl (nle rfl) (nle rfl) ⟨rfl, ((Keep.refl h [b]).wr W1 (Or.inl (List.mem_of_getElem? (i := 0) rfl))).wr W2 (Or.inl (List.mem_of_getElem? (i := 0) rfl)), A2⟩
/-- getChar(val, i) -/
theorem getC_met (hw : ∀ d ∈ tables_1, d.before a0 Z = true) (hu : U16on Z) {h : Heap} {b : Addr} {kb : ClassId} {cs : List Int32} {i : Nat} (hn : cs.length < 1048576) (hc : ∀ c ∈ cs, Ch c) (hi : i < cs.length) (A : Arv Z h b kb .byte (Int32.ofNat (2 * cs.length)) (b16 cs) (.int 0)) :
    Met l Z consts_1 ⟨"java/lang/StringUTF16", "getChar", "([BI)C"⟩ jdk_52_method_5_code 2 (some .char) [] rm0 #[.ref b, .int (Int32.ofNat i)] h [] (fun v h' => v = some (.int cs[i]) ∧ h = h') := by
  have hq := b16_get cs i hi
  have hch : Ch cs[i] := hc _ (List.getElem_mem hi)
  refine Met.of_walk (a0 := a0) (Ls := #[.val (.ref b), .val (.int (Int32.ofNat i))]) (plainFor_of_name pn_utf16) (own_hEL hw) rfl ?_
  refine Wl.getstatic 3 d28_0 (w134 hw) hu.1 ?_
  refine Wl.ifY 28 d28_3 (by decide) ?_
  refine Wl.iload_n 29 d28_28 rfl ?_
  refine Wl.iconst 30 (1 : Int32) d28_29 (by decide) ?_
  refine Wl.ishl 31 d28_30 ?_
  rw [nDbl (by omega)]
  refine Wl.istore_n 32 #[.val (.ref b), .val (.int (Int32.ofNat (2 * i)))] d28_31 rfl ?_
  refine Wl.aload_n 33 d28_32 rfl rfl ?_
  refine Wl.iload_n 34 d28_33 rfl ?_
  refine Wl.iinc 37 #[.val (.ref b), .val (.int (Int32.ofNat (2 * i + 1)))] (1 : Int32) d28_34 (by decide) rfl (by rw [nS]; rfl) ?_
  refine Wl.baload 38 (2 * i) d28_37 A (nNn (by omega)) (nCl (by omega)) (by rw [nCl (by omega)]; omega) hq.1 ?_
  refine Wl.sipush 41 (255 : Int32) d28_38 (by decide) ?_
  refine Wl.iand 42 d28_41 ?_
  refine Wl.getstatic 45 d28_42 (w135 hw) hu.2.1 ?_
  refine Wl.ishl 46 d28_45 ?_
  refine Wl.aload_n 47 d28_46 rfl rfl ?_
  refine Wl.iload_n 48 d28_47 rfl ?_
  refine Wl.baload 49 (2 * i + 1) d28_48 A (nNn (by omega)) (nCl (by omega)) (by rw [nCl (by omega)]; omega) hq.2 ?_
  refine Wl.sipush 52 (255 : Int32) d28_49 (by decide) ?_
  refine Wl.iand 53 d28_52 ?_
  refine Wl.getstatic 56 d28_53 (w136 hw) hu.2.2 ?_
  refine Wl.ishl 57 d28_56 ?_
  refine Wl.ior 58 d28_57 ?_
  refine Wl.i2c 59 d28_58 ?_
  rw [join16 hch]
  exact Wl.ireturn (t := .char) d28_59 rfl (narC hch) (by simp) (nle rfl) (nle rfl) ⟨rfl, rfl⟩
theorem nbl_met (hw : ∀ d ∈ tables_1, d.before a0 Z = true) {h : Heap} {n : Nat} (hn : n < 1048576) :
    Met l Z consts_1 ⟨"java/lang/StringUTF16", "newBytesLength", "(I)I"⟩ jdk_52_method_3_code 1 (some .int) [] rm0 #[.int (Int32.ofNat n)] h [] (fun v h' => v = some (.int (Int32.ofNat (2 * n))) ∧ h = h') := by
  refine Met.of_walk (a0 := a0) (Ls := #[.val (.int (Int32.ofNat n))]) (plainFor_of_name pn_utf16) (own_hEL hw) rfl ?_
  refine Wl.iload_n 1 d26_0 rfl ?_
  refine Wl.ifY 12 d26_1 (flt (nNn (by omega))).2.1 ?_
  refine Wl.iload_n 13 d26_12 rfl ?_
  refine Wl.ldcI 15 d26_13 (w130 hw) ?_
  refine Wl.icmpY 55 d26_15 (tlt (small30 hn)).1 ?_
  refine Wl.iload_n 56 d26_55 rfl ?_
  refine Wl.iconst 57 (1 : Int32) d26_56 (by decide) ?_
  refine Wl.ishl 58 d26_57 ?_
  rw [nDbl (by omega)]
  exact Wl.ireturn (t := .int) d26_58 rfl rfl (by simp) (nle rfl) (nle rfl) ⟨rfl, rfl⟩
theorem nbf_met (hw : ∀ d ∈ tables_1, d.before a0 Z = true) {h : Heap} {n N : Nat} (hn : n ≤ N) (hN : N < 1048576) :
    MetO l Z consts_1 ⟨"java/lang/StringUTF16", "newBytesFor", "(I)[B"⟩ jdk_52_method_2_code 1 (some (.array .byte)) [] { frames := 1, cells := 1, slots := 2 * N, locals := 12 } #[.int (Int32.ofNat n)] h [] [h.size] (fun v h' => ∃ kd : ClassId, v = some (.ref h.size) ∧ Ext h h' ∧ Arv Z h' h.size kd .byte (Int32.ofNat (2 * n)) (List.replicate (2 * n) (.int 0)) (.int 0)) := by
  refine Met.of_walk (a0 := a0) (Ls := #[.val (.int (Int32.ofNat n))]) (plainFor_of_name pn_utf16) (own_hEL hw) rfl ?_
  refine Wl.iload_n 1 d25_0 rfl ?_
  refine Wl.static 4 (argsL := [.int (Int32.ofNat n)]) d25_1 (w127 hw) (w128 hw) (w116 hw) (w129 hw) (show parseMethodDescriptor "(I)I" = some ⟨[.int], some .int⟩ by decide +kernel) rfl (nbl_met hw (by omega)) (fun _ q => nomatch q) rfl rfl rfl (by decide) ⟨⟨by show 0 + 1 ≤ 1; omega, by show 0 + (1 + 11) + 0 ≤ 12; omega⟩, by show 0 + 0 ≤ 1; omega, by show 0 + 0 ≤ 2 * N; omega⟩ ?_
  intro v h1 hq _
  obtain ⟨rfl, rfl⟩ := hq
  show WlO _ _ _ _ _ _ _ _ _ _ _ _ _ _ _ _ _ _ [.int (Int32.ofNat (2 * n))]
  refine Wl.newarray 6 (2 * N) d25_4 (w29 hw) (nNn (by omega)) (by rw [nCl (by omega)]; omega) (by omega) (by show 0 + 0 + 1 ≤ 1; omega) (by show 0 + 0 + 2 * N ≤ 2 * N; omega) ?_
  intro d h2 kd q E D
  subst q
  rw [nCl (by omega)] at D
  exact Wl.areturn d25_6 rfl rfl rfl (by show 0 + 0 + 1 ≤ 1; omega) (by show 0 + 0 + 2 * N ≤ 2 * N; omega) ⟨kd, rfl, E, D⟩ (fun x hx => by cases List.mem_singleton.mp hx; exact List.mem_of_getElem? (i := 0) rfl)
/-- toBytes(char[], 0, n): the loop -/
theorem toB_loop (hw : ∀ d ∈ tables_1, d.before a0 Z = true) (hu : U16on Z) {h0 : Heap} {b d : Addr} {kb kd : ClassId} {cs : List Int32} {N : Nat} (hn : cs.length < 65536) (hne : b ≠ d) (hd0 : h0.size ≤ d) (j : Nat) :
    ∀ (i : Nat) (h : Heap), i + j = cs.length → Arv Z h b kb .char (Int32.ofNat cs.length) (cs.map Value.int) (.int 0) → Arv Z h d kd .byte (Int32.ofNat (2 * cs.length)) (fil16 cs i) (.int 0) → Ext h0 h →
    Wl l Z a0 consts_1 ⟨"java/lang/StringUTF16", "toBytes", "([CII)[B"⟩ jdk_52_method_14_code 5 (some (.array .byte)) { frames := 2, cells := 1, slots := 2 * N, locals := 25 } #[.ref b, .int 0, .int (Int32.ofNat cs.length)] (fun v h' => ∃ (d : Addr) (kd : ClassId), v = some (.ref d) ∧ h0.size ≤ d ∧ Ext h0 h' ∧ Arv Z h' d kd .byte (Int32.ofNat (2 * cs.length)) (b16 cs) (.int 0)) [d] h 1 (2 * N) 8
      #[.val (.ref b), .val (.int (Int32.ofNat i)), .val (.int (Int32.ofNat cs.length)), .val (.ref d), .val (.int (Int32.ofNat i))] [] := by
  induction j with
  | zero =>
    intro i h hij Kb Kd E
    have hi : i = cs.length := by omega
    subst hi
    refine Wl.iload 10 d24_8 rfl ?_
    refine Wl.iload_n 11 d24_10 rfl ?_
    refine Wl.icmpY 32 d24_11 (flt Int32.lt_irrefl).2.1 ?_
    refine Wl.aload_n 33 d24_32 rfl rfl ?_
    rw [fil16_all] at Kd
    exact Wl.areturn d24_33 rfl rfl rfl (by show 1 ≤ 1; omega) (by show 2 * N ≤ 2 * N; omega) ⟨d, kd, rfl, hd0, E, Kd⟩
  | succ j ih =>
    intro i h hij Kb Kd E
    have hi : i < cs.length := by omega
    have hcl := nCl (i := cs.length) (by omega)
    refine Wl.iload 10 d24_8 rfl ?_
    refine Wl.iload_n 11 d24_10 rfl ?_
    refine Wl.icmpN 14 d24_11 (tlt ((nLt (by omega) (by omega)).mpr hi)).2.1 ?_
    refine Wl.aload_n 15 d24_14 rfl rfl ?_
    refine Wl.iload 17 d24_15 rfl ?_
    refine Wl.aload_n 18 d24_17 rfl rfl ?_
    refine Wl.iload_n 19 d24_18 rfl ?_
    refine Wl.caload 20 i d24_19 Kb (nNn (by omega)) (nCl (by omega)) (by rw [hcl]; exact hi) (v := .int cs[i]) (by simp [List.getD_eq_getElem?_getD, hi]) ?_
    refine Wl.static 23 (argsL := [.ref d, .int (Int32.ofNat i), .int cs[i]]) d24_20 (w131 hw) (w132 hw) (w116 hw) (w133 hw) (show parseMethodDescriptor "([BII)V" = some ⟨[.array .byte, .int, .int], none⟩ by decide +kernel) rfl (putC_met hw hu (c := cs[i]) (n := cs.length) (i := i) (by omega) hi (fil16_len cs i (by omega)) Kd) (allS (List.mem_of_getElem? (i := 0) rfl) (fun _ q => nomatch q)) rfl rfl rfl (by decide) ⟨⟨by show 0 + 1 ≤ 2; omega, by show 0 + (3 + 11) + 0 ≤ 25; omega⟩, by show 1 + 0 ≤ 1; omega, by show 2 * N + 0 ≤ 2 * N; omega⟩ ?_
    intro v h1 hq _
    obtain ⟨rfl, K, Kd'⟩ := hq
    rw [fil16_set cs i hi] at Kd'
    show Wl _ _ _ _ _ _ _ _ _ _ _ _ _ _ _ _ _ []
    refine Wl.iinc 26 #[.val (.ref b), .val (.int (Int32.ofNat (i + 1))), .val (.int (Int32.ofNat cs.length)), .val (.ref d), .val (.int (Int32.ofNat i))] (1 : Int32) d24_23 (by decide) rfl (by rw [nS]; rfl) ?_
    refine Wl.iinc 29 #[.val (.ref b), .val (.int (Int32.ofNat (i + 1))), .val (.int (Int32.ofNat cs.length)), .val (.ref d), .val (.int (Int32.ofNat (i + 1)))] (1 : Int32) d24_26 (by decide) rfl (by rw [nS]; rfl) ?_
    refine Wl.goto 8 d24_29 ?_
    exact ih (i + 1) h1 (by omega) (Kb.keep K (ninS hne nin0)) Kd' (extKeep E K (allS hd0 all0))
theorem toB_met (hw : ∀ d ∈ tables_1, d.before a0 Z = true) (hu : U16on Z) {h : Heap} {b : Addr} {kb : ClassId} {cs : List Int32} {N : Nat} (hn : cs.length ≤ N) (hN : N < 65536) (Kb : Arv Z h b kb .char (Int32.ofNat cs.length) (cs.map Value.int) (.int 0)) :
    Met l Z consts_1 ⟨"java/lang/StringUTF16", "toBytes", "([CII)[B"⟩ jdk_52_method_14_code 5 (some (.array .byte)) [] { frames := 2, cells := 1, slots := 2 * N, locals := 25 } #[.ref b, .int 0, .int (Int32.ofNat cs.length)] h [] (fun v h' => ∃ (d : Addr) (kd : ClassId), v = some (.ref d) ∧ h.size ≤ d ∧ Ext h h' ∧ Arv Z h' d kd .byte (Int32.ofNat (2 * cs.length)) (b16 cs) (.int 0)) := by
  refine Met.of_walk (a0 := a0) (Ls := #[.val (.ref b), .val (.int 0), .val (.int (Int32.ofNat cs.length)), .unset, .unset]) (plainFor_of_name pn_utf16) (own_hEL hw) rfl ?_
  refine Wl.iload_n 1 d24_0 rfl ?_
  refine Wl.staticO 4 (argsL := [.int (Int32.ofNat cs.length)]) d24_1 (w124 hw) (w125 hw) (w116 hw) (w126 hw) (show parseMethodDescriptor "(I)[B" = some ⟨[.int], some (.array .byte)⟩ by decide +kernel) rfl (nbf_met (N := N) hw hn (by omega)) (fun _ q => nomatch q) rfl rfl rfl (by decide) ⟨⟨by show 1 + 1 ≤ 2; omega, by show 0 + (1 + 11) + 12 ≤ 25; omega⟩, by show 0 + 1 ≤ 1; omega, by show 0 + 2 * N ≤ 2 * N; omega⟩ ?_
  intro v h1 hq _
  obtain ⟨kd, rfl, E, D⟩ := hq
  show WlO _ _ _ _ _ _ _ _ _ _ _ _ _ _ _ _ _ _ [.ref h.size]
  have hne : b ≠ h.size := Nat.ne_of_lt Kb.lt
  refine Wl.astore_n 5 #[.val (.ref b), .val (.int 0), .val (.int (Int32.ofNat cs.length)), .val (.ref h.size), .unset] d24_4 rfl rfl ?_
  refine Wl.iconst 6 (0 : Int32) d24_5 (by decide) ?_
  refine Wl.istore 8 #[.val (.ref b), .val (.int 0), .val (.int (Int32.ofNat cs.length)), .val (.ref h.size), .val (.int 0)] d24_6 rfl ?_
  refine Wl.weak (k' := 1) (n' := 2 * N) (fun x q => q) (by show 0 + 1 ≤ 1; omega) (by show 0 + 2 * N ≤ 2 * N; omega) ?_
  exact toB_loop hw hu (by omega) hne (Nat.le_refl _) cs.length 0 h1 (by omega) (Kb.ext E) (by rw [fil16_zero]; exact D) E
/-- the inner compress where a char is not below 256: the first such place -/
theorem comp2n_loop (hw : ∀ d ∈ tables_1, d.before a0 Z = true) {h0 : Heap} {b d : Addr} {kb kd : ClassId} {cs : List Int32} {m : Nat} (hn : cs.length < 65536) (hm : m < cs.length) (hch : ∀ c ∈ cs, Ch c) (hlat : ∀ (i : Nat) (hi : i < cs.length), i < m → Lat cs[i]) (hgt : (255 : Int32) < cs[m]) (hne : b ≠ d) (j : Nat) :
    ∀ (i : Nat) (h : Heap) (o : Slot) (vs : List Value), i + j = m → vs.length = cs.length → (o = .unset ∨ ∃ w, o = .val w ∧ w.category = 1) → Arv Z h b kb .char (Int32.ofNat cs.length) (cs.map Value.int) (.int 0) → Arv Z h d kd .byte (Int32.ofNat cs.length) vs (.int 0) → Keep h0 h [d] →
    Wl l Z a0 consts_1 ⟨"java/lang/StringUTF16", "compress", "([CI[BII)I"⟩ jdk_52_method_21_code 7 (some .int) rm0 #[.ref b, .int 0, .ref d, .int 0, .int (Int32.ofNat cs.length)] (fun v h' => v = some (.int (Int32.ofNat m)) ∧ Keep h0 h' [d]) [d] h 0 0 3
      #[.val (.ref b), .val (.int (Int32.ofNat i)), .val (.ref d), .val (.int (Int32.ofNat i)), .val (.int (Int32.ofNat cs.length)), .val (.int (Int32.ofNat i)), o] [] := by
  induction j with
  | zero =>
    intro i h o vs hij hvs ho Kb Kd K
    have hi : i = m := by omega
    subst hi
    have hcl := nCl (i := cs.length) (by omega)
    refine Wl.iload 5 d23_3 rfl ?_
    refine Wl.iload 7 d23_5 rfl ?_
    refine Wl.icmpN 10 d23_7 (tlt ((nLt (by omega) (by omega)).mpr hm)).2.1 ?_
    refine Wl.aload_n 11 d23_10 rfl rfl ?_
    refine Wl.iload_n 12 d23_11 rfl ?_
    refine Wl.caload 13 i d23_12 Kb (nNn (by omega)) (nCl (by omega)) (by rw [hcl]; exact hm) (v := .int cs[i]) (by simp [List.getD_eq_getElem?_getD, hm]) ?_
    refine Wl.istore 15 #[.val (.ref b), .val (.int (Int32.ofNat i)), .val (.ref d), .val (.int (Int32.ofNat i)), .val (.int (Int32.ofNat cs.length)), .val (.int (Int32.ofNat i)), .val (.int cs[i])] d23_13 (XS.store1 (o := o) rfl ho rfl) ?_
    refine Wl.iload 17 d23_15 rfl ?_
    refine Wl.sipush 20 (255 : Int32) d23_17 (by decide) ?_
    refine Wl.icmpN 23 d23_20 (tlt hgt).2.2.2 ?_
    refine Wl.iload 25 d23_23 rfl ?_
    exact Wl.ireturn (t := .int) d23_25 rfl rfl (by simp) (nle rfl) (nle rfl) ⟨rfl, K⟩
  | succ j ih =>
    intro i h o vs hij hvs ho Kb Kd K
    have hi : i < cs.length := by omega
    have h31 : i < 2147483648 := by omega
    have hl : Lat cs[i] := hlat i hi (by omega)
    have hcl := nCl (i := cs.length) (by omega)
    refine Wl.iload 5 d23_3 rfl ?_
    refine Wl.iload 7 d23_5 rfl ?_
    refine Wl.icmpN 10 d23_7 (tlt ((nLt h31 (by omega)).mpr hi)).2.1 ?_
    refine Wl.aload_n 11 d23_10 rfl rfl ?_
    refine Wl.iload_n 12 d23_11 rfl ?_
    refine Wl.caload 13 i d23_12 Kb (nNn h31) (nCl h31) (by rw [hcl]; exact hi) (v := .int cs[i]) (by simp [List.getD_eq_getElem?_getD, hi]) ?_
    refine Wl.istore 15 #[.val (.ref b), .val (.int (Int32.ofNat i)), .val (.ref d), .val (.int (Int32.ofNat i)), .val (.int (Int32.ofNat cs.length)), .val (.int (Int32.ofNat i)), .val (.int cs[i])] d23_13 (XS.store1 (o := o) rfl ho rfl) ?_
    refine Wl.iload 17 d23_15 rfl ?_
    refine Wl.sipush 20 (255 : Int32) d23_17 (by decide) ?_
    refine Wl.icmpY 26 d23_20 (flt (lat_le hl)).2.2.2 ?_
    refine Wl.aload_n 27 d23_26 rfl rfl ?_
    refine Wl.iload_n 28 d23_27 rfl ?_
    refine Wl.iload 30 d23_28 rfl ?_
    refine Wl.i2b 31 d23_30 ?_
    refine Wl.bastore 32 i d23_31 Kd (List.mem_of_getElem? (i := 0) rfl) (nNn h31) (nCl h31) (by rw [hcl]; exact hi) (by omega) ?_
    intro h' W Kd'
    refine Wl.iinc 35 #[.val (.ref b), .val (.int (Int32.ofNat (i + 1))), .val (.ref d), .val (.int (Int32.ofNat i)), .val (.int (Int32.ofNat cs.length)), .val (.int (Int32.ofNat i)), .val (.int cs[i])] (1 : Int32) d23_32 (by decide) rfl (by rw [nS]; rfl) ?_
    refine Wl.iinc 38 #[.val (.ref b), .val (.int (Int32.ofNat (i + 1))), .val (.ref d), .val (.int (Int32.ofNat (i + 1))), .val (.int (Int32.ofNat cs.length)), .val (.int (Int32.ofNat i)), .val (.int cs[i])] (1 : Int32) d23_35 (by decide) rfl (by rw [nS]; rfl) ?_
    refine Wl.iinc 41 #[.val (.ref b), .val (.int (Int32.ofNat (i + 1))), .val (.ref d), .val (.int (Int32.ofNat (i + 1))), .val (.int (Int32.ofNat cs.length)), .val (.int (Int32.ofNat (i + 1))), .val (.int cs[i])] (1 : Int32) d23_38 (by decide) rfl (by rw [nS]; rfl) ?_
    refine Wl.goto 3 d23_41 ?_
    exact ih (i + 1) h' _ _ (by omega) (by rw [List.length_set]; exact hvs) (Or.inr ⟨_, rfl, rfl⟩) (Kb.other W hne) Kd' (K.wr W (Or.inl (List.mem_of_getElem? (i := 0) rfl)))
theorem comp2n_met (hw : ∀ d ∈ tables_1, d.before a0 Z = true) {h : Heap} {b d : Addr} {kb kd : ClassId} {cs : List Int32} {m : Nat} (hn : cs.length < 65536) (hm : m < cs.length) (hch : ∀ c ∈ cs, Ch c) (hlat : ∀ (i : Nat) (hi : i < cs.length), i < m → Lat cs[i]) (hgt : (255 : Int32) < cs[m]) (hne : b ≠ d) (Kb : Arv Z h b kb .char (Int32.ofNat cs.length) (cs.map Value.int) (.int 0)) (Kd : Arv Z h d kd .byte (Int32.ofNat cs.length) (List.replicate cs.length (.int 0)) (.int 0)) :
    Met l Z consts_1 ⟨"java/lang/StringUTF16", "compress", "([CI[BII)I"⟩ jdk_52_method_21_code 7 (some .int) [] rm0 #[.ref b, .int 0, .ref d, .int 0, .int (Int32.ofNat cs.length)] h [d] (fun v h' => v = some (.int (Int32.ofNat m)) ∧ Keep h h' [d]) := by
  refine Met.of_walk (a0 := a0) (Ls := #[.val (.ref b), .val (.int 0), .val (.ref d), .val (.int 0), .val (.int (Int32.ofNat cs.length)), .unset, .unset]) (plainFor_of_name pn_utf16) (own_hEL hw) rfl ?_
  refine Wl.iconst 1 (0 : Int32) d23_0 (by decide) ?_
  refine Wl.istore 3 #[.val (.ref b), .val (.int 0), .val (.ref d), .val (.int 0), .val (.int (Int32.ofNat cs.length)), .val (.int 0), .unset] d23_1 rfl ?_
  exact comp2n_loop hw hn hm hch hlat hgt hne m 0 h _ _ (by omega) (by simp) (Or.inl rfl) Kb Kd (Keep.refl h [d])
/-- compress(char[], int, int) where a char is not below 256: the UTF-16 bytes -/
theorem comp1n_met (hw : ∀ d ∈ tables_1, d.before a0 Z = true) (hu : U16on Z) {h : Heap} {b : Addr} {kb : ClassId} {cs : List Int32} {N m : Nat} (hN : cs.length ≤ N) (hN2 : N < 65536) (hm : m < cs.length) (hch : ∀ c ∈ cs, Ch c) (hlat : ∀ (i : Nat) (hi : i < cs.length), i < m → Lat cs[i]) (hgt : (255 : Int32) < cs[m]) (Kb : Arv Z h b kb .char (Int32.ofNat cs.length) (cs.map Value.int) (.int 0)) :
    Met l Z consts_1 ⟨"java/lang/StringUTF16", "compress", "([CII)[B"⟩ jdk_52_method_16_code 6 (some (.array .byte)) [] { frames := 3, cells := 2, slots := 3 * N, locals := 41 } #[.ref b, .int 0, .int (Int32.ofNat cs.length)] h [] (fun v h' => ∃ (d : Addr) (kd : ClassId), v = some (.ref d) ∧ h.size ≤ d ∧ Ext h h' ∧ Arv Z h' d kd .byte (Int32.ofNat (2 * cs.length)) (b16 cs) (.int 0)) := by
  refine Met.of_walk (a0 := a0) (Ls := #[.val (.ref b), .val (.int 0), .val (.int (Int32.ofNat cs.length)), .unset, .unset, .unset]) (plainFor_of_name pn_utf16) (own_hEL hw) rfl ?_
  refine Wl.iload_n 1 d22_0 rfl ?_
  refine Wl.newarray 3 N d22_1 (w29 hw) (nNn (by omega)) (by rw [nCl (by omega)]; exact hN) (by omega) (by show 0 + 1 ≤ 2; omega) (by show 0 + N ≤ 3 * N; omega) ?_
  intro d h1 kd q E A
  rw [nCl (by omega)] at A
  have A : Arv Z h1 d kd .byte (Int32.ofNat cs.length) (List.replicate cs.length (.int 0)) (.int 0) := A
  have hne : b ≠ d := Nat.ne_of_lt (by rw [q]; exact Kb.lt)
  refine Wl.astore_n 4 #[.val (.ref b), .val (.int 0), .val (.int (Int32.ofNat cs.length)), .val (.ref d), .unset, .unset] d22_3 rfl rfl ?_
  refine Wl.aload_n 5 d22_4 rfl rfl ?_
  refine Wl.iload_n 6 d22_5 rfl ?_
  refine Wl.aload_n 7 d22_6 rfl rfl ?_
  refine Wl.iconst 8 (0 : Int32) d22_7 (by decide) ?_
  refine Wl.iload_n 9 d22_8 rfl ?_
  refine Wl.static 12 (argsL := [.ref b, .int 0, .ref d, .int 0, .int (Int32.ofNat cs.length)]) d22_9 (w118 hw) (w119 hw) (w116 hw) (w120 hw) (show parseMethodDescriptor "([CI[BII)I" = some ⟨[.array .char, .int, .array .byte, .int, .int], some .int⟩ by decide +kernel) rfl (comp2n_met hw (by omega) hm hch hlat hgt hne (Kb.ext E) A) (allS (List.mem_of_getElem? (i := 0) rfl) (fun _ q => nomatch q)) rfl rfl rfl (by decide) ⟨⟨by show 0 + 1 ≤ 3; omega, by show 0 + (7 + 11) + 0 ≤ 41; omega⟩, by show 0 + 1 + 0 ≤ 2; omega, by show 0 + N + 0 ≤ 3 * N; omega⟩ ?_
  intro v h2 hq _
  obtain ⟨rfl, K⟩ := hq
  have E2 : Ext h h2 := extKeep E K (allS (Nat.le_of_eq q.symm) all0)
  refine Wl.istore 14 #[.val (.ref b), .val (.int 0), .val (.int (Int32.ofNat cs.length)), .val (.ref d), .val (.int (Int32.ofNat m)), .unset] d22_12 rfl ?_
  refine Wl.iload 16 d22_14 rfl ?_
  refine Wl.iload_n 17 d22_16 rfl ?_
  refine Wl.icmpN 20 d22_17 (feq (fun q => by have := (nEq (by omega) (by omega)).mp q; omega)).1 ?_
  refine Wl.aload_n 21 d22_20 rfl rfl ?_
  refine Wl.iload_n 22 d22_21 rfl ?_
  refine Wl.iload_n 23 d22_22 rfl ?_
  refine Wl.static 26 (argsL := [.ref b, .int 0, .int (Int32.ofNat cs.length)]) d22_23 (w121 hw) (w122 hw) (w116 hw) (w123 hw) (show parseMethodDescriptor "([CII)[B" = some ⟨[.array .char, .int, .int], some (.array .byte)⟩ by decide +kernel) rfl (toB_met hw hu hN hN2 (Kb.ext E2)) (fun _ q => nomatch q) rfl rfl rfl (by decide) ⟨⟨by show 2 + 1 ≤ 3; omega, by show 0 + (5 + 11) + 25 ≤ 41; omega⟩, by show 0 + 1 + 0 + 1 ≤ 2; omega, by show 0 + N + 0 + 2 * N ≤ 3 * N; omega⟩ ?_
  intro v h3 hq _
  obtain ⟨d2, kd2, rfl, hd2, E3, A3⟩ := hq
  refine Wl.astore 28 #[.val (.ref b), .val (.int 0), .val (.int (Int32.ofNat cs.length)), .val (.ref d), .val (.int (Int32.ofNat m)), .val (.ref d2)] d22_26 rfl rfl ?_
  refine Wl.aload 30 d22_28 rfl rfl ?_
  refine Wl.iload 32 d22_30 rfl ?_
  refine Wl.static 35 (argsL := [.ref d2, .int (Int32.ofNat m)]) d22_32 (w137 hw) (w138 hw) (w116 hw) (w139 hw) (show parseMethodDescriptor "([BI)C" = some ⟨[.array .byte, .int], some .char⟩ by decide +kernel) rfl (getC_met hw hu (by omega) hch hm A3) (fun _ q => nomatch q) rfl rfl rfl (by decide) ⟨⟨by show 0 + 1 ≤ 3; omega, by show 0 + (2 + 11) + 0 ≤ 41; omega⟩, by show 0 + 1 + 0 + 1 + 0 ≤ 2; omega, by show 0 + N + 0 + 2 * N + 0 ≤ 3 * N; omega⟩ ?_
  intro v h4 hq _
  obtain ⟨rfl, rfl⟩ := hq
  show WlO _ _ _ _ _ _ _ _ _ _ _ _ _ _ _ _ _ _ [.int cs[m]]
  refine Wl.sipush 38 (255 : Int32) d22_35 (by decide) ?_
  refine Wl.icmpY 54 d22_38 (tlt hgt).2.2.1 ?_
  refine Wl.aload 56 d22_54 rfl rfl ?_
  exact Wl.areturn d22_56 rfl rfl rfl (by show 0 + 1 + 0 + 1 + 0 ≤ 2; omega) (by show 0 + N + 0 + 2 * N + 0 ≤ 3 * N; omega) ⟨d2, kd2, rfl, Nat.le_trans E2.1 hd2, extTr E2 E3, A3⟩
/-- the first char that is not below 256 -/
theorem first_gt : ∀ (cs : List Int32), (∀ c ∈ cs, Ch c) → (∀ c ∈ cs, Lat c) ∨ ∃ m, ∃ hm : m < cs.length, (∀ (i : Nat) (hi : i < cs.length), i < m → Lat cs[i]) ∧ (255 : Int32) < cs[m]
  | [], _ => Or.inl fun _ q => nomatch q
  | c :: cs, hc => by
    have h1 := hc c (List.mem_cons_self ..)
    by_cases hg : (255 : Int32) < c
    · exact Or.inr ⟨0, by simp, fun i _ q => absurd q (Nat.not_lt_zero _), hg⟩
    · rcases first_gt cs (fun x q => hc x (List.mem_cons_of_mem _ q)) with hl | ⟨m, hm, h2, h3⟩
      · exact Or.inl (latC (lat_of h1 hg) hl)
      · refine Or.inr ⟨m + 1, by simp; omega, fun i hi q => ?_, h3⟩
        cases i with
        | zero => exact lat_of h1 hg
        | succ i => exact h2 i (by simp at hi; omega) (by omega)
theorem cd16 {n : Nat} (h0 : 0 < n) (hn : n < 65536) : ((Int32.ofNat n - Int32.ofNat (2 * n)).toUInt32 >>> ((31 : Int32) &&& 31).toUInt32).toInt32.toInt8.toInt32 = 1 := by
  have e : (Int32.ofNat n - Int32.ofNat (2 * n)).toInt = - (n : Int) := by
    have h := c_isub (Int32.ofNat n) (Int32.ofNat (2 * n))
    have r := rng32 (Int32.ofNat n - Int32.ofNat (2 * n))
    rw [nI (by omega), nI (by omega)] at h
    omega
  exact sign1 (by omega)
/-- String(char[], int, int, Void) where a char is not below 256 -/
theorem strV16_met (hw : ∀ d ∈ tables_1, d.before a0 Z = true) (hcs : CSon Z) (hu : U16on Z) {h : Heap} {a b : Addr} {kb : ClassId} {cs : List Int32} {N m : Nat} (hN : cs.length ≤ N) (hN2 : N < 65536) (hm : m < cs.length) (hch : ∀ c ∈ cs, Ch c) (hlat : ∀ (i : Nat) (hi : i < cs.length), i < m → Lat cs[i]) (hgt : (255 : Int32) < cs[m]) (E : Exa Z h a "java/lang/String") (FV : Fld Z h a "java/lang/String" "value" "[B" .null) (FC : Fld Z h a "java/lang/String" "coder" "B" (.int 0)) (Kb : Arv Z h b kb .char (Int32.ofNat cs.length) (cs.map Value.int) (.int 0)) :
    Met l Z consts_1 ⟨"java/lang/String", "<init>", "([CIILjava/lang/Void;)V"⟩ jdk_42_method_149_code 6 none [] { frames := 4, cells := 2, slots := 3 * N, locals := 58 } #[.ref a, .ref b, .int 0, .int (Int32.ofNat cs.length), .null] h [a] (fun v h' => v = none ∧ Keep h h' [a] ∧ Sth Z h' a cs) := by
  refine Met.of_walk (a0 := a0) (Ls := #[.val (.ref a), .val (.ref b), .val (.int 0), .val (.int (Int32.ofNat cs.length)), .val .null, .unset]) (plainFor_of_name pn_str) (own_hEL hw) rfl ?_
  refine Wl.aload_n 1 d5_0 rfl rfl ?_
  refine Wl.initO 4 d5_1 (w25 hw) (w26 hw) (w27 hw) rfl (by show 1 ≤ 4; omega) (by show 0 + 12 ≤ 58; omega) ?_
  refine Wl.iload_n 5 d5_4 rfl ?_
  obtain ⟨cst, hS, hcn⟩ := hcs
  have L1 : Laid Z a0 "java/lang/String" "java/lang/String" "value" "[B" := Or.inr (w30 hw)
  have L2 : Laid Z a0 "java/lang/String" "java/lang/String" "coder" "B" := Or.inr (w31 hw)
  have hsl : Jvm.RoadKit.slotOf Z "java/lang/String" "value" "[B" ≠ Jvm.RoadKit.slotOf Z "java/lang/String" "coder" "B" := slot_ne L1 L2 (by decide) (t := .array .byte) (t' := .byte) (by decide) (by decide)
  have hpos : 0 < cs.length := by omega
  refine Wl.ifY 27 d5_5 (feq (fun q => by have := congrArg Int32.toInt q; rw [nI (by omega), show (0 : Int32).toInt = 0 by decide] at this; omega)).2 ?_
  refine Wl.getstatic 30 d5_27 (w72 hw) hS ?_
  refine Wl.ifN 33 d5_30 (feq hcn).1 ?_
  refine Wl.aload_n 34 d5_33 rfl rfl ?_
  refine Wl.iload_n 35 d5_34 rfl ?_
  refine Wl.iload_n 36 d5_35 rfl ?_
  refine Wl.static 39 (argsL := [.ref b, .int 0, .int (Int32.ofNat cs.length)]) d5_36 (w114 hw) (w115 hw) (w116 hw) (w117 hw) (show parseMethodDescriptor "([CII)[B" = some ⟨[.array .char, .int, .int], some (.array .byte)⟩ by decide +kernel) rfl (comp1n_met hw hu hN hN2 hm hch hlat hgt Kb) (fun _ q => nomatch q) rfl rfl rfl (by decide) ⟨⟨by show 3 + 1 ≤ 4; omega, by show 0 + (6 + 11) + 41 ≤ 58; omega⟩, by show 0 + 2 ≤ 2; omega, by show 0 + 3 * N ≤ 3 * N; omega⟩ ?_
  intro v h1 hq _
  obtain ⟨d, kd, rfl, hd, E1, A1⟩ := hq
  have hne : d ≠ a := Nat.ne_of_gt (Nat.lt_of_lt_of_le E.lt hd)
  refine Wl.astore 41 #[.val (.ref a), .val (.ref b), .val (.int 0), .val (.int (Int32.ofNat cs.length)), .val .null, .val (.ref d)] d5_39 rfl rfl ?_
  refine Wl.aload_n 42 d5_41 rfl rfl ?_
  refine Wl.aload 44 d5_42 rfl rfl ?_
  refine Wl.iload_n 45 d5_44 rfl ?_
  refine Wl.static 48 (argsL := [.ref d, .int (Int32.ofNat cs.length)]) d5_45 (w140 hw) (w141 hw) (w116 hw) (w142 hw) (show parseMethodDescriptor "([BI)B" = some ⟨[.array .byte, .int], some .byte⟩ by decide +kernel) rfl (coderLen_met hw A1) (fun _ q => nomatch q) rfl rfl rfl (by decide) ⟨⟨by show 0 + 1 ≤ 4; omega, by show 1 + (2 + 11) + 0 ≤ 58; omega⟩, by show 0 + 2 + 0 ≤ 2; omega, by show 0 + 3 * N + 0 ≤ 3 * N; omega⟩ ?_
  intro v h2 hq _
  obtain ⟨rfl, rfl⟩ := hq
  rw [cd16 hpos (by omega)]
  refine Wl.putfield 51 d5_48 (w35 hw) (FC.ext E1) (E.ext E1) (Or.inr ⟨(w31 hw), rfl, rfl⟩) (w15 hw) (ty := .byte) (by decide) rfl rfl (List.mem_of_getElem? (i := 0) rfl) ?_
  intro h3 W3
  refine Wl.aload_n 52 d5_51 rfl rfl ?_
  refine Wl.aload 54 d5_52 rfl rfl ?_
  refine Wl.putfield 57 d5_54 (w34 hw) ((FV.ext E1).other W3 (Or.inr hsl)) ((E.ext E1).wr W3) (Or.inr ⟨(w30 hw), rfl, rfl⟩) (w15 hw) (ty := .array .byte) (by decide) rfl rfl (List.mem_of_getElem? (i := 0) rfl) ?_
  intro h4 W4
  refine Wl.return_ d5_57 rfl (by show 0 + 2 + 0 ≤ 2; omega) (by show 0 + 3 * N + 0 ≤ 3 * N; omega) ⟨rfl, ?_, ?_⟩
  · exact ((((Keep.refl h [a]).ext E1)).wr W3 (Or.inl (List.mem_of_getElem? (i := 0) rfl))).wr W4 (Or.inl (List.mem_of_getElem? (i := 0) rfl))
  · exact ⟨d, kd, ((E.ext E1).wr W3).wr W4, ((FC.ext E1).same W3).other W4 (Or.inr hsl.symm), ((FV.ext E1).other W3 (Or.inr hsl)).same W4, (A1.other W3 hne).other W4 hne, hch, by omega⟩
/-- String(char[]), any chars -/
theorem strW_met (hw : ∀ d ∈ tables_1, d.before a0 Z = true) (hcs : CSon Z) (hu : U16on Z) {h : Heap} {a b : Addr} {kb : ClassId} {cs : List Int32} (N : Nat) (hN : cs.length ≤ N) (hN2 : N < 65536) (hch : ∀ c ∈ cs, Ch c) (E : Exa Z h a "java/lang/String") (FV : Fld Z h a "java/lang/String" "value" "[B" .null) (FC : Fld Z h a "java/lang/String" "coder" "B" (.int 0)) (Kb : Arv Z h b kb .char (Int32.ofNat cs.length) (cs.map Value.int) (.int 0)) :
    Met l Z consts_1 ⟨"java/lang/String", "<init>", "([C)V"⟩ jdk_42_method_3_code 2 none [] { frames := 5, cells := 4, slots := 3 * N + 8, locals := 75 } #[.ref a, .ref b] h [a] (fun v h' => v = none ∧ Keep h h' [a] ∧ Stw Z h' a cs) := by
  refine Met.of_walk (a0 := a0) (Ls := #[.val (.ref a), .val (.ref b)]) (plainFor_of_name pn_str) (own_hEL hw) rfl ?_
  refine Wl.aload_n 1 d4_0 rfl rfl ?_
  refine Wl.aload_n 2 d4_1 rfl rfl ?_
  refine Wl.iconst 3 (0 : Int32) d4_2 (by decide) ?_
  refine Wl.aload_n 4 d4_3 rfl rfl ?_
  refine Wl.arraylength 5 d4_4 Kb ?_
  refine Wl.aconst_null 6 d4_5 ?_
  rcases first_gt cs hch with hlat | ⟨m, hm, h1, h2⟩
  · refine Wl.special 9 (argsL := [.ref b, .int 0, .int (Int32.ofNat cs.length), .null]) d4_6 (w21 hw) (w22 hw) (w16 hw) (w24 hw) (show parseMethodDescriptor "([CIILjava/lang/Void;)V" = some ⟨[.array .char, .int, .int, .object "java/lang/Void"], none⟩ by decide +kernel) rfl (strV_met hw hcs hN hN2 hlat E FV FC Kb) (allS (List.mem_of_getElem? (i := 0) rfl) (fun _ q => nomatch q)) rfl rfl rfl rfl (by decide) ⟨⟨by show 2 + 1 ≤ 5; omega, by show 0 + (6 + 11) + 36 ≤ 75; omega⟩, by show 0 + 4 ≤ 4; omega, by show 0 + (N + 8) ≤ 3 * N + 8; omega⟩ ?_
    intro v h1 hq _
    obtain ⟨rfl, K1, S1⟩ := hq
    exact Wl.return_ d4_9 rfl (by show 0 + 4 ≤ 4; omega) (by show 0 + (N + 8) ≤ 3 * N + 8; omega) ⟨rfl, K1, Or.inl S1⟩
  · refine Wl.special 9 (argsL := [.ref b, .int 0, .int (Int32.ofNat cs.length), .null]) d4_6 (w21 hw) (w22 hw) (w16 hw) (w24 hw) (show parseMethodDescriptor "([CIILjava/lang/Void;)V" = some ⟨[.array .char, .int, .int, .object "java/lang/Void"], none⟩ by decide +kernel) rfl (strV16_met hw hcs hu hN hN2 hm hch h1 h2 E FV FC Kb) (allS (List.mem_of_getElem? (i := 0) rfl) (fun _ q => nomatch q)) rfl rfl rfl rfl (by decide) ⟨⟨by show 4 + 1 ≤ 5; omega, by show 0 + (6 + 11) + 58 ≤ 75; omega⟩, by show 0 + 2 ≤ 4; omega, by show 0 + 3 * N ≤ 3 * N + 8; omega⟩ ?_
    intro v h1 hq _
    obtain ⟨rfl, K1, S1⟩ := hq
    exact Wl.return_ d4_9 rfl (by show 0 + 2 ≤ 4; omega) (by show 0 + 3 * N ≤ 3 * N + 8; omega) ⟨rfl, K1, Or.inr S1⟩
/-- length(), either form -/
theorem lenW_met (hw : ∀ d ∈ tables_1, d.before a0 Z = true) (hcs : CSon Z) {h : Heap} {a : Addr} {cs : List Int32} (S : Stw Z h a cs) :
    Met l Z consts_1 ⟨"java/lang/String", "length", "()I"⟩ jdk_42_method_54_code 1 (some .int) [] { frames := 1, cells := 0, slots := 0, locals := 13 } #[.ref a] h [] (fun v h' => v = some (.int (Int32.ofNat cs.length)) ∧ h = h') := by
  rcases S with S | S
  · exact len_met hw hcs S
  obtain ⟨b, kb, X, C, Vl, A, hlat, hn⟩ := S
  refine Met.of_walk (a0 := a0) (Ls := #[.val (.ref a)]) (plainFor_of_name pn_str) (own_hEL hw) rfl ?_
  refine Wl.aload_n 1 d10_0 rfl rfl ?_
  refine Wl.getfield 4 d10_1 (w34 hw) Vl ?_
  refine Wl.arraylength 5 d10_4 A ?_
  refine Wl.aload_n 6 d10_5 rfl rfl ?_
  refine Wl.virtual 9 (argsL := []) d10_6 (w67 hw) (w68 hw) (w70 hw) (w69 hw) (w16 hw) (w71 hw) (nf_sel (w70 hw) rfl) X (show parseMethodDescriptor "()B" = some ⟨[], some .byte⟩ by decide +kernel) rfl (coder_met hw hcs rfl C) (fun _ q => nomatch q) rfl rfl rfl (by decide) ⟨⟨nle rfl, nle rfl⟩, nle rfl, nle rfl⟩ ?_
  intro v h1 hq _
  obtain ⟨rfl, rfl⟩ := hq
  show WlO _ _ _ _ _ _ _ _ _ _ _ _ _ _ _ _ _ _ [.int 1, .int (Int32.ofNat (2 * cs.length))]
  refine Wl.ishr 10 d10_9 ?_
  rw [nHalf (by omega)]
  exact Wl.ireturn (t := .int) d10_10 rfl rfl (by simp) (nle rfl) (nle rfl) ⟨rfl, rfl⟩
theorem isLat0_met (hw : ∀ d ∈ tables_1, d.before a0 Z = true) (hcs : CSon Z) {h : Heap} {a : Addr} (FC : Fld Z h a "java/lang/String" "coder" "B" (.int 1)) :
    Met l Z consts_1 ⟨"java/lang/String", "isLatin1", "()Z"⟩ jdk_42_method_154_code 1 (some .boolean) [] rm0 #[.ref a] h [] (fun v h' => v = some (.int 0) ∧ h = h') := by
  obtain ⟨cst, hS, hcn⟩ := hcs
  refine Met.of_walk (a0 := a0) (Ls := #[.val (.ref a)]) (plainFor_of_name pn_str) (own_hEL hw) rfl ?_
  refine Wl.getstatic 3 d18_0 (w72 hw) hS ?_
  refine Wl.ifN 6 d18_3 (feq hcn).1 ?_
  refine Wl.aload_n 7 d18_6 rfl rfl ?_
  refine Wl.getfield 10 d18_7 (w35 hw) FC ?_
  refine Wl.ifY 17 d18_10 (by decide) ?_
  refine Wl.iconst 18 (0 : Int32) d18_17 (by decide) ?_
  exact Wl.ireturn (t := .boolean) d18_18 rfl rfl (by simp) (nle rfl) (nle rfl) ⟨rfl, rfl⟩
theorem chkU_met (hw : ∀ d ∈ tables_1, d.before a0 Z = true) (hfm : Fmt Z) {h : Heap} {b : Addr} {kb : ClassId} {n i : Nat} {vs : List Value} {dv : Value} (hn : n < 65536) (hi : i < n) (A : Arv Z h b kb .byte (Int32.ofNat (2 * n)) vs dv) :
    Met l Z consts_1 ⟨"java/lang/StringUTF16", "checkIndex", "(I[B)V"⟩ jdk_52_method_91_code 2 none [] { frames := 2, cells := 0, slots := 0, locals := 27 } #[.int (Int32.ofNat i), .ref b] h [] (fun v h' => v = none ∧ h = h') := by
  refine Met.of_walk (a0 := a0) (Ls := #[.val (.int (Int32.ofNat i)), .val (.ref b)]) (plainFor_of_name pn_utf16) (own_hEL hw) rfl ?_
  refine Wl.iload_n 1 d32_0 rfl ?_
  refine Wl.aload_n 2 d32_1 rfl rfl ?_
  refine Wl.static 5 (argsL := [.ref b]) d32_2 (w154 hw) (w155 hw) (w116 hw) (w156 hw) (show parseMethodDescriptor "([B)I" = some ⟨[.array .byte], some .int⟩ by decide +kernel) rfl (ulen_met hw (by omega) A) (fun _ q => nomatch q) rfl rfl rfl (by decide) ⟨⟨nle rfl, nle rfl⟩, nle rfl, nle rfl⟩ ?_
  intro v h1 hq _
  obtain ⟨rfl, rfl⟩ := hq
  show WlO _ _ _ _ _ _ _ _ _ _ _ _ _ _ _ _ _ _ [.int (Int32.ofNat n), .int (Int32.ofNat i)]
  refine Wl.static 8 (argsL := [.int (Int32.ofNat i), .int (Int32.ofNat n)]) d32_5 (w157 hw) (w104 hw) (w16 hw) (w105 hw) (show parseMethodDescriptor "(II)V" = some ⟨[.int, .int], none⟩ by decide +kernel) rfl (chkS_met hw hfm (nNn (by omega)) ((nLt (by omega) (by omega)).mpr hi)) (fun _ q => nomatch q) rfl rfl rfl (by decide) ⟨⟨nle rfl, nle rfl⟩, nle rfl, nle rfl⟩ ?_
  intro v h1 hq _
  obtain ⟨rfl, rfl⟩ := hq
  exact Wl.return_ d32_8 rfl (nle rfl) (nle rfl) ⟨rfl, rfl⟩
theorem charU_met (hw : ∀ d ∈ tables_1, d.before a0 Z = true) (hfm : Fmt Z) (hu : U16on Z) {h : Heap} {b : Addr} {kb : ClassId} {cs : List Int32} (A : Arv Z h b kb .byte (Int32.ofNat (2 * cs.length)) (b16 cs) (.int 0)) (hc : ∀ c ∈ cs, Ch c) (hn : cs.length < 65536) {i : Nat} (hi : i < cs.length) :
    Met l Z consts_1 ⟨"java/lang/StringUTF16", "charAt", "([BI)C"⟩ jdk_52_method_83_code 2 (some .char) [] { frames := 3, cells := 0, slots := 0, locals := 40 } #[.ref b, .int (Int32.ofNat i)] h [] (fun v h' => v = some (.int cs[i]) ∧ h = h') := by
  refine Met.of_walk (a0 := a0) (Ls := #[.val (.ref b), .val (.int (Int32.ofNat i))]) (plainFor_of_name pn_utf16) (own_hEL hw) rfl ?_
  refine Wl.iload_n 1 d31_0 rfl ?_
  refine Wl.aload_n 2 d31_1 rfl rfl ?_
  refine Wl.static 5 (argsL := [.int (Int32.ofNat i), .ref b]) d31_2 (w151 hw) (w152 hw) (w116 hw) (w153 hw) (show parseMethodDescriptor "(I[B)V" = some ⟨[.int, .array .byte], none⟩ by decide +kernel) rfl (chkU_met hw hfm hn hi A) (fun _ q => nomatch q) rfl rfl rfl (by decide) ⟨⟨nle rfl, nle rfl⟩, nle rfl, nle rfl⟩ ?_
  intro v h1 hq _
  obtain ⟨rfl, rfl⟩ := hq
  show WlO _ _ _ _ _ _ _ _ _ _ _ _ _ _ _ _ _ _ []
  refine Wl.aload_n 6 d31_5 rfl rfl ?_
  refine Wl.iload_n 7 d31_6 rfl ?_
  refine Wl.static 10 (argsL := [.ref b, .int (Int32.ofNat i)]) d31_7 (w137 hw) (w138 hw) (w116 hw) (w139 hw) (show parseMethodDescriptor "([BI)C" = some ⟨[.array .byte, .int], some .char⟩ by decide +kernel) rfl (getC_met hw hu (by omega) hc hi A) (fun _ q => nomatch q) rfl rfl rfl (by decide) ⟨⟨nle rfl, nle rfl⟩, nle rfl, nle rfl⟩ ?_
  intro v h1 hq _
  obtain ⟨rfl, rfl⟩ := hq
  show WlO _ _ _ _ _ _ _ _ _ _ _ _ _ _ _ _ _ _ [.int cs[i]]
  exact Wl.ireturn (t := .char) d31_10 rfl (narC (hc _ (List.getElem_mem hi))) (by simp) (nle rfl) (nle rfl) ⟨rfl, rfl⟩
/-- charAt, either form -/
theorem charW_met (hw : ∀ d ∈ tables_1, d.before a0 Z = true) (hcs : CSon Z) (hfm : Fmt Z) (hu : U16on Z) {h : Heap} {a : Addr} {cs : List Int32} (S : Stw Z h a cs) {i : Nat} (hi : i < cs.length) :
    Met l Z consts_1 ⟨"java/lang/String", "charAt", "(I)C"⟩ jdk_42_method_56_code 2 (some .char) [] { frames := 4, cells := 0, slots := 0, locals := 53 } #[.ref a, .int (Int32.ofNat i)] h [] (fun v h' => v = some (.int cs[i]) ∧ h = h') := by
  refine Met.of_walk (a0 := a0) (Ls := #[.val (.ref a), .val (.int (Int32.ofNat i))]) (plainFor_of_name pn_str) (own_hEL hw) rfl ?_
  refine Wl.aload_n 1 d17_0 rfl rfl ?_
  rcases S with S | S
  · obtain ⟨b, kb, X, C, Vl, A, hlat, hn⟩ := S
    have hl : Lat cs[i] := hlat _ (List.getElem_mem hi)
    refine Wl.virtual 4 (argsL := []) d17_1 (w95 hw) (w96 hw) (w98 hw) (w97 hw) (w16 hw) (w99 hw) (nf_sel (w98 hw) rfl) X (show parseMethodDescriptor "()Z" = some ⟨[], some .boolean⟩ by decide +kernel) rfl (isLatin1_met hw hcs C) (fun _ q => nomatch q) rfl rfl rfl (by decide) ⟨⟨nle rfl, nle rfl⟩, nle rfl, nle rfl⟩ ?_
    intro v h1 hq _
    obtain ⟨rfl, rfl⟩ := hq
    show WlO _ _ _ _ _ _ _ _ _ _ _ _ _ _ _ _ _ _ [.int 1]
    refine Wl.ifN 7 d17_4 (by decide) ?_
    refine Wl.aload_n 8 d17_7 rfl rfl ?_
    refine Wl.getfield 11 d17_8 (w34 hw) Vl ?_
    refine Wl.iload_n 12 d17_11 rfl ?_
    refine Wl.static 15 (argsL := [.ref b, .int (Int32.ofNat i)]) d17_12 (w100 hw) (w101 hw) (w78 hw) (w102 hw) (show parseMethodDescriptor "([BI)C" = some ⟨[.array .byte, .int], some .char⟩ by decide +kernel) rfl (charL_met hw hfm A hlat hn hi) (fun _ q => nomatch q) rfl rfl rfl (by decide) ⟨⟨nle rfl, nle rfl⟩, nle rfl, nle rfl⟩ ?_
    intro v h2 hq _
    obtain ⟨rfl, rfl⟩ := hq
    show WlO _ _ _ _ _ _ _ _ _ _ _ _ _ _ _ _ _ _ [.int cs[i]]
    exact Wl.ireturn (t := .char) d17_15 rfl (narC hl.ch) (by simp) (nle rfl) (nle rfl) ⟨rfl, rfl⟩
  · obtain ⟨b, kb, X, C, Vl, A, hc, hn⟩ := S
    refine Wl.virtual 4 (argsL := []) d17_1 (w95 hw) (w96 hw) (w98 hw) (w97 hw) (w16 hw) (w99 hw) (nf_sel (w98 hw) rfl) X (show parseMethodDescriptor "()Z" = some ⟨[], some .boolean⟩ by decide +kernel) rfl (isLat0_met hw hcs C) (fun _ q => nomatch q) rfl rfl rfl (by decide) ⟨⟨nle rfl, nle rfl⟩, nle rfl, nle rfl⟩ ?_
    intro v h1 hq _
    obtain ⟨rfl, rfl⟩ := hq
    show WlO _ _ _ _ _ _ _ _ _ _ _ _ _ _ _ _ _ _ [.int 0]
    refine Wl.ifY 16 d17_4 (by decide) ?_
    refine Wl.aload_n 17 d17_16 rfl rfl ?_
    refine Wl.getfield 20 d17_17 (w34 hw) Vl ?_
    refine Wl.iload_n 21 d17_20 rfl ?_
    refine Wl.static 24 (argsL := [.ref b, .int (Int32.ofNat i)]) d17_21 (w148 hw) (w149 hw) (w116 hw) (w150 hw) (show parseMethodDescriptor "([BI)C" = some ⟨[.array .byte, .int], some .char⟩ by decide +kernel) rfl (charU_met hw hfm hu A hc hn hi) (fun _ q => nomatch q) rfl rfl rfl (by decide) ⟨⟨nle rfl, nle rfl⟩, nle rfl, nle rfl⟩ ?_
    intro v h2 hq _
    obtain ⟨rfl, rfl⟩ := hq
    show WlO _ _ _ _ _ _ _ _ _ _ _ _ _ _ _ _ _ _ [.int cs[i]]
    exact Wl.ireturn (t := .char) d17_24 rfl (narC (hc _ (List.getElem_mem hi))) (by simp) (nle rfl) (nle rfl) ⟨rfl, rfl⟩
end Utf16

section OpVal
variable {l : Launch} {Z : State} {a0 : Array Value}
theorem canEncC_met (hw : ∀ d ∈ tables_1, d.before a0 Z = true) {h : Heap} {c : Int32} :
    Met l Z consts_1 ⟨"java/lang/StringLatin1", "canEncode", "(C)Z"⟩ jdk_43_method_3_code 1 (some .boolean) [] rm0 #[.int c] h [] (fun v h' => v = some (.int (if (255 : Int32) < c then 0 else 1)) ∧ h = h') := by
  refine Met.of_walk (a0 := a0) (Ls := #[.val (.int c)]) (plainFor_of_name pn_lat) (own_hEL hw) rfl ?_
  refine Wl.iload_n 1 d13_0 rfl ?_
  refine Wl.sipush 4 (255 : Int32) d13_1 (by decide) ?_
  by_cases hg : (255 : Int32) < c
  · refine Wl.icmpY 11 d13_4 (tlt hg).2.2.1 ?_
    refine Wl.iconst 12 (0 : Int32) d13_11 (by decide) ?_
    exact Wl.ireturn (t := .boolean) d13_12 rfl rfl (by simp) (nle rfl) (nle rfl) ⟨by rw [if_pos hg], rfl⟩
  · refine Wl.icmpN 7 d13_4 (flt hg).2.2.1 ?_
    refine Wl.iconst 8 (1 : Int32) d13_7 (by decide) ?_
    refine Wl.goto 12 d13_8 ?_
    exact Wl.ireturn (t := .boolean) d13_12 rfl rfl (by simp) (nle rfl) (nle rfl) ⟨by rw [if_neg hg], rfl⟩
theorem toBL_met (hw : ∀ d ∈ tables_1, d.before a0 Z = true) {h : Heap} {c : Int32} :
    Met l Z consts_1 ⟨"java/lang/StringLatin1", "toBytes", "(C)[B"⟩ jdk_43_method_46_code 1 (some (.array .byte)) [] { frames := 0, cells := 1, slots := 1, locals := 0 } #[.int c] h [] (fun v h' => ∃ (d : Addr) (kd : ClassId), v = some (.ref d) ∧ h.size ≤ d ∧ Ext h h' ∧ Arv Z h' d kd .byte (Int32.ofNat 1) [byV c] (.int 0)) := by
  refine Met.of_walk (a0 := a0) (Ls := #[.val (.int c)]) (plainFor_of_name pn_lat) (own_hEL hw) rfl ?_
  refine Wl.iconst 1 (1 : Int32) d14_0 (by decide) ?_
  refine Wl.newarray 3 1 d14_1 (w29 hw) (by decide) (by decide) (by decide) (nle rfl) (nle rfl) ?_
  intro d h1 kd q E A
  have A : Arv Z h1 d kd .byte (1 : Int32) [.int 0] (.int 0) := A
  refine Wl.dup 4 d14_3 rfl ?_
  refine Wl.iconst 5 (0 : Int32) d14_4 (by decide) ?_
  refine Wl.iload_n 6 d14_5 rfl ?_
  refine Wl.i2b 7 d14_6 ?_
  refine Wl.bastore 8 0 d14_7 A (List.mem_of_getElem? (i := 0) rfl) (by decide) (by decide) (by decide) (nle rfl) ?_
  intro h2 W2 A2
  rw [show nar .byte c.toInt8.toInt32 = c.toInt8.toInt32 from i2b_id _] at A2
  exact Wl.areturn d14_8 rfl rfl rfl (nle rfl) (nle rfl) ⟨d, kd, rfl, Nat.le_of_eq q.symm, extWr E W2 (Nat.le_of_eq q.symm), A2⟩
theorem toBU_met (hw : ∀ d ∈ tables_1, d.before a0 Z = true) (hu : U16on Z) {h : Heap} {c : Int32} :
    Met l Z consts_1 ⟨"java/lang/StringUTF16", "toBytes", "(C)[B"⟩ jdk_52_method_24_code 2 (some (.array .byte)) [] { frames := 1, cells := 1, slots := 2, locals := 14 } #[.int c] h [] (fun v h' => ∃ (d : Addr) (kd : ClassId), v = some (.ref d) ∧ h.size ≤ d ∧ Ext h h' ∧ Arv Z h' d kd .byte (Int32.ofNat (2 * 1)) (b16 [c]) (.int 0)) := by
  refine Met.of_walk (a0 := a0) (Ls := #[.val (.int c), .unset]) (plainFor_of_name pn_utf16) (own_hEL hw) rfl ?_
  refine Wl.iconst 1 (2 : Int32) d30_0 (by decide) ?_
  refine Wl.newarray 3 2 d30_1 (w29 hw) (by decide) (by decide) (by decide) (nle rfl) (nle rfl) ?_
  intro d h1 kd q E A
  have A : Arv Z h1 d kd .byte (Int32.ofNat (2 * 1)) [.int 0, .int 0] (.int 0) := A
  refine Wl.astore_n 4 #[.val (.int c), .val (.ref d)] d30_3 rfl rfl ?_
  refine Wl.aload_n 5 d30_4 rfl rfl ?_
  refine Wl.iconst 6 (0 : Int32) d30_5 (by decide) ?_
  refine Wl.iload_n 7 d30_6 rfl ?_
  refine Wl.static 10 (argsL := [.ref d, .int 0, .int c]) d30_7 (w131 hw) (w132 hw) (w116 hw) (w133 hw) (show parseMethodDescriptor "([BII)V" = some ⟨[.array .byte, .int, .int], none⟩ by decide +kernel) rfl (putC_met hw hu (c := c) (n := 1) (i := 0) (nle rfl) (nle rfl) rfl A) (allS (List.mem_of_getElem? (i := 0) rfl) (fun _ q => nomatch q)) rfl rfl rfl (by decide) ⟨⟨nle rfl, nle rfl⟩, nle rfl, nle rfl⟩ ?_
  intro v h2 hq _
  obtain ⟨rfl, K, A2⟩ := hq
  show WlO _ _ _ _ _ _ _ _ _ _ _ _ _ _ _ _ _ _ []
  refine Wl.aload_n 11 d30_10 rfl rfl ?_
  exact Wl.areturn d30_11 rfl rfl rfl (nle rfl) (nle rfl) ⟨d, kd, rfl, Nat.le_of_eq q.symm, extKeep E K (allS (Nat.le_of_eq q.symm) all0), A2⟩
end OpVal

section StrBB
variable {l : Launch} {Z : State} {a0 : Array Value}
/-- String(byte[], byte) -/
theorem strBB_met (hw : ∀ d ∈ tables_1, d.before a0 Z = true) {h : Heap} {a d : Addr} {cd : Int32} (hnar : narrow .byte (.int cd) = .int cd) (hfit : fits .byte (.int cd) = true) (E : Exa Z h a "java/lang/String") (FV : Fld Z h a "java/lang/String" "value" "[B" .null) (FC : Fld Z h a "java/lang/String" "coder" "B" (.int 0)) :
    Met l Z consts_1 ⟨"java/lang/String", "<init>", "([BB)V"⟩ jdk_42_method_151_code 3 none [] { frames := 1, cells := 0, slots := 0, locals := 12 } #[.ref a, .ref d, .int cd] h [a] (fun v h' => v = none ∧ Keep h h' [a] ∧ Exa Z h' a "java/lang/String" ∧ Fld Z h' a "java/lang/String" "value" "[B" (.ref d) ∧ Fld Z h' a "java/lang/String" "coder" "B" (.int cd)) := by
  have L1 : Laid Z a0 "java/lang/String" "java/lang/String" "value" "[B" := Or.inr (w30 hw)
  have L2 : Laid Z a0 "java/lang/String" "java/lang/String" "coder" "B" := Or.inr (w31 hw)
  have hsl : Jvm.RoadKit.slotOf Z "java/lang/String" "value" "[B" ≠ Jvm.RoadKit.slotOf Z "java/lang/String" "coder" "B" := slot_ne L1 L2 (by decide) (t := .array .byte) (t' := .byte) (by decide) (by decide)
  refine Met.of_walk (a0 := a0) (Ls := #[.val (.ref a), .val (.ref d), .val (.int cd)]) (plainFor_of_name pn_str) (own_hEL hw) rfl ?_
  refine Wl.aload_n 1 d15_0 rfl rfl ?_
  refine Wl.initO 4 d15_1 (w25 hw) (w26 hw) (w27 hw) rfl (nle rfl) (nle rfl) ?_
  refine Wl.aload_n 5 d15_4 rfl rfl ?_
  refine Wl.aload_n 6 d15_5 rfl rfl ?_
  refine Wl.putfield 9 d15_6 (w34 hw) FV E (Or.inr ⟨(w30 hw), rfl, rfl⟩) (w15 hw) (ty := .array .byte) (by decide) rfl rfl (List.mem_of_getElem? (i := 0) rfl) ?_
  intro h1 W1
  refine Wl.aload_n 10 d15_9 rfl rfl ?_
  refine Wl.iload_n 11 d15_10 rfl ?_
  refine Wl.putfield 14 d15_11 (w35 hw) (FC.other W1 (Or.inr hsl.symm)) (E.wr W1) (Or.inr ⟨(w31 hw), rfl, rfl⟩) (w15 hw) (ty := .byte) (by decide) hnar hfit (List.mem_of_getElem? (i := 0) rfl) ?_
  intro h2 W2
  exact Wl.return_ d15_14 rfl (nle rfl) (nle rfl) ⟨rfl, ((Keep.refl h [a]).wr W1 (Or.inl (List.mem_of_getElem? (i := 0) rfl))).wr W2 (Or.inl (List.mem_of_getElem? (i := 0) rfl)), (E.wr W1).wr W2, ((FV.same W1).other W2 (Or.inr hsl)), (FC.other W1 (Or.inr hsl.symm)).same W2⟩
end StrBB
def nlow (k : Int32) : Prop := ¬ (97 ≤ k.toInt ∧ k.toInt ≤ 122)
theorem k65 : (65 : Int32).toInt = 65 := by decide
theorem k90 : (90 : Int32).toInt = 90 := by decide
theorem k97 : (97 : Int32).toInt = 97 := by decide
theorem k122 : (122 : Int32).toInt = 122 := by decide
theorem k32 : (32 : Int32).toInt = 32 := by decide
def sameI (t k : Int32) : Int32 := if t = k then 1 else if k < (65 : Int32) then 0 else if (90 : Int32) < k then 0 else if t = (k + (32 : Int32)) then 1 else 0
def upc (t : Int32) : Int32 := ((t - (97 : Int32)) + (65 : Int32)).toUInt32.toUInt16.toUInt32.toInt32
theorem upc_i {t : Int32} (h1 : ¬ t < (97 : Int32)) (h2 : ¬ (122 : Int32) < t) : (upc t).toInt = t.toInt - 32 := by
  rw [Int32.lt_iff_toInt_lt, k97] at h1
  rw [Int32.lt_iff_toInt_lt, k122] at h2
  have a := c_isub t 97; have b := c_iadd (t - 97) 65; have d := c_i2c ((t - 97) + 65)
  have r1 := rng32 (t - 97); have r2 := rng32 ((t - 97) + 65)
  rw [k97] at a; rw [k65] at b
  unfold upc
  omega
theorem sameP {t k : Int32} (ht : Ch t) (hk : Ch k) : (t.toInt = k.toInt ∨ (65 ≤ k.toInt ∧ k.toInt ≤ 90 ∧ t.toInt = k.toInt + 32) → sameI t k = 1) ∧ (¬ (t.toInt = k.toInt ∨ (65 ≤ k.toInt ∧ k.toInt ≤ 90 ∧ t.toInt = k.toInt + 32)) → sameI t k = 0) := by
  have e : (k + (32 : Int32)).toInt = k.toInt + 32 := by
    have a := c_iadd k 32; have r := rng32 (k + 32); rw [k32] at a
    have := hk.1; have := hk.2
    omega
  unfold sameI
  simp only [Int32.lt_iff_toInt_lt, ← Int32.toInt_inj, k65, k90, e]
  constructor
  · intro h
    by_cases h1 : t.toInt = k.toInt
    · rw [if_pos h1]
    · rw [if_neg h1, if_neg (by omega), if_neg (by omega), if_pos (by omega)]
  · intro h
    rw [if_neg (by omega)]
    by_cases h1 : k.toInt < 65
    · rw [if_pos h1]
    · rw [if_neg h1]
      by_cases h2 : 90 < k.toInt
      · rw [if_pos h2]
      · rw [if_neg h2, if_neg (by omega)]
theorem sa1 {t k : Int32} (ht : Ch t) (hk : Ch k) (hl : nlow k) (h1 : ¬ t < (97 : Int32)) (h2 : ¬ (122 : Int32) < t) (h3 : upc t = k) : sameI t k = 1 := by
  have u := upc_i h1 h2
  rw [Int32.lt_iff_toInt_lt, k97] at h1
  rw [Int32.lt_iff_toInt_lt, k122] at h2
  rw [h3] at u
  exact (sameP ht hk).1 (by omega)
theorem sa0 {t k : Int32} (ht : Ch t) (hk : Ch k) (hl : nlow k) (h1 : ¬ t < (97 : Int32)) (h2 : ¬ (122 : Int32) < t) (h3 : ¬ upc t = k) : sameI t k = 0 := by
  have u := upc_i h1 h2
  rw [Int32.lt_iff_toInt_lt, k97] at h1
  rw [Int32.lt_iff_toInt_lt, k122] at h2
  rw [← Int32.toInt_inj, u] at h3
  unfold nlow at hl
  exact (sameP ht hk).2 (by omega)
theorem sb1 {t k : Int32} (ht : Ch t) (hk : Ch k) (hl : nlow k) (h3 : t = k) : sameI t k = 1 := if_pos h3
theorem sb0 {t k : Int32} (ht : Ch t) (hk : Ch k) (hl : nlow k) (h1 : t < (97 : Int32)) (h3 : ¬ t = k) : sameI t k = 0 := by
  rw [Int32.lt_iff_toInt_lt, k97] at h1
  rw [← Int32.toInt_inj] at h3
  exact (sameP ht hk).2 (by omega)
theorem sc0 {t k : Int32} (ht : Ch t) (hk : Ch k) (hl : nlow k) (h1 : (122 : Int32) < t) (h3 : ¬ t = k) : sameI t k = 0 := by
  rw [Int32.lt_iff_toInt_lt, k122] at h1
  rw [← Int32.toInt_inj] at h3
  exact (sameP ht hk).2 (by omega)
def kwI : List (Int32 × Int32) → Int32
  | [] => 1
  | p :: r => if sameI p.1 p.2 = 0 then 0 else kwI r
theorem kw_0 {t k : Int32} {r : List (Int32 × Int32)} (h : sameI t k = 0) : kwI ((t, k) :: r) = 0 := if_pos h
theorem kw_n {t k : Int32} {r : List (Int32 × Int32)} {z : Int32} (h : ¬ sameI t k = 0) (q : kwI r = z) : kwI ((t, k) :: r) = z := by rw [kwI, if_neg h, q]
theorem kw_1 {t k : Int32} {r : List (Int32 × Int32)} {z : Int32} (h : sameI t k = 1) (q : kwI r = z) : kwI ((t, k) :: r) = z := kw_n (by rw [h]; decide) q
theorem xor_ch {t : Int32} (h : Ch t) : Ch (t ^^^ (32 : Int32)) := by
  have h1 : t &&& 65535 = t := Int32.toInt_inj.mp (by
    rw [c_mask t 65535 16 (by decide) (by decide), show ((2 ^ 16 : Nat) : Int) = 65536 by decide]
    have := h.1; have := h.2; omega)
  have h2 : (t ^^^ (32 : Int32)) &&& 65535 = (t &&& 65535) ^^^ ((32 : Int32) &&& 65535) := by
    apply Int32.toBitVec_inj.mp
    apply BitVec.eq_of_getLsbD_eq
    intro i hi
    simp [Bool.and_xor_distrib_right]
    revert hi
    revert i
    decide
  rw [h1, show (32 : Int32) &&& 65535 = 32 by decide] at h2
  have q := c_and (t ^^^ (32 : Int32)) 65535 (by decide)
  rw [h2, show (65535 : Int32).toInt = 65535 by decide] at q
  exact ⟨q.1, by omega⟩
theorem l16_ch (x : Int64) : Ch (x &&& (65535 : Int64)).toInt32 := by
  have h1 := c_maskL x 65535 16 (by decide) (by decide); have h2 := c_l2i (x &&& 65535); have r := rng32 (x &&& (65535 : Int64)).toInt32
  rw [show ((2 ^ 16 : Nat) : Int) = 65536 by decide] at h1
  unfold Ch
  omega
theorem l8_ch (x : Int64) : Ch (x &&& (255 : Int64)).toInt32 := by
  have h1 := c_maskL x 255 8 (by decide) (by decide); have h2 := c_l2i (x &&& 255); have r := rng32 (x &&& (255 : Int64)).toInt32
  rw [show ((2 ^ 8 : Nat) : Int) = 256 by decide] at h1
  unfold Ch
  omega
theorem low_a {x : Int32} (hc : Ch x) (h : x < (97 : Int32)) : nlow x.toUInt32.toUInt16.toUInt32.toInt32 := by
  rw [i2c_id hc]; rw [Int32.lt_iff_toInt_lt, k97] at h; unfold nlow; omega
theorem low_b {x : Int32} (hc : Ch x) (h : (122 : Int32) < x) : nlow x.toUInt32.toUInt16.toUInt32.toInt32 := by
  rw [i2c_id hc]; rw [Int32.lt_iff_toInt_lt, k122] at h; unfold nlow; omega
theorem low_c {x : Int32} (h1 : ¬ x < (97 : Int32)) (h2 : ¬ (122 : Int32) < x) : nlow ((x - (32 : Int32))).toUInt32.toUInt16.toUInt32.toInt32 := by
  rw [Int32.lt_iff_toInt_lt, k97] at h1
  rw [Int32.lt_iff_toInt_lt, k122] at h2
  have a := c_isub x 32; have d := c_i2c (x - 32); have r1 := rng32 (x - 32)
  rw [k32] at a
  unfold nlow
  omega
theorem and3 (k : Int32) : (k &&& (3 : Int32)) = 0 ∨ (k &&& (3 : Int32)) = 1 ∨ (k &&& (3 : Int32)) = 2 ∨ (k &&& (3 : Int32)) = 3 := by
  have h := c_and k 3 (by decide)
  have e : (3 : Int32).toInt = 3 := by decide
  generalize (k &&& (3 : Int32)) = n at h ⊢
  have q : ∀ k : Int32, n.toInt = k.toInt → n = k := fun k h => Int32.toInt_inj.mp h
  have : n.toInt = 0 ∨ n.toInt = 1 ∨ n.toInt = 2 ∨ n.toInt = 3 := by omega
  rcases this with h | h | h | h
  · exact Or.inl (q 0 h)
  · exact Or.inr (Or.inl (q 1 h))
  · exact Or.inr (Or.inr (Or.inl (q 2 h)))
  · exact Or.inr (Or.inr (Or.inr (q 3 h)))
set_option maxRecDepth 65536 in
set_option maxHeartbeats 40000000 in
theorem text_met {l : Launch} {Z : State} {a0 : Array Value} (hw : ∀ d ∈ tables_1, d.before a0 Z = true) {h : Heap} {t : Int64} {i b : Int32}  :
    Met l Z consts_1 ⟨"com/example/grantwork/grantwork/TokenIsKeywordPinLaw", "textChar", "(JII)C"⟩ method_3_code 6 (some .char) [] { frames := 0, cells := 0, slots := 0, locals := 0 } #[.long t, .int i, .int b] h [] (fun v h' => ∃ z, v = some (.int z) ∧ Ch z ∧ h = h') := by
  refine Met.of_walk (a0 := a0) (Ls := #[.val (.long t), .second, .val (.int i), .val (.int b), .unset, .unset]) (plainFor_of_name pn_2) (own_hEL hw) rfl ?_
  refine Wl.lload_n 1 d1_0 rfl ?_
  refine Wl.bipush 3 (16 : Int32) d1_1 (by decide) ?_
  refine Wl.iload_n 4 d1_3 rfl ?_
  refine Wl.imul 5 d1_4 ?_
  refine Wl.lushr 6 d1_5 ?_
  refine Wl.lstore 8 #[.val (.long t), .second, .val (.int i), .val (.int b), .val (.long (Jvm.Free.XT.ushrL t ((16 : Int32) * i))), .second] d1_6 rfl ?_
  refine Wl.iload_n 9 d1_8 rfl ?_
  refine Wl.iconst 10 (1 : Int32) d1_9 (by decide) ?_
  refine Wl.iand 11 d1_10 ?_
  by_cases c1 : (b &&& (1 : Int32)) = (0 : Int32)
  · refine Wl.ifN 14 d1_11 (teq c1).2 ?_
    refine Wl.lload 16 d1_14 rfl ?_
    refine Wl.ldc2J 19 d1_16 (w7 hw) ?_
    refine Wl.land 20 d1_19 ?_
    refine Wl.goto 29 d1_20 ?_
    refine Wl.l2i 30 d1_29 ?_
    refine Wl.i2c 31 d1_30 ?_
    exact Wl.ireturn d1_31 rfl (narC (i2c_ch _)) (by simp) (nle rfl) (nle rfl) ⟨_, rfl, i2c_ch _, rfl⟩
  · refine Wl.ifY 23 d1_11 (feq c1).2 ?_
    refine Wl.lload 25 d1_23 rfl ?_
    refine Wl.ldc2J 28 d1_25 (w113 hw) ?_
    refine Wl.land 29 d1_28 ?_
    refine Wl.l2i 30 d1_29 ?_
    refine Wl.i2c 31 d1_30 ?_
    exact Wl.ireturn d1_31 rfl (narC (i2c_ch _)) (by simp) (nle rfl) (nle rfl) ⟨_, rfl, i2c_ch _, rfl⟩
set_option maxRecDepth 65536 in
set_option maxHeartbeats 40000000 in
theorem key_met {l : Launch} {Z : State} {a0 : Array Value} (hw : ∀ d ∈ tables_1, d.before a0 Z = true) {h : Heap} {t : Int32} {k : Int64} {i m : Int32} (ht : Ch t) :
    Met l Z consts_1 ⟨"com/example/grantwork/grantwork/TokenIsKeywordPinLaw", "keyChar", "(CJII)C"⟩ method_4_code 7 (some .char) [] { frames := 0, cells := 0, slots := 0, locals := 0 } #[.int t, .long k, .int i, .int m] h [] (fun v h' => ∃ z, v = some (.int z) ∧ Ch z ∧ nlow z ∧ h = h') := by
  refine Met.of_walk (a0 := a0) (Ls := #[.val (.int t), .val (.long k), .second, .val (.int i), .val (.int m), .unset, .unset]) (plainFor_of_name pn_2) (own_hEL hw) rfl ?_
  refine Wl.iload 2 d2_0 rfl ?_
  refine Wl.iconst 3 (3 : Int32) d2_2 (by decide) ?_
  refine Wl.iand 4 d2_3 ?_
  refine Wl.istore 6 #[.val (.int t), .val (.long k), .second, .val (.int i), .val (.int m), .val (.int (m &&& (3 : Int32))), .unset] d2_4 rfl ?_
  refine Wl.iload 8 d2_6 rfl ?_
  by_cases c1 : (m &&& (3 : Int32)) = (0 : Int32)
  · refine Wl.ifN 11 d2_8 (teq c1).2 ?_
    refine Wl.iload_n 12 d2_11 rfl ?_
    refine Wl.istore 14 #[.val (.int t), .val (.long k), .second, .val (.int i), .val (.int m), .val (.int (m &&& (3 : Int32))), .val (.int t)] d2_12 rfl ?_
    refine Wl.goto 67 d2_14 ?_
    refine Wl.iload 69 d2_67 rfl ?_
    refine Wl.bipush 71 (97 : Int32) d2_69 (by decide) ?_
    by_cases c2 : t < (97 : Int32)
    · refine Wl.icmpY 88 d2_71 (tlt c2).1 ?_
      refine Wl.iload 90 d2_88 rfl ?_
      refine Wl.i2c 91 d2_90 ?_
      exact Wl.ireturn d2_91 rfl (narC (i2c_ch _)) (by simp) (nle rfl) (nle rfl) ⟨_, rfl, i2c_ch _, (low_a ht c2), rfl⟩
    · refine Wl.icmpN 74 d2_71 (flt c2).1 ?_
      refine Wl.iload 76 d2_74 rfl ?_
      refine Wl.bipush 78 (122 : Int32) d2_76 (by decide) ?_
      by_cases c3 : (122 : Int32) < t
      · refine Wl.icmpY 88 d2_78 (tlt c3).2.2.1 ?_
        refine Wl.iload 90 d2_88 rfl ?_
        refine Wl.i2c 91 d2_90 ?_
        exact Wl.ireturn d2_91 rfl (narC (i2c_ch _)) (by simp) (nle rfl) (nle rfl) ⟨_, rfl, i2c_ch _, (low_b ht c3), rfl⟩
      · refine Wl.icmpN 81 d2_78 (flt c3).2.2.1 ?_
        refine Wl.iload 83 d2_81 rfl ?_
        refine Wl.bipush 85 (32 : Int32) d2_83 (by decide) ?_
        refine Wl.isub 86 d2_85 ?_
        refine Wl.istore 88 #[.val (.int t), .val (.long k), .second, .val (.int i), .val (.int m), .val (.int (m &&& (3 : Int32))), .val (.int (t - (32 : Int32)))] d2_86 rfl ?_
        refine Wl.iload 90 d2_88 rfl ?_
        refine Wl.i2c 91 d2_90 ?_
        exact Wl.ireturn d2_91 rfl (narC (i2c_ch _)) (by simp) (nle rfl) (nle rfl) ⟨_, rfl, i2c_ch _, (low_c c2 c3), rfl⟩
  · refine Wl.ifY 17 d2_8 (feq c1).2 ?_
    refine Wl.iload 19 d2_17 rfl ?_
    refine Wl.iconst 20 (1 : Int32) d2_19 (by decide) ?_
    by_cases c4 : (m &&& (3 : Int32)) = (1 : Int32)
    · refine Wl.icmpN 23 d2_20 (teq c4).2 ?_
      refine Wl.iload_n 24 d2_23 rfl ?_
      refine Wl.bipush 26 (32 : Int32) d2_24 (by decide) ?_
      refine Wl.ixor 27 d2_26 ?_
      refine Wl.istore 29 #[.val (.int t), .val (.long k), .second, .val (.int i), .val (.int m), .val (.int (m &&& (3 : Int32))), .val (.int (t ^^^ (32 : Int32)))] d2_27 rfl ?_
      refine Wl.goto 67 d2_29 ?_
      refine Wl.iload 69 d2_67 rfl ?_
      refine Wl.bipush 71 (97 : Int32) d2_69 (by decide) ?_
      by_cases c5 : (t ^^^ (32 : Int32)) < (97 : Int32)
      · refine Wl.icmpY 88 d2_71 (tlt c5).1 ?_
        refine Wl.iload 90 d2_88 rfl ?_
        refine Wl.i2c 91 d2_90 ?_
        exact Wl.ireturn d2_91 rfl (narC (i2c_ch _)) (by simp) (nle rfl) (nle rfl) ⟨_, rfl, i2c_ch _, (low_a (xor_ch ht) c5), rfl⟩
      · refine Wl.icmpN 74 d2_71 (flt c5).1 ?_
        refine Wl.iload 76 d2_74 rfl ?_
        refine Wl.bipush 78 (122 : Int32) d2_76 (by decide) ?_
        by_cases c6 : (122 : Int32) < (t ^^^ (32 : Int32))
        · refine Wl.icmpY 88 d2_78 (tlt c6).2.2.1 ?_
          refine Wl.iload 90 d2_88 rfl ?_
          refine Wl.i2c 91 d2_90 ?_
          exact Wl.ireturn d2_91 rfl (narC (i2c_ch _)) (by simp) (nle rfl) (nle rfl) ⟨_, rfl, i2c_ch _, (low_b (xor_ch ht) c6), rfl⟩
        · refine Wl.icmpN 81 d2_78 (flt c6).2.2.1 ?_
          refine Wl.iload 83 d2_81 rfl ?_
          refine Wl.bipush 85 (32 : Int32) d2_83 (by decide) ?_
          refine Wl.isub 86 d2_85 ?_
          refine Wl.istore 88 #[.val (.int t), .val (.long k), .second, .val (.int i), .val (.int m), .val (.int (m &&& (3 : Int32))), .val (.int ((t ^^^ (32 : Int32)) - (32 : Int32)))] d2_86 rfl ?_
          refine Wl.iload 90 d2_88 rfl ?_
          refine Wl.i2c 91 d2_90 ?_
          exact Wl.ireturn d2_91 rfl (narC (i2c_ch _)) (by simp) (nle rfl) (nle rfl) ⟨_, rfl, i2c_ch _, (low_c c5 c6), rfl⟩
    · refine Wl.icmpY 32 d2_20 (feq c4).2 ?_
      refine Wl.iload 34 d2_32 rfl ?_
      refine Wl.iconst 35 (2 : Int32) d2_34 (by decide) ?_
      by_cases c7 : (m &&& (3 : Int32)) = (2 : Int32)
      · refine Wl.icmpN 38 d2_35 (teq c7).2 ?_
        refine Wl.lload_n 39 d2_38 rfl ?_
        refine Wl.bipush 41 (16 : Int32) d2_39 (by decide) ?_
        refine Wl.iload_n 42 d2_41 rfl ?_
        refine Wl.imul 43 d2_42 ?_
        refine Wl.lushr 44 d2_43 ?_
        refine Wl.ldc2J 47 d2_44 (w113 hw) ?_
        refine Wl.land 48 d2_47 ?_
        refine Wl.l2i 49 d2_48 ?_
        refine Wl.istore 51 #[.val (.int t), .val (.long k), .second, .val (.int i), .val (.int m), .val (.int (m &&& (3 : Int32))), .val (.int ((((Jvm.Free.XT.ushrL k ((16 : Int32) * i)) &&& (65535 : Int64))).toInt32))] d2_49 rfl ?_
        refine Wl.goto 67 d2_51 ?_
        refine Wl.iload 69 d2_67 rfl ?_
        refine Wl.bipush 71 (97 : Int32) d2_69 (by decide) ?_
        by_cases c8 : (((Jvm.Free.XT.ushrL k ((16 : Int32) * i)) &&& (65535 : Int64))).toInt32 < (97 : Int32)
        · refine Wl.icmpY 88 d2_71 (tlt c8).1 ?_
          refine Wl.iload 90 d2_88 rfl ?_
          refine Wl.i2c 91 d2_90 ?_
          exact Wl.ireturn d2_91 rfl (narC (i2c_ch _)) (by simp) (nle rfl) (nle rfl) ⟨_, rfl, i2c_ch _, (low_a (l16_ch _) c8), rfl⟩
        · refine Wl.icmpN 74 d2_71 (flt c8).1 ?_
          refine Wl.iload 76 d2_74 rfl ?_
          refine Wl.bipush 78 (122 : Int32) d2_76 (by decide) ?_
          by_cases c9 : (122 : Int32) < (((Jvm.Free.XT.ushrL k ((16 : Int32) * i)) &&& (65535 : Int64))).toInt32
          · refine Wl.icmpY 88 d2_78 (tlt c9).2.2.1 ?_
            refine Wl.iload 90 d2_88 rfl ?_
            refine Wl.i2c 91 d2_90 ?_
            exact Wl.ireturn d2_91 rfl (narC (i2c_ch _)) (by simp) (nle rfl) (nle rfl) ⟨_, rfl, i2c_ch _, (low_b (l16_ch _) c9), rfl⟩
          · refine Wl.icmpN 81 d2_78 (flt c9).2.2.1 ?_
            refine Wl.iload 83 d2_81 rfl ?_
            refine Wl.bipush 85 (32 : Int32) d2_83 (by decide) ?_
            refine Wl.isub 86 d2_85 ?_
            refine Wl.istore 88 #[.val (.int t), .val (.long k), .second, .val (.int i), .val (.int m), .val (.int (m &&& (3 : Int32))), .val (.int ((((Jvm.Free.XT.ushrL k ((16 : Int32) * i)) &&& (65535 : Int64))).toInt32 - (32 : Int32)))] d2_86 rfl ?_
            refine Wl.iload 90 d2_88 rfl ?_
            refine Wl.i2c 91 d2_90 ?_
            exact Wl.ireturn d2_91 rfl (narC (i2c_ch _)) (by simp) (nle rfl) (nle rfl) ⟨_, rfl, i2c_ch _, (low_c c8 c9), rfl⟩
      · refine Wl.icmpY 54 d2_35 (feq c7).2 ?_
        refine Wl.lload_n 55 d2_54 rfl ?_
        refine Wl.bipush 57 (16 : Int32) d2_55 (by decide) ?_
        refine Wl.iload_n 58 d2_57 rfl ?_
        refine Wl.imul 59 d2_58 ?_
        refine Wl.lushr 60 d2_59 ?_
        refine Wl.ldc2J 63 d2_60 (w7 hw) ?_
        refine Wl.land 64 d2_63 ?_
        refine Wl.l2i 65 d2_64 ?_
        refine Wl.istore 67 #[.val (.int t), .val (.long k), .second, .val (.int i), .val (.int m), .val (.int (m &&& (3 : Int32))), .val (.int ((((Jvm.Free.XT.ushrL k ((16 : Int32) * i)) &&& (255 : Int64))).toInt32))] d2_65 rfl ?_
        refine Wl.iload 69 d2_67 rfl ?_
        refine Wl.bipush 71 (97 : Int32) d2_69 (by decide) ?_
        by_cases c10 : (((Jvm.Free.XT.ushrL k ((16 : Int32) * i)) &&& (255 : Int64))).toInt32 < (97 : Int32)
        · refine Wl.icmpY 88 d2_71 (tlt c10).1 ?_
          refine Wl.iload 90 d2_88 rfl ?_
          refine Wl.i2c 91 d2_90 ?_
          exact Wl.ireturn d2_91 rfl (narC (i2c_ch _)) (by simp) (nle rfl) (nle rfl) ⟨_, rfl, i2c_ch _, (low_a (l8_ch _) c10), rfl⟩
        · refine Wl.icmpN 74 d2_71 (flt c10).1 ?_
          refine Wl.iload 76 d2_74 rfl ?_
          refine Wl.bipush 78 (122 : Int32) d2_76 (by decide) ?_
          by_cases c11 : (122 : Int32) < (((Jvm.Free.XT.ushrL k ((16 : Int32) * i)) &&& (255 : Int64))).toInt32
          · refine Wl.icmpY 88 d2_78 (tlt c11).2.2.1 ?_
            refine Wl.iload 90 d2_88 rfl ?_
            refine Wl.i2c 91 d2_90 ?_
            exact Wl.ireturn d2_91 rfl (narC (i2c_ch _)) (by simp) (nle rfl) (nle rfl) ⟨_, rfl, i2c_ch _, (low_b (l8_ch _) c11), rfl⟩
          · refine Wl.icmpN 81 d2_78 (flt c11).2.2.1 ?_
            refine Wl.iload 83 d2_81 rfl ?_
            refine Wl.bipush 85 (32 : Int32) d2_83 (by decide) ?_
            refine Wl.isub 86 d2_85 ?_
            refine Wl.istore 88 #[.val (.int t), .val (.long k), .second, .val (.int i), .val (.int m), .val (.int (m &&& (3 : Int32))), .val (.int ((((Jvm.Free.XT.ushrL k ((16 : Int32) * i)) &&& (255 : Int64))).toInt32 - (32 : Int32)))] d2_86 rfl ?_
            refine Wl.iload 90 d2_88 rfl ?_
            refine Wl.i2c 91 d2_90 ?_
            exact Wl.ireturn d2_91 rfl (narC (i2c_ch _)) (by simp) (nle rfl) (nle rfl) ⟨_, rfl, i2c_ch _, (low_c c10 c11), rfl⟩
set_option maxRecDepth 65536 in
set_option maxHeartbeats 40000000 in
theorem same_met {l : Launch} {Z : State} {a0 : Array Value} (hw : ∀ d ∈ tables_1, d.before a0 Z = true) {h : Heap} {t k : Int32}  :
    Met l Z consts_1 ⟨"com/example/grantwork/grantwork/TokenIsKeywordPinLaw", "same", "(CC)Z"⟩ method_5_code 2 (some .boolean) [] { frames := 0, cells := 0, slots := 0, locals := 0 } #[.int t, .int k] h [] (fun v h' => v = some (.int (sameI t k)) ∧ h = h') := by
  refine Met.of_walk (a0 := a0) (Ls := #[.val (.int t), .val (.int k)]) (plainFor_of_name pn_2) (own_hEL hw) rfl ?_
  refine Wl.iload_n 1 d16_0 rfl ?_
  refine Wl.iload_n 2 d16_1 rfl ?_
  by_cases c1 : t = k
  · refine Wl.icmpY 25 d16_2 (teq c1).1 ?_
    refine Wl.iconst 26 (1 : Int32) d16_25 (by decide) ?_
    refine Wl.goto 30 d16_26 ?_
    exact Wl.ireturn d16_30 rfl rfl (by simp) (nle rfl) (nle rfl) ⟨by rw [sameI, if_pos c1], rfl⟩
  · refine Wl.icmpN 5 d16_2 (feq c1).1 ?_
    refine Wl.iload_n 6 d16_5 rfl ?_
    refine Wl.bipush 8 (65 : Int32) d16_6 (by decide) ?_
    by_cases c2 : k < (65 : Int32)
    · refine Wl.icmpY 29 d16_8 (tlt c2).1 ?_
      refine Wl.iconst 30 (0 : Int32) d16_29 (by decide) ?_
      exact Wl.ireturn d16_30 rfl rfl (by simp) (nle rfl) (nle rfl) ⟨by rw [sameI, if_neg c1, if_pos c2], rfl⟩
    · refine Wl.icmpN 11 d16_8 (flt c2).1 ?_
      refine Wl.iload_n 12 d16_11 rfl ?_
      refine Wl.bipush 14 (90 : Int32) d16_12 (by decide) ?_
      by_cases c3 : (90 : Int32) < k
      · refine Wl.icmpY 29 d16_14 (tlt c3).2.2.1 ?_
        refine Wl.iconst 30 (0 : Int32) d16_29 (by decide) ?_
        exact Wl.ireturn d16_30 rfl rfl (by simp) (nle rfl) (nle rfl) ⟨by rw [sameI, if_neg c1, if_neg c2, if_pos c3], rfl⟩
      · refine Wl.icmpN 17 d16_14 (flt c3).2.2.1 ?_
        refine Wl.iload_n 18 d16_17 rfl ?_
        refine Wl.iload_n 19 d16_18 rfl ?_
        refine Wl.bipush 21 (32 : Int32) d16_19 (by decide) ?_
        refine Wl.iadd 22 d16_21 ?_
        by_cases c4 : t = (k + (32 : Int32))
        · refine Wl.icmpN 25 d16_22 (teq c4).2 ?_
          refine Wl.iconst 26 (1 : Int32) d16_25 (by decide) ?_
          refine Wl.goto 30 d16_26 ?_
          exact Wl.ireturn d16_30 rfl rfl (by simp) (nle rfl) (nle rfl) ⟨by rw [sameI, if_neg c1, if_neg c2, if_neg c3, if_pos c4], rfl⟩
        · refine Wl.icmpY 29 d16_22 (feq c4).2 ?_
          refine Wl.iconst 30 (0 : Int32) d16_29 (by decide) ?_
          exact Wl.ireturn d16_30 rfl rfl (by simp) (nle rfl) (nle rfl) ⟨by rw [sameI, if_neg c1, if_neg c2, if_neg c3, if_neg c4], rfl⟩
set_option maxRecDepth 65536 in
set_option maxHeartbeats 40000000 in
theorem valueOf_met {l : Launch} {Z : State} {a0 : Array Value} (hw : ∀ d ∈ tables_1, d.before a0 Z = true) (hcs : CSon Z) (hu : U16on Z) {h : Heap} {c : Int32} (hc : Ch c) :
    Met l Z consts_1 ⟨"java/lang/String", "valueOf", "(C)Ljava/lang/String;"⟩ jdk_42_method_139_code 1 (some (.object "java/lang/String")) [] { frames := 2, cells := 2, slots := 6, locals := 30 } #[.int c] h [] (fun v h' => ∃ a, v = some (.ref a) ∧ Ext h h' ∧ Stw Z h' a [c]) := by
  refine Met.of_walk (a0 := a0) (Ls := #[.val (.int c)]) (plainFor_of_name pn_str) (own_hEL hw) rfl ?_
  obtain ⟨cst, hS, hcn⟩ := hcs
  refine Wl.getstatic 3 d12_0 (w72 hw) hS ?_
  refine Wl.ifN 6 d12_3 (feq hcn).1 ?_
  refine Wl.iload_n 7 d12_6 rfl ?_
  refine Wl.static 10 (argsL := [.int c]) d12_7 (w76 hw) (w77 hw) (w78 hw) (w79 hw) (show parseMethodDescriptor "(C)Z" = some ⟨[.char], some .boolean⟩ by decide +kernel) rfl (canEncC_met hw) (fun _ q => nomatch q) rfl rfl rfl (by decide) ⟨⟨nle rfl, nle rfl⟩, nle rfl, nle rfl⟩ ?_
  intro v1 h2 hq3 _
  by_cases hg : (255 : Int32) < c
  · rw [if_pos hg] at hq3
    obtain ⟨rfl, rfl⟩ := hq3
    show WlO _ _ _ _ _ _ _ _ _ _ _ _ _ _ _ _ _ _ [.int (0 : Int32)]
    refine Wl.ifY 26 d12_10 (teq (by decide)).1 ?_
    refine Wl.new 29 d12_26 (w80 hw) (w15 hw) (w16 hw) (nle rfl) (nle rfl) ?_
    intro a4 h5 q6 E7 X8 D9
    have z10 : h.size ≤ a4 := Nat.le_of_eq q6.symm
    have B11 : Ext h h5 := E7
    have F12 : Fld Z h5 a4 "java/lang/String" "value" "[B" (.null) := D9 (Or.inr (w30 hw)) (ty := (.array .byte)) (by decide)
    have F13 : Fld Z h5 a4 "java/lang/String" "coder" "B" (.int 0) := D9 (Or.inr (w31 hw)) (ty := .byte) (by decide)
    refine Wl.dup 30 d12_29 rfl ?_
    refine Wl.iload_n 31 d12_30 rfl ?_
    refine Wl.static 34 (argsL := [.int c]) d12_31 (w145 hw) (w146 hw) (w116 hw) (w147 hw) (show parseMethodDescriptor "(C)[B" = some ⟨[.char], some (.array .byte)⟩ by decide +kernel) rfl (toBU_met hw hu) (fun _ q => nomatch q) rfl rfl rfl (by decide) ⟨⟨nle rfl, nle rfl⟩, nle rfl, nle rfl⟩ ?_
    intro v14 h15 hq16 _
    obtain ⟨d17, kd18, rfl, z19, E20, A21⟩ := hq16
    have ne22 : a4 ≠ d17 := Nat.ne_of_lt (Nat.lt_of_lt_of_le (X8).lt z19)
    have z23 : h.size ≤ d17 := Nat.le_trans B11.1 z19
    have B24 : Ext h h15 := extTr B11 E20
    show WlO _ _ _ _ _ _ _ _ _ _ _ _ _ _ _ _ _ _ [.ref d17, .ref a4, .ref a4]
    refine Wl.iconst 35 (1 : Int32) d12_34 (by decide) ?_
    refine Wl.special 38 (argsL := [.ref d17, .int (1 : Int32)]) d12_35 (w84 hw) (w85 hw) (w16 hw) (w86 hw) (show parseMethodDescriptor "([BB)V" = some ⟨[(.array .byte), .byte], none⟩ by decide +kernel) rfl (strBB_met hw (cd := (1 : Int32)) rfl rfl (X8.ext E20) (F12.ext E20) (F13.ext E20)) (allS (List.mem_of_getElem? (i := 0) rfl) (fun _ q => nomatch q)) rfl rfl rfl rfl (by decide) ⟨⟨nle rfl, nle rfl⟩, nle rfl, nle rfl⟩ ?_
    intro v25 h26 hq27 _
    obtain ⟨rfl, K28, X29, F30, F31⟩ := hq27
    have B32 : Ext h h26 := extKeep B24 K28 (allS z10 all0)
    show WlO _ _ _ _ _ _ _ _ _ _ _ _ _ _ _ _ _ _ [.ref a4]
    exact Wl.areturn d12_38 rfl rfl rfl (nle rfl) (nle rfl) ⟨a4, rfl, B32, Or.inr ⟨d17, kd18, X29, F31, F30, (A21.keep K28 (ninS ne22.symm nin0)), (chC hc chN), nle rfl⟩⟩
  · rw [if_neg hg] at hq3
    obtain ⟨rfl, rfl⟩ := hq3
    show WlO _ _ _ _ _ _ _ _ _ _ _ _ _ _ _ _ _ _ [.int (1 : Int32)]
    refine Wl.ifN 13 d12_10 (feq (by decide)).1 ?_
    refine Wl.new 16 d12_13 (w80 hw) (w15 hw) (w16 hw) (nle rfl) (nle rfl) ?_
    intro a33 h34 q35 E36 X37 D38
    have z39 : h.size ≤ a33 := Nat.le_of_eq q35.symm
    have B40 : Ext h h34 := E36
    have F41 : Fld Z h34 a33 "java/lang/String" "value" "[B" (.null) := D38 (Or.inr (w30 hw)) (ty := (.array .byte)) (by decide)
    have F42 : Fld Z h34 a33 "java/lang/String" "coder" "B" (.int 0) := D38 (Or.inr (w31 hw)) (ty := .byte) (by decide)
    refine Wl.dup 17 d12_16 rfl ?_
    refine Wl.iload_n 18 d12_17 rfl ?_
    refine Wl.static 21 (argsL := [.int c]) d12_18 (w81 hw) (w82 hw) (w78 hw) (w83 hw) (show parseMethodDescriptor "(C)[B" = some ⟨[.char], some (.array .byte)⟩ by decide +kernel) rfl (toBL_met hw) (fun _ q => nomatch q) rfl rfl rfl (by decide) ⟨⟨nle rfl, nle rfl⟩, nle rfl, nle rfl⟩ ?_
    intro v43 h44 hq45 _
    obtain ⟨d46, kd47, rfl, z48, E49, A50⟩ := hq45
    have ne51 : a33 ≠ d46 := Nat.ne_of_lt (Nat.lt_of_lt_of_le (X37).lt z48)
    have z52 : h.size ≤ d46 := Nat.le_trans B40.1 z48
    have B53 : Ext h h44 := extTr B40 E49
    show WlO _ _ _ _ _ _ _ _ _ _ _ _ _ _ _ _ _ _ [.ref d46, .ref a33, .ref a33]
    refine Wl.iconst 22 (0 : Int32) d12_21 (by decide) ?_
    refine Wl.special 25 (argsL := [.ref d46, .int (0 : Int32)]) d12_22 (w84 hw) (w85 hw) (w16 hw) (w86 hw) (show parseMethodDescriptor "([BB)V" = some ⟨[(.array .byte), .byte], none⟩ by decide +kernel) rfl (strBB_met hw (cd := (0 : Int32)) rfl rfl (X37.ext E49) (F41.ext E49) (F42.ext E49)) (allS (List.mem_of_getElem? (i := 0) rfl) (fun _ q => nomatch q)) rfl rfl rfl rfl (by decide) ⟨⟨nle rfl, nle rfl⟩, nle rfl, nle rfl⟩ ?_
    intro v54 h55 hq56 _
    obtain ⟨rfl, K57, X58, F59, F60⟩ := hq56
    have B61 : Ext h h55 := extKeep B53 K57 (allS z39 all0)
    show WlO _ _ _ _ _ _ _ _ _ _ _ _ _ _ _ _ _ _ [.ref a33]
    exact Wl.areturn d12_25 rfl rfl rfl (nle rfl) (nle rfl) ⟨a33, rfl, B61, Or.inl ⟨d46, kd47, X58, F60, F59, (A50.keep K57 (ninS ne51.symm nin0)), (latC (lat_of hc hg) latN), nle rfl⟩⟩
set_option maxRecDepth 65536 in
set_option maxHeartbeats 40000000 in
theorem str0_met {l : Launch} {Z : State} {a0 : Array Value} (hw : ∀ d ∈ tables_1, d.before a0 Z = true) (hcs : CSon Z) (hu : U16on Z) {h : Heap} {c0 c1 c2 : Int32} (lc0 : Ch c0) (lc1 : Ch c1) (lc2 : Ch c2) :
    Met l Z consts_1 ⟨"com/example/grantwork/grantwork/TokenIsKeywordPinLaw", "str", "(CCCI)Ljava/lang/String;"⟩ method_6_code 4 (some (.object "java/lang/String")) [] { frames := 6, cells := 6, slots := 28, locals := 92 } #[.int c0, .int c1, .int c2, .int (0 : Int32)] h [] (fun v h' => ∃ a, v = some (.ref a) ∧ Ext h h' ∧ Stw Z h' a []) := by
  refine Met.of_walk (a0 := a0) (Ls := #[.val (.int c0), .val (.int c1), .val (.int c2), .val (.int (0 : Int32))]) (plainFor_of_name pn_2) (own_hEL hw) rfl ?_
  refine Wl.iload_n 1 d3_0 rfl ?_
  refine Wl.ifN 4 d3_1 (teq (by decide)).2 ?_
  refine Wl.new 7 d3_4 (w14 hw) (w15 hw) (w16 hw) (nle rfl) (nle rfl) ?_
  intro a1 h2 q3 E4 X5 D6
  have z7 : h.size ≤ a1 := Nat.le_of_eq q3.symm
  have B8 : Ext h h2 := E4
  have F9 : Fld Z h2 a1 "java/lang/String" "value" "[B" (.null) := D6 (Or.inr (w30 hw)) (ty := (.array .byte)) (by decide)
  have F10 : Fld Z h2 a1 "java/lang/String" "coder" "B" (.int 0) := D6 (Or.inr (w31 hw)) (ty := .byte) (by decide)
  refine Wl.dup 8 d3_7 rfl ?_
  refine Wl.iconst 9 (0 : Int32) d3_8 (by decide) ?_
  refine Wl.newarray 11 0 d3_9 (w17 hw) (by decide) (by decide) (by decide) (nle rfl) (nle rfl) ?_
  intro a11 h12 k13 q14 E15 A16
  have A16 : Arv Z h12 a11 k13 .char (0 : Int32) [] (.int 0) := A16
  have z17 : h.size ≤ a11 := Nat.le_trans B8.1 (Nat.le_of_eq q14.symm)
  have z18 : h2.size ≤ a11 := Nat.le_of_eq q14.symm
  have ne19 : a1 ≠ a11 := Nat.ne_of_lt (by rw [q14]; exact (X5).lt)
  have B20 : Ext h h12 := extTr B8 E15
  have B21 : Ext h2 h12 := E15
  refine Wl.special 14 (argsL := [.ref a11]) d3_11 (w18 hw) (w19 hw) (w16 hw) (w20 hw) (show parseMethodDescriptor "([C)V" = some ⟨[(.array .char)], none⟩ by decide +kernel) rfl (strW_met hw hcs hu (cs := []) 3 (nle rfl) (nle rfl)  chN (X5.ext E15) (F9.ext E15) (F10.ext E15) A16) (allS (List.mem_of_getElem? (i := 1) rfl) (fun _ q => nomatch q)) rfl rfl rfl rfl (by decide) ⟨⟨nle rfl, nle rfl⟩, nle rfl, nle rfl⟩ ?_
  intro v22 h23 hq24 _
  obtain ⟨rfl, K25, S26⟩ := hq24
  have B27 : Ext h h23 := extKeep B20 K25 (allS z7 all0)
  show WlO _ _ _ _ _ _ _ _ _ _ _ _ _ _ _ _ _ _ [.ref a1]
  exact Wl.areturn d3_14 rfl rfl rfl (nle rfl) (nle rfl) ⟨a1, rfl, B27, S26⟩
set_option maxRecDepth 65536 in
set_option maxHeartbeats 40000000 in
theorem str1_met {l : Launch} {Z : State} {a0 : Array Value} (hw : ∀ d ∈ tables_1, d.before a0 Z = true) (hcs : CSon Z) (hu : U16on Z) {h : Heap} {c0 c1 c2 : Int32} (lc0 : Ch c0) (lc1 : Ch c1) (lc2 : Ch c2) :
    Met l Z consts_1 ⟨"com/example/grantwork/grantwork/TokenIsKeywordPinLaw", "str", "(CCCI)Ljava/lang/String;"⟩ method_6_code 4 (some (.object "java/lang/String")) [] { frames := 6, cells := 6, slots := 28, locals := 92 } #[.int c0, .int c1, .int c2, .int (1 : Int32)] h [] (fun v h' => ∃ a, v = some (.ref a) ∧ Ext h h' ∧ Stw Z h' a [c0]) := by
  refine Met.of_walk (a0 := a0) (Ls := #[.val (.int c0), .val (.int c1), .val (.int c2), .val (.int (1 : Int32))]) (plainFor_of_name pn_2) (own_hEL hw) rfl ?_
  refine Wl.iload_n 1 d3_0 rfl ?_
  refine Wl.ifY 15 d3_1 (feq (by decide)).2 ?_
  refine Wl.iload_n 16 d3_15 rfl ?_
  refine Wl.iconst 17 (1 : Int32) d3_16 (by decide) ?_
  refine Wl.icmpN 20 d3_17 (teq (by decide)).2 ?_
  refine Wl.iload_n 21 d3_20 rfl ?_
  refine Wl.static 24 (argsL := [.int c0]) d3_21 (w73 hw) (w74 hw) (w16 hw) (w75 hw) (show parseMethodDescriptor "(C)Ljava/lang/String;" = some ⟨[.char], some (.object "java/lang/String")⟩ by decide +kernel) rfl (valueOf_met hw hcs hu lc0) (fun _ q => nomatch q) rfl rfl rfl (by decide) ⟨⟨nle rfl, nle rfl⟩, nle rfl, nle rfl⟩ ?_
  intro v1 h2 hq3 _
  obtain ⟨a4, rfl, E5, S6⟩ := hq3
  have B7 : Ext h h2 := E5
  show WlO _ _ _ _ _ _ _ _ _ _ _ _ _ _ _ _ _ _ [.ref a4]
  exact Wl.areturn d3_24 rfl rfl rfl (nle rfl) (nle rfl) ⟨a4, rfl, B7, S6⟩
set_option maxRecDepth 65536 in
set_option maxHeartbeats 40000000 in
theorem str2_met {l : Launch} {Z : State} {a0 : Array Value} (hw : ∀ d ∈ tables_1, d.before a0 Z = true) (hcs : CSon Z) (hu : U16on Z) {h : Heap} {c0 c1 c2 : Int32} (lc0 : Ch c0) (lc1 : Ch c1) (lc2 : Ch c2) :
    Met l Z consts_1 ⟨"com/example/grantwork/grantwork/TokenIsKeywordPinLaw", "str", "(CCCI)Ljava/lang/String;"⟩ method_6_code 4 (some (.object "java/lang/String")) [] { frames := 6, cells := 6, slots := 28, locals := 92 } #[.int c0, .int c1, .int c2, .int (2 : Int32)] h [] (fun v h' => ∃ a, v = some (.ref a) ∧ Ext h h' ∧ Stw Z h' a [c0, c1]) := by
  refine Met.of_walk (a0 := a0) (Ls := #[.val (.int c0), .val (.int c1), .val (.int c2), .val (.int (2 : Int32))]) (plainFor_of_name pn_2) (own_hEL hw) rfl ?_
  refine Wl.iload_n 1 d3_0 rfl ?_
  refine Wl.ifY 15 d3_1 (feq (by decide)).2 ?_
  refine Wl.iload_n 16 d3_15 rfl ?_
  refine Wl.iconst 17 (1 : Int32) d3_16 (by decide) ?_
  refine Wl.icmpY 25 d3_17 (feq (by decide)).2 ?_
  refine Wl.iload_n 26 d3_25 rfl ?_
  refine Wl.iconst 27 (2 : Int32) d3_26 (by decide) ?_
  refine Wl.icmpN 30 d3_27 (teq (by decide)).2 ?_
  refine Wl.new 33 d3_30 (w14 hw) (w15 hw) (w16 hw) (nle rfl) (nle rfl) ?_
  intro a1 h2 q3 E4 X5 D6
  have z7 : h.size ≤ a1 := Nat.le_of_eq q3.symm
  have B8 : Ext h h2 := E4
  have F9 : Fld Z h2 a1 "java/lang/String" "value" "[B" (.null) := D6 (Or.inr (w30 hw)) (ty := (.array .byte)) (by decide)
  have F10 : Fld Z h2 a1 "java/lang/String" "coder" "B" (.int 0) := D6 (Or.inr (w31 hw)) (ty := .byte) (by decide)
  refine Wl.dup 34 d3_33 rfl ?_
  refine Wl.iconst 35 (2 : Int32) d3_34 (by decide) ?_
  refine Wl.newarray 37 2 d3_35 (w17 hw) (by decide) (by decide) (by decide) (nle rfl) (nle rfl) ?_
  intro a11 h12 k13 q14 E15 A16
  have A16 : Arv Z h12 a11 k13 .char (2 : Int32) [.int 0, .int 0] (.int 0) := A16
  have z17 : h.size ≤ a11 := Nat.le_trans B8.1 (Nat.le_of_eq q14.symm)
  have z18 : h2.size ≤ a11 := Nat.le_of_eq q14.symm
  have ne19 : a1 ≠ a11 := Nat.ne_of_lt (by rw [q14]; exact (X5).lt)
  have B20 : Ext h h12 := extTr B8 E15
  have B21 : Ext h2 h12 := E15
  refine Wl.dup 38 d3_37 rfl ?_
  refine Wl.iconst 39 (0 : Int32) d3_38 (by decide) ?_
  refine Wl.iload_n 40 d3_39 rfl ?_
  refine Wl.castore 41 0 d3_40 A16 (List.mem_of_getElem? (i := 0) rfl) (by decide) (by decide) (by decide) (nle rfl) ?_
  intro h22 W23 A24
  rw [nar_ch lc0] at A24
  have A24 : Arv Z h22 a11 k13 .char (2 : Int32) [.int c0, .int (0 : Int32)] (.int 0) := A24
  have B25 : Ext h h22 := extWr B20 W23 z17
  have B26 : Ext h2 h22 := extWr B21 W23 z18
  refine Wl.dup 42 d3_41 rfl ?_
  refine Wl.iconst 43 (1 : Int32) d3_42 (by decide) ?_
  refine Wl.iload_n 44 d3_43 rfl ?_
  refine Wl.castore 45 1 d3_44 A24 (List.mem_of_getElem? (i := 0) rfl) (by decide) (by decide) (by decide) (nle rfl) ?_
  intro h27 W28 A29
  rw [nar_ch lc1] at A29
  have A29 : Arv Z h27 a11 k13 .char (2 : Int32) [.int c0, .int c1] (.int 0) := A29
  have B30 : Ext h h27 := extWr B25 W28 z17
  have B31 : Ext h2 h27 := extWr B26 W28 z18
  refine Wl.special 48 (argsL := [.ref a11]) d3_45 (w18 hw) (w19 hw) (w16 hw) (w20 hw) (show parseMethodDescriptor "([C)V" = some ⟨[(.array .char)], none⟩ by decide +kernel) rfl (strW_met hw hcs hu (cs := [c0, c1]) 3 (nle rfl) (nle rfl)  (chC lc0 (chC lc1 chN)) (X5.ext B31) (F9.ext B31) (F10.ext B31) A29) (allS (List.mem_of_getElem? (i := 1) rfl) (fun _ q => nomatch q)) rfl rfl rfl rfl (by decide) ⟨⟨nle rfl, nle rfl⟩, nle rfl, nle rfl⟩ ?_
  intro v32 h33 hq34 _
  obtain ⟨rfl, K35, S36⟩ := hq34
  have B37 : Ext h h33 := extKeep B30 K35 (allS z7 all0)
  show WlO _ _ _ _ _ _ _ _ _ _ _ _ _ _ _ _ _ _ [.ref a1]
  exact Wl.areturn d3_48 rfl rfl rfl (nle rfl) (nle rfl) ⟨a1, rfl, B37, S36⟩
set_option maxRecDepth 65536 in
set_option maxHeartbeats 40000000 in
theorem str3_met {l : Launch} {Z : State} {a0 : Array Value} (hw : ∀ d ∈ tables_1, d.before a0 Z = true) (hcs : CSon Z) (hu : U16on Z) {h : Heap} {c0 c1 c2 : Int32} (lc0 : Ch c0) (lc1 : Ch c1) (lc2 : Ch c2) :
    Met l Z consts_1 ⟨"com/example/grantwork/grantwork/TokenIsKeywordPinLaw", "str", "(CCCI)Ljava/lang/String;"⟩ method_6_code 4 (some (.object "java/lang/String")) [] { frames := 6, cells := 6, slots := 28, locals := 92 } #[.int c0, .int c1, .int c2, .int (3 : Int32)] h [] (fun v h' => ∃ a, v = some (.ref a) ∧ Ext h h' ∧ Stw Z h' a [c0, c1, c2]) := by
  refine Met.of_walk (a0 := a0) (Ls := #[.val (.int c0), .val (.int c1), .val (.int c2), .val (.int (3 : Int32))]) (plainFor_of_name pn_2) (own_hEL hw) rfl ?_
  refine Wl.iload_n 1 d3_0 rfl ?_
  refine Wl.ifY 15 d3_1 (feq (by decide)).2 ?_
  refine Wl.iload_n 16 d3_15 rfl ?_
  refine Wl.iconst 17 (1 : Int32) d3_16 (by decide) ?_
  refine Wl.icmpY 25 d3_17 (feq (by decide)).2 ?_
  refine Wl.iload_n 26 d3_25 rfl ?_
  refine Wl.iconst 27 (2 : Int32) d3_26 (by decide) ?_
  refine Wl.icmpY 49 d3_27 (feq (by decide)).2 ?_
  refine Wl.new 52 d3_49 (w14 hw) (w15 hw) (w16 hw) (nle rfl) (nle rfl) ?_
  intro a1 h2 q3 E4 X5 D6
  have z7 : h.size ≤ a1 := Nat.le_of_eq q3.symm
  have B8 : Ext h h2 := E4
  have F9 : Fld Z h2 a1 "java/lang/String" "value" "[B" (.null) := D6 (Or.inr (w30 hw)) (ty := (.array .byte)) (by decide)
  have F10 : Fld Z h2 a1 "java/lang/String" "coder" "B" (.int 0) := D6 (Or.inr (w31 hw)) (ty := .byte) (by decide)
  refine Wl.dup 53 d3_52 rfl ?_
  refine Wl.iconst 54 (3 : Int32) d3_53 (by decide) ?_
  refine Wl.newarray 56 3 d3_54 (w17 hw) (by decide) (by decide) (by decide) (nle rfl) (nle rfl) ?_
  intro a11 h12 k13 q14 E15 A16
  have A16 : Arv Z h12 a11 k13 .char (3 : Int32) [.int 0, .int 0, .int 0] (.int 0) := A16
  have z17 : h.size ≤ a11 := Nat.le_trans B8.1 (Nat.le_of_eq q14.symm)
  have z18 : h2.size ≤ a11 := Nat.le_of_eq q14.symm
  have ne19 : a1 ≠ a11 := Nat.ne_of_lt (by rw [q14]; exact (X5).lt)
  have B20 : Ext h h12 := extTr B8 E15
  have B21 : Ext h2 h12 := E15
  refine Wl.dup 57 d3_56 rfl ?_
  refine Wl.iconst 58 (0 : Int32) d3_57 (by decide) ?_
  refine Wl.iload_n 59 d3_58 rfl ?_
  refine Wl.castore 60 0 d3_59 A16 (List.mem_of_getElem? (i := 0) rfl) (by decide) (by decide) (by decide) (nle rfl) ?_
  intro h22 W23 A24
  rw [nar_ch lc0] at A24
  have A24 : Arv Z h22 a11 k13 .char (3 : Int32) [.int c0, .int (0 : Int32), .int (0 : Int32)] (.int 0) := A24
  have B25 : Ext h h22 := extWr B20 W23 z17
  have B26 : Ext h2 h22 := extWr B21 W23 z18
  refine Wl.dup 61 d3_60 rfl ?_
  refine Wl.iconst 62 (1 : Int32) d3_61 (by decide) ?_
  refine Wl.iload_n 63 d3_62 rfl ?_
  refine Wl.castore 64 1 d3_63 A24 (List.mem_of_getElem? (i := 0) rfl) (by decide) (by decide) (by decide) (nle rfl) ?_
  intro h27 W28 A29
  rw [nar_ch lc1] at A29
  have A29 : Arv Z h27 a11 k13 .char (3 : Int32) [.int c0, .int c1, .int (0 : Int32)] (.int 0) := A29
  have B30 : Ext h h27 := extWr B25 W28 z17
  have B31 : Ext h2 h27 := extWr B26 W28 z18
  refine Wl.dup 65 d3_64 rfl ?_
  refine Wl.iconst 66 (2 : Int32) d3_65 (by decide) ?_
  refine Wl.iload_n 67 d3_66 rfl ?_
  refine Wl.castore 68 2 d3_67 A29 (List.mem_of_getElem? (i := 0) rfl) (by decide) (by decide) (by decide) (nle rfl) ?_
  intro h32 W33 A34
  rw [nar_ch lc2] at A34
  have A34 : Arv Z h32 a11 k13 .char (3 : Int32) [.int c0, .int c1, .int c2] (.int 0) := A34
  have B35 : Ext h h32 := extWr B30 W33 z17
  have B36 : Ext h2 h32 := extWr B31 W33 z18
  refine Wl.special 71 (argsL := [.ref a11]) d3_68 (w18 hw) (w19 hw) (w16 hw) (w20 hw) (show parseMethodDescriptor "([C)V" = some ⟨[(.array .char)], none⟩ by decide +kernel) rfl (strW_met hw hcs hu (cs := [c0, c1, c2]) 3 (nle rfl) (nle rfl)  (chC lc0 (chC lc1 (chC lc2 chN))) (X5.ext B36) (F9.ext B36) (F10.ext B36) A34) (allS (List.mem_of_getElem? (i := 1) rfl) (fun _ q => nomatch q)) rfl rfl rfl rfl (by decide) ⟨⟨nle rfl, nle rfl⟩, nle rfl, nle rfl⟩ ?_
  intro v37 h38 hq39 _
  obtain ⟨rfl, K40, S41⟩ := hq39
  have B42 : Ext h h38 := extKeep B35 K40 (allS z7 all0)
  show WlO _ _ _ _ _ _ _ _ _ _ _ _ _ _ _ _ _ _ [.ref a1]
  exact Wl.areturn d3_71 rfl rfl rfl (nle rfl) (nle rfl) ⟨a1, rfl, B42, S41⟩
set_option maxRecDepth 65536 in
set_option maxHeartbeats 40000000 in
theorem record_met {l : Launch} {Z : State} {a0 : Array Value} (hw : ∀ d ∈ tables_1, d.before a0 Z = true) {h : Heap} {a : Addr}  :
    Met l Z consts_1 ⟨"java/lang/Record", "<init>", "()V"⟩ jdk_30_method_1_code 1 none [] { frames := 1, cells := 0, slots := 0, locals := 12 } #[.ref a] h [] (fun v h' => v = none ∧ h = h') := by
  refine Met.of_walk (a0 := a0) (Ls := #[.val (.ref a)]) (plainFor_of_name pn_3) (own_hEL hw) rfl ?_
  refine Wl.aload_n 1 d8_0 rfl rfl ?_
  refine Wl.initO 4 d8_1 (w47 hw) (w26 hw) (w27 hw) rfl (nle rfl) (nle rfl) ?_
  exact Wl.return_ d8_4 rfl (nle rfl) (nle rfl) ⟨rfl, rfl⟩
set_option maxRecDepth 65536 in
set_option maxHeartbeats 40000000 in
theorem token_met {l : Launch} {Z : State} {a0 : Array Value} (hw : ∀ d ∈ tables_1, d.before a0 Z = true) {h : Heap} {a : Addr} {x0 : Addr} {x1 : Addr} {x2 : Int64} {x3 : Int32} (E : Exa Z h a "com/example/grantwork/grantwork/Token") (F_kind : Fld Z h a "com/example/grantwork/grantwork/Token" "kind" "Lcom/example/grantwork/grantwork/Token$Kind;" (.null)) (F_text : Fld Z h a "com/example/grantwork/grantwork/Token" "text" "Ljava/lang/String;" (.null)) (F_length : Fld Z h a "com/example/grantwork/grantwork/Token" "length" "J" (.long 0)) (F_line : Fld Z h a "com/example/grantwork/grantwork/Token" "line" "I" (.int 0)) :
    Met l Z consts_1 ⟨"com/example/grantwork/grantwork/Token", "<init>", "(Lcom/example/grantwork/grantwork/Token$Kind;Ljava/lang/String;JI)V"⟩ prog_70_method_1_code 6 none [] { frames := 2, cells := 0, slots := 0, locals := 24 } #[.ref a, .ref x0, .ref x1, .long x2, .int x3] h [a] (fun v h' => v = none ∧ Keep h h' [a] ∧ Exa Z h' a "com/example/grantwork/grantwork/Token" ∧ Fld Z h' a "com/example/grantwork/grantwork/Token" "kind" "Lcom/example/grantwork/grantwork/Token$Kind;" (.ref x0) ∧ Fld Z h' a "com/example/grantwork/grantwork/Token" "text" "Ljava/lang/String;" (.ref x1) ∧ Fld Z h' a "com/example/grantwork/grantwork/Token" "length" "J" (.long x2) ∧ Fld Z h' a "com/example/grantwork/grantwork/Token" "line" "I" (.int x3)) := by
  refine Met.of_walk (a0 := a0) (Ls := #[.val (.ref a), .val (.ref x0), .val (.ref x1), .val (.long x2), .second, .val (.int x3)]) (plainFor_of_name pn_4) (own_hEL hw) rfl ?_
  refine Wl.aload_n 1 d7_0 rfl rfl ?_
  refine Wl.special 4 (argsL := []) d7_1 (w42 hw) (w43 hw) (w45 hw) (w46 hw) (show parseMethodDescriptor "()V" = some ⟨[], none⟩ by decide +kernel) rfl (record_met hw) (fun _ q => nomatch q) rfl rfl rfl rfl (by decide) ⟨⟨nle rfl, nle rfl⟩, nle rfl, nle rfl⟩ ?_
  intro v1 h2 hq3 _
  obtain ⟨rfl, rfl⟩ := hq3
  show WlO _ _ _ _ _ _ _ _ _ _ _ _ _ _ _ _ _ _ []
  refine Wl.aload_n 5 d7_4 rfl rfl ?_
  refine Wl.aload_n 6 d7_5 rfl rfl ?_
  refine Wl.putfield 9 d7_6 (w48 hw) F_kind E (Or.inr ⟨(w49 hw), rfl, rfl⟩) (w37 hw) (ty := (.object "com/example/grantwork/grantwork/Token$Kind")) (by decide) rfl rfl (List.mem_of_getElem? (i := 0) rfl) ?_
  intro h4 W5
  have F6 : Fld Z h4 a "com/example/grantwork/grantwork/Token" "kind" "Lcom/example/grantwork/grantwork/Token$Kind;" (.ref x0) := (F_kind).same W5
  have F7 : Fld Z h4 a "com/example/grantwork/grantwork/Token" "text" "Ljava/lang/String;" (.null) := (F_text).other W5 (Or.inr (slot_ne (a0 := a0) (C := "com/example/grantwork/grantwork/Token") (Or.inr (w51 hw)) (Or.inr (w49 hw)) (by decide) (t := (.object "java/lang/String")) (t' := (.object "com/example/grantwork/grantwork/Token$Kind")) (by decide) (by decide)))
  have F8 : Fld Z h4 a "com/example/grantwork/grantwork/Token" "length" "J" (.long (0 : Int64)) := (F_length).other W5 (Or.inr (slot_ne (a0 := a0) (C := "com/example/grantwork/grantwork/Token") (Or.inr (w53 hw)) (Or.inr (w49 hw)) (by decide) (t := .long) (t' := (.object "com/example/grantwork/grantwork/Token$Kind")) (by decide) (by decide)))
  have F9 : Fld Z h4 a "com/example/grantwork/grantwork/Token" "line" "I" (.int (0 : Int32)) := (F_line).other W5 (Or.inr (slot_ne (a0 := a0) (C := "com/example/grantwork/grantwork/Token") (Or.inr (w55 hw)) (Or.inr (w49 hw)) (by decide) (t := .int) (t' := (.object "com/example/grantwork/grantwork/Token$Kind")) (by decide) (by decide)))
  have K10 : Keep h h4 [a] := ((Keep.refl h [a])).wr W5 (Or.inl (List.mem_of_getElem? (i := 0) rfl))
  refine Wl.aload_n 10 d7_9 rfl rfl ?_
  refine Wl.aload_n 11 d7_10 rfl rfl ?_
  refine Wl.putfield 14 d7_11 (w50 hw) F7 (E.wr W5) (Or.inr ⟨(w51 hw), rfl, rfl⟩) (w37 hw) (ty := (.object "java/lang/String")) (by decide) rfl rfl (List.mem_of_getElem? (i := 0) rfl) ?_
  intro h11 W12
  have F13 : Fld Z h11 a "com/example/grantwork/grantwork/Token" "kind" "Lcom/example/grantwork/grantwork/Token$Kind;" (.ref x0) := (F6).other W12 (Or.inr (slot_ne (a0 := a0) (C := "com/example/grantwork/grantwork/Token") (Or.inr (w49 hw)) (Or.inr (w51 hw)) (by decide) (t := (.object "com/example/grantwork/grantwork/Token$Kind")) (t' := (.object "java/lang/String")) (by decide) (by decide)))
  have F14 : Fld Z h11 a "com/example/grantwork/grantwork/Token" "text" "Ljava/lang/String;" (.ref x1) := (F7).same W12
  have F15 : Fld Z h11 a "com/example/grantwork/grantwork/Token" "length" "J" (.long (0 : Int64)) := (F8).other W12 (Or.inr (slot_ne (a0 := a0) (C := "com/example/grantwork/grantwork/Token") (Or.inr (w53 hw)) (Or.inr (w51 hw)) (by decide) (t := .long) (t' := (.object "java/lang/String")) (by decide) (by decide)))
  have F16 : Fld Z h11 a "com/example/grantwork/grantwork/Token" "line" "I" (.int (0 : Int32)) := (F9).other W12 (Or.inr (slot_ne (a0 := a0) (C := "com/example/grantwork/grantwork/Token") (Or.inr (w55 hw)) (Or.inr (w51 hw)) (by decide) (t := .int) (t' := (.object "java/lang/String")) (by decide) (by decide)))
  have K17 : Keep h h11 [a] := (K10).wr W12 (Or.inl (List.mem_of_getElem? (i := 0) rfl))
  refine Wl.aload_n 15 d7_14 rfl rfl ?_
  refine Wl.lload_n 16 d7_15 rfl ?_
  refine Wl.putfield 19 d7_16 (w52 hw) F15 ((E.wr W5).wr W12) (Or.inr ⟨(w53 hw), rfl, rfl⟩) (w37 hw) (ty := .long) (by decide) rfl rfl (List.mem_of_getElem? (i := 0) rfl) ?_
  intro h18 W19
  have F20 : Fld Z h18 a "com/example/grantwork/grantwork/Token" "kind" "Lcom/example/grantwork/grantwork/Token$Kind;" (.ref x0) := (F13).other W19 (Or.inr (slot_ne (a0 := a0) (C := "com/example/grantwork/grantwork/Token") (Or.inr (w49 hw)) (Or.inr (w53 hw)) (by decide) (t := (.object "com/example/grantwork/grantwork/Token$Kind")) (t' := .long) (by decide) (by decide)))
  have F21 : Fld Z h18 a "com/example/grantwork/grantwork/Token" "text" "Ljava/lang/String;" (.ref x1) := (F14).other W19 (Or.inr (slot_ne (a0 := a0) (C := "com/example/grantwork/grantwork/Token") (Or.inr (w51 hw)) (Or.inr (w53 hw)) (by decide) (t := (.object "java/lang/String")) (t' := .long) (by decide) (by decide)))
  have F22 : Fld Z h18 a "com/example/grantwork/grantwork/Token" "length" "J" (.long x2) := (F15).same W19
  have F23 : Fld Z h18 a "com/example/grantwork/grantwork/Token" "line" "I" (.int (0 : Int32)) := (F16).other W19 (Or.inr (slot_ne (a0 := a0) (C := "com/example/grantwork/grantwork/Token") (Or.inr (w55 hw)) (Or.inr (w53 hw)) (by decide) (t := .int) (t' := .long) (by decide) (by decide)))
  have K24 : Keep h h18 [a] := (K17).wr W19 (Or.inl (List.mem_of_getElem? (i := 0) rfl))
  refine Wl.aload_n 20 d7_19 rfl rfl ?_
  refine Wl.iload 22 d7_20 rfl ?_
  refine Wl.putfield 25 d7_22 (w54 hw) F23 (((E.wr W5).wr W12).wr W19) (Or.inr ⟨(w55 hw), rfl, rfl⟩) (w37 hw) (ty := .int) (by decide) rfl rfl (List.mem_of_getElem? (i := 0) rfl) ?_
  intro h25 W26
  have F27 : Fld Z h25 a "com/example/grantwork/grantwork/Token" "kind" "Lcom/example/grantwork/grantwork/Token$Kind;" (.ref x0) := (F20).other W26 (Or.inr (slot_ne (a0 := a0) (C := "com/example/grantwork/grantwork/Token") (Or.inr (w49 hw)) (Or.inr (w55 hw)) (by decide) (t := (.object "com/example/grantwork/grantwork/Token$Kind")) (t' := .int) (by decide) (by decide)))
  have F28 : Fld Z h25 a "com/example/grantwork/grantwork/Token" "text" "Ljava/lang/String;" (.ref x1) := (F21).other W26 (Or.inr (slot_ne (a0 := a0) (C := "com/example/grantwork/grantwork/Token") (Or.inr (w51 hw)) (Or.inr (w55 hw)) (by decide) (t := (.object "java/lang/String")) (t' := .int) (by decide) (by decide)))
  have F29 : Fld Z h25 a "com/example/grantwork/grantwork/Token" "length" "J" (.long x2) := (F22).other W26 (Or.inr (slot_ne (a0 := a0) (C := "com/example/grantwork/grantwork/Token") (Or.inr (w53 hw)) (Or.inr (w55 hw)) (by decide) (t := .long) (t' := .int) (by decide) (by decide)))
  have F30 : Fld Z h25 a "com/example/grantwork/grantwork/Token" "line" "I" (.int x3) := (F23).same W26
  have K31 : Keep h h25 [a] := (K24).wr W26 (Or.inl (List.mem_of_getElem? (i := 0) rfl))
  exact Wl.return_ d7_25 rfl (nle rfl) (nle rfl) ⟨rfl, K31, ((((E.wr W5).wr W12).wr W19).wr W26), F27, F28, F29, F30⟩
def Kinds (Z : State) (kw ks ki : Addr) : Prop := (Sta Z Z.heap "com/example/grantwork/grantwork/Token$Kind" "WORD" "Lcom/example/grantwork/grantwork/Token$Kind;" (.ref kw) ∧ Sta Z Z.heap "com/example/grantwork/grantwork/Token$Kind" "SYMBOL" "Lcom/example/grantwork/grantwork/Token$Kind;" (.ref ks) ∧ Sta Z Z.heap "com/example/grantwork/grantwork/Token$Kind" "INVALID" "Lcom/example/grantwork/grantwork/Token$Kind;" (.ref ki)) ∧ ks ≠ kw ∧ ki ≠ kw
set_option maxRecDepth 65536 in
set_option maxHeartbeats 40000000 in
theorem kwN_met {l : Launch} {Z : State} {a0 : Array Value} (hw : ∀ d ∈ tables_1, d.before a0 Z = true) {h : Heap} {a x y kk kw ks ki : Addr} (hK : Kinds Z kw ks ki) (hkk : kk ≠ kw) (F1 : Fld Z h a "com/example/grantwork/grantwork/Token" "kind" "Lcom/example/grantwork/grantwork/Token$Kind;" (.ref kk)) (F2 : Fld Z h a "com/example/grantwork/grantwork/Token" "text" "Ljava/lang/String;" (.ref x)) :
    Met l Z consts_1 ⟨"com/example/grantwork/grantwork/Token", "isKeyword", "(Ljava/lang/String;)Z"⟩ prog_70_method_3_code 5 (some .boolean) [] { frames := 5, cells := 0, slots := 0, locals := 70 } #[.ref a, .ref y] h [] (fun v h' => v = some (.int 0) ∧ h = h') := by
  refine Met.of_walk (a0 := a0) (Ls := #[.val (.ref a), .val (.ref y), .unset, .unset, .unset]) (plainFor_of_name pn_4) (own_hEL hw) rfl ?_
  refine Wl.aload_n 1 d9_0 rfl rfl ?_
  refine Wl.getfield 4 d9_1 (w48 hw) F1 ?_
  refine Wl.getstatic 7 d9_4 (w61 hw) hK.1.1 ?_
  refine Wl.acmp 24 false d9_7 rfl rfl (decide_eq_false fun q => hkk (Value.ref.inj q)) ?_
  refine Wl.iconst 25 (0 : Int32) d9_24 (by decide) ?_
  exact Wl.ireturn d9_25 rfl rfl (by simp) (nle rfl) (nle rfl) ⟨rfl, rfl⟩
set_option maxRecDepth 65536 in
set_option maxHeartbeats 40000000 in
theorem kw00_met {l : Launch} {Z : State} {a0 : Array Value} (hw : ∀ d ∈ tables_1, d.before a0 Z = true) (hcs : CSon Z) (hfm : Fmt Z) (hu : U16on Z) {h : Heap} {a x y kw ks ki : Addr} {t0 t1 t2 k0 k1 k2 : Int32} (hK : Kinds Z kw ks ki) (lt0 : Ch t0) (lt1 : Ch t1) (lt2 : Ch t2) (lk0 : Ch k0) (lk1 : Ch k1) (lk2 : Ch k2) (wk0 : nlow k0) (wk1 : nlow k1) (wk2 : nlow k2) (F1 : Fld Z h a "com/example/grantwork/grantwork/Token" "kind" "Lcom/example/grantwork/grantwork/Token$Kind;" (.ref kw)) (F2 : Fld Z h a "com/example/grantwork/grantwork/Token" "text" "Ljava/lang/String;" (.ref x)) (S : Stw Z h x []) (U : Stw Z h y []) :
    Met l Z consts_1 ⟨"com/example/grantwork/grantwork/Token", "isKeyword", "(Ljava/lang/String;)Z"⟩ prog_70_method_3_code 5 (some .boolean) [] { frames := 5, cells := 0, slots := 0, locals := 70 } #[.ref a, .ref y] h [] (fun v h' => v = some (.int (kwI [])) ∧ h = h') := by
  refine Met.of_walk (a0 := a0) (Ls := #[.val (.ref a), .val (.ref y), .unset, .unset, .unset]) (plainFor_of_name pn_4) (own_hEL hw) rfl ?_
  refine Wl.aload_n 1 d9_0 rfl rfl ?_
  refine Wl.getfield 4 d9_1 (w48 hw) F1 ?_
  refine Wl.getstatic 7 d9_4 (w61 hw) hK.1.1 ?_
  refine Wl.acmp 10 true d9_7 rfl rfl (decide_eq_true rfl) ?_
  refine Wl.aload_n 11 d9_10 rfl rfl ?_
  refine Wl.getfield 14 d9_11 (w50 hw) F2 ?_
  refine Wl.virtual 17 (argsL := []) d9_14 (w62 hw) (w63 hw) (w65 hw) (w64 hw) (w16 hw) (w66 hw) (nf_sel (w65 hw) rfl) (S).exa (show parseMethodDescriptor "()I" = some ⟨[], some .int⟩ by decide +kernel) rfl (lenW_met hw hcs S) (fun _ q => nomatch q) rfl rfl rfl (by decide) ⟨⟨nle rfl, nle rfl⟩, nle rfl, nle rfl⟩ ?_
  intro v1 h2 hq3 _
  obtain ⟨rfl, rfl⟩ := hq3
  show WlO _ _ _ _ _ _ _ _ _ _ _ _ _ _ _ _ _ _ [.int (0 : Int32)]
  refine Wl.aload_n 18 d9_17 rfl rfl ?_
  refine Wl.virtual 21 (argsL := []) d9_18 (w62 hw) (w63 hw) (w65 hw) (w64 hw) (w16 hw) (w66 hw) (nf_sel (w65 hw) rfl) (U).exa (show parseMethodDescriptor "()I" = some ⟨[], some .int⟩ by decide +kernel) rfl (lenW_met hw hcs U) (fun _ q => nomatch q) rfl rfl rfl (by decide) ⟨⟨nle rfl, nle rfl⟩, nle rfl, nle rfl⟩ ?_
  intro v4 h5 hq6 _
  obtain ⟨rfl, rfl⟩ := hq6
  show WlO _ _ _ _ _ _ _ _ _ _ _ _ _ _ _ _ _ _ [.int (0 : Int32), .int (0 : Int32)]
  refine Wl.icmpY 26 d9_21 (teq (by decide)).1 ?_
  refine Wl.iconst 27 (0 : Int32) d9_26 (by decide) ?_
  refine Wl.istore_n 28 #[.val (.ref a), .val (.ref y), .val (.int (0 : Int32)), .unset, .unset] d9_27 rfl ?_
  refine Wl.iload_n 29 d9_28 rfl ?_
  refine Wl.aload_n 30 d9_29 rfl rfl ?_
  refine Wl.getfield 33 d9_30 (w50 hw) F2 ?_
  refine Wl.virtual 36 (argsL := []) d9_33 (w62 hw) (w63 hw) (w65 hw) (w64 hw) (w16 hw) (w66 hw) (nf_sel (w65 hw) rfl) (S).exa (show parseMethodDescriptor "()I" = some ⟨[], some .int⟩ by decide +kernel) rfl (lenW_met hw hcs S) (fun _ q => nomatch q) rfl rfl rfl (by decide) ⟨⟨nle rfl, nle rfl⟩, nle rfl, nle rfl⟩ ?_
  intro v7 h8 hq9 _
  obtain ⟨rfl, rfl⟩ := hq9
  show WlO _ _ _ _ _ _ _ _ _ _ _ _ _ _ _ _ _ _ [.int (0 : Int32), .int (0 : Int32)]
  refine Wl.icmpY 92 d9_36 (flt (by decide)).2.1 ?_
  refine Wl.iconst 93 (1 : Int32) d9_92 (by decide) ?_
  exact Wl.ireturn d9_93 rfl rfl (by simp) (nle rfl) (nle rfl) ⟨by rw [show kwI [] = (1 : Int32) from rfl], rfl⟩
set_option maxRecDepth 65536 in
set_option maxHeartbeats 40000000 in
theorem kw01_met {l : Launch} {Z : State} {a0 : Array Value} (hw : ∀ d ∈ tables_1, d.before a0 Z = true) (hcs : CSon Z) (hfm : Fmt Z) (hu : U16on Z) {h : Heap} {a x y kw ks ki : Addr} {t0 t1 t2 k0 k1 k2 : Int32} (hK : Kinds Z kw ks ki) (lt0 : Ch t0) (lt1 : Ch t1) (lt2 : Ch t2) (lk0 : Ch k0) (lk1 : Ch k1) (lk2 : Ch k2) (wk0 : nlow k0) (wk1 : nlow k1) (wk2 : nlow k2) (F1 : Fld Z h a "com/example/grantwork/grantwork/Token" "kind" "Lcom/example/grantwork/grantwork/Token$Kind;" (.ref kw)) (F2 : Fld Z h a "com/example/grantwork/grantwork/Token" "text" "Ljava/lang/String;" (.ref x)) (S : Stw Z h x []) (U : Stw Z h y [k0]) :
    Met l Z consts_1 ⟨"com/example/grantwork/grantwork/Token", "isKeyword", "(Ljava/lang/String;)Z"⟩ prog_70_method_3_code 5 (some .boolean) [] { frames := 5, cells := 0, slots := 0, locals := 70 } #[.ref a, .ref y] h [] (fun v h' => v = some (.int 0) ∧ h = h') := by
  refine Met.of_walk (a0 := a0) (Ls := #[.val (.ref a), .val (.ref y), .unset, .unset, .unset]) (plainFor_of_name pn_4) (own_hEL hw) rfl ?_
  refine Wl.aload_n 1 d9_0 rfl rfl ?_
  refine Wl.getfield 4 d9_1 (w48 hw) F1 ?_
  refine Wl.getstatic 7 d9_4 (w61 hw) hK.1.1 ?_
  refine Wl.acmp 10 true d9_7 rfl rfl (decide_eq_true rfl) ?_
  refine Wl.aload_n 11 d9_10 rfl rfl ?_
  refine Wl.getfield 14 d9_11 (w50 hw) F2 ?_
  refine Wl.virtual 17 (argsL := []) d9_14 (w62 hw) (w63 hw) (w65 hw) (w64 hw) (w16 hw) (w66 hw) (nf_sel (w65 hw) rfl) (S).exa (show parseMethodDescriptor "()I" = some ⟨[], some .int⟩ by decide +kernel) rfl (lenW_met hw hcs S) (fun _ q => nomatch q) rfl rfl rfl (by decide) ⟨⟨nle rfl, nle rfl⟩, nle rfl, nle rfl⟩ ?_
  intro v1 h2 hq3 _
  obtain ⟨rfl, rfl⟩ := hq3
  show WlO _ _ _ _ _ _ _ _ _ _ _ _ _ _ _ _ _ _ [.int (0 : Int32)]
  refine Wl.aload_n 18 d9_17 rfl rfl ?_
  refine Wl.virtual 21 (argsL := []) d9_18 (w62 hw) (w63 hw) (w65 hw) (w64 hw) (w16 hw) (w66 hw) (nf_sel (w65 hw) rfl) (U).exa (show parseMethodDescriptor "()I" = some ⟨[], some .int⟩ by decide +kernel) rfl (lenW_met hw hcs U) (fun _ q => nomatch q) rfl rfl rfl (by decide) ⟨⟨nle rfl, nle rfl⟩, nle rfl, nle rfl⟩ ?_
  intro v4 h5 hq6 _
  obtain ⟨rfl, rfl⟩ := hq6
  show WlO _ _ _ _ _ _ _ _ _ _ _ _ _ _ _ _ _ _ [.int (1 : Int32), .int (0 : Int32)]
  refine Wl.icmpN 24 d9_21 (feq (by decide)).1 ?_
  refine Wl.iconst 25 (0 : Int32) d9_24 (by decide) ?_
  exact Wl.ireturn d9_25 rfl rfl (by simp) (nle rfl) (nle rfl) ⟨rfl, rfl⟩
set_option maxRecDepth 65536 in
set_option maxHeartbeats 40000000 in
theorem kw02_met {l : Launch} {Z : State} {a0 : Array Value} (hw : ∀ d ∈ tables_1, d.before a0 Z = true) (hcs : CSon Z) (hfm : Fmt Z) (hu : U16on Z) {h : Heap} {a x y kw ks ki : Addr} {t0 t1 t2 k0 k1 k2 : Int32} (hK : Kinds Z kw ks ki) (lt0 : Ch t0) (lt1 : Ch t1) (lt2 : Ch t2) (lk0 : Ch k0) (lk1 : Ch k1) (lk2 : Ch k2) (wk0 : nlow k0) (wk1 : nlow k1) (wk2 : nlow k2) (F1 : Fld Z h a "com/example/grantwork/grantwork/Token" "kind" "Lcom/example/grantwork/grantwork/Token$Kind;" (.ref kw)) (F2 : Fld Z h a "com/example/grantwork/grantwork/Token" "text" "Ljava/lang/String;" (.ref x)) (S : Stw Z h x []) (U : Stw Z h y [k0, k1]) :
    Met l Z consts_1 ⟨"com/example/grantwork/grantwork/Token", "isKeyword", "(Ljava/lang/String;)Z"⟩ prog_70_method_3_code 5 (some .boolean) [] { frames := 5, cells := 0, slots := 0, locals := 70 } #[.ref a, .ref y] h [] (fun v h' => v = some (.int 0) ∧ h = h') := by
  refine Met.of_walk (a0 := a0) (Ls := #[.val (.ref a), .val (.ref y), .unset, .unset, .unset]) (plainFor_of_name pn_4) (own_hEL hw) rfl ?_
  refine Wl.aload_n 1 d9_0 rfl rfl ?_
  refine Wl.getfield 4 d9_1 (w48 hw) F1 ?_
  refine Wl.getstatic 7 d9_4 (w61 hw) hK.1.1 ?_
  refine Wl.acmp 10 true d9_7 rfl rfl (decide_eq_true rfl) ?_
  refine Wl.aload_n 11 d9_10 rfl rfl ?_
  refine Wl.getfield 14 d9_11 (w50 hw) F2 ?_
  refine Wl.virtual 17 (argsL := []) d9_14 (w62 hw) (w63 hw) (w65 hw) (w64 hw) (w16 hw) (w66 hw) (nf_sel (w65 hw) rfl) (S).exa (show parseMethodDescriptor "()I" = some ⟨[], some .int⟩ by decide +kernel) rfl (lenW_met hw hcs S) (fun _ q => nomatch q) rfl rfl rfl (by decide) ⟨⟨nle rfl, nle rfl⟩, nle rfl, nle rfl⟩ ?_
  intro v1 h2 hq3 _
  obtain ⟨rfl, rfl⟩ := hq3
  show WlO _ _ _ _ _ _ _ _ _ _ _ _ _ _ _ _ _ _ [.int (0 : Int32)]
  refine Wl.aload_n 18 d9_17 rfl rfl ?_
  refine Wl.virtual 21 (argsL := []) d9_18 (w62 hw) (w63 hw) (w65 hw) (w64 hw) (w16 hw) (w66 hw) (nf_sel (w65 hw) rfl) (U).exa (show parseMethodDescriptor "()I" = some ⟨[], some .int⟩ by decide +kernel) rfl (lenW_met hw hcs U) (fun _ q => nomatch q) rfl rfl rfl (by decide) ⟨⟨nle rfl, nle rfl⟩, nle rfl, nle rfl⟩ ?_
  intro v4 h5 hq6 _
  obtain ⟨rfl, rfl⟩ := hq6
  show WlO _ _ _ _ _ _ _ _ _ _ _ _ _ _ _ _ _ _ [.int (2 : Int32), .int (0 : Int32)]
  refine Wl.icmpN 24 d9_21 (feq (by decide)).1 ?_
  refine Wl.iconst 25 (0 : Int32) d9_24 (by decide) ?_
  exact Wl.ireturn d9_25 rfl rfl (by simp) (nle rfl) (nle rfl) ⟨rfl, rfl⟩
set_option maxRecDepth 65536 in
set_option maxHeartbeats 40000000 in
theorem kw03_met {l : Launch} {Z : State} {a0 : Array Value} (hw : ∀ d ∈ tables_1, d.before a0 Z = true) (hcs : CSon Z) (hfm : Fmt Z) (hu : U16on Z) {h : Heap} {a x y kw ks ki : Addr} {t0 t1 t2 k0 k1 k2 : Int32} (hK : Kinds Z kw ks ki) (lt0 : Ch t0) (lt1 : Ch t1) (lt2 : Ch t2) (lk0 : Ch k0) (lk1 : Ch k1) (lk2 : Ch k2) (wk0 : nlow k0) (wk1 : nlow k1) (wk2 : nlow k2) (F1 : Fld Z h a "com/example/grantwork/grantwork/Token" "kind" "Lcom/example/grantwork/grantwork/Token$Kind;" (.ref kw)) (F2 : Fld Z h a "com/example/grantwork/grantwork/Token" "text" "Ljava/lang/String;" (.ref x)) (S : Stw Z h x []) (U : Stw Z h y [k0, k1, k2]) :
    Met l Z consts_1 ⟨"com/example/grantwork/grantwork/Token", "isKeyword", "(Ljava/lang/String;)Z"⟩ prog_70_method_3_code 5 (some .boolean) [] { frames := 5, cells := 0, slots := 0, locals := 70 } #[.ref a, .ref y] h [] (fun v h' => v = some (.int 0) ∧ h = h') := by
  refine Met.of_walk (a0 := a0) (Ls := #[.val (.ref a), .val (.ref y), .unset, .unset, .unset]) (plainFor_of_name pn_4) (own_hEL hw) rfl ?_
  refine Wl.aload_n 1 d9_0 rfl rfl ?_
  refine Wl.getfield 4 d9_1 (w48 hw) F1 ?_
  refine Wl.getstatic 7 d9_4 (w61 hw) hK.1.1 ?_
  refine Wl.acmp 10 true d9_7 rfl rfl (decide_eq_true rfl) ?_
  refine Wl.aload_n 11 d9_10 rfl rfl ?_
  refine Wl.getfield 14 d9_11 (w50 hw) F2 ?_
  refine Wl.virtual 17 (argsL := []) d9_14 (w62 hw) (w63 hw) (w65 hw) (w64 hw) (w16 hw) (w66 hw) (nf_sel (w65 hw) rfl) (S).exa (show parseMethodDescriptor "()I" = some ⟨[], some .int⟩ by decide +kernel) rfl (lenW_met hw hcs S) (fun _ q => nomatch q) rfl rfl rfl (by decide) ⟨⟨nle rfl, nle rfl⟩, nle rfl, nle rfl⟩ ?_
  intro v1 h2 hq3 _
  obtain ⟨rfl, rfl⟩ := hq3
  show WlO _ _ _ _ _ _ _ _ _ _ _ _ _ _ _ _ _ _ [.int (0 : Int32)]
  refine Wl.aload_n 18 d9_17 rfl rfl ?_
  refine Wl.virtual 21 (argsL := []) d9_18 (w62 hw) (w63 hw) (w65 hw) (w64 hw) (w16 hw) (w66 hw) (nf_sel (w65 hw) rfl) (U).exa (show parseMethodDescriptor "()I" = some ⟨[], some .int⟩ by decide +kernel) rfl (lenW_met hw hcs U) (fun _ q => nomatch q) rfl rfl rfl (by decide) ⟨⟨nle rfl, nle rfl⟩, nle rfl, nle rfl⟩ ?_
  intro v4 h5 hq6 _
  obtain ⟨rfl, rfl⟩ := hq6
  show WlO _ _ _ _ _ _ _ _ _ _ _ _ _ _ _ _ _ _ [.int (3 : Int32), .int (0 : Int32)]
  refine Wl.icmpN 24 d9_21 (feq (by decide)).1 ?_
  refine Wl.iconst 25 (0 : Int32) d9_24 (by decide) ?_
  exact Wl.ireturn d9_25 rfl rfl (by simp) (nle rfl) (nle rfl) ⟨rfl, rfl⟩
set_option maxRecDepth 65536 in
set_option maxHeartbeats 40000000 in
theorem kw10_met {l : Launch} {Z : State} {a0 : Array Value} (hw : ∀ d ∈ tables_1, d.before a0 Z = true) (hcs : CSon Z) (hfm : Fmt Z) (hu : U16on Z) {h : Heap} {a x y kw ks ki : Addr} {t0 t1 t2 k0 k1 k2 : Int32} (hK : Kinds Z kw ks ki) (lt0 : Ch t0) (lt1 : Ch t1) (lt2 : Ch t2) (lk0 : Ch k0) (lk1 : Ch k1) (lk2 : Ch k2) (wk0 : nlow k0) (wk1 : nlow k1) (wk2 : nlow k2) (F1 : Fld Z h a "com/example/grantwork/grantwork/Token" "kind" "Lcom/example/grantwork/grantwork/Token$Kind;" (.ref kw)) (F2 : Fld Z h a "com/example/grantwork/grantwork/Token" "text" "Ljava/lang/String;" (.ref x)) (S : Stw Z h x [t0]) (U : Stw Z h y []) :
    Met l Z consts_1 ⟨"com/example/grantwork/grantwork/Token", "isKeyword", "(Ljava/lang/String;)Z"⟩ prog_70_method_3_code 5 (some .boolean) [] { frames := 5, cells := 0, slots := 0, locals := 70 } #[.ref a, .ref y] h [] (fun v h' => v = some (.int 0) ∧ h = h') := by
  refine Met.of_walk (a0 := a0) (Ls := #[.val (.ref a), .val (.ref y), .unset, .unset, .unset]) (plainFor_of_name pn_4) (own_hEL hw) rfl ?_
  refine Wl.aload_n 1 d9_0 rfl rfl ?_
  refine Wl.getfield 4 d9_1 (w48 hw) F1 ?_
  refine Wl.getstatic 7 d9_4 (w61 hw) hK.1.1 ?_
  refine Wl.acmp 10 true d9_7 rfl rfl (decide_eq_true rfl) ?_
  refine Wl.aload_n 11 d9_10 rfl rfl ?_
  refine Wl.getfield 14 d9_11 (w50 hw) F2 ?_
  refine Wl.virtual 17 (argsL := []) d9_14 (w62 hw) (w63 hw) (w65 hw) (w64 hw) (w16 hw) (w66 hw) (nf_sel (w65 hw) rfl) (S).exa (show parseMethodDescriptor "()I" = some ⟨[], some .int⟩ by decide +kernel) rfl (lenW_met hw hcs S) (fun _ q => nomatch q) rfl rfl rfl (by decide) ⟨⟨nle rfl, nle rfl⟩, nle rfl, nle rfl⟩ ?_
  intro v1 h2 hq3 _
  obtain ⟨rfl, rfl⟩ := hq3
  show WlO _ _ _ _ _ _ _ _ _ _ _ _ _ _ _ _ _ _ [.int (1 : Int32)]
  refine Wl.aload_n 18 d9_17 rfl rfl ?_
  refine Wl.virtual 21 (argsL := []) d9_18 (w62 hw) (w63 hw) (w65 hw) (w64 hw) (w16 hw) (w66 hw) (nf_sel (w65 hw) rfl) (U).exa (show parseMethodDescriptor "()I" = some ⟨[], some .int⟩ by decide +kernel) rfl (lenW_met hw hcs U) (fun _ q => nomatch q) rfl rfl rfl (by decide) ⟨⟨nle rfl, nle rfl⟩, nle rfl, nle rfl⟩ ?_
  intro v4 h5 hq6 _
  obtain ⟨rfl, rfl⟩ := hq6
  show WlO _ _ _ _ _ _ _ _ _ _ _ _ _ _ _ _ _ _ [.int (0 : Int32), .int (1 : Int32)]
  refine Wl.icmpN 24 d9_21 (feq (by decide)).1 ?_
  refine Wl.iconst 25 (0 : Int32) d9_24 (by decide) ?_
  exact Wl.ireturn d9_25 rfl rfl (by simp) (nle rfl) (nle rfl) ⟨rfl, rfl⟩
set_option maxRecDepth 65536 in
set_option maxHeartbeats 40000000 in
theorem kw11_met {l : Launch} {Z : State} {a0 : Array Value} (hw : ∀ d ∈ tables_1, d.before a0 Z = true) (hcs : CSon Z) (hfm : Fmt Z) (hu : U16on Z) {h : Heap} {a x y kw ks ki : Addr} {t0 t1 t2 k0 k1 k2 : Int32} (hK : Kinds Z kw ks ki) (lt0 : Ch t0) (lt1 : Ch t1) (lt2 : Ch t2) (lk0 : Ch k0) (lk1 : Ch k1) (lk2 : Ch k2) (wk0 : nlow k0) (wk1 : nlow k1) (wk2 : nlow k2) (F1 : Fld Z h a "com/example/grantwork/grantwork/Token" "kind" "Lcom/example/grantwork/grantwork/Token$Kind;" (.ref kw)) (F2 : Fld Z h a "com/example/grantwork/grantwork/Token" "text" "Ljava/lang/String;" (.ref x)) (S : Stw Z h x [t0]) (U : Stw Z h y [k0]) :
    Met l Z consts_1 ⟨"com/example/grantwork/grantwork/Token", "isKeyword", "(Ljava/lang/String;)Z"⟩ prog_70_method_3_code 5 (some .boolean) [] { frames := 5, cells := 0, slots := 0, locals := 70 } #[.ref a, .ref y] h [] (fun v h' => v = some (.int (kwI [(t0, k0)])) ∧ h = h') := by
  refine Met.of_walk (a0 := a0) (Ls := #[.val (.ref a), .val (.ref y), .unset, .unset, .unset]) (plainFor_of_name pn_4) (own_hEL hw) rfl ?_
  refine Wl.aload_n 1 d9_0 rfl rfl ?_
  refine Wl.getfield 4 d9_1 (w48 hw) F1 ?_
  refine Wl.getstatic 7 d9_4 (w61 hw) hK.1.1 ?_
  refine Wl.acmp 10 true d9_7 rfl rfl (decide_eq_true rfl) ?_
  refine Wl.aload_n 11 d9_10 rfl rfl ?_
  refine Wl.getfield 14 d9_11 (w50 hw) F2 ?_
  refine Wl.virtual 17 (argsL := []) d9_14 (w62 hw) (w63 hw) (w65 hw) (w64 hw) (w16 hw) (w66 hw) (nf_sel (w65 hw) rfl) (S).exa (show parseMethodDescriptor "()I" = some ⟨[], some .int⟩ by decide +kernel) rfl (lenW_met hw hcs S) (fun _ q => nomatch q) rfl rfl rfl (by decide) ⟨⟨nle rfl, nle rfl⟩, nle rfl, nle rfl⟩ ?_
  intro v1 h2 hq3 _
  obtain ⟨rfl, rfl⟩ := hq3
  show WlO _ _ _ _ _ _ _ _ _ _ _ _ _ _ _ _ _ _ [.int (1 : Int32)]
  refine Wl.aload_n 18 d9_17 rfl rfl ?_
  refine Wl.virtual 21 (argsL := []) d9_18 (w62 hw) (w63 hw) (w65 hw) (w64 hw) (w16 hw) (w66 hw) (nf_sel (w65 hw) rfl) (U).exa (show parseMethodDescriptor "()I" = some ⟨[], some .int⟩ by decide +kernel) rfl (lenW_met hw hcs U) (fun _ q => nomatch q) rfl rfl rfl (by decide) ⟨⟨nle rfl, nle rfl⟩, nle rfl, nle rfl⟩ ?_
  intro v4 h5 hq6 _
  obtain ⟨rfl, rfl⟩ := hq6
  show WlO _ _ _ _ _ _ _ _ _ _ _ _ _ _ _ _ _ _ [.int (1 : Int32), .int (1 : Int32)]
  refine Wl.icmpY 26 d9_21 (teq (by decide)).1 ?_
  refine Wl.iconst 27 (0 : Int32) d9_26 (by decide) ?_
  refine Wl.istore_n 28 #[.val (.ref a), .val (.ref y), .val (.int (0 : Int32)), .unset, .unset] d9_27 rfl ?_
  refine Wl.iload_n 29 d9_28 rfl ?_
  refine Wl.aload_n 30 d9_29 rfl rfl ?_
  refine Wl.getfield 33 d9_30 (w50 hw) F2 ?_
  refine Wl.virtual 36 (argsL := []) d9_33 (w62 hw) (w63 hw) (w65 hw) (w64 hw) (w16 hw) (w66 hw) (nf_sel (w65 hw) rfl) (S).exa (show parseMethodDescriptor "()I" = some ⟨[], some .int⟩ by decide +kernel) rfl (lenW_met hw hcs S) (fun _ q => nomatch q) rfl rfl rfl (by decide) ⟨⟨nle rfl, nle rfl⟩, nle rfl, nle rfl⟩ ?_
  intro v7 h8 hq9 _
  obtain ⟨rfl, rfl⟩ := hq9
  show WlO _ _ _ _ _ _ _ _ _ _ _ _ _ _ _ _ _ _ [.int (1 : Int32), .int (0 : Int32)]
  refine Wl.icmpN 39 d9_36 (tlt (by decide)).2.1 ?_
  refine Wl.aload_n 40 d9_39 rfl rfl ?_
  refine Wl.getfield 43 d9_40 (w50 hw) F2 ?_
  refine Wl.iload_n 44 d9_43 rfl ?_
  refine Wl.virtual 47 (argsL := [.int (0 : Int32)]) d9_44 (w90 hw) (w91 hw) (w93 hw) (w92 hw) (w16 hw) (w94 hw) (nf_sel (w93 hw) rfl) (S).exa (show parseMethodDescriptor "(I)C" = some ⟨[.int], some .char⟩ by decide +kernel) rfl (charW_met hw hcs hfm hu S (i := 0) (nle rfl)) (fun _ q => nomatch q) rfl rfl rfl (by decide) ⟨⟨nle rfl, nle rfl⟩, nle rfl, nle rfl⟩ ?_
  intro v10 h11 hq12 _
  obtain ⟨rfl, rfl⟩ := hq12
  show WlO _ _ _ _ _ _ _ _ _ _ _ _ _ _ _ _ _ _ [.int t0]
  refine Wl.istore_n 48 #[.val (.ref a), .val (.ref y), .val (.int (0 : Int32)), .val (.int t0), .unset] d9_47 rfl ?_
  refine Wl.iload_n 49 d9_48 rfl ?_
  refine Wl.bipush 51 (97 : Int32) d9_49 (by decide) ?_
  by_cases c13 : t0 < (97 : Int32)
  · refine Wl.icmpY 71 d9_51 (tlt c13).1 ?_
    refine Wl.iload_n 72 d9_71 rfl ?_
    refine Wl.istore 74 #[.val (.ref a), .val (.ref y), .val (.int (0 : Int32)), .val (.int t0), .val (.int t0)] d9_72 rfl ?_
    refine Wl.iload 76 d9_74 rfl ?_
    refine Wl.aload_n 77 d9_76 rfl rfl ?_
    refine Wl.iload_n 78 d9_77 rfl ?_
    refine Wl.virtual 81 (argsL := [.int (0 : Int32)]) d9_78 (w90 hw) (w91 hw) (w93 hw) (w92 hw) (w16 hw) (w94 hw) (nf_sel (w93 hw) rfl) (U).exa (show parseMethodDescriptor "(I)C" = some ⟨[.int], some .char⟩ by decide +kernel) rfl (charW_met hw hcs hfm hu U (i := 0) (nle rfl)) (fun _ q => nomatch q) rfl rfl rfl (by decide) ⟨⟨nle rfl, nle rfl⟩, nle rfl, nle rfl⟩ ?_
    intro v14 h15 hq16 _
    obtain ⟨rfl, rfl⟩ := hq16
    show WlO _ _ _ _ _ _ _ _ _ _ _ _ _ _ _ _ _ _ [.int k0, .int t0]
    by_cases c17 : t0 = k0
    · refine Wl.icmpY 86 d9_81 (teq c17).1 ?_
      refine Wl.iinc 89 #[.val (.ref a), .val (.ref y), .val (.int (1 : Int32)), .val (.int t0), .val (.int t0)] (1 : Int32) d9_86 (by decide) rfl rfl ?_
      refine Wl.goto 28 d9_89 ?_
      refine Wl.iload_n 29 d9_28 rfl ?_
      refine Wl.aload_n 30 d9_29 rfl rfl ?_
      refine Wl.getfield 33 d9_30 (w50 hw) F2 ?_
      refine Wl.virtual 36 (argsL := []) d9_33 (w62 hw) (w63 hw) (w65 hw) (w64 hw) (w16 hw) (w66 hw) (nf_sel (w65 hw) rfl) (S).exa (show parseMethodDescriptor "()I" = some ⟨[], some .int⟩ by decide +kernel) rfl (lenW_met hw hcs S) (fun _ q => nomatch q) rfl rfl rfl (by decide) ⟨⟨nle rfl, nle rfl⟩, nle rfl, nle rfl⟩ ?_
      intro v18 h19 hq20 _
      obtain ⟨rfl, rfl⟩ := hq20
      show WlO _ _ _ _ _ _ _ _ _ _ _ _ _ _ _ _ _ _ [.int (1 : Int32), .int (1 : Int32)]
      refine Wl.icmpY 92 d9_36 (flt (by decide)).2.1 ?_
      refine Wl.iconst 93 (1 : Int32) d9_92 (by decide) ?_
      exact Wl.ireturn d9_93 rfl rfl (by simp) (nle rfl) (nle rfl) ⟨by rw [show kwI [(t0, k0)] = (1 : Int32) from (kw_1 (sb1 lt0 lk0 wk0 c17) rfl)], rfl⟩
    · refine Wl.icmpN 84 d9_81 (feq c17).1 ?_
      refine Wl.iconst 85 (0 : Int32) d9_84 (by decide) ?_
      exact Wl.ireturn d9_85 rfl rfl (by simp) (nle rfl) (nle rfl) ⟨by rw [show kwI [(t0, k0)] = (0 : Int32) from (kw_0 (sb0 lt0 lk0 wk0 c13 c17))], rfl⟩
  · refine Wl.icmpN 54 d9_51 (flt c13).1 ?_
    refine Wl.iload_n 55 d9_54 rfl ?_
    refine Wl.bipush 57 (122 : Int32) d9_55 (by decide) ?_
    by_cases c21 : (122 : Int32) < t0
    · refine Wl.icmpY 71 d9_57 (tlt c21).2.2.1 ?_
      refine Wl.iload_n 72 d9_71 rfl ?_
      refine Wl.istore 74 #[.val (.ref a), .val (.ref y), .val (.int (0 : Int32)), .val (.int t0), .val (.int t0)] d9_72 rfl ?_
      refine Wl.iload 76 d9_74 rfl ?_
      refine Wl.aload_n 77 d9_76 rfl rfl ?_
      refine Wl.iload_n 78 d9_77 rfl ?_
      refine Wl.virtual 81 (argsL := [.int (0 : Int32)]) d9_78 (w90 hw) (w91 hw) (w93 hw) (w92 hw) (w16 hw) (w94 hw) (nf_sel (w93 hw) rfl) (U).exa (show parseMethodDescriptor "(I)C" = some ⟨[.int], some .char⟩ by decide +kernel) rfl (charW_met hw hcs hfm hu U (i := 0) (nle rfl)) (fun _ q => nomatch q) rfl rfl rfl (by decide) ⟨⟨nle rfl, nle rfl⟩, nle rfl, nle rfl⟩ ?_
      intro v22 h23 hq24 _
      obtain ⟨rfl, rfl⟩ := hq24
      show WlO _ _ _ _ _ _ _ _ _ _ _ _ _ _ _ _ _ _ [.int k0, .int t0]
      by_cases c25 : t0 = k0
      · refine Wl.icmpY 86 d9_81 (teq c25).1 ?_
        refine Wl.iinc 89 #[.val (.ref a), .val (.ref y), .val (.int (1 : Int32)), .val (.int t0), .val (.int t0)] (1 : Int32) d9_86 (by decide) rfl rfl ?_
        refine Wl.goto 28 d9_89 ?_
        refine Wl.iload_n 29 d9_28 rfl ?_
        refine Wl.aload_n 30 d9_29 rfl rfl ?_
        refine Wl.getfield 33 d9_30 (w50 hw) F2 ?_
        refine Wl.virtual 36 (argsL := []) d9_33 (w62 hw) (w63 hw) (w65 hw) (w64 hw) (w16 hw) (w66 hw) (nf_sel (w65 hw) rfl) (S).exa (show parseMethodDescriptor "()I" = some ⟨[], some .int⟩ by decide +kernel) rfl (lenW_met hw hcs S) (fun _ q => nomatch q) rfl rfl rfl (by decide) ⟨⟨nle rfl, nle rfl⟩, nle rfl, nle rfl⟩ ?_
        intro v26 h27 hq28 _
        obtain ⟨rfl, rfl⟩ := hq28
        show WlO _ _ _ _ _ _ _ _ _ _ _ _ _ _ _ _ _ _ [.int (1 : Int32), .int (1 : Int32)]
        refine Wl.icmpY 92 d9_36 (flt (by decide)).2.1 ?_
        refine Wl.iconst 93 (1 : Int32) d9_92 (by decide) ?_
        exact Wl.ireturn d9_93 rfl rfl (by simp) (nle rfl) (nle rfl) ⟨by rw [show kwI [(t0, k0)] = (1 : Int32) from (kw_1 (sb1 lt0 lk0 wk0 c25) rfl)], rfl⟩
      · refine Wl.icmpN 84 d9_81 (feq c25).1 ?_
        refine Wl.iconst 85 (0 : Int32) d9_84 (by decide) ?_
        exact Wl.ireturn d9_85 rfl rfl (by simp) (nle rfl) (nle rfl) ⟨by rw [show kwI [(t0, k0)] = (0 : Int32) from (kw_0 (sc0 lt0 lk0 wk0 c21 c25))], rfl⟩
    · refine Wl.icmpN 60 d9_57 (flt c21).2.2.1 ?_
      refine Wl.iload_n 61 d9_60 rfl ?_
      refine Wl.bipush 63 (97 : Int32) d9_61 (by decide) ?_
      refine Wl.isub 64 d9_63 ?_
      refine Wl.bipush 66 (65 : Int32) d9_64 (by decide) ?_
      refine Wl.iadd 67 d9_66 ?_
      refine Wl.i2c 68 d9_67 ?_
      refine Wl.goto 72 d9_68 ?_
      refine Wl.istore 74 #[.val (.ref a), .val (.ref y), .val (.int (0 : Int32)), .val (.int t0), .val (.int ((((t0 - (97 : Int32)) + (65 : Int32))).toUInt32.toUInt16.toUInt32.toInt32))] d9_72 rfl ?_
      refine Wl.iload 76 d9_74 rfl ?_
      refine Wl.aload_n 77 d9_76 rfl rfl ?_
      refine Wl.iload_n 78 d9_77 rfl ?_
      refine Wl.virtual 81 (argsL := [.int (0 : Int32)]) d9_78 (w90 hw) (w91 hw) (w93 hw) (w92 hw) (w16 hw) (w94 hw) (nf_sel (w93 hw) rfl) (U).exa (show parseMethodDescriptor "(I)C" = some ⟨[.int], some .char⟩ by decide +kernel) rfl (charW_met hw hcs hfm hu U (i := 0) (nle rfl)) (fun _ q => nomatch q) rfl rfl rfl (by decide) ⟨⟨nle rfl, nle rfl⟩, nle rfl, nle rfl⟩ ?_
      intro v29 h30 hq31 _
      obtain ⟨rfl, rfl⟩ := hq31
      show WlO _ _ _ _ _ _ _ _ _ _ _ _ _ _ _ _ _ _ [.int k0, .int ((((t0 - (97 : Int32)) + (65 : Int32))).toUInt32.toUInt16.toUInt32.toInt32)]
      by_cases c32 : (((t0 - (97 : Int32)) + (65 : Int32))).toUInt32.toUInt16.toUInt32.toInt32 = k0
      · refine Wl.icmpY 86 d9_81 (teq c32).1 ?_
        refine Wl.iinc 89 #[.val (.ref a), .val (.ref y), .val (.int (1 : Int32)), .val (.int t0), .val (.int ((((t0 - (97 : Int32)) + (65 : Int32))).toUInt32.toUInt16.toUInt32.toInt32))] (1 : Int32) d9_86 (by decide) rfl rfl ?_
        refine Wl.goto 28 d9_89 ?_
        refine Wl.iload_n 29 d9_28 rfl ?_
        refine Wl.aload_n 30 d9_29 rfl rfl ?_
        refine Wl.getfield 33 d9_30 (w50 hw) F2 ?_
        refine Wl.virtual 36 (argsL := []) d9_33 (w62 hw) (w63 hw) (w65 hw) (w64 hw) (w16 hw) (w66 hw) (nf_sel (w65 hw) rfl) (S).exa (show parseMethodDescriptor "()I" = some ⟨[], some .int⟩ by decide +kernel) rfl (lenW_met hw hcs S) (fun _ q => nomatch q) rfl rfl rfl (by decide) ⟨⟨nle rfl, nle rfl⟩, nle rfl, nle rfl⟩ ?_
        intro v33 h34 hq35 _
        obtain ⟨rfl, rfl⟩ := hq35
        show WlO _ _ _ _ _ _ _ _ _ _ _ _ _ _ _ _ _ _ [.int (1 : Int32), .int (1 : Int32)]
        refine Wl.icmpY 92 d9_36 (flt (by decide)).2.1 ?_
        refine Wl.iconst 93 (1 : Int32) d9_92 (by decide) ?_
        exact Wl.ireturn d9_93 rfl rfl (by simp) (nle rfl) (nle rfl) ⟨by rw [show kwI [(t0, k0)] = (1 : Int32) from (kw_1 (sa1 lt0 lk0 wk0 c13 c21 c32) rfl)], rfl⟩
      · refine Wl.icmpN 84 d9_81 (feq c32).1 ?_
        refine Wl.iconst 85 (0 : Int32) d9_84 (by decide) ?_
        exact Wl.ireturn d9_85 rfl rfl (by simp) (nle rfl) (nle rfl) ⟨by rw [show kwI [(t0, k0)] = (0 : Int32) from (kw_0 (sa0 lt0 lk0 wk0 c13 c21 c32))], rfl⟩
set_option maxRecDepth 65536 in
set_option maxHeartbeats 40000000 in
theorem kw12_met {l : Launch} {Z : State} {a0 : Array Value} (hw : ∀ d ∈ tables_1, d.before a0 Z = true) (hcs : CSon Z) (hfm : Fmt Z) (hu : U16on Z) {h : Heap} {a x y kw ks ki : Addr} {t0 t1 t2 k0 k1 k2 : Int32} (hK : Kinds Z kw ks ki) (lt0 : Ch t0) (lt1 : Ch t1) (lt2 : Ch t2) (lk0 : Ch k0) (lk1 : Ch k1) (lk2 : Ch k2) (wk0 : nlow k0) (wk1 : nlow k1) (wk2 : nlow k2) (F1 : Fld Z h a "com/example/grantwork/grantwork/Token" "kind" "Lcom/example/grantwork/grantwork/Token$Kind;" (.ref kw)) (F2 : Fld Z h a "com/example/grantwork/grantwork/Token" "text" "Ljava/lang/String;" (.ref x)) (S : Stw Z h x [t0]) (U : Stw Z h y [k0, k1]) :
    Met l Z consts_1 ⟨"com/example/grantwork/grantwork/Token", "isKeyword", "(Ljava/lang/String;)Z"⟩ prog_70_method_3_code 5 (some .boolean) [] { frames := 5, cells := 0, slots := 0, locals := 70 } #[.ref a, .ref y] h [] (fun v h' => v = some (.int 0) ∧ h = h') := by
  refine Met.of_walk (a0 := a0) (Ls := #[.val (.ref a), .val (.ref y), .unset, .unset, .unset]) (plainFor_of_name pn_4) (own_hEL hw) rfl ?_
  refine Wl.aload_n 1 d9_0 rfl rfl ?_
  refine Wl.getfield 4 d9_1 (w48 hw) F1 ?_
  refine Wl.getstatic 7 d9_4 (w61 hw) hK.1.1 ?_
  refine Wl.acmp 10 true d9_7 rfl rfl (decide_eq_true rfl) ?_
  refine Wl.aload_n 11 d9_10 rfl rfl ?_
  refine Wl.getfield 14 d9_11 (w50 hw) F2 ?_
  refine Wl.virtual 17 (argsL := []) d9_14 (w62 hw) (w63 hw) (w65 hw) (w64 hw) (w16 hw) (w66 hw) (nf_sel (w65 hw) rfl) (S).exa (show parseMethodDescriptor "()I" = some ⟨[], some .int⟩ by decide +kernel) rfl (lenW_met hw hcs S) (fun _ q => nomatch q) rfl rfl rfl (by decide) ⟨⟨nle rfl, nle rfl⟩, nle rfl, nle rfl⟩ ?_
  intro v1 h2 hq3 _
  obtain ⟨rfl, rfl⟩ := hq3
  show WlO _ _ _ _ _ _ _ _ _ _ _ _ _ _ _ _ _ _ [.int (1 : Int32)]
  refine Wl.aload_n 18 d9_17 rfl rfl ?_
  refine Wl.virtual 21 (argsL := []) d9_18 (w62 hw) (w63 hw) (w65 hw) (w64 hw) (w16 hw) (w66 hw) (nf_sel (w65 hw) rfl) (U).exa (show parseMethodDescriptor "()I" = some ⟨[], some .int⟩ by decide +kernel) rfl (lenW_met hw hcs U) (fun _ q => nomatch q) rfl rfl rfl (by decide) ⟨⟨nle rfl, nle rfl⟩, nle rfl, nle rfl⟩ ?_
  intro v4 h5 hq6 _
  obtain ⟨rfl, rfl⟩ := hq6
  show WlO _ _ _ _ _ _ _ _ _ _ _ _ _ _ _ _ _ _ [.int (2 : Int32), .int (1 : Int32)]
  refine Wl.icmpN 24 d9_21 (feq (by decide)).1 ?_
  refine Wl.iconst 25 (0 : Int32) d9_24 (by decide) ?_
  exact Wl.ireturn d9_25 rfl rfl (by simp) (nle rfl) (nle rfl) ⟨rfl, rfl⟩
set_option maxRecDepth 65536 in
set_option maxHeartbeats 40000000 in
theorem kw13_met {l : Launch} {Z : State} {a0 : Array Value} (hw : ∀ d ∈ tables_1, d.before a0 Z = true) (hcs : CSon Z) (hfm : Fmt Z) (hu : U16on Z) {h : Heap} {a x y kw ks ki : Addr} {t0 t1 t2 k0 k1 k2 : Int32} (hK : Kinds Z kw ks ki) (lt0 : Ch t0) (lt1 : Ch t1) (lt2 : Ch t2) (lk0 : Ch k0) (lk1 : Ch k1) (lk2 : Ch k2) (wk0 : nlow k0) (wk1 : nlow k1) (wk2 : nlow k2) (F1 : Fld Z h a "com/example/grantwork/grantwork/Token" "kind" "Lcom/example/grantwork/grantwork/Token$Kind;" (.ref kw)) (F2 : Fld Z h a "com/example/grantwork/grantwork/Token" "text" "Ljava/lang/String;" (.ref x)) (S : Stw Z h x [t0]) (U : Stw Z h y [k0, k1, k2]) :
    Met l Z consts_1 ⟨"com/example/grantwork/grantwork/Token", "isKeyword", "(Ljava/lang/String;)Z"⟩ prog_70_method_3_code 5 (some .boolean) [] { frames := 5, cells := 0, slots := 0, locals := 70 } #[.ref a, .ref y] h [] (fun v h' => v = some (.int 0) ∧ h = h') := by
  refine Met.of_walk (a0 := a0) (Ls := #[.val (.ref a), .val (.ref y), .unset, .unset, .unset]) (plainFor_of_name pn_4) (own_hEL hw) rfl ?_
  refine Wl.aload_n 1 d9_0 rfl rfl ?_
  refine Wl.getfield 4 d9_1 (w48 hw) F1 ?_
  refine Wl.getstatic 7 d9_4 (w61 hw) hK.1.1 ?_
  refine Wl.acmp 10 true d9_7 rfl rfl (decide_eq_true rfl) ?_
  refine Wl.aload_n 11 d9_10 rfl rfl ?_
  refine Wl.getfield 14 d9_11 (w50 hw) F2 ?_
  refine Wl.virtual 17 (argsL := []) d9_14 (w62 hw) (w63 hw) (w65 hw) (w64 hw) (w16 hw) (w66 hw) (nf_sel (w65 hw) rfl) (S).exa (show parseMethodDescriptor "()I" = some ⟨[], some .int⟩ by decide +kernel) rfl (lenW_met hw hcs S) (fun _ q => nomatch q) rfl rfl rfl (by decide) ⟨⟨nle rfl, nle rfl⟩, nle rfl, nle rfl⟩ ?_
  intro v1 h2 hq3 _
  obtain ⟨rfl, rfl⟩ := hq3
  show WlO _ _ _ _ _ _ _ _ _ _ _ _ _ _ _ _ _ _ [.int (1 : Int32)]
  refine Wl.aload_n 18 d9_17 rfl rfl ?_
  refine Wl.virtual 21 (argsL := []) d9_18 (w62 hw) (w63 hw) (w65 hw) (w64 hw) (w16 hw) (w66 hw) (nf_sel (w65 hw) rfl) (U).exa (show parseMethodDescriptor "()I" = some ⟨[], some .int⟩ by decide +kernel) rfl (lenW_met hw hcs U) (fun _ q => nomatch q) rfl rfl rfl (by decide) ⟨⟨nle rfl, nle rfl⟩, nle rfl, nle rfl⟩ ?_
  intro v4 h5 hq6 _
  obtain ⟨rfl, rfl⟩ := hq6
  show WlO _ _ _ _ _ _ _ _ _ _ _ _ _ _ _ _ _ _ [.int (3 : Int32), .int (1 : Int32)]
  refine Wl.icmpN 24 d9_21 (feq (by decide)).1 ?_
  refine Wl.iconst 25 (0 : Int32) d9_24 (by decide) ?_
  exact Wl.ireturn d9_25 rfl rfl (by simp) (nle rfl) (nle rfl) ⟨rfl, rfl⟩
set_option maxRecDepth 65536 in
set_option maxHeartbeats 40000000 in
theorem kw20_met {l : Launch} {Z : State} {a0 : Array Value} (hw : ∀ d ∈ tables_1, d.before a0 Z = true) (hcs : CSon Z) (hfm : Fmt Z) (hu : U16on Z) {h : Heap} {a x y kw ks ki : Addr} {t0 t1 t2 k0 k1 k2 : Int32} (hK : Kinds Z kw ks ki) (lt0 : Ch t0) (lt1 : Ch t1) (lt2 : Ch t2) (lk0 : Ch k0) (lk1 : Ch k1) (lk2 : Ch k2) (wk0 : nlow k0) (wk1 : nlow k1) (wk2 : nlow k2) (F1 : Fld Z h a "com/example/grantwork/grantwork/Token" "kind" "Lcom/example/grantwork/grantwork/Token$Kind;" (.ref kw)) (F2 : Fld Z h a "com/example/grantwork/grantwork/Token" "text" "Ljava/lang/String;" (.ref x)) (S : Stw Z h x [t0, t1]) (U : Stw Z h y []) :
    Met l Z consts_1 ⟨"com/example/grantwork/grantwork/Token", "isKeyword", "(Ljava/lang/String;)Z"⟩ prog_70_method_3_code 5 (some .boolean) [] { frames := 5, cells := 0, slots := 0, locals := 70 } #[.ref a, .ref y] h [] (fun v h' => v = some (.int 0) ∧ h = h') := by
  refine Met.of_walk (a0 := a0) (Ls := #[.val (.ref a), .val (.ref y), .unset, .unset, .unset]) (plainFor_of_name pn_4) (own_hEL hw) rfl ?_
  refine Wl.aload_n 1 d9_0 rfl rfl ?_
  refine Wl.getfield 4 d9_1 (w48 hw) F1 ?_
  refine Wl.getstatic 7 d9_4 (w61 hw) hK.1.1 ?_
  refine Wl.acmp 10 true d9_7 rfl rfl (decide_eq_true rfl) ?_
  refine Wl.aload_n 11 d9_10 rfl rfl ?_
  refine Wl.getfield 14 d9_11 (w50 hw) F2 ?_
  refine Wl.virtual 17 (argsL := []) d9_14 (w62 hw) (w63 hw) (w65 hw) (w64 hw) (w16 hw) (w66 hw) (nf_sel (w65 hw) rfl) (S).exa (show parseMethodDescriptor "()I" = some ⟨[], some .int⟩ by decide +kernel) rfl (lenW_met hw hcs S) (fun _ q => nomatch q) rfl rfl rfl (by decide) ⟨⟨nle rfl, nle rfl⟩, nle rfl, nle rfl⟩ ?_
  intro v1 h2 hq3 _
  obtain ⟨rfl, rfl⟩ := hq3
  show WlO _ _ _ _ _ _ _ _ _ _ _ _ _ _ _ _ _ _ [.int (2 : Int32)]
  refine Wl.aload_n 18 d9_17 rfl rfl ?_
  refine Wl.virtual 21 (argsL := []) d9_18 (w62 hw) (w63 hw) (w65 hw) (w64 hw) (w16 hw) (w66 hw) (nf_sel (w65 hw) rfl) (U).exa (show parseMethodDescriptor "()I" = some ⟨[], some .int⟩ by decide +kernel) rfl (lenW_met hw hcs U) (fun _ q => nomatch q) rfl rfl rfl (by decide) ⟨⟨nle rfl, nle rfl⟩, nle rfl, nle rfl⟩ ?_
  intro v4 h5 hq6 _
  obtain ⟨rfl, rfl⟩ := hq6
  show WlO _ _ _ _ _ _ _ _ _ _ _ _ _ _ _ _ _ _ [.int (0 : Int32), .int (2 : Int32)]
  refine Wl.icmpN 24 d9_21 (feq (by decide)).1 ?_
  refine Wl.iconst 25 (0 : Int32) d9_24 (by decide) ?_
  exact Wl.ireturn d9_25 rfl rfl (by simp) (nle rfl) (nle rfl) ⟨rfl, rfl⟩
set_option maxRecDepth 65536 in
set_option maxHeartbeats 40000000 in
theorem kw21_met {l : Launch} {Z : State} {a0 : Array Value} (hw : ∀ d ∈ tables_1, d.before a0 Z = true) (hcs : CSon Z) (hfm : Fmt Z) (hu : U16on Z) {h : Heap} {a x y kw ks ki : Addr} {t0 t1 t2 k0 k1 k2 : Int32} (hK : Kinds Z kw ks ki) (lt0 : Ch t0) (lt1 : Ch t1) (lt2 : Ch t2) (lk0 : Ch k0) (lk1 : Ch k1) (lk2 : Ch k2) (wk0 : nlow k0) (wk1 : nlow k1) (wk2 : nlow k2) (F1 : Fld Z h a "com/example/grantwork/grantwork/Token" "kind" "Lcom/example/grantwork/grantwork/Token$Kind;" (.ref kw)) (F2 : Fld Z h a "com/example/grantwork/grantwork/Token" "text" "Ljava/lang/String;" (.ref x)) (S : Stw Z h x [t0, t1]) (U : Stw Z h y [k0]) :
    Met l Z consts_1 ⟨"com/example/grantwork/grantwork/Token", "isKeyword", "(Ljava/lang/String;)Z"⟩ prog_70_method_3_code 5 (some .boolean) [] { frames := 5, cells := 0, slots := 0, locals := 70 } #[.ref a, .ref y] h [] (fun v h' => v = some (.int 0) ∧ h = h') := by
  refine Met.of_walk (a0 := a0) (Ls := #[.val (.ref a), .val (.ref y), .unset, .unset, .unset]) (plainFor_of_name pn_4) (own_hEL hw) rfl ?_
  refine Wl.aload_n 1 d9_0 rfl rfl ?_
  refine Wl.getfield 4 d9_1 (w48 hw) F1 ?_
  refine Wl.getstatic 7 d9_4 (w61 hw) hK.1.1 ?_
  refine Wl.acmp 10 true d9_7 rfl rfl (decide_eq_true rfl) ?_
  refine Wl.aload_n 11 d9_10 rfl rfl ?_
  refine Wl.getfield 14 d9_11 (w50 hw) F2 ?_
  refine Wl.virtual 17 (argsL := []) d9_14 (w62 hw) (w63 hw) (w65 hw) (w64 hw) (w16 hw) (w66 hw) (nf_sel (w65 hw) rfl) (S).exa (show parseMethodDescriptor "()I" = some ⟨[], some .int⟩ by decide +kernel) rfl (lenW_met hw hcs S) (fun _ q => nomatch q) rfl rfl rfl (by decide) ⟨⟨nle rfl, nle rfl⟩, nle rfl, nle rfl⟩ ?_
  intro v1 h2 hq3 _
  obtain ⟨rfl, rfl⟩ := hq3
  show WlO _ _ _ _ _ _ _ _ _ _ _ _ _ _ _ _ _ _ [.int (2 : Int32)]
  refine Wl.aload_n 18 d9_17 rfl rfl ?_
  refine Wl.virtual 21 (argsL := []) d9_18 (w62 hw) (w63 hw) (w65 hw) (w64 hw) (w16 hw) (w66 hw) (nf_sel (w65 hw) rfl) (U).exa (show parseMethodDescriptor "()I" = some ⟨[], some .int⟩ by decide +kernel) rfl (lenW_met hw hcs U) (fun _ q => nomatch q) rfl rfl rfl (by decide) ⟨⟨nle rfl, nle rfl⟩, nle rfl, nle rfl⟩ ?_
  intro v4 h5 hq6 _
  obtain ⟨rfl, rfl⟩ := hq6
  show WlO _ _ _ _ _ _ _ _ _ _ _ _ _ _ _ _ _ _ [.int (1 : Int32), .int (2 : Int32)]
  refine Wl.icmpN 24 d9_21 (feq (by decide)).1 ?_
  refine Wl.iconst 25 (0 : Int32) d9_24 (by decide) ?_
  exact Wl.ireturn d9_25 rfl rfl (by simp) (nle rfl) (nle rfl) ⟨rfl, rfl⟩
set_option maxRecDepth 65536 in
set_option maxHeartbeats 40000000 in
theorem kw22_met {l : Launch} {Z : State} {a0 : Array Value} (hw : ∀ d ∈ tables_1, d.before a0 Z = true) (hcs : CSon Z) (hfm : Fmt Z) (hu : U16on Z) {h : Heap} {a x y kw ks ki : Addr} {t0 t1 t2 k0 k1 k2 : Int32} (hK : Kinds Z kw ks ki) (lt0 : Ch t0) (lt1 : Ch t1) (lt2 : Ch t2) (lk0 : Ch k0) (lk1 : Ch k1) (lk2 : Ch k2) (wk0 : nlow k0) (wk1 : nlow k1) (wk2 : nlow k2) (F1 : Fld Z h a "com/example/grantwork/grantwork/Token" "kind" "Lcom/example/grantwork/grantwork/Token$Kind;" (.ref kw)) (F2 : Fld Z h a "com/example/grantwork/grantwork/Token" "text" "Ljava/lang/String;" (.ref x)) (S : Stw Z h x [t0, t1]) (U : Stw Z h y [k0, k1]) :
    Met l Z consts_1 ⟨"com/example/grantwork/grantwork/Token", "isKeyword", "(Ljava/lang/String;)Z"⟩ prog_70_method_3_code 5 (some .boolean) [] { frames := 5, cells := 0, slots := 0, locals := 70 } #[.ref a, .ref y] h [] (fun v h' => v = some (.int (kwI [(t0, k0), (t1, k1)])) ∧ h = h') := by
  refine Met.of_walk (a0 := a0) (Ls := #[.val (.ref a), .val (.ref y), .unset, .unset, .unset]) (plainFor_of_name pn_4) (own_hEL hw) rfl ?_
  refine Wl.aload_n 1 d9_0 rfl rfl ?_
  refine Wl.getfield 4 d9_1 (w48 hw) F1 ?_
  refine Wl.getstatic 7 d9_4 (w61 hw) hK.1.1 ?_
  refine Wl.acmp 10 true d9_7 rfl rfl (decide_eq_true rfl) ?_
  refine Wl.aload_n 11 d9_10 rfl rfl ?_
  refine Wl.getfield 14 d9_11 (w50 hw) F2 ?_
  refine Wl.virtual 17 (argsL := []) d9_14 (w62 hw) (w63 hw) (w65 hw) (w64 hw) (w16 hw) (w66 hw) (nf_sel (w65 hw) rfl) (S).exa (show parseMethodDescriptor "()I" = some ⟨[], some .int⟩ by decide +kernel) rfl (lenW_met hw hcs S) (fun _ q => nomatch q) rfl rfl rfl (by decide) ⟨⟨nle rfl, nle rfl⟩, nle rfl, nle rfl⟩ ?_
  intro v1 h2 hq3 _
  obtain ⟨rfl, rfl⟩ := hq3
  show WlO _ _ _ _ _ _ _ _ _ _ _ _ _ _ _ _ _ _ [.int (2 : Int32)]
  refine Wl.aload_n 18 d9_17 rfl rfl ?_
  refine Wl.virtual 21 (argsL := []) d9_18 (w62 hw) (w63 hw) (w65 hw) (w64 hw) (w16 hw) (w66 hw) (nf_sel (w65 hw) rfl) (U).exa (show parseMethodDescriptor "()I" = some ⟨[], some .int⟩ by decide +kernel) rfl (lenW_met hw hcs U) (fun _ q => nomatch q) rfl rfl rfl (by decide) ⟨⟨nle rfl, nle rfl⟩, nle rfl, nle rfl⟩ ?_
  intro v4 h5 hq6 _
  obtain ⟨rfl, rfl⟩ := hq6
  show WlO _ _ _ _ _ _ _ _ _ _ _ _ _ _ _ _ _ _ [.int (2 : Int32), .int (2 : Int32)]
  refine Wl.icmpY 26 d9_21 (teq (by decide)).1 ?_
  refine Wl.iconst 27 (0 : Int32) d9_26 (by decide) ?_
  refine Wl.istore_n 28 #[.val (.ref a), .val (.ref y), .val (.int (0 : Int32)), .unset, .unset] d9_27 rfl ?_
  refine Wl.iload_n 29 d9_28 rfl ?_
  refine Wl.aload_n 30 d9_29 rfl rfl ?_
  refine Wl.getfield 33 d9_30 (w50 hw) F2 ?_
  refine Wl.virtual 36 (argsL := []) d9_33 (w62 hw) (w63 hw) (w65 hw) (w64 hw) (w16 hw) (w66 hw) (nf_sel (w65 hw) rfl) (S).exa (show parseMethodDescriptor "()I" = some ⟨[], some .int⟩ by decide +kernel) rfl (lenW_met hw hcs S) (fun _ q => nomatch q) rfl rfl rfl (by decide) ⟨⟨nle rfl, nle rfl⟩, nle rfl, nle rfl⟩ ?_
  intro v7 h8 hq9 _
  obtain ⟨rfl, rfl⟩ := hq9
  show WlO _ _ _ _ _ _ _ _ _ _ _ _ _ _ _ _ _ _ [.int (2 : Int32), .int (0 : Int32)]
  refine Wl.icmpN 39 d9_36 (tlt (by decide)).2.1 ?_
  refine Wl.aload_n 40 d9_39 rfl rfl ?_
  refine Wl.getfield 43 d9_40 (w50 hw) F2 ?_
  refine Wl.iload_n 44 d9_43 rfl ?_
  refine Wl.virtual 47 (argsL := [.int (0 : Int32)]) d9_44 (w90 hw) (w91 hw) (w93 hw) (w92 hw) (w16 hw) (w94 hw) (nf_sel (w93 hw) rfl) (S).exa (show parseMethodDescriptor "(I)C" = some ⟨[.int], some .char⟩ by decide +kernel) rfl (charW_met hw hcs hfm hu S (i := 0) (nle rfl)) (fun _ q => nomatch q) rfl rfl rfl (by decide) ⟨⟨nle rfl, nle rfl⟩, nle rfl, nle rfl⟩ ?_
  intro v10 h11 hq12 _
  obtain ⟨rfl, rfl⟩ := hq12
  show WlO _ _ _ _ _ _ _ _ _ _ _ _ _ _ _ _ _ _ [.int t0]
  refine Wl.istore_n 48 #[.val (.ref a), .val (.ref y), .val (.int (0 : Int32)), .val (.int t0), .unset] d9_47 rfl ?_
  refine Wl.iload_n 49 d9_48 rfl ?_
  refine Wl.bipush 51 (97 : Int32) d9_49 (by decide) ?_
  by_cases c13 : t0 < (97 : Int32)
  · refine Wl.icmpY 71 d9_51 (tlt c13).1 ?_
    refine Wl.iload_n 72 d9_71 rfl ?_
    refine Wl.istore 74 #[.val (.ref a), .val (.ref y), .val (.int (0 : Int32)), .val (.int t0), .val (.int t0)] d9_72 rfl ?_
    refine Wl.iload 76 d9_74 rfl ?_
    refine Wl.aload_n 77 d9_76 rfl rfl ?_
    refine Wl.iload_n 78 d9_77 rfl ?_
    refine Wl.virtual 81 (argsL := [.int (0 : Int32)]) d9_78 (w90 hw) (w91 hw) (w93 hw) (w92 hw) (w16 hw) (w94 hw) (nf_sel (w93 hw) rfl) (U).exa (show parseMethodDescriptor "(I)C" = some ⟨[.int], some .char⟩ by decide +kernel) rfl (charW_met hw hcs hfm hu U (i := 0) (nle rfl)) (fun _ q => nomatch q) rfl rfl rfl (by decide) ⟨⟨nle rfl, nle rfl⟩, nle rfl, nle rfl⟩ ?_
    intro v14 h15 hq16 _
    obtain ⟨rfl, rfl⟩ := hq16
    show WlO _ _ _ _ _ _ _ _ _ _ _ _ _ _ _ _ _ _ [.int k0, .int t0]
    by_cases c17 : t0 = k0
    · refine Wl.icmpY 86 d9_81 (teq c17).1 ?_
      refine Wl.iinc 89 #[.val (.ref a), .val (.ref y), .val (.int (1 : Int32)), .val (.int t0), .val (.int t0)] (1 : Int32) d9_86 (by decide) rfl rfl ?_
      refine Wl.goto 28 d9_89 ?_
      refine Wl.iload_n 29 d9_28 rfl ?_
      refine Wl.aload_n 30 d9_29 rfl rfl ?_
      refine Wl.getfield 33 d9_30 (w50 hw) F2 ?_
      refine Wl.virtual 36 (argsL := []) d9_33 (w62 hw) (w63 hw) (w65 hw) (w64 hw) (w16 hw) (w66 hw) (nf_sel (w65 hw) rfl) (S).exa (show parseMethodDescriptor "()I" = some ⟨[], some .int⟩ by decide +kernel) rfl (lenW_met hw hcs S) (fun _ q => nomatch q) rfl rfl rfl (by decide) ⟨⟨nle rfl, nle rfl⟩, nle rfl, nle rfl⟩ ?_
      intro v18 h19 hq20 _
      obtain ⟨rfl, rfl⟩ := hq20
      show WlO _ _ _ _ _ _ _ _ _ _ _ _ _ _ _ _ _ _ [.int (2 : Int32), .int (1 : Int32)]
      refine Wl.icmpN 39 d9_36 (tlt (by decide)).2.1 ?_
      refine Wl.aload_n 40 d9_39 rfl rfl ?_
      refine Wl.getfield 43 d9_40 (w50 hw) F2 ?_
      refine Wl.iload_n 44 d9_43 rfl ?_
      refine Wl.virtual 47 (argsL := [.int (1 : Int32)]) d9_44 (w90 hw) (w91 hw) (w93 hw) (w92 hw) (w16 hw) (w94 hw) (nf_sel (w93 hw) rfl) (S).exa (show parseMethodDescriptor "(I)C" = some ⟨[.int], some .char⟩ by decide +kernel) rfl (charW_met hw hcs hfm hu S (i := 1) (nle rfl)) (fun _ q => nomatch q) rfl rfl rfl (by decide) ⟨⟨nle rfl, nle rfl⟩, nle rfl, nle rfl⟩ ?_
      intro v21 h22 hq23 _
      obtain ⟨rfl, rfl⟩ := hq23
      show WlO _ _ _ _ _ _ _ _ _ _ _ _ _ _ _ _ _ _ [.int t1]
      refine Wl.istore_n 48 #[.val (.ref a), .val (.ref y), .val (.int (1 : Int32)), .val (.int t1), .val (.int t0)] d9_47 rfl ?_
      refine Wl.iload_n 49 d9_48 rfl ?_
      refine Wl.bipush 51 (97 : Int32) d9_49 (by decide) ?_
      by_cases c24 : t1 < (97 : Int32)
      · refine Wl.icmpY 71 d9_51 (tlt c24).1 ?_
        refine Wl.iload_n 72 d9_71 rfl ?_
        refine Wl.istore 74 #[.val (.ref a), .val (.ref y), .val (.int (1 : Int32)), .val (.int t1), .val (.int t1)] d9_72 rfl ?_
        refine Wl.iload 76 d9_74 rfl ?_
        refine Wl.aload_n 77 d9_76 rfl rfl ?_
        refine Wl.iload_n 78 d9_77 rfl ?_
        refine Wl.virtual 81 (argsL := [.int (1 : Int32)]) d9_78 (w90 hw) (w91 hw) (w93 hw) (w92 hw) (w16 hw) (w94 hw) (nf_sel (w93 hw) rfl) (U).exa (show parseMethodDescriptor "(I)C" = some ⟨[.int], some .char⟩ by decide +kernel) rfl (charW_met hw hcs hfm hu U (i := 1) (nle rfl)) (fun _ q => nomatch q) rfl rfl rfl (by decide) ⟨⟨nle rfl, nle rfl⟩, nle rfl, nle rfl⟩ ?_
        intro v25 h26 hq27 _
        obtain ⟨rfl, rfl⟩ := hq27
        show WlO _ _ _ _ _ _ _ _ _ _ _ _ _ _ _ _ _ _ [.int k1, .int t1]
        by_cases c28 : t1 = k1
        · refine Wl.icmpY 86 d9_81 (teq c28).1 ?_
          refine Wl.iinc 89 #[.val (.ref a), .val (.ref y), .val (.int (2 : Int32)), .val (.int t1), .val (.int t1)] (1 : Int32) d9_86 (by decide) rfl rfl ?_
          refine Wl.goto 28 d9_89 ?_
          refine Wl.iload_n 29 d9_28 rfl ?_
          refine Wl.aload_n 30 d9_29 rfl rfl ?_
          refine Wl.getfield 33 d9_30 (w50 hw) F2 ?_
          refine Wl.virtual 36 (argsL := []) d9_33 (w62 hw) (w63 hw) (w65 hw) (w64 hw) (w16 hw) (w66 hw) (nf_sel (w65 hw) rfl) (S).exa (show parseMethodDescriptor "()I" = some ⟨[], some .int⟩ by decide +kernel) rfl (lenW_met hw hcs S) (fun _ q => nomatch q) rfl rfl rfl (by decide) ⟨⟨nle rfl, nle rfl⟩, nle rfl, nle rfl⟩ ?_
          intro v29 h30 hq31 _
          obtain ⟨rfl, rfl⟩ := hq31
          show WlO _ _ _ _ _ _ _ _ _ _ _ _ _ _ _ _ _ _ [.int (2 : Int32), .int (2 : Int32)]
          refine Wl.icmpY 92 d9_36 (flt (by decide)).2.1 ?_
          refine Wl.iconst 93 (1 : Int32) d9_92 (by decide) ?_
          exact Wl.ireturn d9_93 rfl rfl (by simp) (nle rfl) (nle rfl) ⟨by rw [show kwI [(t0, k0), (t1, k1)] = (1 : Int32) from (kw_1 (sb1 lt0 lk0 wk0 c17) (kw_1 (sb1 lt1 lk1 wk1 c28) rfl))], rfl⟩
        · refine Wl.icmpN 84 d9_81 (feq c28).1 ?_
          refine Wl.iconst 85 (0 : Int32) d9_84 (by decide) ?_
          exact Wl.ireturn d9_85 rfl rfl (by simp) (nle rfl) (nle rfl) ⟨by rw [show kwI [(t0, k0), (t1, k1)] = (0 : Int32) from (kw_1 (sb1 lt0 lk0 wk0 c17) (kw_0 (sb0 lt1 lk1 wk1 c24 c28)))], rfl⟩
      · refine Wl.icmpN 54 d9_51 (flt c24).1 ?_
        refine Wl.iload_n 55 d9_54 rfl ?_
        refine Wl.bipush 57 (122 : Int32) d9_55 (by decide) ?_
        by_cases c32 : (122 : Int32) < t1
        · refine Wl.icmpY 71 d9_57 (tlt c32).2.2.1 ?_
          refine Wl.iload_n 72 d9_71 rfl ?_
          refine Wl.istore 74 #[.val (.ref a), .val (.ref y), .val (.int (1 : Int32)), .val (.int t1), .val (.int t1)] d9_72 rfl ?_
          refine Wl.iload 76 d9_74 rfl ?_
          refine Wl.aload_n 77 d9_76 rfl rfl ?_
          refine Wl.iload_n 78 d9_77 rfl ?_
          refine Wl.virtual 81 (argsL := [.int (1 : Int32)]) d9_78 (w90 hw) (w91 hw) (w93 hw) (w92 hw) (w16 hw) (w94 hw) (nf_sel (w93 hw) rfl) (U).exa (show parseMethodDescriptor "(I)C" = some ⟨[.int], some .char⟩ by decide +kernel) rfl (charW_met hw hcs hfm hu U (i := 1) (nle rfl)) (fun _ q => nomatch q) rfl rfl rfl (by decide) ⟨⟨nle rfl, nle rfl⟩, nle rfl, nle rfl⟩ ?_
          intro v33 h34 hq35 _
          obtain ⟨rfl, rfl⟩ := hq35
          show WlO _ _ _ _ _ _ _ _ _ _ _ _ _ _ _ _ _ _ [.int k1, .int t1]
          by_cases c36 : t1 = k1
          · refine Wl.icmpY 86 d9_81 (teq c36).1 ?_
            refine Wl.iinc 89 #[.val (.ref a), .val (.ref y), .val (.int (2 : Int32)), .val (.int t1), .val (.int t1)] (1 : Int32) d9_86 (by decide) rfl rfl ?_
            refine Wl.goto 28 d9_89 ?_
            refine Wl.iload_n 29 d9_28 rfl ?_
            refine Wl.aload_n 30 d9_29 rfl rfl ?_
            refine Wl.getfield 33 d9_30 (w50 hw) F2 ?_
            refine Wl.virtual 36 (argsL := []) d9_33 (w62 hw) (w63 hw) (w65 hw) (w64 hw) (w16 hw) (w66 hw) (nf_sel (w65 hw) rfl) (S).exa (show parseMethodDescriptor "()I" = some ⟨[], some .int⟩ by decide +kernel) rfl (lenW_met hw hcs S) (fun _ q => nomatch q) rfl rfl rfl (by decide) ⟨⟨nle rfl, nle rfl⟩, nle rfl, nle rfl⟩ ?_
            intro v37 h38 hq39 _
            obtain ⟨rfl, rfl⟩ := hq39
            show WlO _ _ _ _ _ _ _ _ _ _ _ _ _ _ _ _ _ _ [.int (2 : Int32), .int (2 : Int32)]
            refine Wl.icmpY 92 d9_36 (flt (by decide)).2.1 ?_
            refine Wl.iconst 93 (1 : Int32) d9_92 (by decide) ?_
            exact Wl.ireturn d9_93 rfl rfl (by simp) (nle rfl) (nle rfl) ⟨by rw [show kwI [(t0, k0), (t1, k1)] = (1 : Int32) from (kw_1 (sb1 lt0 lk0 wk0 c17) (kw_1 (sb1 lt1 lk1 wk1 c36) rfl))], rfl⟩
          · refine Wl.icmpN 84 d9_81 (feq c36).1 ?_
            refine Wl.iconst 85 (0 : Int32) d9_84 (by decide) ?_
            exact Wl.ireturn d9_85 rfl rfl (by simp) (nle rfl) (nle rfl) ⟨by rw [show kwI [(t0, k0), (t1, k1)] = (0 : Int32) from (kw_1 (sb1 lt0 lk0 wk0 c17) (kw_0 (sc0 lt1 lk1 wk1 c32 c36)))], rfl⟩
        · refine Wl.icmpN 60 d9_57 (flt c32).2.2.1 ?_
          refine Wl.iload_n 61 d9_60 rfl ?_
          refine Wl.bipush 63 (97 : Int32) d9_61 (by decide) ?_
          refine Wl.isub 64 d9_63 ?_
          refine Wl.bipush 66 (65 : Int32) d9_64 (by decide) ?_
          refine Wl.iadd 67 d9_66 ?_
          refine Wl.i2c 68 d9_67 ?_
          refine Wl.goto 72 d9_68 ?_
          refine Wl.istore 74 #[.val (.ref a), .val (.ref y), .val (.int (1 : Int32)), .val (.int t1), .val (.int ((((t1 - (97 : Int32)) + (65 : Int32))).toUInt32.toUInt16.toUInt32.toInt32))] d9_72 rfl ?_
          refine Wl.iload 76 d9_74 rfl ?_
          refine Wl.aload_n 77 d9_76 rfl rfl ?_
          refine Wl.iload_n 78 d9_77 rfl ?_
          refine Wl.virtual 81 (argsL := [.int (1 : Int32)]) d9_78 (w90 hw) (w91 hw) (w93 hw) (w92 hw) (w16 hw) (w94 hw) (nf_sel (w93 hw) rfl) (U).exa (show parseMethodDescriptor "(I)C" = some ⟨[.int], some .char⟩ by decide +kernel) rfl (charW_met hw hcs hfm hu U (i := 1) (nle rfl)) (fun _ q => nomatch q) rfl rfl rfl (by decide) ⟨⟨nle rfl, nle rfl⟩, nle rfl, nle rfl⟩ ?_
          intro v40 h41 hq42 _
          obtain ⟨rfl, rfl⟩ := hq42
          show WlO _ _ _ _ _ _ _ _ _ _ _ _ _ _ _ _ _ _ [.int k1, .int ((((t1 - (97 : Int32)) + (65 : Int32))).toUInt32.toUInt16.toUInt32.toInt32)]
          by_cases c43 : (((t1 - (97 : Int32)) + (65 : Int32))).toUInt32.toUInt16.toUInt32.toInt32 = k1
          · refine Wl.icmpY 86 d9_81 (teq c43).1 ?_
            refine Wl.iinc 89 #[.val (.ref a), .val (.ref y), .val (.int (2 : Int32)), .val (.int t1), .val (.int ((((t1 - (97 : Int32)) + (65 : Int32))).toUInt32.toUInt16.toUInt32.toInt32))] (1 : Int32) d9_86 (by decide) rfl rfl ?_
            refine Wl.goto 28 d9_89 ?_
            refine Wl.iload_n 29 d9_28 rfl ?_
            refine Wl.aload_n 30 d9_29 rfl rfl ?_
            refine Wl.getfield 33 d9_30 (w50 hw) F2 ?_
            refine Wl.virtual 36 (argsL := []) d9_33 (w62 hw) (w63 hw) (w65 hw) (w64 hw) (w16 hw) (w66 hw) (nf_sel (w65 hw) rfl) (S).exa (show parseMethodDescriptor "()I" = some ⟨[], some .int⟩ by decide +kernel) rfl (lenW_met hw hcs S) (fun _ q => nomatch q) rfl rfl rfl (by decide) ⟨⟨nle rfl, nle rfl⟩, nle rfl, nle rfl⟩ ?_
            intro v44 h45 hq46 _
            obtain ⟨rfl, rfl⟩ := hq46
            show WlO _ _ _ _ _ _ _ _ _ _ _ _ _ _ _ _ _ _ [.int (2 : Int32), .int (2 : Int32)]
            refine Wl.icmpY 92 d9_36 (flt (by decide)).2.1 ?_
            refine Wl.iconst 93 (1 : Int32) d9_92 (by decide) ?_
            exact Wl.ireturn d9_93 rfl rfl (by simp) (nle rfl) (nle rfl) ⟨by rw [show kwI [(t0, k0), (t1, k1)] = (1 : Int32) from (kw_1 (sb1 lt0 lk0 wk0 c17) (kw_1 (sa1 lt1 lk1 wk1 c24 c32 c43) rfl))], rfl⟩
          · refine Wl.icmpN 84 d9_81 (feq c43).1 ?_
            refine Wl.iconst 85 (0 : Int32) d9_84 (by decide) ?_
            exact Wl.ireturn d9_85 rfl rfl (by simp) (nle rfl) (nle rfl) ⟨by rw [show kwI [(t0, k0), (t1, k1)] = (0 : Int32) from (kw_1 (sb1 lt0 lk0 wk0 c17) (kw_0 (sa0 lt1 lk1 wk1 c24 c32 c43)))], rfl⟩
    · refine Wl.icmpN 84 d9_81 (feq c17).1 ?_
      refine Wl.iconst 85 (0 : Int32) d9_84 (by decide) ?_
      exact Wl.ireturn d9_85 rfl rfl (by simp) (nle rfl) (nle rfl) ⟨by rw [show kwI [(t0, k0), (t1, k1)] = (0 : Int32) from (kw_0 (sb0 lt0 lk0 wk0 c13 c17))], rfl⟩
  · refine Wl.icmpN 54 d9_51 (flt c13).1 ?_
    refine Wl.iload_n 55 d9_54 rfl ?_
    refine Wl.bipush 57 (122 : Int32) d9_55 (by decide) ?_
    by_cases c47 : (122 : Int32) < t0
    · refine Wl.icmpY 71 d9_57 (tlt c47).2.2.1 ?_
      refine Wl.iload_n 72 d9_71 rfl ?_
      refine Wl.istore 74 #[.val (.ref a), .val (.ref y), .val (.int (0 : Int32)), .val (.int t0), .val (.int t0)] d9_72 rfl ?_
      refine Wl.iload 76 d9_74 rfl ?_
      refine Wl.aload_n 77 d9_76 rfl rfl ?_
      refine Wl.iload_n 78 d9_77 rfl ?_
      refine Wl.virtual 81 (argsL := [.int (0 : Int32)]) d9_78 (w90 hw) (w91 hw) (w93 hw) (w92 hw) (w16 hw) (w94 hw) (nf_sel (w93 hw) rfl) (U).exa (show parseMethodDescriptor "(I)C" = some ⟨[.int], some .char⟩ by decide +kernel) rfl (charW_met hw hcs hfm hu U (i := 0) (nle rfl)) (fun _ q => nomatch q) rfl rfl rfl (by decide) ⟨⟨nle rfl, nle rfl⟩, nle rfl, nle rfl⟩ ?_
      intro v48 h49 hq50 _
      obtain ⟨rfl, rfl⟩ := hq50
      show WlO _ _ _ _ _ _ _ _ _ _ _ _ _ _ _ _ _ _ [.int k0, .int t0]
      by_cases c51 : t0 = k0
      · refine Wl.icmpY 86 d9_81 (teq c51).1 ?_
        refine Wl.iinc 89 #[.val (.ref a), .val (.ref y), .val (.int (1 : Int32)), .val (.int t0), .val (.int t0)] (1 : Int32) d9_86 (by decide) rfl rfl ?_
        refine Wl.goto 28 d9_89 ?_
        refine Wl.iload_n 29 d9_28 rfl ?_
        refine Wl.aload_n 30 d9_29 rfl rfl ?_
        refine Wl.getfield 33 d9_30 (w50 hw) F2 ?_
        refine Wl.virtual 36 (argsL := []) d9_33 (w62 hw) (w63 hw) (w65 hw) (w64 hw) (w16 hw) (w66 hw) (nf_sel (w65 hw) rfl) (S).exa (show parseMethodDescriptor "()I" = some ⟨[], some .int⟩ by decide +kernel) rfl (lenW_met hw hcs S) (fun _ q => nomatch q) rfl rfl rfl (by decide) ⟨⟨nle rfl, nle rfl⟩, nle rfl, nle rfl⟩ ?_
        intro v52 h53 hq54 _
        obtain ⟨rfl, rfl⟩ := hq54
        show WlO _ _ _ _ _ _ _ _ _ _ _ _ _ _ _ _ _ _ [.int (2 : Int32), .int (1 : Int32)]
        refine Wl.icmpN 39 d9_36 (tlt (by decide)).2.1 ?_
        refine Wl.aload_n 40 d9_39 rfl rfl ?_
        refine Wl.getfield 43 d9_40 (w50 hw) F2 ?_
        refine Wl.iload_n 44 d9_43 rfl ?_
        refine Wl.virtual 47 (argsL := [.int (1 : Int32)]) d9_44 (w90 hw) (w91 hw) (w93 hw) (w92 hw) (w16 hw) (w94 hw) (nf_sel (w93 hw) rfl) (S).exa (show parseMethodDescriptor "(I)C" = some ⟨[.int], some .char⟩ by decide +kernel) rfl (charW_met hw hcs hfm hu S (i := 1) (nle rfl)) (fun _ q => nomatch q) rfl rfl rfl (by decide) ⟨⟨nle rfl, nle rfl⟩, nle rfl, nle rfl⟩ ?_
        intro v55 h56 hq57 _
        obtain ⟨rfl, rfl⟩ := hq57
        show WlO _ _ _ _ _ _ _ _ _ _ _ _ _ _ _ _ _ _ [.int t1]
        refine Wl.istore_n 48 #[.val (.ref a), .val (.ref y), .val (.int (1 : Int32)), .val (.int t1), .val (.int t0)] d9_47 rfl ?_
        refine Wl.iload_n 49 d9_48 rfl ?_
        refine Wl.bipush 51 (97 : Int32) d9_49 (by decide) ?_
        by_cases c58 : t1 < (97 : Int32)
        · refine Wl.icmpY 71 d9_51 (tlt c58).1 ?_
          refine Wl.iload_n 72 d9_71 rfl ?_
          refine Wl.istore 74 #[.val (.ref a), .val (.ref y), .val (.int (1 : Int32)), .val (.int t1), .val (.int t1)] d9_72 rfl ?_
          refine Wl.iload 76 d9_74 rfl ?_
          refine Wl.aload_n 77 d9_76 rfl rfl ?_
          refine Wl.iload_n 78 d9_77 rfl ?_
          refine Wl.virtual 81 (argsL := [.int (1 : Int32)]) d9_78 (w90 hw) (w91 hw) (w93 hw) (w92 hw) (w16 hw) (w94 hw) (nf_sel (w93 hw) rfl) (U).exa (show parseMethodDescriptor "(I)C" = some ⟨[.int], some .char⟩ by decide +kernel) rfl (charW_met hw hcs hfm hu U (i := 1) (nle rfl)) (fun _ q => nomatch q) rfl rfl rfl (by decide) ⟨⟨nle rfl, nle rfl⟩, nle rfl, nle rfl⟩ ?_
          intro v59 h60 hq61 _
          obtain ⟨rfl, rfl⟩ := hq61
          show WlO _ _ _ _ _ _ _ _ _ _ _ _ _ _ _ _ _ _ [.int k1, .int t1]
          by_cases c62 : t1 = k1
          · refine Wl.icmpY 86 d9_81 (teq c62).1 ?_
            refine Wl.iinc 89 #[.val (.ref a), .val (.ref y), .val (.int (2 : Int32)), .val (.int t1), .val (.int t1)] (1 : Int32) d9_86 (by decide) rfl rfl ?_
            refine Wl.goto 28 d9_89 ?_
            refine Wl.iload_n 29 d9_28 rfl ?_
            refine Wl.aload_n 30 d9_29 rfl rfl ?_
            refine Wl.getfield 33 d9_30 (w50 hw) F2 ?_
            refine Wl.virtual 36 (argsL := []) d9_33 (w62 hw) (w63 hw) (w65 hw) (w64 hw) (w16 hw) (w66 hw) (nf_sel (w65 hw) rfl) (S).exa (show parseMethodDescriptor "()I" = some ⟨[], some .int⟩ by decide +kernel) rfl (lenW_met hw hcs S) (fun _ q => nomatch q) rfl rfl rfl (by decide) ⟨⟨nle rfl, nle rfl⟩, nle rfl, nle rfl⟩ ?_
            intro v63 h64 hq65 _
            obtain ⟨rfl, rfl⟩ := hq65
            show WlO _ _ _ _ _ _ _ _ _ _ _ _ _ _ _ _ _ _ [.int (2 : Int32), .int (2 : Int32)]
            refine Wl.icmpY 92 d9_36 (flt (by decide)).2.1 ?_
            refine Wl.iconst 93 (1 : Int32) d9_92 (by decide) ?_
            exact Wl.ireturn d9_93 rfl rfl (by simp) (nle rfl) (nle rfl) ⟨by rw [show kwI [(t0, k0), (t1, k1)] = (1 : Int32) from (kw_1 (sb1 lt0 lk0 wk0 c51) (kw_1 (sb1 lt1 lk1 wk1 c62) rfl))], rfl⟩
          · refine Wl.icmpN 84 d9_81 (feq c62).1 ?_
            refine Wl.iconst 85 (0 : Int32) d9_84 (by decide) ?_
            exact Wl.ireturn d9_85 rfl rfl (by simp) (nle rfl) (nle rfl) ⟨by rw [show kwI [(t0, k0), (t1, k1)] = (0 : Int32) from (kw_1 (sb1 lt0 lk0 wk0 c51) (kw_0 (sb0 lt1 lk1 wk1 c58 c62)))], rfl⟩
        · refine Wl.icmpN 54 d9_51 (flt c58).1 ?_
          refine Wl.iload_n 55 d9_54 rfl ?_
          refine Wl.bipush 57 (122 : Int32) d9_55 (by decide) ?_
          by_cases c66 : (122 : Int32) < t1
          · refine Wl.icmpY 71 d9_57 (tlt c66).2.2.1 ?_
            refine Wl.iload_n 72 d9_71 rfl ?_
            refine Wl.istore 74 #[.val (.ref a), .val (.ref y), .val (.int (1 : Int32)), .val (.int t1), .val (.int t1)] d9_72 rfl ?_
            refine Wl.iload 76 d9_74 rfl ?_
            refine Wl.aload_n 77 d9_76 rfl rfl ?_
            refine Wl.iload_n 78 d9_77 rfl ?_
            refine Wl.virtual 81 (argsL := [.int (1 : Int32)]) d9_78 (w90 hw) (w91 hw) (w93 hw) (w92 hw) (w16 hw) (w94 hw) (nf_sel (w93 hw) rfl) (U).exa (show parseMethodDescriptor "(I)C" = some ⟨[.int], some .char⟩ by decide +kernel) rfl (charW_met hw hcs hfm hu U (i := 1) (nle rfl)) (fun _ q => nomatch q) rfl rfl rfl (by decide) ⟨⟨nle rfl, nle rfl⟩, nle rfl, nle rfl⟩ ?_
            intro v67 h68 hq69 _
            obtain ⟨rfl, rfl⟩ := hq69
            show WlO _ _ _ _ _ _ _ _ _ _ _ _ _ _ _ _ _ _ [.int k1, .int t1]
            by_cases c70 : t1 = k1
            · refine Wl.icmpY 86 d9_81 (teq c70).1 ?_
              refine Wl.iinc 89 #[.val (.ref a), .val (.ref y), .val (.int (2 : Int32)), .val (.int t1), .val (.int t1)] (1 : Int32) d9_86 (by decide) rfl rfl ?_
              refine Wl.goto 28 d9_89 ?_
              refine Wl.iload_n 29 d9_28 rfl ?_
              refine Wl.aload_n 30 d9_29 rfl rfl ?_
              refine Wl.getfield 33 d9_30 (w50 hw) F2 ?_
              refine Wl.virtual 36 (argsL := []) d9_33 (w62 hw) (w63 hw) (w65 hw) (w64 hw) (w16 hw) (w66 hw) (nf_sel (w65 hw) rfl) (S).exa (show parseMethodDescriptor "()I" = some ⟨[], some .int⟩ by decide +kernel) rfl (lenW_met hw hcs S) (fun _ q => nomatch q) rfl rfl rfl (by decide) ⟨⟨nle rfl, nle rfl⟩, nle rfl, nle rfl⟩ ?_
              intro v71 h72 hq73 _
              obtain ⟨rfl, rfl⟩ := hq73
              show WlO _ _ _ _ _ _ _ _ _ _ _ _ _ _ _ _ _ _ [.int (2 : Int32), .int (2 : Int32)]
              refine Wl.icmpY 92 d9_36 (flt (by decide)).2.1 ?_
              refine Wl.iconst 93 (1 : Int32) d9_92 (by decide) ?_
              exact Wl.ireturn d9_93 rfl rfl (by simp) (nle rfl) (nle rfl) ⟨by rw [show kwI [(t0, k0), (t1, k1)] = (1 : Int32) from (kw_1 (sb1 lt0 lk0 wk0 c51) (kw_1 (sb1 lt1 lk1 wk1 c70) rfl))], rfl⟩
            · refine Wl.icmpN 84 d9_81 (feq c70).1 ?_
              refine Wl.iconst 85 (0 : Int32) d9_84 (by decide) ?_
              exact Wl.ireturn d9_85 rfl rfl (by simp) (nle rfl) (nle rfl) ⟨by rw [show kwI [(t0, k0), (t1, k1)] = (0 : Int32) from (kw_1 (sb1 lt0 lk0 wk0 c51) (kw_0 (sc0 lt1 lk1 wk1 c66 c70)))], rfl⟩
          · refine Wl.icmpN 60 d9_57 (flt c66).2.2.1 ?_
            refine Wl.iload_n 61 d9_60 rfl ?_
            refine Wl.bipush 63 (97 : Int32) d9_61 (by decide) ?_
            refine Wl.isub 64 d9_63 ?_
            refine Wl.bipush 66 (65 : Int32) d9_64 (by decide) ?_
            refine Wl.iadd 67 d9_66 ?_
            refine Wl.i2c 68 d9_67 ?_
            refine Wl.goto 72 d9_68 ?_
            refine Wl.istore 74 #[.val (.ref a), .val (.ref y), .val (.int (1 : Int32)), .val (.int t1), .val (.int ((((t1 - (97 : Int32)) + (65 : Int32))).toUInt32.toUInt16.toUInt32.toInt32))] d9_72 rfl ?_
            refine Wl.iload 76 d9_74 rfl ?_
            refine Wl.aload_n 77 d9_76 rfl rfl ?_
            refine Wl.iload_n 78 d9_77 rfl ?_
            refine Wl.virtual 81 (argsL := [.int (1 : Int32)]) d9_78 (w90 hw) (w91 hw) (w93 hw) (w92 hw) (w16 hw) (w94 hw) (nf_sel (w93 hw) rfl) (U).exa (show parseMethodDescriptor "(I)C" = some ⟨[.int], some .char⟩ by decide +kernel) rfl (charW_met hw hcs hfm hu U (i := 1) (nle rfl)) (fun _ q => nomatch q) rfl rfl rfl (by decide) ⟨⟨nle rfl, nle rfl⟩, nle rfl, nle rfl⟩ ?_
            intro v74 h75 hq76 _
            obtain ⟨rfl, rfl⟩ := hq76
            show WlO _ _ _ _ _ _ _ _ _ _ _ _ _ _ _ _ _ _ [.int k1, .int ((((t1 - (97 : Int32)) + (65 : Int32))).toUInt32.toUInt16.toUInt32.toInt32)]
            by_cases c77 : (((t1 - (97 : Int32)) + (65 : Int32))).toUInt32.toUInt16.toUInt32.toInt32 = k1
            · refine Wl.icmpY 86 d9_81 (teq c77).1 ?_
              refine Wl.iinc 89 #[.val (.ref a), .val (.ref y), .val (.int (2 : Int32)), .val (.int t1), .val (.int ((((t1 - (97 : Int32)) + (65 : Int32))).toUInt32.toUInt16.toUInt32.toInt32))] (1 : Int32) d9_86 (by decide) rfl rfl ?_
              refine Wl.goto 28 d9_89 ?_
              refine Wl.iload_n 29 d9_28 rfl ?_
              refine Wl.aload_n 30 d9_29 rfl rfl ?_
              refine Wl.getfield 33 d9_30 (w50 hw) F2 ?_
              refine Wl.virtual 36 (argsL := []) d9_33 (w62 hw) (w63 hw) (w65 hw) (w64 hw) (w16 hw) (w66 hw) (nf_sel (w65 hw) rfl) (S).exa (show parseMethodDescriptor "()I" = some ⟨[], some .int⟩ by decide +kernel) rfl (lenW_met hw hcs S) (fun _ q => nomatch q) rfl rfl rfl (by decide) ⟨⟨nle rfl, nle rfl⟩, nle rfl, nle rfl⟩ ?_
              intro v78 h79 hq80 _
              obtain ⟨rfl, rfl⟩ := hq80
              show WlO _ _ _ _ _ _ _ _ _ _ _ _ _ _ _ _ _ _ [.int (2 : Int32), .int (2 : Int32)]
              refine Wl.icmpY 92 d9_36 (flt (by decide)).2.1 ?_
              refine Wl.iconst 93 (1 : Int32) d9_92 (by decide) ?_
              exact Wl.ireturn d9_93 rfl rfl (by simp) (nle rfl) (nle rfl) ⟨by rw [show kwI [(t0, k0), (t1, k1)] = (1 : Int32) from (kw_1 (sb1 lt0 lk0 wk0 c51) (kw_1 (sa1 lt1 lk1 wk1 c58 c66 c77) rfl))], rfl⟩
            · refine Wl.icmpN 84 d9_81 (feq c77).1 ?_
              refine Wl.iconst 85 (0 : Int32) d9_84 (by decide) ?_
              exact Wl.ireturn d9_85 rfl rfl (by simp) (nle rfl) (nle rfl) ⟨by rw [show kwI [(t0, k0), (t1, k1)] = (0 : Int32) from (kw_1 (sb1 lt0 lk0 wk0 c51) (kw_0 (sa0 lt1 lk1 wk1 c58 c66 c77)))], rfl⟩
      · refine Wl.icmpN 84 d9_81 (feq c51).1 ?_
        refine Wl.iconst 85 (0 : Int32) d9_84 (by decide) ?_
        exact Wl.ireturn d9_85 rfl rfl (by simp) (nle rfl) (nle rfl) ⟨by rw [show kwI [(t0, k0), (t1, k1)] = (0 : Int32) from (kw_0 (sc0 lt0 lk0 wk0 c47 c51))], rfl⟩
    · refine Wl.icmpN 60 d9_57 (flt c47).2.2.1 ?_
      refine Wl.iload_n 61 d9_60 rfl ?_
      refine Wl.bipush 63 (97 : Int32) d9_61 (by decide) ?_
      refine Wl.isub 64 d9_63 ?_
      refine Wl.bipush 66 (65 : Int32) d9_64 (by decide) ?_
      refine Wl.iadd 67 d9_66 ?_
      refine Wl.i2c 68 d9_67 ?_
      refine Wl.goto 72 d9_68 ?_
      refine Wl.istore 74 #[.val (.ref a), .val (.ref y), .val (.int (0 : Int32)), .val (.int t0), .val (.int ((((t0 - (97 : Int32)) + (65 : Int32))).toUInt32.toUInt16.toUInt32.toInt32))] d9_72 rfl ?_
      refine Wl.iload 76 d9_74 rfl ?_
      refine Wl.aload_n 77 d9_76 rfl rfl ?_
      refine Wl.iload_n 78 d9_77 rfl ?_
      refine Wl.virtual 81 (argsL := [.int (0 : Int32)]) d9_78 (w90 hw) (w91 hw) (w93 hw) (w92 hw) (w16 hw) (w94 hw) (nf_sel (w93 hw) rfl) (U).exa (show parseMethodDescriptor "(I)C" = some ⟨[.int], some .char⟩ by decide +kernel) rfl (charW_met hw hcs hfm hu U (i := 0) (nle rfl)) (fun _ q => nomatch q) rfl rfl rfl (by decide) ⟨⟨nle rfl, nle rfl⟩, nle rfl, nle rfl⟩ ?_
      intro v81 h82 hq83 _
      obtain ⟨rfl, rfl⟩ := hq83
      show WlO _ _ _ _ _ _ _ _ _ _ _ _ _ _ _ _ _ _ [.int k0, .int ((((t0 - (97 : Int32)) + (65 : Int32))).toUInt32.toUInt16.toUInt32.toInt32)]
      by_cases c84 : (((t0 - (97 : Int32)) + (65 : Int32))).toUInt32.toUInt16.toUInt32.toInt32 = k0
      · refine Wl.icmpY 86 d9_81 (teq c84).1 ?_
        refine Wl.iinc 89 #[.val (.ref a), .val (.ref y), .val (.int (1 : Int32)), .val (.int t0), .val (.int ((((t0 - (97 : Int32)) + (65 : Int32))).toUInt32.toUInt16.toUInt32.toInt32))] (1 : Int32) d9_86 (by decide) rfl rfl ?_
        refine Wl.goto 28 d9_89 ?_
        refine Wl.iload_n 29 d9_28 rfl ?_
        refine Wl.aload_n 30 d9_29 rfl rfl ?_
        refine Wl.getfield 33 d9_30 (w50 hw) F2 ?_
        refine Wl.virtual 36 (argsL := []) d9_33 (w62 hw) (w63 hw) (w65 hw) (w64 hw) (w16 hw) (w66 hw) (nf_sel (w65 hw) rfl) (S).exa (show parseMethodDescriptor "()I" = some ⟨[], some .int⟩ by decide +kernel) rfl (lenW_met hw hcs S) (fun _ q => nomatch q) rfl rfl rfl (by decide) ⟨⟨nle rfl, nle rfl⟩, nle rfl, nle rfl⟩ ?_
        intro v85 h86 hq87 _
        obtain ⟨rfl, rfl⟩ := hq87
        show WlO _ _ _ _ _ _ _ _ _ _ _ _ _ _ _ _ _ _ [.int (2 : Int32), .int (1 : Int32)]
        refine Wl.icmpN 39 d9_36 (tlt (by decide)).2.1 ?_
        refine Wl.aload_n 40 d9_39 rfl rfl ?_
        refine Wl.getfield 43 d9_40 (w50 hw) F2 ?_
        refine Wl.iload_n 44 d9_43 rfl ?_
        refine Wl.virtual 47 (argsL := [.int (1 : Int32)]) d9_44 (w90 hw) (w91 hw) (w93 hw) (w92 hw) (w16 hw) (w94 hw) (nf_sel (w93 hw) rfl) (S).exa (show parseMethodDescriptor "(I)C" = some ⟨[.int], some .char⟩ by decide +kernel) rfl (charW_met hw hcs hfm hu S (i := 1) (nle rfl)) (fun _ q => nomatch q) rfl rfl rfl (by decide) ⟨⟨nle rfl, nle rfl⟩, nle rfl, nle rfl⟩ ?_
        intro v88 h89 hq90 _
        obtain ⟨rfl, rfl⟩ := hq90
        show WlO _ _ _ _ _ _ _ _ _ _ _ _ _ _ _ _ _ _ [.int t1]
        refine Wl.istore_n 48 #[.val (.ref a), .val (.ref y), .val (.int (1 : Int32)), .val (.int t1), .val (.int ((((t0 - (97 : Int32)) + (65 : Int32))).toUInt32.toUInt16.toUInt32.toInt32))] d9_47 rfl ?_
        refine Wl.iload_n 49 d9_48 rfl ?_
        refine Wl.bipush 51 (97 : Int32) d9_49 (by decide) ?_
        by_cases c91 : t1 < (97 : Int32)
        · refine Wl.icmpY 71 d9_51 (tlt c91).1 ?_
          refine Wl.iload_n 72 d9_71 rfl ?_
          refine Wl.istore 74 #[.val (.ref a), .val (.ref y), .val (.int (1 : Int32)), .val (.int t1), .val (.int t1)] d9_72 rfl ?_
          refine Wl.iload 76 d9_74 rfl ?_
          refine Wl.aload_n 77 d9_76 rfl rfl ?_
          refine Wl.iload_n 78 d9_77 rfl ?_
          refine Wl.virtual 81 (argsL := [.int (1 : Int32)]) d9_78 (w90 hw) (w91 hw) (w93 hw) (w92 hw) (w16 hw) (w94 hw) (nf_sel (w93 hw) rfl) (U).exa (show parseMethodDescriptor "(I)C" = some ⟨[.int], some .char⟩ by decide +kernel) rfl (charW_met hw hcs hfm hu U (i := 1) (nle rfl)) (fun _ q => nomatch q) rfl rfl rfl (by decide) ⟨⟨nle rfl, nle rfl⟩, nle rfl, nle rfl⟩ ?_
          intro v92 h93 hq94 _
          obtain ⟨rfl, rfl⟩ := hq94
          show WlO _ _ _ _ _ _ _ _ _ _ _ _ _ _ _ _ _ _ [.int k1, .int t1]
          by_cases c95 : t1 = k1
          · refine Wl.icmpY 86 d9_81 (teq c95).1 ?_
            refine Wl.iinc 89 #[.val (.ref a), .val (.ref y), .val (.int (2 : Int32)), .val (.int t1), .val (.int t1)] (1 : Int32) d9_86 (by decide) rfl rfl ?_
            refine Wl.goto 28 d9_89 ?_
            refine Wl.iload_n 29 d9_28 rfl ?_
            refine Wl.aload_n 30 d9_29 rfl rfl ?_
            refine Wl.getfield 33 d9_30 (w50 hw) F2 ?_
            refine Wl.virtual 36 (argsL := []) d9_33 (w62 hw) (w63 hw) (w65 hw) (w64 hw) (w16 hw) (w66 hw) (nf_sel (w65 hw) rfl) (S).exa (show parseMethodDescriptor "()I" = some ⟨[], some .int⟩ by decide +kernel) rfl (lenW_met hw hcs S) (fun _ q => nomatch q) rfl rfl rfl (by decide) ⟨⟨nle rfl, nle rfl⟩, nle rfl, nle rfl⟩ ?_
            intro v96 h97 hq98 _
            obtain ⟨rfl, rfl⟩ := hq98
            show WlO _ _ _ _ _ _ _ _ _ _ _ _ _ _ _ _ _ _ [.int (2 : Int32), .int (2 : Int32)]
            refine Wl.icmpY 92 d9_36 (flt (by decide)).2.1 ?_
            refine Wl.iconst 93 (1 : Int32) d9_92 (by decide) ?_
            exact Wl.ireturn d9_93 rfl rfl (by simp) (nle rfl) (nle rfl) ⟨by rw [show kwI [(t0, k0), (t1, k1)] = (1 : Int32) from (kw_1 (sa1 lt0 lk0 wk0 c13 c47 c84) (kw_1 (sb1 lt1 lk1 wk1 c95) rfl))], rfl⟩
          · refine Wl.icmpN 84 d9_81 (feq c95).1 ?_
            refine Wl.iconst 85 (0 : Int32) d9_84 (by decide) ?_
            exact Wl.ireturn d9_85 rfl rfl (by simp) (nle rfl) (nle rfl) ⟨by rw [show kwI [(t0, k0), (t1, k1)] = (0 : Int32) from (kw_1 (sa1 lt0 lk0 wk0 c13 c47 c84) (kw_0 (sb0 lt1 lk1 wk1 c91 c95)))], rfl⟩
        · refine Wl.icmpN 54 d9_51 (flt c91).1 ?_
          refine Wl.iload_n 55 d9_54 rfl ?_
          refine Wl.bipush 57 (122 : Int32) d9_55 (by decide) ?_
          by_cases c99 : (122 : Int32) < t1
          · refine Wl.icmpY 71 d9_57 (tlt c99).2.2.1 ?_
            refine Wl.iload_n 72 d9_71 rfl ?_
            refine Wl.istore 74 #[.val (.ref a), .val (.ref y), .val (.int (1 : Int32)), .val (.int t1), .val (.int t1)] d9_72 rfl ?_
            refine Wl.iload 76 d9_74 rfl ?_
            refine Wl.aload_n 77 d9_76 rfl rfl ?_
            refine Wl.iload_n 78 d9_77 rfl ?_
            refine Wl.virtual 81 (argsL := [.int (1 : Int32)]) d9_78 (w90 hw) (w91 hw) (w93 hw) (w92 hw) (w16 hw) (w94 hw) (nf_sel (w93 hw) rfl) (U).exa (show parseMethodDescriptor "(I)C" = some ⟨[.int], some .char⟩ by decide +kernel) rfl (charW_met hw hcs hfm hu U (i := 1) (nle rfl)) (fun _ q => nomatch q) rfl rfl rfl (by decide) ⟨⟨nle rfl, nle rfl⟩, nle rfl, nle rfl⟩ ?_
            intro v100 h101 hq102 _
            obtain ⟨rfl, rfl⟩ := hq102
            show WlO _ _ _ _ _ _ _ _ _ _ _ _ _ _ _ _ _ _ [.int k1, .int t1]
            by_cases c103 : t1 = k1
            · refine Wl.icmpY 86 d9_81 (teq c103).1 ?_
              refine Wl.iinc 89 #[.val (.ref a), .val (.ref y), .val (.int (2 : Int32)), .val (.int t1), .val (.int t1)] (1 : Int32) d9_86 (by decide) rfl rfl ?_
              refine Wl.goto 28 d9_89 ?_
              refine Wl.iload_n 29 d9_28 rfl ?_
              refine Wl.aload_n 30 d9_29 rfl rfl ?_
              refine Wl.getfield 33 d9_30 (w50 hw) F2 ?_
              refine Wl.virtual 36 (argsL := []) d9_33 (w62 hw) (w63 hw) (w65 hw) (w64 hw) (w16 hw) (w66 hw) (nf_sel (w65 hw) rfl) (S).exa (show parseMethodDescriptor "()I" = some ⟨[], some .int⟩ by decide +kernel) rfl (lenW_met hw hcs S) (fun _ q => nomatch q) rfl rfl rfl (by decide) ⟨⟨nle rfl, nle rfl⟩, nle rfl, nle rfl⟩ ?_
              intro v104 h105 hq106 _
              obtain ⟨rfl, rfl⟩ := hq106
              show WlO _ _ _ _ _ _ _ _ _ _ _ _ _ _ _ _ _ _ [.int (2 : Int32), .int (2 : Int32)]
              refine Wl.icmpY 92 d9_36 (flt (by decide)).2.1 ?_
              refine Wl.iconst 93 (1 : Int32) d9_92 (by decide) ?_
              exact Wl.ireturn d9_93 rfl rfl (by simp) (nle rfl) (nle rfl) ⟨by rw [show kwI [(t0, k0), (t1, k1)] = (1 : Int32) from (kw_1 (sa1 lt0 lk0 wk0 c13 c47 c84) (kw_1 (sb1 lt1 lk1 wk1 c103) rfl))], rfl⟩
            · refine Wl.icmpN 84 d9_81 (feq c103).1 ?_
              refine Wl.iconst 85 (0 : Int32) d9_84 (by decide) ?_
              exact Wl.ireturn d9_85 rfl rfl (by simp) (nle rfl) (nle rfl) ⟨by rw [show kwI [(t0, k0), (t1, k1)] = (0 : Int32) from (kw_1 (sa1 lt0 lk0 wk0 c13 c47 c84) (kw_0 (sc0 lt1 lk1 wk1 c99 c103)))], rfl⟩
          · refine Wl.icmpN 60 d9_57 (flt c99).2.2.1 ?_
            refine Wl.iload_n 61 d9_60 rfl ?_
            refine Wl.bipush 63 (97 : Int32) d9_61 (by decide) ?_
            refine Wl.isub 64 d9_63 ?_
            refine Wl.bipush 66 (65 : Int32) d9_64 (by decide) ?_
            refine Wl.iadd 67 d9_66 ?_
            refine Wl.i2c 68 d9_67 ?_
            refine Wl.goto 72 d9_68 ?_
            refine Wl.istore 74 #[.val (.ref a), .val (.ref y), .val (.int (1 : Int32)), .val (.int t1), .val (.int ((((t1 - (97 : Int32)) + (65 : Int32))).toUInt32.toUInt16.toUInt32.toInt32))] d9_72 rfl ?_
            refine Wl.iload 76 d9_74 rfl ?_
            refine Wl.aload_n 77 d9_76 rfl rfl ?_
            refine Wl.iload_n 78 d9_77 rfl ?_
            refine Wl.virtual 81 (argsL := [.int (1 : Int32)]) d9_78 (w90 hw) (w91 hw) (w93 hw) (w92 hw) (w16 hw) (w94 hw) (nf_sel (w93 hw) rfl) (U).exa (show parseMethodDescriptor "(I)C" = some ⟨[.int], some .char⟩ by decide +kernel) rfl (charW_met hw hcs hfm hu U (i := 1) (nle rfl)) (fun _ q => nomatch q) rfl rfl rfl (by decide) ⟨⟨nle rfl, nle rfl⟩, nle rfl, nle rfl⟩ ?_
            intro v107 h108 hq109 _
            obtain ⟨rfl, rfl⟩ := hq109
            show WlO _ _ _ _ _ _ _ _ _ _ _ _ _ _ _ _ _ _ [.int k1, .int ((((t1 - (97 : Int32)) + (65 : Int32))).toUInt32.toUInt16.toUInt32.toInt32)]
            by_cases c110 : (((t1 - (97 : Int32)) + (65 : Int32))).toUInt32.toUInt16.toUInt32.toInt32 = k1
            · refine Wl.icmpY 86 d9_81 (teq c110).1 ?_
              refine Wl.iinc 89 #[.val (.ref a), .val (.ref y), .val (.int (2 : Int32)), .val (.int t1), .val (.int ((((t1 - (97 : Int32)) + (65 : Int32))).toUInt32.toUInt16.toUInt32.toInt32))] (1 : Int32) d9_86 (by decide) rfl rfl ?_
              refine Wl.goto 28 d9_89 ?_
              refine Wl.iload_n 29 d9_28 rfl ?_
              refine Wl.aload_n 30 d9_29 rfl rfl ?_
              refine Wl.getfield 33 d9_30 (w50 hw) F2 ?_
              refine Wl.virtual 36 (argsL := []) d9_33 (w62 hw) (w63 hw) (w65 hw) (w64 hw) (w16 hw) (w66 hw) (nf_sel (w65 hw) rfl) (S).exa (show parseMethodDescriptor "()I" = some ⟨[], some .int⟩ by decide +kernel) rfl (lenW_met hw hcs S) (fun _ q => nomatch q) rfl rfl rfl (by decide) ⟨⟨nle rfl, nle rfl⟩, nle rfl, nle rfl⟩ ?_
              intro v111 h112 hq113 _
              obtain ⟨rfl, rfl⟩ := hq113
              show WlO _ _ _ _ _ _ _ _ _ _ _ _ _ _ _ _ _ _ [.int (2 : Int32), .int (2 : Int32)]
              refine Wl.icmpY 92 d9_36 (flt (by decide)).2.1 ?_
              refine Wl.iconst 93 (1 : Int32) d9_92 (by decide) ?_
              exact Wl.ireturn d9_93 rfl rfl (by simp) (nle rfl) (nle rfl) ⟨by rw [show kwI [(t0, k0), (t1, k1)] = (1 : Int32) from (kw_1 (sa1 lt0 lk0 wk0 c13 c47 c84) (kw_1 (sa1 lt1 lk1 wk1 c91 c99 c110) rfl))], rfl⟩
            · refine Wl.icmpN 84 d9_81 (feq c110).1 ?_
              refine Wl.iconst 85 (0 : Int32) d9_84 (by decide) ?_
              exact Wl.ireturn d9_85 rfl rfl (by simp) (nle rfl) (nle rfl) ⟨by rw [show kwI [(t0, k0), (t1, k1)] = (0 : Int32) from (kw_1 (sa1 lt0 lk0 wk0 c13 c47 c84) (kw_0 (sa0 lt1 lk1 wk1 c91 c99 c110)))], rfl⟩
      · refine Wl.icmpN 84 d9_81 (feq c84).1 ?_
        refine Wl.iconst 85 (0 : Int32) d9_84 (by decide) ?_
        exact Wl.ireturn d9_85 rfl rfl (by simp) (nle rfl) (nle rfl) ⟨by rw [show kwI [(t0, k0), (t1, k1)] = (0 : Int32) from (kw_0 (sa0 lt0 lk0 wk0 c13 c47 c84))], rfl⟩
set_option maxRecDepth 65536 in
set_option maxHeartbeats 40000000 in
theorem kw23_met {l : Launch} {Z : State} {a0 : Array Value} (hw : ∀ d ∈ tables_1, d.before a0 Z = true) (hcs : CSon Z) (hfm : Fmt Z) (hu : U16on Z) {h : Heap} {a x y kw ks ki : Addr} {t0 t1 t2 k0 k1 k2 : Int32} (hK : Kinds Z kw ks ki) (lt0 : Ch t0) (lt1 : Ch t1) (lt2 : Ch t2) (lk0 : Ch k0) (lk1 : Ch k1) (lk2 : Ch k2) (wk0 : nlow k0) (wk1 : nlow k1) (wk2 : nlow k2) (F1 : Fld Z h a "com/example/grantwork/grantwork/Token" "kind" "Lcom/example/grantwork/grantwork/Token$Kind;" (.ref kw)) (F2 : Fld Z h a "com/example/grantwork/grantwork/Token" "text" "Ljava/lang/String;" (.ref x)) (S : Stw Z h x [t0, t1]) (U : Stw Z h y [k0, k1, k2]) :
    Met l Z consts_1 ⟨"com/example/grantwork/grantwork/Token", "isKeyword", "(Ljava/lang/String;)Z"⟩ prog_70_method_3_code 5 (some .boolean) [] { frames := 5, cells := 0, slots := 0, locals := 70 } #[.ref a, .ref y] h [] (fun v h' => v = some (.int 0) ∧ h = h') := by
  refine Met.of_walk (a0 := a0) (Ls := #[.val (.ref a), .val (.ref y), .unset, .unset, .unset]) (plainFor_of_name pn_4) (own_hEL hw) rfl ?_
  refine Wl.aload_n 1 d9_0 rfl rfl ?_
  refine Wl.getfield 4 d9_1 (w48 hw) F1 ?_
  refine Wl.getstatic 7 d9_4 (w61 hw) hK.1.1 ?_
  refine Wl.acmp 10 true d9_7 rfl rfl (decide_eq_true rfl) ?_
  refine Wl.aload_n 11 d9_10 rfl rfl ?_
  refine Wl.getfield 14 d9_11 (w50 hw) F2 ?_
  refine Wl.virtual 17 (argsL := []) d9_14 (w62 hw) (w63 hw) (w65 hw) (w64 hw) (w16 hw) (w66 hw) (nf_sel (w65 hw) rfl) (S).exa (show parseMethodDescriptor "()I" = some ⟨[], some .int⟩ by decide +kernel) rfl (lenW_met hw hcs S) (fun _ q => nomatch q) rfl rfl rfl (by decide) ⟨⟨nle rfl, nle rfl⟩, nle rfl, nle rfl⟩ ?_
  intro v1 h2 hq3 _
  obtain ⟨rfl, rfl⟩ := hq3
  show WlO _ _ _ _ _ _ _ _ _ _ _ _ _ _ _ _ _ _ [.int (2 : Int32)]
  refine Wl.aload_n 18 d9_17 rfl rfl ?_
  refine Wl.virtual 21 (argsL := []) d9_18 (w62 hw) (w63 hw) (w65 hw) (w64 hw) (w16 hw) (w66 hw) (nf_sel (w65 hw) rfl) (U).exa (show parseMethodDescriptor "()I" = some ⟨[], some .int⟩ by decide +kernel) rfl (lenW_met hw hcs U) (fun _ q => nomatch q) rfl rfl rfl (by decide) ⟨⟨nle rfl, nle rfl⟩, nle rfl, nle rfl⟩ ?_
  intro v4 h5 hq6 _
  obtain ⟨rfl, rfl⟩ := hq6
  show WlO _ _ _ _ _ _ _ _ _ _ _ _ _ _ _ _ _ _ [.int (3 : Int32), .int (2 : Int32)]
  refine Wl.icmpN 24 d9_21 (feq (by decide)).1 ?_
  refine Wl.iconst 25 (0 : Int32) d9_24 (by decide) ?_
  exact Wl.ireturn d9_25 rfl rfl (by simp) (nle rfl) (nle rfl) ⟨rfl, rfl⟩
set_option maxRecDepth 65536 in
set_option maxHeartbeats 40000000 in
theorem kw30_met {l : Launch} {Z : State} {a0 : Array Value} (hw : ∀ d ∈ tables_1, d.before a0 Z = true) (hcs : CSon Z) (hfm : Fmt Z) (hu : U16on Z) {h : Heap} {a x y kw ks ki : Addr} {t0 t1 t2 k0 k1 k2 : Int32} (hK : Kinds Z kw ks ki) (lt0 : Ch t0) (lt1 : Ch t1) (lt2 : Ch t2) (lk0 : Ch k0) (lk1 : Ch k1) (lk2 : Ch k2) (wk0 : nlow k0) (wk1 : nlow k1) (wk2 : nlow k2) (F1 : Fld Z h a "com/example/grantwork/grantwork/Token" "kind" "Lcom/example/grantwork/grantwork/Token$Kind;" (.ref kw)) (F2 : Fld Z h a "com/example/grantwork/grantwork/Token" "text" "Ljava/lang/String;" (.ref x)) (S : Stw Z h x [t0, t1, t2]) (U : Stw Z h y []) :
    Met l Z consts_1 ⟨"com/example/grantwork/grantwork/Token", "isKeyword", "(Ljava/lang/String;)Z"⟩ prog_70_method_3_code 5 (some .boolean) [] { frames := 5, cells := 0, slots := 0, locals := 70 } #[.ref a, .ref y] h [] (fun v h' => v = some (.int 0) ∧ h = h') := by
  refine Met.of_walk (a0 := a0) (Ls := #[.val (.ref a), .val (.ref y), .unset, .unset, .unset]) (plainFor_of_name pn_4) (own_hEL hw) rfl ?_
  refine Wl.aload_n 1 d9_0 rfl rfl ?_
  refine Wl.getfield 4 d9_1 (w48 hw) F1 ?_
  refine Wl.getstatic 7 d9_4 (w61 hw) hK.1.1 ?_
  refine Wl.acmp 10 true d9_7 rfl rfl (decide_eq_true rfl) ?_
  refine Wl.aload_n 11 d9_10 rfl rfl ?_
  refine Wl.getfield 14 d9_11 (w50 hw) F2 ?_
  refine Wl.virtual 17 (argsL := []) d9_14 (w62 hw) (w63 hw) (w65 hw) (w64 hw) (w16 hw) (w66 hw) (nf_sel (w65 hw) rfl) (S).exa (show parseMethodDescriptor "()I" = some ⟨[], some .int⟩ by decide +kernel) rfl (lenW_met hw hcs S) (fun _ q => nomatch q) rfl rfl rfl (by decide) ⟨⟨nle rfl, nle rfl⟩, nle rfl, nle rfl⟩ ?_
  intro v1 h2 hq3 _
  obtain ⟨rfl, rfl⟩ := hq3
  show WlO _ _ _ _ _ _ _ _ _ _ _ _ _ _ _ _ _ _ [.int (3 : Int32)]
  refine Wl.aload_n 18 d9_17 rfl rfl ?_
  refine Wl.virtual 21 (argsL := []) d9_18 (w62 hw) (w63 hw) (w65 hw) (w64 hw) (w16 hw) (w66 hw) (nf_sel (w65 hw) rfl) (U).exa (show parseMethodDescriptor "()I" = some ⟨[], some .int⟩ by decide +kernel) rfl (lenW_met hw hcs U) (fun _ q => nomatch q) rfl rfl rfl (by decide) ⟨⟨nle rfl, nle rfl⟩, nle rfl, nle rfl⟩ ?_
  intro v4 h5 hq6 _
  obtain ⟨rfl, rfl⟩ := hq6
  show WlO _ _ _ _ _ _ _ _ _ _ _ _ _ _ _ _ _ _ [.int (0 : Int32), .int (3 : Int32)]
  refine Wl.icmpN 24 d9_21 (feq (by decide)).1 ?_
  refine Wl.iconst 25 (0 : Int32) d9_24 (by decide) ?_
  exact Wl.ireturn d9_25 rfl rfl (by simp) (nle rfl) (nle rfl) ⟨rfl, rfl⟩
set_option maxRecDepth 65536 in
set_option maxHeartbeats 40000000 in
theorem kw31_met {l : Launch} {Z : State} {a0 : Array Value} (hw : ∀ d ∈ tables_1, d.before a0 Z = true) (hcs : CSon Z) (hfm : Fmt Z) (hu : U16on Z) {h : Heap} {a x y kw ks ki : Addr} {t0 t1 t2 k0 k1 k2 : Int32} (hK : Kinds Z kw ks ki) (lt0 : Ch t0) (lt1 : Ch t1) (lt2 : Ch t2) (lk0 : Ch k0) (lk1 : Ch k1) (lk2 : Ch k2) (wk0 : nlow k0) (wk1 : nlow k1) (wk2 : nlow k2) (F1 : Fld Z h a "com/example/grantwork/grantwork/Token" "kind" "Lcom/example/grantwork/grantwork/Token$Kind;" (.ref kw)) (F2 : Fld Z h a "com/example/grantwork/grantwork/Token" "text" "Ljava/lang/String;" (.ref x)) (S : Stw Z h x [t0, t1, t2]) (U : Stw Z h y [k0]) :
    Met l Z consts_1 ⟨"com/example/grantwork/grantwork/Token", "isKeyword", "(Ljava/lang/String;)Z"⟩ prog_70_method_3_code 5 (some .boolean) [] { frames := 5, cells := 0, slots := 0, locals := 70 } #[.ref a, .ref y] h [] (fun v h' => v = some (.int 0) ∧ h = h') := by
  refine Met.of_walk (a0 := a0) (Ls := #[.val (.ref a), .val (.ref y), .unset, .unset, .unset]) (plainFor_of_name pn_4) (own_hEL hw) rfl ?_
  refine Wl.aload_n 1 d9_0 rfl rfl ?_
  refine Wl.getfield 4 d9_1 (w48 hw) F1 ?_
  refine Wl.getstatic 7 d9_4 (w61 hw) hK.1.1 ?_
  refine Wl.acmp 10 true d9_7 rfl rfl (decide_eq_true rfl) ?_
  refine Wl.aload_n 11 d9_10 rfl rfl ?_
  refine Wl.getfield 14 d9_11 (w50 hw) F2 ?_
  refine Wl.virtual 17 (argsL := []) d9_14 (w62 hw) (w63 hw) (w65 hw) (w64 hw) (w16 hw) (w66 hw) (nf_sel (w65 hw) rfl) (S).exa (show parseMethodDescriptor "()I" = some ⟨[], some .int⟩ by decide +kernel) rfl (lenW_met hw hcs S) (fun _ q => nomatch q) rfl rfl rfl (by decide) ⟨⟨nle rfl, nle rfl⟩, nle rfl, nle rfl⟩ ?_
  intro v1 h2 hq3 _
  obtain ⟨rfl, rfl⟩ := hq3
  show WlO _ _ _ _ _ _ _ _ _ _ _ _ _ _ _ _ _ _ [.int (3 : Int32)]
  refine Wl.aload_n 18 d9_17 rfl rfl ?_
  refine Wl.virtual 21 (argsL := []) d9_18 (w62 hw) (w63 hw) (w65 hw) (w64 hw) (w16 hw) (w66 hw) (nf_sel (w65 hw) rfl) (U).exa (show parseMethodDescriptor "()I" = some ⟨[], some .int⟩ by decide +kernel) rfl (lenW_met hw hcs U) (fun _ q => nomatch q) rfl rfl rfl (by decide) ⟨⟨nle rfl, nle rfl⟩, nle rfl, nle rfl⟩ ?_
  intro v4 h5 hq6 _
  obtain ⟨rfl, rfl⟩ := hq6
  show WlO _ _ _ _ _ _ _ _ _ _ _ _ _ _ _ _ _ _ [.int (1 : Int32), .int (3 : Int32)]
  refine Wl.icmpN 24 d9_21 (feq (by decide)).1 ?_
  refine Wl.iconst 25 (0 : Int32) d9_24 (by decide) ?_
  exact Wl.ireturn d9_25 rfl rfl (by simp) (nle rfl) (nle rfl) ⟨rfl, rfl⟩
set_option maxRecDepth 65536 in
set_option maxHeartbeats 40000000 in
theorem kw32_met {l : Launch} {Z : State} {a0 : Array Value} (hw : ∀ d ∈ tables_1, d.before a0 Z = true) (hcs : CSon Z) (hfm : Fmt Z) (hu : U16on Z) {h : Heap} {a x y kw ks ki : Addr} {t0 t1 t2 k0 k1 k2 : Int32} (hK : Kinds Z kw ks ki) (lt0 : Ch t0) (lt1 : Ch t1) (lt2 : Ch t2) (lk0 : Ch k0) (lk1 : Ch k1) (lk2 : Ch k2) (wk0 : nlow k0) (wk1 : nlow k1) (wk2 : nlow k2) (F1 : Fld Z h a "com/example/grantwork/grantwork/Token" "kind" "Lcom/example/grantwork/grantwork/Token$Kind;" (.ref kw)) (F2 : Fld Z h a "com/example/grantwork/grantwork/Token" "text" "Ljava/lang/String;" (.ref x)) (S : Stw Z h x [t0, t1, t2]) (U : Stw Z h y [k0, k1]) :
    Met l Z consts_1 ⟨"com/example/grantwork/grantwork/Token", "isKeyword", "(Ljava/lang/String;)Z"⟩ prog_70_method_3_code 5 (some .boolean) [] { frames := 5, cells := 0, slots := 0, locals := 70 } #[.ref a, .ref y] h [] (fun v h' => v = some (.int 0) ∧ h = h') := by
  refine Met.of_walk (a0 := a0) (Ls := #[.val (.ref a), .val (.ref y), .unset, .unset, .unset]) (plainFor_of_name pn_4) (own_hEL hw) rfl ?_
  refine Wl.aload_n 1 d9_0 rfl rfl ?_
  refine Wl.getfield 4 d9_1 (w48 hw) F1 ?_
  refine Wl.getstatic 7 d9_4 (w61 hw) hK.1.1 ?_
  refine Wl.acmp 10 true d9_7 rfl rfl (decide_eq_true rfl) ?_
  refine Wl.aload_n 11 d9_10 rfl rfl ?_
  refine Wl.getfield 14 d9_11 (w50 hw) F2 ?_
  refine Wl.virtual 17 (argsL := []) d9_14 (w62 hw) (w63 hw) (w65 hw) (w64 hw) (w16 hw) (w66 hw) (nf_sel (w65 hw) rfl) (S).exa (show parseMethodDescriptor "()I" = some ⟨[], some .int⟩ by decide +kernel) rfl (lenW_met hw hcs S) (fun _ q => nomatch q) rfl rfl rfl (by decide) ⟨⟨nle rfl, nle rfl⟩, nle rfl, nle rfl⟩ ?_
  intro v1 h2 hq3 _
  obtain ⟨rfl, rfl⟩ := hq3
  show WlO _ _ _ _ _ _ _ _ _ _ _ _ _ _ _ _ _ _ [.int (3 : Int32)]
  refine Wl.aload_n 18 d9_17 rfl rfl ?_
  refine Wl.virtual 21 (argsL := []) d9_18 (w62 hw) (w63 hw) (w65 hw) (w64 hw) (w16 hw) (w66 hw) (nf_sel (w65 hw) rfl) (U).exa (show parseMethodDescriptor "()I" = some ⟨[], some .int⟩ by decide +kernel) rfl (lenW_met hw hcs U) (fun _ q => nomatch q) rfl rfl rfl (by decide) ⟨⟨nle rfl, nle rfl⟩, nle rfl, nle rfl⟩ ?_
  intro v4 h5 hq6 _
  obtain ⟨rfl, rfl⟩ := hq6
  show WlO _ _ _ _ _ _ _ _ _ _ _ _ _ _ _ _ _ _ [.int (2 : Int32), .int (3 : Int32)]
  refine Wl.icmpN 24 d9_21 (feq (by decide)).1 ?_
  refine Wl.iconst 25 (0 : Int32) d9_24 (by decide) ?_
  exact Wl.ireturn d9_25 rfl rfl (by simp) (nle rfl) (nle rfl) ⟨rfl, rfl⟩
set_option maxRecDepth 65536 in
set_option maxHeartbeats 40000000 in
theorem kw33_met {l : Launch} {Z : State} {a0 : Array Value} (hw : ∀ d ∈ tables_1, d.before a0 Z = true) (hcs : CSon Z) (hfm : Fmt Z) (hu : U16on Z) {h : Heap} {a x y kw ks ki : Addr} {t0 t1 t2 k0 k1 k2 : Int32} (hK : Kinds Z kw ks ki) (lt0 : Ch t0) (lt1 : Ch t1) (lt2 : Ch t2) (lk0 : Ch k0) (lk1 : Ch k1) (lk2 : Ch k2) (wk0 : nlow k0) (wk1 : nlow k1) (wk2 : nlow k2) (F1 : Fld Z h a "com/example/grantwork/grantwork/Token" "kind" "Lcom/example/grantwork/grantwork/Token$Kind;" (.ref kw)) (F2 : Fld Z h a "com/example/grantwork/grantwork/Token" "text" "Ljava/lang/String;" (.ref x)) (S : Stw Z h x [t0, t1, t2]) (U : Stw Z h y [k0, k1, k2]) :
    Met l Z consts_1 ⟨"com/example/grantwork/grantwork/Token", "isKeyword", "(Ljava/lang/String;)Z"⟩ prog_70_method_3_code 5 (some .boolean) [] { frames := 5, cells := 0, slots := 0, locals := 70 } #[.ref a, .ref y] h [] (fun v h' => v = some (.int (kwI [(t0, k0), (t1, k1), (t2, k2)])) ∧ h = h') := by
  refine Met.of_walk (a0 := a0) (Ls := #[.val (.ref a), .val (.ref y), .unset, .unset, .unset]) (plainFor_of_name pn_4) (own_hEL hw) rfl ?_
  refine Wl.aload_n 1 d9_0 rfl rfl ?_
  refine Wl.getfield 4 d9_1 (w48 hw) F1 ?_
  refine Wl.getstatic 7 d9_4 (w61 hw) hK.1.1 ?_
  refine Wl.acmp 10 true d9_7 rfl rfl (decide_eq_true rfl) ?_
  refine Wl.aload_n 11 d9_10 rfl rfl ?_
  refine Wl.getfield 14 d9_11 (w50 hw) F2 ?_
  refine Wl.virtual 17 (argsL := []) d9_14 (w62 hw) (w63 hw) (w65 hw) (w64 hw) (w16 hw) (w66 hw) (nf_sel (w65 hw) rfl) (S).exa (show parseMethodDescriptor "()I" = some ⟨[], some .int⟩ by decide +kernel) rfl (lenW_met hw hcs S) (fun _ q => nomatch q) rfl rfl rfl (by decide) ⟨⟨nle rfl, nle rfl⟩, nle rfl, nle rfl⟩ ?_
  intro v1 h2 hq3 _
  obtain ⟨rfl, rfl⟩ := hq3
  show WlO _ _ _ _ _ _ _ _ _ _ _ _ _ _ _ _ _ _ [.int (3 : Int32)]
  refine Wl.aload_n 18 d9_17 rfl rfl ?_
  refine Wl.virtual 21 (argsL := []) d9_18 (w62 hw) (w63 hw) (w65 hw) (w64 hw) (w16 hw) (w66 hw) (nf_sel (w65 hw) rfl) (U).exa (show parseMethodDescriptor "()I" = some ⟨[], some .int⟩ by decide +kernel) rfl (lenW_met hw hcs U) (fun _ q => nomatch q) rfl rfl rfl (by decide) ⟨⟨nle rfl, nle rfl⟩, nle rfl, nle rfl⟩ ?_
  intro v4 h5 hq6 _
  obtain ⟨rfl, rfl⟩ := hq6
  show WlO _ _ _ _ _ _ _ _ _ _ _ _ _ _ _ _ _ _ [.int (3 : Int32), .int (3 : Int32)]
  refine Wl.icmpY 26 d9_21 (teq (by decide)).1 ?_
  refine Wl.iconst 27 (0 : Int32) d9_26 (by decide) ?_
  refine Wl.istore_n 28 #[.val (.ref a), .val (.ref y), .val (.int (0 : Int32)), .unset, .unset] d9_27 rfl ?_
  refine Wl.iload_n 29 d9_28 rfl ?_
  refine Wl.aload_n 30 d9_29 rfl rfl ?_
  refine Wl.getfield 33 d9_30 (w50 hw) F2 ?_
  refine Wl.virtual 36 (argsL := []) d9_33 (w62 hw) (w63 hw) (w65 hw) (w64 hw) (w16 hw) (w66 hw) (nf_sel (w65 hw) rfl) (S).exa (show parseMethodDescriptor "()I" = some ⟨[], some .int⟩ by decide +kernel) rfl (lenW_met hw hcs S) (fun _ q => nomatch q) rfl rfl rfl (by decide) ⟨⟨nle rfl, nle rfl⟩, nle rfl, nle rfl⟩ ?_
  intro v7 h8 hq9 _
  obtain ⟨rfl, rfl⟩ := hq9
  show WlO _ _ _ _ _ _ _ _ _ _ _ _ _ _ _ _ _ _ [.int (3 : Int32), .int (0 : Int32)]
  refine Wl.icmpN 39 d9_36 (tlt (by decide)).2.1 ?_
  refine Wl.aload_n 40 d9_39 rfl rfl ?_
  refine Wl.getfield 43 d9_40 (w50 hw) F2 ?_
  refine Wl.iload_n 44 d9_43 rfl ?_
  refine Wl.virtual 47 (argsL := [.int (0 : Int32)]) d9_44 (w90 hw) (w91 hw) (w93 hw) (w92 hw) (w16 hw) (w94 hw) (nf_sel (w93 hw) rfl) (S).exa (show parseMethodDescriptor "(I)C" = some ⟨[.int], some .char⟩ by decide +kernel) rfl (charW_met hw hcs hfm hu S (i := 0) (nle rfl)) (fun _ q => nomatch q) rfl rfl rfl (by decide) ⟨⟨nle rfl, nle rfl⟩, nle rfl, nle rfl⟩ ?_
  intro v10 h11 hq12 _
  obtain ⟨rfl, rfl⟩ := hq12
  show WlO _ _ _ _ _ _ _ _ _ _ _ _ _ _ _ _ _ _ [.int t0]
  refine Wl.istore_n 48 #[.val (.ref a), .val (.ref y), .val (.int (0 : Int32)), .val (.int t0), .unset] d9_47 rfl ?_
  refine Wl.iload_n 49 d9_48 rfl ?_
  refine Wl.bipush 51 (97 : Int32) d9_49 (by decide) ?_
  by_cases c13 : t0 < (97 : Int32)
  · refine Wl.icmpY 71 d9_51 (tlt c13).1 ?_
    refine Wl.iload_n 72 d9_71 rfl ?_
    refine Wl.istore 74 #[.val (.ref a), .val (.ref y), .val (.int (0 : Int32)), .val (.int t0), .val (.int t0)] d9_72 rfl ?_
    refine Wl.iload 76 d9_74 rfl ?_
    refine Wl.aload_n 77 d9_76 rfl rfl ?_
    refine Wl.iload_n 78 d9_77 rfl ?_
    refine Wl.virtual 81 (argsL := [.int (0 : Int32)]) d9_78 (w90 hw) (w91 hw) (w93 hw) (w92 hw) (w16 hw) (w94 hw) (nf_sel (w93 hw) rfl) (U).exa (show parseMethodDescriptor "(I)C" = some ⟨[.int], some .char⟩ by decide +kernel) rfl (charW_met hw hcs hfm hu U (i := 0) (nle rfl)) (fun _ q => nomatch q) rfl rfl rfl (by decide) ⟨⟨nle rfl, nle rfl⟩, nle rfl, nle rfl⟩ ?_
    intro v14 h15 hq16 _
    obtain ⟨rfl, rfl⟩ := hq16
    show WlO _ _ _ _ _ _ _ _ _ _ _ _ _ _ _ _ _ _ [.int k0, .int t0]
    by_cases c17 : t0 = k0
    · refine Wl.icmpY 86 d9_81 (teq c17).1 ?_
      refine Wl.iinc 89 #[.val (.ref a), .val (.ref y), .val (.int (1 : Int32)), .val (.int t0), .val (.int t0)] (1 : Int32) d9_86 (by decide) rfl rfl ?_
      refine Wl.goto 28 d9_89 ?_
      refine Wl.iload_n 29 d9_28 rfl ?_
      refine Wl.aload_n 30 d9_29 rfl rfl ?_
      refine Wl.getfield 33 d9_30 (w50 hw) F2 ?_
      refine Wl.virtual 36 (argsL := []) d9_33 (w62 hw) (w63 hw) (w65 hw) (w64 hw) (w16 hw) (w66 hw) (nf_sel (w65 hw) rfl) (S).exa (show parseMethodDescriptor "()I" = some ⟨[], some .int⟩ by decide +kernel) rfl (lenW_met hw hcs S) (fun _ q => nomatch q) rfl rfl rfl (by decide) ⟨⟨nle rfl, nle rfl⟩, nle rfl, nle rfl⟩ ?_
      intro v18 h19 hq20 _
      obtain ⟨rfl, rfl⟩ := hq20
      show WlO _ _ _ _ _ _ _ _ _ _ _ _ _ _ _ _ _ _ [.int (3 : Int32), .int (1 : Int32)]
      refine Wl.icmpN 39 d9_36 (tlt (by decide)).2.1 ?_
      refine Wl.aload_n 40 d9_39 rfl rfl ?_
      refine Wl.getfield 43 d9_40 (w50 hw) F2 ?_
      refine Wl.iload_n 44 d9_43 rfl ?_
      refine Wl.virtual 47 (argsL := [.int (1 : Int32)]) d9_44 (w90 hw) (w91 hw) (w93 hw) (w92 hw) (w16 hw) (w94 hw) (nf_sel (w93 hw) rfl) (S).exa (show parseMethodDescriptor "(I)C" = some ⟨[.int], some .char⟩ by decide +kernel) rfl (charW_met hw hcs hfm hu S (i := 1) (nle rfl)) (fun _ q => nomatch q) rfl rfl rfl (by decide) ⟨⟨nle rfl, nle rfl⟩, nle rfl, nle rfl⟩ ?_
      intro v21 h22 hq23 _
      obtain ⟨rfl, rfl⟩ := hq23
      show WlO _ _ _ _ _ _ _ _ _ _ _ _ _ _ _ _ _ _ [.int t1]
      refine Wl.istore_n 48 #[.val (.ref a), .val (.ref y), .val (.int (1 : Int32)), .val (.int t1), .val (.int t0)] d9_47 rfl ?_
      refine Wl.iload_n 49 d9_48 rfl ?_
      refine Wl.bipush 51 (97 : Int32) d9_49 (by decide) ?_
      by_cases c24 : t1 < (97 : Int32)
      · refine Wl.icmpY 71 d9_51 (tlt c24).1 ?_
        refine Wl.iload_n 72 d9_71 rfl ?_
        refine Wl.istore 74 #[.val (.ref a), .val (.ref y), .val (.int (1 : Int32)), .val (.int t1), .val (.int t1)] d9_72 rfl ?_
        refine Wl.iload 76 d9_74 rfl ?_
        refine Wl.aload_n 77 d9_76 rfl rfl ?_
        refine Wl.iload_n 78 d9_77 rfl ?_
        refine Wl.virtual 81 (argsL := [.int (1 : Int32)]) d9_78 (w90 hw) (w91 hw) (w93 hw) (w92 hw) (w16 hw) (w94 hw) (nf_sel (w93 hw) rfl) (U).exa (show parseMethodDescriptor "(I)C" = some ⟨[.int], some .char⟩ by decide +kernel) rfl (charW_met hw hcs hfm hu U (i := 1) (nle rfl)) (fun _ q => nomatch q) rfl rfl rfl (by decide) ⟨⟨nle rfl, nle rfl⟩, nle rfl, nle rfl⟩ ?_
        intro v25 h26 hq27 _
        obtain ⟨rfl, rfl⟩ := hq27
        show WlO _ _ _ _ _ _ _ _ _ _ _ _ _ _ _ _ _ _ [.int k1, .int t1]
        by_cases c28 : t1 = k1
        · refine Wl.icmpY 86 d9_81 (teq c28).1 ?_
          refine Wl.iinc 89 #[.val (.ref a), .val (.ref y), .val (.int (2 : Int32)), .val (.int t1), .val (.int t1)] (1 : Int32) d9_86 (by decide) rfl rfl ?_
          refine Wl.goto 28 d9_89 ?_
          refine Wl.iload_n 29 d9_28 rfl ?_
          refine Wl.aload_n 30 d9_29 rfl rfl ?_
          refine Wl.getfield 33 d9_30 (w50 hw) F2 ?_
          refine Wl.virtual 36 (argsL := []) d9_33 (w62 hw) (w63 hw) (w65 hw) (w64 hw) (w16 hw) (w66 hw) (nf_sel (w65 hw) rfl) (S).exa (show parseMethodDescriptor "()I" = some ⟨[], some .int⟩ by decide +kernel) rfl (lenW_met hw hcs S) (fun _ q => nomatch q) rfl rfl rfl (by decide) ⟨⟨nle rfl, nle rfl⟩, nle rfl, nle rfl⟩ ?_
          intro v29 h30 hq31 _
          obtain ⟨rfl, rfl⟩ := hq31
          show WlO _ _ _ _ _ _ _ _ _ _ _ _ _ _ _ _ _ _ [.int (3 : Int32), .int (2 : Int32)]
          refine Wl.icmpN 39 d9_36 (tlt (by decide)).2.1 ?_
          refine Wl.aload_n 40 d9_39 rfl rfl ?_
          refine Wl.getfield 43 d9_40 (w50 hw) F2 ?_
          refine Wl.iload_n 44 d9_43 rfl ?_
          refine Wl.virtual 47 (argsL := [.int (2 : Int32)]) d9_44 (w90 hw) (w91 hw) (w93 hw) (w92 hw) (w16 hw) (w94 hw) (nf_sel (w93 hw) rfl) (S).exa (show parseMethodDescriptor "(I)C" = some ⟨[.int], some .char⟩ by decide +kernel) rfl (charW_met hw hcs hfm hu S (i := 2) (nle rfl)) (fun _ q => nomatch q) rfl rfl rfl (by decide) ⟨⟨nle rfl, nle rfl⟩, nle rfl, nle rfl⟩ ?_
          intro v32 h33 hq34 _
          obtain ⟨rfl, rfl⟩ := hq34
          show WlO _ _ _ _ _ _ _ _ _ _ _ _ _ _ _ _ _ _ [.int t2]
          refine Wl.istore_n 48 #[.val (.ref a), .val (.ref y), .val (.int (2 : Int32)), .val (.int t2), .val (.int t1)] d9_47 rfl ?_
          refine Wl.iload_n 49 d9_48 rfl ?_
          refine Wl.bipush 51 (97 : Int32) d9_49 (by decide) ?_
          by_cases c35 : t2 < (97 : Int32)
          · refine Wl.icmpY 71 d9_51 (tlt c35).1 ?_
            refine Wl.iload_n 72 d9_71 rfl ?_
            refine Wl.istore 74 #[.val (.ref a), .val (.ref y), .val (.int (2 : Int32)), .val (.int t2), .val (.int t2)] d9_72 rfl ?_
            refine Wl.iload 76 d9_74 rfl ?_
            refine Wl.aload_n 77 d9_76 rfl rfl ?_
            refine Wl.iload_n 78 d9_77 rfl ?_
            refine Wl.virtual 81 (argsL := [.int (2 : Int32)]) d9_78 (w90 hw) (w91 hw) (w93 hw) (w92 hw) (w16 hw) (w94 hw) (nf_sel (w93 hw) rfl) (U).exa (show parseMethodDescriptor "(I)C" = some ⟨[.int], some .char⟩ by decide +kernel) rfl (charW_met hw hcs hfm hu U (i := 2) (nle rfl)) (fun _ q => nomatch q) rfl rfl rfl (by decide) ⟨⟨nle rfl, nle rfl⟩, nle rfl, nle rfl⟩ ?_
            intro v36 h37 hq38 _
            obtain ⟨rfl, rfl⟩ := hq38
            show WlO _ _ _ _ _ _ _ _ _ _ _ _ _ _ _ _ _ _ [.int k2, .int t2]
            by_cases c39 : t2 = k2
            · refine Wl.icmpY 86 d9_81 (teq c39).1 ?_
              refine Wl.iinc 89 #[.val (.ref a), .val (.ref y), .val (.int (3 : Int32)), .val (.int t2), .val (.int t2)] (1 : Int32) d9_86 (by decide) rfl rfl ?_
              refine Wl.goto 28 d9_89 ?_
              refine Wl.iload_n 29 d9_28 rfl ?_
              refine Wl.aload_n 30 d9_29 rfl rfl ?_
              refine Wl.getfield 33 d9_30 (w50 hw) F2 ?_
              refine Wl.virtual 36 (argsL := []) d9_33 (w62 hw) (w63 hw) (w65 hw) (w64 hw) (w16 hw) (w66 hw) (nf_sel (w65 hw) rfl) (S).exa (show parseMethodDescriptor "()I" = some ⟨[], some .int⟩ by decide +kernel) rfl (lenW_met hw hcs S) (fun _ q => nomatch q) rfl rfl rfl (by decide) ⟨⟨nle rfl, nle rfl⟩, nle rfl, nle rfl⟩ ?_
              intro v40 h41 hq42 _
              obtain ⟨rfl, rfl⟩ := hq42
              show WlO _ _ _ _ _ _ _ _ _ _ _ _ _ _ _ _ _ _ [.int (3 : Int32), .int (3 : Int32)]
              refine Wl.icmpY 92 d9_36 (flt (by decide)).2.1 ?_
              refine Wl.iconst 93 (1 : Int32) d9_92 (by decide) ?_
              exact Wl.ireturn d9_93 rfl rfl (by simp) (nle rfl) (nle rfl) ⟨by rw [show kwI [(t0, k0), (t1, k1), (t2, k2)] = (1 : Int32) from (kw_1 (sb1 lt0 lk0 wk0 c17) (kw_1 (sb1 lt1 lk1 wk1 c28) (kw_1 (sb1 lt2 lk2 wk2 c39) rfl)))], rfl⟩
            · refine Wl.icmpN 84 d9_81 (feq c39).1 ?_
              refine Wl.iconst 85 (0 : Int32) d9_84 (by decide) ?_
              exact Wl.ireturn d9_85 rfl rfl (by simp) (nle rfl) (nle rfl) ⟨by rw [show kwI [(t0, k0), (t1, k1), (t2, k2)] = (0 : Int32) from (kw_1 (sb1 lt0 lk0 wk0 c17) (kw_1 (sb1 lt1 lk1 wk1 c28) (kw_0 (sb0 lt2 lk2 wk2 c35 c39))))], rfl⟩
          · refine Wl.icmpN 54 d9_51 (flt c35).1 ?_
            refine Wl.iload_n 55 d9_54 rfl ?_
            refine Wl.bipush 57 (122 : Int32) d9_55 (by decide) ?_
            by_cases c43 : (122 : Int32) < t2
            · refine Wl.icmpY 71 d9_57 (tlt c43).2.2.1 ?_
              refine Wl.iload_n 72 d9_71 rfl ?_
              refine Wl.istore 74 #[.val (.ref a), .val (.ref y), .val (.int (2 : Int32)), .val (.int t2), .val (.int t2)] d9_72 rfl ?_
              refine Wl.iload 76 d9_74 rfl ?_
              refine Wl.aload_n 77 d9_76 rfl rfl ?_
              refine Wl.iload_n 78 d9_77 rfl ?_
              refine Wl.virtual 81 (argsL := [.int (2 : Int32)]) d9_78 (w90 hw) (w91 hw) (w93 hw) (w92 hw) (w16 hw) (w94 hw) (nf_sel (w93 hw) rfl) (U).exa (show parseMethodDescriptor "(I)C" = some ⟨[.int], some .char⟩ by decide +kernel) rfl (charW_met hw hcs hfm hu U (i := 2) (nle rfl)) (fun _ q => nomatch q) rfl rfl rfl (by decide) ⟨⟨nle rfl, nle rfl⟩, nle rfl, nle rfl⟩ ?_
              intro v44 h45 hq46 _
              obtain ⟨rfl, rfl⟩ := hq46
              show WlO _ _ _ _ _ _ _ _ _ _ _ _ _ _ _ _ _ _ [.int k2, .int t2]
              by_cases c47 : t2 = k2
              · refine Wl.icmpY 86 d9_81 (teq c47).1 ?_
                refine Wl.iinc 89 #[.val (.ref a), .val (.ref y), .val (.int (3 : Int32)), .val (.int t2), .val (.int t2)] (1 : Int32) d9_86 (by decide) rfl rfl ?_
                refine Wl.goto 28 d9_89 ?_
                refine Wl.iload_n 29 d9_28 rfl ?_
                refine Wl.aload_n 30 d9_29 rfl rfl ?_
                refine Wl.getfield 33 d9_30 (w50 hw) F2 ?_
                refine Wl.virtual 36 (argsL := []) d9_33 (w62 hw) (w63 hw) (w65 hw) (w64 hw) (w16 hw) (w66 hw) (nf_sel (w65 hw) rfl) (S).exa (show parseMethodDescriptor "()I" = some ⟨[], some .int⟩ by decide +kernel) rfl (lenW_met hw hcs S) (fun _ q => nomatch q) rfl rfl rfl (by decide) ⟨⟨nle rfl, nle rfl⟩, nle rfl, nle rfl⟩ ?_
                intro v48 h49 hq50 _
                obtain ⟨rfl, rfl⟩ := hq50
                show WlO _ _ _ _ _ _ _ _ _ _ _ _ _ _ _ _ _ _ [.int (3 : Int32), .int (3 : Int32)]
                refine Wl.icmpY 92 d9_36 (flt (by decide)).2.1 ?_
                refine Wl.iconst 93 (1 : Int32) d9_92 (by decide) ?_
                exact Wl.ireturn d9_93 rfl rfl (by simp) (nle rfl) (nle rfl) ⟨by rw [show kwI [(t0, k0), (t1, k1), (t2, k2)] = (1 : Int32) from (kw_1 (sb1 lt0 lk0 wk0 c17) (kw_1 (sb1 lt1 lk1 wk1 c28) (kw_1 (sb1 lt2 lk2 wk2 c47) rfl)))], rfl⟩
              · refine Wl.icmpN 84 d9_81 (feq c47).1 ?_
                refine Wl.iconst 85 (0 : Int32) d9_84 (by decide) ?_
                exact Wl.ireturn d9_85 rfl rfl (by simp) (nle rfl) (nle rfl) ⟨by rw [show kwI [(t0, k0), (t1, k1), (t2, k2)] = (0 : Int32) from (kw_1 (sb1 lt0 lk0 wk0 c17) (kw_1 (sb1 lt1 lk1 wk1 c28) (kw_0 (sc0 lt2 lk2 wk2 c43 c47))))], rfl⟩
            · refine Wl.icmpN 60 d9_57 (flt c43).2.2.1 ?_
              refine Wl.iload_n 61 d9_60 rfl ?_
              refine Wl.bipush 63 (97 : Int32) d9_61 (by decide) ?_
              refine Wl.isub 64 d9_63 ?_
              refine Wl.bipush 66 (65 : Int32) d9_64 (by decide) ?_
              refine Wl.iadd 67 d9_66 ?_
              refine Wl.i2c 68 d9_67 ?_
              refine Wl.goto 72 d9_68 ?_
              refine Wl.istore 74 #[.val (.ref a), .val (.ref y), .val (.int (2 : Int32)), .val (.int t2), .val (.int ((((t2 - (97 : Int32)) + (65 : Int32))).toUInt32.toUInt16.toUInt32.toInt32))] d9_72 rfl ?_
              refine Wl.iload 76 d9_74 rfl ?_
              refine Wl.aload_n 77 d9_76 rfl rfl ?_
              refine Wl.iload_n 78 d9_77 rfl ?_
              refine Wl.virtual 81 (argsL := [.int (2 : Int32)]) d9_78 (w90 hw) (w91 hw) (w93 hw) (w92 hw) (w16 hw) (w94 hw) (nf_sel (w93 hw) rfl) (U).exa (show parseMethodDescriptor "(I)C" = some ⟨[.int], some .char⟩ by decide +kernel) rfl (charW_met hw hcs hfm hu U (i := 2) (nle rfl)) (fun _ q => nomatch q) rfl rfl rfl (by decide) ⟨⟨nle rfl, nle rfl⟩, nle rfl, nle rfl⟩ ?_
              intro v51 h52 hq53 _
              obtain ⟨rfl, rfl⟩ := hq53
              show WlO _ _ _ _ _ _ _ _ _ _ _ _ _ _ _ _ _ _ [.int k2, .int ((((t2 - (97 : Int32)) + (65 : Int32))).toUInt32.toUInt16.toUInt32.toInt32)]
              by_cases c54 : (((t2 - (97 : Int32)) + (65 : Int32))).toUInt32.toUInt16.toUInt32.toInt32 = k2
              · refine Wl.icmpY 86 d9_81 (teq c54).1 ?_
                refine Wl.iinc 89 #[.val (.ref a), .val (.ref y), .val (.int (3 : Int32)), .val (.int t2), .val (.int ((((t2 - (97 : Int32)) + (65 : Int32))).toUInt32.toUInt16.toUInt32.toInt32))] (1 : Int32) d9_86 (by decide) rfl rfl ?_
                refine Wl.goto 28 d9_89 ?_
                refine Wl.iload_n 29 d9_28 rfl ?_
                refine Wl.aload_n 30 d9_29 rfl rfl ?_
                refine Wl.getfield 33 d9_30 (w50 hw) F2 ?_
                refine Wl.virtual 36 (argsL := []) d9_33 (w62 hw) (w63 hw) (w65 hw) (w64 hw) (w16 hw) (w66 hw) (nf_sel (w65 hw) rfl) (S).exa (show parseMethodDescriptor "()I" = some ⟨[], some .int⟩ by decide +kernel) rfl (lenW_met hw hcs S) (fun _ q => nomatch q) rfl rfl rfl (by decide) ⟨⟨nle rfl, nle rfl⟩, nle rfl, nle rfl⟩ ?_
                intro v55 h56 hq57 _
                obtain ⟨rfl, rfl⟩ := hq57
                show WlO _ _ _ _ _ _ _ _ _ _ _ _ _ _ _ _ _ _ [.int (3 : Int32), .int (3 : Int32)]
                refine Wl.icmpY 92 d9_36 (flt (by decide)).2.1 ?_
                refine Wl.iconst 93 (1 : Int32) d9_92 (by decide) ?_
                exact Wl.ireturn d9_93 rfl rfl (by simp) (nle rfl) (nle rfl) ⟨by rw [show kwI [(t0, k0), (t1, k1), (t2, k2)] = (1 : Int32) from (kw_1 (sb1 lt0 lk0 wk0 c17) (kw_1 (sb1 lt1 lk1 wk1 c28) (kw_1 (sa1 lt2 lk2 wk2 c35 c43 c54) rfl)))], rfl⟩
              · refine Wl.icmpN 84 d9_81 (feq c54).1 ?_
                refine Wl.iconst 85 (0 : Int32) d9_84 (by decide) ?_
                exact Wl.ireturn d9_85 rfl rfl (by simp) (nle rfl) (nle rfl) ⟨by rw [show kwI [(t0, k0), (t1, k1), (t2, k2)] = (0 : Int32) from (kw_1 (sb1 lt0 lk0 wk0 c17) (kw_1 (sb1 lt1 lk1 wk1 c28) (kw_0 (sa0 lt2 lk2 wk2 c35 c43 c54))))], rfl⟩
        · refine Wl.icmpN 84 d9_81 (feq c28).1 ?_
          refine Wl.iconst 85 (0 : Int32) d9_84 (by decide) ?_
          exact Wl.ireturn d9_85 rfl rfl (by simp) (nle rfl) (nle rfl) ⟨by rw [show kwI [(t0, k0), (t1, k1), (t2, k2)] = (0 : Int32) from (kw_1 (sb1 lt0 lk0 wk0 c17) (kw_0 (sb0 lt1 lk1 wk1 c24 c28)))], rfl⟩
      · refine Wl.icmpN 54 d9_51 (flt c24).1 ?_
        refine Wl.iload_n 55 d9_54 rfl ?_
        refine Wl.bipush 57 (122 : Int32) d9_55 (by decide) ?_
        by_cases c58 : (122 : Int32) < t1
        · refine Wl.icmpY 71 d9_57 (tlt c58).2.2.1 ?_
          refine Wl.iload_n 72 d9_71 rfl ?_
          refine Wl.istore 74 #[.val (.ref a), .val (.ref y), .val (.int (1 : Int32)), .val (.int t1), .val (.int t1)] d9_72 rfl ?_
          refine Wl.iload 76 d9_74 rfl ?_
          refine Wl.aload_n 77 d9_76 rfl rfl ?_
          refine Wl.iload_n 78 d9_77 rfl ?_
          refine Wl.virtual 81 (argsL := [.int (1 : Int32)]) d9_78 (w90 hw) (w91 hw) (w93 hw) (w92 hw) (w16 hw) (w94 hw) (nf_sel (w93 hw) rfl) (U).exa (show parseMethodDescriptor "(I)C" = some ⟨[.int], some .char⟩ by decide +kernel) rfl (charW_met hw hcs hfm hu U (i := 1) (nle rfl)) (fun _ q => nomatch q) rfl rfl rfl (by decide) ⟨⟨nle rfl, nle rfl⟩, nle rfl, nle rfl⟩ ?_
          intro v59 h60 hq61 _
          obtain ⟨rfl, rfl⟩ := hq61
          show WlO _ _ _ _ _ _ _ _ _ _ _ _ _ _ _ _ _ _ [.int k1, .int t1]
          by_cases c62 : t1 = k1
          · refine Wl.icmpY 86 d9_81 (teq c62).1 ?_
            refine Wl.iinc 89 #[.val (.ref a), .val (.ref y), .val (.int (2 : Int32)), .val (.int t1), .val (.int t1)] (1 : Int32) d9_86 (by decide) rfl rfl ?_
            refine Wl.goto 28 d9_89 ?_
            refine Wl.iload_n 29 d9_28 rfl ?_
            refine Wl.aload_n 30 d9_29 rfl rfl ?_
            refine Wl.getfield 33 d9_30 (w50 hw) F2 ?_
            refine Wl.virtual 36 (argsL := []) d9_33 (w62 hw) (w63 hw) (w65 hw) (w64 hw) (w16 hw) (w66 hw) (nf_sel (w65 hw) rfl) (S).exa (show parseMethodDescriptor "()I" = some ⟨[], some .int⟩ by decide +kernel) rfl (lenW_met hw hcs S) (fun _ q => nomatch q) rfl rfl rfl (by decide) ⟨⟨nle rfl, nle rfl⟩, nle rfl, nle rfl⟩ ?_
            intro v63 h64 hq65 _
            obtain ⟨rfl, rfl⟩ := hq65
            show WlO _ _ _ _ _ _ _ _ _ _ _ _ _ _ _ _ _ _ [.int (3 : Int32), .int (2 : Int32)]
            refine Wl.icmpN 39 d9_36 (tlt (by decide)).2.1 ?_
            refine Wl.aload_n 40 d9_39 rfl rfl ?_
            refine Wl.getfield 43 d9_40 (w50 hw) F2 ?_
            refine Wl.iload_n 44 d9_43 rfl ?_
            refine Wl.virtual 47 (argsL := [.int (2 : Int32)]) d9_44 (w90 hw) (w91 hw) (w93 hw) (w92 hw) (w16 hw) (w94 hw) (nf_sel (w93 hw) rfl) (S).exa (show parseMethodDescriptor "(I)C" = some ⟨[.int], some .char⟩ by decide +kernel) rfl (charW_met hw hcs hfm hu S (i := 2) (nle rfl)) (fun _ q => nomatch q) rfl rfl rfl (by decide) ⟨⟨nle rfl, nle rfl⟩, nle rfl, nle rfl⟩ ?_
            intro v66 h67 hq68 _
            obtain ⟨rfl, rfl⟩ := hq68
            show WlO _ _ _ _ _ _ _ _ _ _ _ _ _ _ _ _ _ _ [.int t2]
            refine Wl.istore_n 48 #[.val (.ref a), .val (.ref y), .val (.int (2 : Int32)), .val (.int t2), .val (.int t1)] d9_47 rfl ?_
            refine Wl.iload_n 49 d9_48 rfl ?_
            refine Wl.bipush 51 (97 : Int32) d9_49 (by decide) ?_
            by_cases c69 : t2 < (97 : Int32)
            · refine Wl.icmpY 71 d9_51 (tlt c69).1 ?_
              refine Wl.iload_n 72 d9_71 rfl ?_
              refine Wl.istore 74 #[.val (.ref a), .val (.ref y), .val (.int (2 : Int32)), .val (.int t2), .val (.int t2)] d9_72 rfl ?_
              refine Wl.iload 76 d9_74 rfl ?_
              refine Wl.aload_n 77 d9_76 rfl rfl ?_
              refine Wl.iload_n 78 d9_77 rfl ?_
              refine Wl.virtual 81 (argsL := [.int (2 : Int32)]) d9_78 (w90 hw) (w91 hw) (w93 hw) (w92 hw) (w16 hw) (w94 hw) (nf_sel (w93 hw) rfl) (U).exa (show parseMethodDescriptor "(I)C" = some ⟨[.int], some .char⟩ by decide +kernel) rfl (charW_met hw hcs hfm hu U (i := 2) (nle rfl)) (fun _ q => nomatch q) rfl rfl rfl (by decide) ⟨⟨nle rfl, nle rfl⟩, nle rfl, nle rfl⟩ ?_
              intro v70 h71 hq72 _
              obtain ⟨rfl, rfl⟩ := hq72
              show WlO _ _ _ _ _ _ _ _ _ _ _ _ _ _ _ _ _ _ [.int k2, .int t2]
              by_cases c73 : t2 = k2
              · refine Wl.icmpY 86 d9_81 (teq c73).1 ?_
                refine Wl.iinc 89 #[.val (.ref a), .val (.ref y), .val (.int (3 : Int32)), .val (.int t2), .val (.int t2)] (1 : Int32) d9_86 (by decide) rfl rfl ?_
                refine Wl.goto 28 d9_89 ?_
                refine Wl.iload_n 29 d9_28 rfl ?_
                refine Wl.aload_n 30 d9_29 rfl rfl ?_
                refine Wl.getfield 33 d9_30 (w50 hw) F2 ?_
                refine Wl.virtual 36 (argsL := []) d9_33 (w62 hw) (w63 hw) (w65 hw) (w64 hw) (w16 hw) (w66 hw) (nf_sel (w65 hw) rfl) (S).exa (show parseMethodDescriptor "()I" = some ⟨[], some .int⟩ by decide +kernel) rfl (lenW_met hw hcs S) (fun _ q => nomatch q) rfl rfl rfl (by decide) ⟨⟨nle rfl, nle rfl⟩, nle rfl, nle rfl⟩ ?_
                intro v74 h75 hq76 _
                obtain ⟨rfl, rfl⟩ := hq76
                show WlO _ _ _ _ _ _ _ _ _ _ _ _ _ _ _ _ _ _ [.int (3 : Int32), .int (3 : Int32)]
                refine Wl.icmpY 92 d9_36 (flt (by decide)).2.1 ?_
                refine Wl.iconst 93 (1 : Int32) d9_92 (by decide) ?_
                exact Wl.ireturn d9_93 rfl rfl (by simp) (nle rfl) (nle rfl) ⟨by rw [show kwI [(t0, k0), (t1, k1), (t2, k2)] = (1 : Int32) from (kw_1 (sb1 lt0 lk0 wk0 c17) (kw_1 (sb1 lt1 lk1 wk1 c62) (kw_1 (sb1 lt2 lk2 wk2 c73) rfl)))], rfl⟩
              · refine Wl.icmpN 84 d9_81 (feq c73).1 ?_
                refine Wl.iconst 85 (0 : Int32) d9_84 (by decide) ?_
                exact Wl.ireturn d9_85 rfl rfl (by simp) (nle rfl) (nle rfl) ⟨by rw [show kwI [(t0, k0), (t1, k1), (t2, k2)] = (0 : Int32) from (kw_1 (sb1 lt0 lk0 wk0 c17) (kw_1 (sb1 lt1 lk1 wk1 c62) (kw_0 (sb0 lt2 lk2 wk2 c69 c73))))], rfl⟩
            · refine Wl.icmpN 54 d9_51 (flt c69).1 ?_
              refine Wl.iload_n 55 d9_54 rfl ?_
              refine Wl.bipush 57 (122 : Int32) d9_55 (by decide) ?_
              by_cases c77 : (122 : Int32) < t2
              · refine Wl.icmpY 71 d9_57 (tlt c77).2.2.1 ?_
                refine Wl.iload_n 72 d9_71 rfl ?_
                refine Wl.istore 74 #[.val (.ref a), .val (.ref y), .val (.int (2 : Int32)), .val (.int t2), .val (.int t2)] d9_72 rfl ?_
                refine Wl.iload 76 d9_74 rfl ?_
                refine Wl.aload_n 77 d9_76 rfl rfl ?_
                refine Wl.iload_n 78 d9_77 rfl ?_
                refine Wl.virtual 81 (argsL := [.int (2 : Int32)]) d9_78 (w90 hw) (w91 hw) (w93 hw) (w92 hw) (w16 hw) (w94 hw) (nf_sel (w93 hw) rfl) (U).exa (show parseMethodDescriptor "(I)C" = some ⟨[.int], some .char⟩ by decide +kernel) rfl (charW_met hw hcs hfm hu U (i := 2) (nle rfl)) (fun _ q => nomatch q) rfl rfl rfl (by decide) ⟨⟨nle rfl, nle rfl⟩, nle rfl, nle rfl⟩ ?_
                intro v78 h79 hq80 _
                obtain ⟨rfl, rfl⟩ := hq80
                show WlO _ _ _ _ _ _ _ _ _ _ _ _ _ _ _ _ _ _ [.int k2, .int t2]
                by_cases c81 : t2 = k2
                · refine Wl.icmpY 86 d9_81 (teq c81).1 ?_
                  refine Wl.iinc 89 #[.val (.ref a), .val (.ref y), .val (.int (3 : Int32)), .val (.int t2), .val (.int t2)] (1 : Int32) d9_86 (by decide) rfl rfl ?_
                  refine Wl.goto 28 d9_89 ?_
                  refine Wl.iload_n 29 d9_28 rfl ?_
                  refine Wl.aload_n 30 d9_29 rfl rfl ?_
                  refine Wl.getfield 33 d9_30 (w50 hw) F2 ?_
                  refine Wl.virtual 36 (argsL := []) d9_33 (w62 hw) (w63 hw) (w65 hw) (w64 hw) (w16 hw) (w66 hw) (nf_sel (w65 hw) rfl) (S).exa (show parseMethodDescriptor "()I" = some ⟨[], some .int⟩ by decide +kernel) rfl (lenW_met hw hcs S) (fun _ q => nomatch q) rfl rfl rfl (by decide) ⟨⟨nle rfl, nle rfl⟩, nle rfl, nle rfl⟩ ?_
                  intro v82 h83 hq84 _
                  obtain ⟨rfl, rfl⟩ := hq84
                  show WlO _ _ _ _ _ _ _ _ _ _ _ _ _ _ _ _ _ _ [.int (3 : Int32), .int (3 : Int32)]
                  refine Wl.icmpY 92 d9_36 (flt (by decide)).2.1 ?_
                  refine Wl.iconst 93 (1 : Int32) d9_92 (by decide) ?_
                  exact Wl.ireturn d9_93 rfl rfl (by simp) (nle rfl) (nle rfl) ⟨by rw [show kwI [(t0, k0), (t1, k1), (t2, k2)] = (1 : Int32) from (kw_1 (sb1 lt0 lk0 wk0 c17) (kw_1 (sb1 lt1 lk1 wk1 c62) (kw_1 (sb1 lt2 lk2 wk2 c81) rfl)))], rfl⟩
                · refine Wl.icmpN 84 d9_81 (feq c81).1 ?_
                  refine Wl.iconst 85 (0 : Int32) d9_84 (by decide) ?_
                  exact Wl.ireturn d9_85 rfl rfl (by simp) (nle rfl) (nle rfl) ⟨by rw [show kwI [(t0, k0), (t1, k1), (t2, k2)] = (0 : Int32) from (kw_1 (sb1 lt0 lk0 wk0 c17) (kw_1 (sb1 lt1 lk1 wk1 c62) (kw_0 (sc0 lt2 lk2 wk2 c77 c81))))], rfl⟩
              · refine Wl.icmpN 60 d9_57 (flt c77).2.2.1 ?_
                refine Wl.iload_n 61 d9_60 rfl ?_
                refine Wl.bipush 63 (97 : Int32) d9_61 (by decide) ?_
                refine Wl.isub 64 d9_63 ?_
                refine Wl.bipush 66 (65 : Int32) d9_64 (by decide) ?_
                refine Wl.iadd 67 d9_66 ?_
                refine Wl.i2c 68 d9_67 ?_
                refine Wl.goto 72 d9_68 ?_
                refine Wl.istore 74 #[.val (.ref a), .val (.ref y), .val (.int (2 : Int32)), .val (.int t2), .val (.int ((((t2 - (97 : Int32)) + (65 : Int32))).toUInt32.toUInt16.toUInt32.toInt32))] d9_72 rfl ?_
                refine Wl.iload 76 d9_74 rfl ?_
                refine Wl.aload_n 77 d9_76 rfl rfl ?_
                refine Wl.iload_n 78 d9_77 rfl ?_
                refine Wl.virtual 81 (argsL := [.int (2 : Int32)]) d9_78 (w90 hw) (w91 hw) (w93 hw) (w92 hw) (w16 hw) (w94 hw) (nf_sel (w93 hw) rfl) (U).exa (show parseMethodDescriptor "(I)C" = some ⟨[.int], some .char⟩ by decide +kernel) rfl (charW_met hw hcs hfm hu U (i := 2) (nle rfl)) (fun _ q => nomatch q) rfl rfl rfl (by decide) ⟨⟨nle rfl, nle rfl⟩, nle rfl, nle rfl⟩ ?_
                intro v85 h86 hq87 _
                obtain ⟨rfl, rfl⟩ := hq87
                show WlO _ _ _ _ _ _ _ _ _ _ _ _ _ _ _ _ _ _ [.int k2, .int ((((t2 - (97 : Int32)) + (65 : Int32))).toUInt32.toUInt16.toUInt32.toInt32)]
                by_cases c88 : (((t2 - (97 : Int32)) + (65 : Int32))).toUInt32.toUInt16.toUInt32.toInt32 = k2
                · refine Wl.icmpY 86 d9_81 (teq c88).1 ?_
                  refine Wl.iinc 89 #[.val (.ref a), .val (.ref y), .val (.int (3 : Int32)), .val (.int t2), .val (.int ((((t2 - (97 : Int32)) + (65 : Int32))).toUInt32.toUInt16.toUInt32.toInt32))] (1 : Int32) d9_86 (by decide) rfl rfl ?_
                  refine Wl.goto 28 d9_89 ?_
                  refine Wl.iload_n 29 d9_28 rfl ?_
                  refine Wl.aload_n 30 d9_29 rfl rfl ?_
                  refine Wl.getfield 33 d9_30 (w50 hw) F2 ?_
                  refine Wl.virtual 36 (argsL := []) d9_33 (w62 hw) (w63 hw) (w65 hw) (w64 hw) (w16 hw) (w66 hw) (nf_sel (w65 hw) rfl) (S).exa (show parseMethodDescriptor "()I" = some ⟨[], some .int⟩ by decide +kernel) rfl (lenW_met hw hcs S) (fun _ q => nomatch q) rfl rfl rfl (by decide) ⟨⟨nle rfl, nle rfl⟩, nle rfl, nle rfl⟩ ?_
                  intro v89 h90 hq91 _
                  obtain ⟨rfl, rfl⟩ := hq91
                  show WlO _ _ _ _ _ _ _ _ _ _ _ _ _ _ _ _ _ _ [.int (3 : Int32), .int (3 : Int32)]
                  refine Wl.icmpY 92 d9_36 (flt (by decide)).2.1 ?_
                  refine Wl.iconst 93 (1 : Int32) d9_92 (by decide) ?_
                  exact Wl.ireturn d9_93 rfl rfl (by simp) (nle rfl) (nle rfl) ⟨by rw [show kwI [(t0, k0), (t1, k1), (t2, k2)] = (1 : Int32) from (kw_1 (sb1 lt0 lk0 wk0 c17) (kw_1 (sb1 lt1 lk1 wk1 c62) (kw_1 (sa1 lt2 lk2 wk2 c69 c77 c88) rfl)))], rfl⟩
                · refine Wl.icmpN 84 d9_81 (feq c88).1 ?_
                  refine Wl.iconst 85 (0 : Int32) d9_84 (by decide) ?_
                  exact Wl.ireturn d9_85 rfl rfl (by simp) (nle rfl) (nle rfl) ⟨by rw [show kwI [(t0, k0), (t1, k1), (t2, k2)] = (0 : Int32) from (kw_1 (sb1 lt0 lk0 wk0 c17) (kw_1 (sb1 lt1 lk1 wk1 c62) (kw_0 (sa0 lt2 lk2 wk2 c69 c77 c88))))], rfl⟩
          · refine Wl.icmpN 84 d9_81 (feq c62).1 ?_
            refine Wl.iconst 85 (0 : Int32) d9_84 (by decide) ?_
            exact Wl.ireturn d9_85 rfl rfl (by simp) (nle rfl) (nle rfl) ⟨by rw [show kwI [(t0, k0), (t1, k1), (t2, k2)] = (0 : Int32) from (kw_1 (sb1 lt0 lk0 wk0 c17) (kw_0 (sc0 lt1 lk1 wk1 c58 c62)))], rfl⟩
        · refine Wl.icmpN 60 d9_57 (flt c58).2.2.1 ?_
          refine Wl.iload_n 61 d9_60 rfl ?_
          refine Wl.bipush 63 (97 : Int32) d9_61 (by decide) ?_
          refine Wl.isub 64 d9_63 ?_
          refine Wl.bipush 66 (65 : Int32) d9_64 (by decide) ?_
          refine Wl.iadd 67 d9_66 ?_
          refine Wl.i2c 68 d9_67 ?_
          refine Wl.goto 72 d9_68 ?_
          refine Wl.istore 74 #[.val (.ref a), .val (.ref y), .val (.int (1 : Int32)), .val (.int t1), .val (.int ((((t1 - (97 : Int32)) + (65 : Int32))).toUInt32.toUInt16.toUInt32.toInt32))] d9_72 rfl ?_
          refine Wl.iload 76 d9_74 rfl ?_
          refine Wl.aload_n 77 d9_76 rfl rfl ?_
          refine Wl.iload_n 78 d9_77 rfl ?_
          refine Wl.virtual 81 (argsL := [.int (1 : Int32)]) d9_78 (w90 hw) (w91 hw) (w93 hw) (w92 hw) (w16 hw) (w94 hw) (nf_sel (w93 hw) rfl) (U).exa (show parseMethodDescriptor "(I)C" = some ⟨[.int], some .char⟩ by decide +kernel) rfl (charW_met hw hcs hfm hu U (i := 1) (nle rfl)) (fun _ q => nomatch q) rfl rfl rfl (by decide) ⟨⟨nle rfl, nle rfl⟩, nle rfl, nle rfl⟩ ?_
          intro v92 h93 hq94 _
          obtain ⟨rfl, rfl⟩ := hq94
          show WlO _ _ _ _ _ _ _ _ _ _ _ _ _ _ _ _ _ _ [.int k1, .int ((((t1 - (97 : Int32)) + (65 : Int32))).toUInt32.toUInt16.toUInt32.toInt32)]
          by_cases c95 : (((t1 - (97 : Int32)) + (65 : Int32))).toUInt32.toUInt16.toUInt32.toInt32 = k1
          · refine Wl.icmpY 86 d9_81 (teq c95).1 ?_
            refine Wl.iinc 89 #[.val (.ref a), .val (.ref y), .val (.int (2 : Int32)), .val (.int t1), .val (.int ((((t1 - (97 : Int32)) + (65 : Int32))).toUInt32.toUInt16.toUInt32.toInt32))] (1 : Int32) d9_86 (by decide) rfl rfl ?_
            refine Wl.goto 28 d9_89 ?_
            refine Wl.iload_n 29 d9_28 rfl ?_
            refine Wl.aload_n 30 d9_29 rfl rfl ?_
            refine Wl.getfield 33 d9_30 (w50 hw) F2 ?_
            refine Wl.virtual 36 (argsL := []) d9_33 (w62 hw) (w63 hw) (w65 hw) (w64 hw) (w16 hw) (w66 hw) (nf_sel (w65 hw) rfl) (S).exa (show parseMethodDescriptor "()I" = some ⟨[], some .int⟩ by decide +kernel) rfl (lenW_met hw hcs S) (fun _ q => nomatch q) rfl rfl rfl (by decide) ⟨⟨nle rfl, nle rfl⟩, nle rfl, nle rfl⟩ ?_
            intro v96 h97 hq98 _
            obtain ⟨rfl, rfl⟩ := hq98
            show WlO _ _ _ _ _ _ _ _ _ _ _ _ _ _ _ _ _ _ [.int (3 : Int32), .int (2 : Int32)]
            refine Wl.icmpN 39 d9_36 (tlt (by decide)).2.1 ?_
            refine Wl.aload_n 40 d9_39 rfl rfl ?_
            refine Wl.getfield 43 d9_40 (w50 hw) F2 ?_
            refine Wl.iload_n 44 d9_43 rfl ?_
            refine Wl.virtual 47 (argsL := [.int (2 : Int32)]) d9_44 (w90 hw) (w91 hw) (w93 hw) (w92 hw) (w16 hw) (w94 hw) (nf_sel (w93 hw) rfl) (S).exa (show parseMethodDescriptor "(I)C" = some ⟨[.int], some .char⟩ by decide +kernel) rfl (charW_met hw hcs hfm hu S (i := 2) (nle rfl)) (fun _ q => nomatch q) rfl rfl rfl (by decide) ⟨⟨nle rfl, nle rfl⟩, nle rfl, nle rfl⟩ ?_
            intro v99 h100 hq101 _
            obtain ⟨rfl, rfl⟩ := hq101
            show WlO _ _ _ _ _ _ _ _ _ _ _ _ _ _ _ _ _ _ [.int t2]
            refine Wl.istore_n 48 #[.val (.ref a), .val (.ref y), .val (.int (2 : Int32)), .val (.int t2), .val (.int ((((t1 - (97 : Int32)) + (65 : Int32))).toUInt32.toUInt16.toUInt32.toInt32))] d9_47 rfl ?_
            refine Wl.iload_n 49 d9_48 rfl ?_
            refine Wl.bipush 51 (97 : Int32) d9_49 (by decide) ?_
            by_cases c102 : t2 < (97 : Int32)
            · refine Wl.icmpY 71 d9_51 (tlt c102).1 ?_
              refine Wl.iload_n 72 d9_71 rfl ?_
              refine Wl.istore 74 #[.val (.ref a), .val (.ref y), .val (.int (2 : Int32)), .val (.int t2), .val (.int t2)] d9_72 rfl ?_
              refine Wl.iload 76 d9_74 rfl ?_
              refine Wl.aload_n 77 d9_76 rfl rfl ?_
              refine Wl.iload_n 78 d9_77 rfl ?_
              refine Wl.virtual 81 (argsL := [.int (2 : Int32)]) d9_78 (w90 hw) (w91 hw) (w93 hw) (w92 hw) (w16 hw) (w94 hw) (nf_sel (w93 hw) rfl) (U).exa (show parseMethodDescriptor "(I)C" = some ⟨[.int], some .char⟩ by decide +kernel) rfl (charW_met hw hcs hfm hu U (i := 2) (nle rfl)) (fun _ q => nomatch q) rfl rfl rfl (by decide) ⟨⟨nle rfl, nle rfl⟩, nle rfl, nle rfl⟩ ?_
              intro v103 h104 hq105 _
              obtain ⟨rfl, rfl⟩ := hq105
              show WlO _ _ _ _ _ _ _ _ _ _ _ _ _ _ _ _ _ _ [.int k2, .int t2]
              by_cases c106 : t2 = k2
              · refine Wl.icmpY 86 d9_81 (teq c106).1 ?_
                refine Wl.iinc 89 #[.val (.ref a), .val (.ref y), .val (.int (3 : Int32)), .val (.int t2), .val (.int t2)] (1 : Int32) d9_86 (by decide) rfl rfl ?_
                refine Wl.goto 28 d9_89 ?_
                refine Wl.iload_n 29 d9_28 rfl ?_
                refine Wl.aload_n 30 d9_29 rfl rfl ?_
                refine Wl.getfield 33 d9_30 (w50 hw) F2 ?_
                refine Wl.virtual 36 (argsL := []) d9_33 (w62 hw) (w63 hw) (w65 hw) (w64 hw) (w16 hw) (w66 hw) (nf_sel (w65 hw) rfl) (S).exa (show parseMethodDescriptor "()I" = some ⟨[], some .int⟩ by decide +kernel) rfl (lenW_met hw hcs S) (fun _ q => nomatch q) rfl rfl rfl (by decide) ⟨⟨nle rfl, nle rfl⟩, nle rfl, nle rfl⟩ ?_
                intro v107 h108 hq109 _
                obtain ⟨rfl, rfl⟩ := hq109
                show WlO _ _ _ _ _ _ _ _ _ _ _ _ _ _ _ _ _ _ [.int (3 : Int32), .int (3 : Int32)]
                refine Wl.icmpY 92 d9_36 (flt (by decide)).2.1 ?_
                refine Wl.iconst 93 (1 : Int32) d9_92 (by decide) ?_
                exact Wl.ireturn d9_93 rfl rfl (by simp) (nle rfl) (nle rfl) ⟨by rw [show kwI [(t0, k0), (t1, k1), (t2, k2)] = (1 : Int32) from (kw_1 (sb1 lt0 lk0 wk0 c17) (kw_1 (sa1 lt1 lk1 wk1 c24 c58 c95) (kw_1 (sb1 lt2 lk2 wk2 c106) rfl)))], rfl⟩
              · refine Wl.icmpN 84 d9_81 (feq c106).1 ?_
                refine Wl.iconst 85 (0 : Int32) d9_84 (by decide) ?_
                exact Wl.ireturn d9_85 rfl rfl (by simp) (nle rfl) (nle rfl) ⟨by rw [show kwI [(t0, k0), (t1, k1), (t2, k2)] = (0 : Int32) from (kw_1 (sb1 lt0 lk0 wk0 c17) (kw_1 (sa1 lt1 lk1 wk1 c24 c58 c95) (kw_0 (sb0 lt2 lk2 wk2 c102 c106))))], rfl⟩
            · refine Wl.icmpN 54 d9_51 (flt c102).1 ?_
              refine Wl.iload_n 55 d9_54 rfl ?_
              refine Wl.bipush 57 (122 : Int32) d9_55 (by decide) ?_
              by_cases c110 : (122 : Int32) < t2
              · refine Wl.icmpY 71 d9_57 (tlt c110).2.2.1 ?_
                refine Wl.iload_n 72 d9_71 rfl ?_
                refine Wl.istore 74 #[.val (.ref a), .val (.ref y), .val (.int (2 : Int32)), .val (.int t2), .val (.int t2)] d9_72 rfl ?_
                refine Wl.iload 76 d9_74 rfl ?_
                refine Wl.aload_n 77 d9_76 rfl rfl ?_
                refine Wl.iload_n 78 d9_77 rfl ?_
                refine Wl.virtual 81 (argsL := [.int (2 : Int32)]) d9_78 (w90 hw) (w91 hw) (w93 hw) (w92 hw) (w16 hw) (w94 hw) (nf_sel (w93 hw) rfl) (U).exa (show parseMethodDescriptor "(I)C" = some ⟨[.int], some .char⟩ by decide +kernel) rfl (charW_met hw hcs hfm hu U (i := 2) (nle rfl)) (fun _ q => nomatch q) rfl rfl rfl (by decide) ⟨⟨nle rfl, nle rfl⟩, nle rfl, nle rfl⟩ ?_
                intro v111 h112 hq113 _
                obtain ⟨rfl, rfl⟩ := hq113
                show WlO _ _ _ _ _ _ _ _ _ _ _ _ _ _ _ _ _ _ [.int k2, .int t2]
                by_cases c114 : t2 = k2
                · refine Wl.icmpY 86 d9_81 (teq c114).1 ?_
                  refine Wl.iinc 89 #[.val (.ref a), .val (.ref y), .val (.int (3 : Int32)), .val (.int t2), .val (.int t2)] (1 : Int32) d9_86 (by decide) rfl rfl ?_
                  refine Wl.goto 28 d9_89 ?_
                  refine Wl.iload_n 29 d9_28 rfl ?_
                  refine Wl.aload_n 30 d9_29 rfl rfl ?_
                  refine Wl.getfield 33 d9_30 (w50 hw) F2 ?_
                  refine Wl.virtual 36 (argsL := []) d9_33 (w62 hw) (w63 hw) (w65 hw) (w64 hw) (w16 hw) (w66 hw) (nf_sel (w65 hw) rfl) (S).exa (show parseMethodDescriptor "()I" = some ⟨[], some .int⟩ by decide +kernel) rfl (lenW_met hw hcs S) (fun _ q => nomatch q) rfl rfl rfl (by decide) ⟨⟨nle rfl, nle rfl⟩, nle rfl, nle rfl⟩ ?_
                  intro v115 h116 hq117 _
                  obtain ⟨rfl, rfl⟩ := hq117
                  show WlO _ _ _ _ _ _ _ _ _ _ _ _ _ _ _ _ _ _ [.int (3 : Int32), .int (3 : Int32)]
                  refine Wl.icmpY 92 d9_36 (flt (by decide)).2.1 ?_
                  refine Wl.iconst 93 (1 : Int32) d9_92 (by decide) ?_
                  exact Wl.ireturn d9_93 rfl rfl (by simp) (nle rfl) (nle rfl) ⟨by rw [show kwI [(t0, k0), (t1, k1), (t2, k2)] = (1 : Int32) from (kw_1 (sb1 lt0 lk0 wk0 c17) (kw_1 (sa1 lt1 lk1 wk1 c24 c58 c95) (kw_1 (sb1 lt2 lk2 wk2 c114) rfl)))], rfl⟩
                · refine Wl.icmpN 84 d9_81 (feq c114).1 ?_
                  refine Wl.iconst 85 (0 : Int32) d9_84 (by decide) ?_
                  exact Wl.ireturn d9_85 rfl rfl (by simp) (nle rfl) (nle rfl) ⟨by rw [show kwI [(t0, k0), (t1, k1), (t2, k2)] = (0 : Int32) from (kw_1 (sb1 lt0 lk0 wk0 c17) (kw_1 (sa1 lt1 lk1 wk1 c24 c58 c95) (kw_0 (sc0 lt2 lk2 wk2 c110 c114))))], rfl⟩
              · refine Wl.icmpN 60 d9_57 (flt c110).2.2.1 ?_
                refine Wl.iload_n 61 d9_60 rfl ?_
                refine Wl.bipush 63 (97 : Int32) d9_61 (by decide) ?_
                refine Wl.isub 64 d9_63 ?_
                refine Wl.bipush 66 (65 : Int32) d9_64 (by decide) ?_
                refine Wl.iadd 67 d9_66 ?_
                refine Wl.i2c 68 d9_67 ?_
                refine Wl.goto 72 d9_68 ?_
                refine Wl.istore 74 #[.val (.ref a), .val (.ref y), .val (.int (2 : Int32)), .val (.int t2), .val (.int ((((t2 - (97 : Int32)) + (65 : Int32))).toUInt32.toUInt16.toUInt32.toInt32))] d9_72 rfl ?_
                refine Wl.iload 76 d9_74 rfl ?_
                refine Wl.aload_n 77 d9_76 rfl rfl ?_
                refine Wl.iload_n 78 d9_77 rfl ?_
                refine Wl.virtual 81 (argsL := [.int (2 : Int32)]) d9_78 (w90 hw) (w91 hw) (w93 hw) (w92 hw) (w16 hw) (w94 hw) (nf_sel (w93 hw) rfl) (U).exa (show parseMethodDescriptor "(I)C" = some ⟨[.int], some .char⟩ by decide +kernel) rfl (charW_met hw hcs hfm hu U (i := 2) (nle rfl)) (fun _ q => nomatch q) rfl rfl rfl (by decide) ⟨⟨nle rfl, nle rfl⟩, nle rfl, nle rfl⟩ ?_
                intro v118 h119 hq120 _
                obtain ⟨rfl, rfl⟩ := hq120
                show WlO _ _ _ _ _ _ _ _ _ _ _ _ _ _ _ _ _ _ [.int k2, .int ((((t2 - (97 : Int32)) + (65 : Int32))).toUInt32.toUInt16.toUInt32.toInt32)]
                by_cases c121 : (((t2 - (97 : Int32)) + (65 : Int32))).toUInt32.toUInt16.toUInt32.toInt32 = k2
                · refine Wl.icmpY 86 d9_81 (teq c121).1 ?_
                  refine Wl.iinc 89 #[.val (.ref a), .val (.ref y), .val (.int (3 : Int32)), .val (.int t2), .val (.int ((((t2 - (97 : Int32)) + (65 : Int32))).toUInt32.toUInt16.toUInt32.toInt32))] (1 : Int32) d9_86 (by decide) rfl rfl ?_
                  refine Wl.goto 28 d9_89 ?_
                  refine Wl.iload_n 29 d9_28 rfl ?_
                  refine Wl.aload_n 30 d9_29 rfl rfl ?_
                  refine Wl.getfield 33 d9_30 (w50 hw) F2 ?_
                  refine Wl.virtual 36 (argsL := []) d9_33 (w62 hw) (w63 hw) (w65 hw) (w64 hw) (w16 hw) (w66 hw) (nf_sel (w65 hw) rfl) (S).exa (show parseMethodDescriptor "()I" = some ⟨[], some .int⟩ by decide +kernel) rfl (lenW_met hw hcs S) (fun _ q => nomatch q) rfl rfl rfl (by decide) ⟨⟨nle rfl, nle rfl⟩, nle rfl, nle rfl⟩ ?_
                  intro v122 h123 hq124 _
                  obtain ⟨rfl, rfl⟩ := hq124
                  show WlO _ _ _ _ _ _ _ _ _ _ _ _ _ _ _ _ _ _ [.int (3 : Int32), .int (3 : Int32)]
                  refine Wl.icmpY 92 d9_36 (flt (by decide)).2.1 ?_
                  refine Wl.iconst 93 (1 : Int32) d9_92 (by decide) ?_
                  exact Wl.ireturn d9_93 rfl rfl (by simp) (nle rfl) (nle rfl) ⟨by rw [show kwI [(t0, k0), (t1, k1), (t2, k2)] = (1 : Int32) from (kw_1 (sb1 lt0 lk0 wk0 c17) (kw_1 (sa1 lt1 lk1 wk1 c24 c58 c95) (kw_1 (sa1 lt2 lk2 wk2 c102 c110 c121) rfl)))], rfl⟩
                · refine Wl.icmpN 84 d9_81 (feq c121).1 ?_
                  refine Wl.iconst 85 (0 : Int32) d9_84 (by decide) ?_
                  exact Wl.ireturn d9_85 rfl rfl (by simp) (nle rfl) (nle rfl) ⟨by rw [show kwI [(t0, k0), (t1, k1), (t2, k2)] = (0 : Int32) from (kw_1 (sb1 lt0 lk0 wk0 c17) (kw_1 (sa1 lt1 lk1 wk1 c24 c58 c95) (kw_0 (sa0 lt2 lk2 wk2 c102 c110 c121))))], rfl⟩
          · refine Wl.icmpN 84 d9_81 (feq c95).1 ?_
            refine Wl.iconst 85 (0 : Int32) d9_84 (by decide) ?_
            exact Wl.ireturn d9_85 rfl rfl (by simp) (nle rfl) (nle rfl) ⟨by rw [show kwI [(t0, k0), (t1, k1), (t2, k2)] = (0 : Int32) from (kw_1 (sb1 lt0 lk0 wk0 c17) (kw_0 (sa0 lt1 lk1 wk1 c24 c58 c95)))], rfl⟩
    · refine Wl.icmpN 84 d9_81 (feq c17).1 ?_
      refine Wl.iconst 85 (0 : Int32) d9_84 (by decide) ?_
      exact Wl.ireturn d9_85 rfl rfl (by simp) (nle rfl) (nle rfl) ⟨by rw [show kwI [(t0, k0), (t1, k1), (t2, k2)] = (0 : Int32) from (kw_0 (sb0 lt0 lk0 wk0 c13 c17))], rfl⟩
  · refine Wl.icmpN 54 d9_51 (flt c13).1 ?_
    refine Wl.iload_n 55 d9_54 rfl ?_
    refine Wl.bipush 57 (122 : Int32) d9_55 (by decide) ?_
    by_cases c125 : (122 : Int32) < t0
    · refine Wl.icmpY 71 d9_57 (tlt c125).2.2.1 ?_
      refine Wl.iload_n 72 d9_71 rfl ?_
      refine Wl.istore 74 #[.val (.ref a), .val (.ref y), .val (.int (0 : Int32)), .val (.int t0), .val (.int t0)] d9_72 rfl ?_
      refine Wl.iload 76 d9_74 rfl ?_
      refine Wl.aload_n 77 d9_76 rfl rfl ?_
      refine Wl.iload_n 78 d9_77 rfl ?_
      refine Wl.virtual 81 (argsL := [.int (0 : Int32)]) d9_78 (w90 hw) (w91 hw) (w93 hw) (w92 hw) (w16 hw) (w94 hw) (nf_sel (w93 hw) rfl) (U).exa (show parseMethodDescriptor "(I)C" = some ⟨[.int], some .char⟩ by decide +kernel) rfl (charW_met hw hcs hfm hu U (i := 0) (nle rfl)) (fun _ q => nomatch q) rfl rfl rfl (by decide) ⟨⟨nle rfl, nle rfl⟩, nle rfl, nle rfl⟩ ?_
      intro v126 h127 hq128 _
      obtain ⟨rfl, rfl⟩ := hq128
      show WlO _ _ _ _ _ _ _ _ _ _ _ _ _ _ _ _ _ _ [.int k0, .int t0]
      by_cases c129 : t0 = k0
      · refine Wl.icmpY 86 d9_81 (teq c129).1 ?_
        refine Wl.iinc 89 #[.val (.ref a), .val (.ref y), .val (.int (1 : Int32)), .val (.int t0), .val (.int t0)] (1 : Int32) d9_86 (by decide) rfl rfl ?_
        refine Wl.goto 28 d9_89 ?_
        refine Wl.iload_n 29 d9_28 rfl ?_
        refine Wl.aload_n 30 d9_29 rfl rfl ?_
        refine Wl.getfield 33 d9_30 (w50 hw) F2 ?_
        refine Wl.virtual 36 (argsL := []) d9_33 (w62 hw) (w63 hw) (w65 hw) (w64 hw) (w16 hw) (w66 hw) (nf_sel (w65 hw) rfl) (S).exa (show parseMethodDescriptor "()I" = some ⟨[], some .int⟩ by decide +kernel) rfl (lenW_met hw hcs S) (fun _ q => nomatch q) rfl rfl rfl (by decide) ⟨⟨nle rfl, nle rfl⟩, nle rfl, nle rfl⟩ ?_
        intro v130 h131 hq132 _
        obtain ⟨rfl, rfl⟩ := hq132
        show WlO _ _ _ _ _ _ _ _ _ _ _ _ _ _ _ _ _ _ [.int (3 : Int32), .int (1 : Int32)]
        refine Wl.icmpN 39 d9_36 (tlt (by decide)).2.1 ?_
        refine Wl.aload_n 40 d9_39 rfl rfl ?_
        refine Wl.getfield 43 d9_40 (w50 hw) F2 ?_
        refine Wl.iload_n 44 d9_43 rfl ?_
        refine Wl.virtual 47 (argsL := [.int (1 : Int32)]) d9_44 (w90 hw) (w91 hw) (w93 hw) (w92 hw) (w16 hw) (w94 hw) (nf_sel (w93 hw) rfl) (S).exa (show parseMethodDescriptor "(I)C" = some ⟨[.int], some .char⟩ by decide +kernel) rfl (charW_met hw hcs hfm hu S (i := 1) (nle rfl)) (fun _ q => nomatch q) rfl rfl rfl (by decide) ⟨⟨nle rfl, nle rfl⟩, nle rfl, nle rfl⟩ ?_
        intro v133 h134 hq135 _
        obtain ⟨rfl, rfl⟩ := hq135
        show WlO _ _ _ _ _ _ _ _ _ _ _ _ _ _ _ _ _ _ [.int t1]
        refine Wl.istore_n 48 #[.val (.ref a), .val (.ref y), .val (.int (1 : Int32)), .val (.int t1), .val (.int t0)] d9_47 rfl ?_
        refine Wl.iload_n 49 d9_48 rfl ?_
        refine Wl.bipush 51 (97 : Int32) d9_49 (by decide) ?_
        by_cases c136 : t1 < (97 : Int32)
        · refine Wl.icmpY 71 d9_51 (tlt c136).1 ?_
          refine Wl.iload_n 72 d9_71 rfl ?_
          refine Wl.istore 74 #[.val (.ref a), .val (.ref y), .val (.int (1 : Int32)), .val (.int t1), .val (.int t1)] d9_72 rfl ?_
          refine Wl.iload 76 d9_74 rfl ?_
          refine Wl.aload_n 77 d9_76 rfl rfl ?_
          refine Wl.iload_n 78 d9_77 rfl ?_
          refine Wl.virtual 81 (argsL := [.int (1 : Int32)]) d9_78 (w90 hw) (w91 hw) (w93 hw) (w92 hw) (w16 hw) (w94 hw) (nf_sel (w93 hw) rfl) (U).exa (show parseMethodDescriptor "(I)C" = some ⟨[.int], some .char⟩ by decide +kernel) rfl (charW_met hw hcs hfm hu U (i := 1) (nle rfl)) (fun _ q => nomatch q) rfl rfl rfl (by decide) ⟨⟨nle rfl, nle rfl⟩, nle rfl, nle rfl⟩ ?_
          intro v137 h138 hq139 _
          obtain ⟨rfl, rfl⟩ := hq139
          show WlO _ _ _ _ _ _ _ _ _ _ _ _ _ _ _ _ _ _ [.int k1, .int t1]
          by_cases c140 : t1 = k1
          · refine Wl.icmpY 86 d9_81 (teq c140).1 ?_
            refine Wl.iinc 89 #[.val (.ref a), .val (.ref y), .val (.int (2 : Int32)), .val (.int t1), .val (.int t1)] (1 : Int32) d9_86 (by decide) rfl rfl ?_
            refine Wl.goto 28 d9_89 ?_
            refine Wl.iload_n 29 d9_28 rfl ?_
            refine Wl.aload_n 30 d9_29 rfl rfl ?_
            refine Wl.getfield 33 d9_30 (w50 hw) F2 ?_
            refine Wl.virtual 36 (argsL := []) d9_33 (w62 hw) (w63 hw) (w65 hw) (w64 hw) (w16 hw) (w66 hw) (nf_sel (w65 hw) rfl) (S).exa (show parseMethodDescriptor "()I" = some ⟨[], some .int⟩ by decide +kernel) rfl (lenW_met hw hcs S) (fun _ q => nomatch q) rfl rfl rfl (by decide) ⟨⟨nle rfl, nle rfl⟩, nle rfl, nle rfl⟩ ?_
            intro v141 h142 hq143 _
            obtain ⟨rfl, rfl⟩ := hq143
            show WlO _ _ _ _ _ _ _ _ _ _ _ _ _ _ _ _ _ _ [.int (3 : Int32), .int (2 : Int32)]
            refine Wl.icmpN 39 d9_36 (tlt (by decide)).2.1 ?_
            refine Wl.aload_n 40 d9_39 rfl rfl ?_
            refine Wl.getfield 43 d9_40 (w50 hw) F2 ?_
            refine Wl.iload_n 44 d9_43 rfl ?_
            refine Wl.virtual 47 (argsL := [.int (2 : Int32)]) d9_44 (w90 hw) (w91 hw) (w93 hw) (w92 hw) (w16 hw) (w94 hw) (nf_sel (w93 hw) rfl) (S).exa (show parseMethodDescriptor "(I)C" = some ⟨[.int], some .char⟩ by decide +kernel) rfl (charW_met hw hcs hfm hu S (i := 2) (nle rfl)) (fun _ q => nomatch q) rfl rfl rfl (by decide) ⟨⟨nle rfl, nle rfl⟩, nle rfl, nle rfl⟩ ?_
            intro v144 h145 hq146 _
            obtain ⟨rfl, rfl⟩ := hq146
            show WlO _ _ _ _ _ _ _ _ _ _ _ _ _ _ _ _ _ _ [.int t2]
            refine Wl.istore_n 48 #[.val (.ref a), .val (.ref y), .val (.int (2 : Int32)), .val (.int t2), .val (.int t1)] d9_47 rfl ?_
            refine Wl.iload_n 49 d9_48 rfl ?_
            refine Wl.bipush 51 (97 : Int32) d9_49 (by decide) ?_
            by_cases c147 : t2 < (97 : Int32)
            · refine Wl.icmpY 71 d9_51 (tlt c147).1 ?_
              refine Wl.iload_n 72 d9_71 rfl ?_
              refine Wl.istore 74 #[.val (.ref a), .val (.ref y), .val (.int (2 : Int32)), .val (.int t2), .val (.int t2)] d9_72 rfl ?_
              refine Wl.iload 76 d9_74 rfl ?_
              refine Wl.aload_n 77 d9_76 rfl rfl ?_
              refine Wl.iload_n 78 d9_77 rfl ?_
              refine Wl.virtual 81 (argsL := [.int (2 : Int32)]) d9_78 (w90 hw) (w91 hw) (w93 hw) (w92 hw) (w16 hw) (w94 hw) (nf_sel (w93 hw) rfl) (U).exa (show parseMethodDescriptor "(I)C" = some ⟨[.int], some .char⟩ by decide +kernel) rfl (charW_met hw hcs hfm hu U (i := 2) (nle rfl)) (fun _ q => nomatch q) rfl rfl rfl (by decide) ⟨⟨nle rfl, nle rfl⟩, nle rfl, nle rfl⟩ ?_
              intro v148 h149 hq150 _
              obtain ⟨rfl, rfl⟩ := hq150
              show WlO _ _ _ _ _ _ _ _ _ _ _ _ _ _ _ _ _ _ [.int k2, .int t2]
              by_cases c151 : t2 = k2
              · refine Wl.icmpY 86 d9_81 (teq c151).1 ?_
                refine Wl.iinc 89 #[.val (.ref a), .val (.ref y), .val (.int (3 : Int32)), .val (.int t2), .val (.int t2)] (1 : Int32) d9_86 (by decide) rfl rfl ?_
                refine Wl.goto 28 d9_89 ?_
                refine Wl.iload_n 29 d9_28 rfl ?_
                refine Wl.aload_n 30 d9_29 rfl rfl ?_
                refine Wl.getfield 33 d9_30 (w50 hw) F2 ?_
                refine Wl.virtual 36 (argsL := []) d9_33 (w62 hw) (w63 hw) (w65 hw) (w64 hw) (w16 hw) (w66 hw) (nf_sel (w65 hw) rfl) (S).exa (show parseMethodDescriptor "()I" = some ⟨[], some .int⟩ by decide +kernel) rfl (lenW_met hw hcs S) (fun _ q => nomatch q) rfl rfl rfl (by decide) ⟨⟨nle rfl, nle rfl⟩, nle rfl, nle rfl⟩ ?_
                intro v152 h153 hq154 _
                obtain ⟨rfl, rfl⟩ := hq154
                show WlO _ _ _ _ _ _ _ _ _ _ _ _ _ _ _ _ _ _ [.int (3 : Int32), .int (3 : Int32)]
                refine Wl.icmpY 92 d9_36 (flt (by decide)).2.1 ?_
                refine Wl.iconst 93 (1 : Int32) d9_92 (by decide) ?_
                exact Wl.ireturn d9_93 rfl rfl (by simp) (nle rfl) (nle rfl) ⟨by rw [show kwI [(t0, k0), (t1, k1), (t2, k2)] = (1 : Int32) from (kw_1 (sb1 lt0 lk0 wk0 c129) (kw_1 (sb1 lt1 lk1 wk1 c140) (kw_1 (sb1 lt2 lk2 wk2 c151) rfl)))], rfl⟩
              · refine Wl.icmpN 84 d9_81 (feq c151).1 ?_
                refine Wl.iconst 85 (0 : Int32) d9_84 (by decide) ?_
                exact Wl.ireturn d9_85 rfl rfl (by simp) (nle rfl) (nle rfl) ⟨by rw [show kwI [(t0, k0), (t1, k1), (t2, k2)] = (0 : Int32) from (kw_1 (sb1 lt0 lk0 wk0 c129) (kw_1 (sb1 lt1 lk1 wk1 c140) (kw_0 (sb0 lt2 lk2 wk2 c147 c151))))], rfl⟩
            · refine Wl.icmpN 54 d9_51 (flt c147).1 ?_
              refine Wl.iload_n 55 d9_54 rfl ?_
              refine Wl.bipush 57 (122 : Int32) d9_55 (by decide) ?_
              by_cases c155 : (122 : Int32) < t2
              · refine Wl.icmpY 71 d9_57 (tlt c155).2.2.1 ?_
                refine Wl.iload_n 72 d9_71 rfl ?_
                refine Wl.istore 74 #[.val (.ref a), .val (.ref y), .val (.int (2 : Int32)), .val (.int t2), .val (.int t2)] d9_72 rfl ?_
                refine Wl.iload 76 d9_74 rfl ?_
                refine Wl.aload_n 77 d9_76 rfl rfl ?_
                refine Wl.iload_n 78 d9_77 rfl ?_
                refine Wl.virtual 81 (argsL := [.int (2 : Int32)]) d9_78 (w90 hw) (w91 hw) (w93 hw) (w92 hw) (w16 hw) (w94 hw) (nf_sel (w93 hw) rfl) (U).exa (show parseMethodDescriptor "(I)C" = some ⟨[.int], some .char⟩ by decide +kernel) rfl (charW_met hw hcs hfm hu U (i := 2) (nle rfl)) (fun _ q => nomatch q) rfl rfl rfl (by decide) ⟨⟨nle rfl, nle rfl⟩, nle rfl, nle rfl⟩ ?_
                intro v156 h157 hq158 _
                obtain ⟨rfl, rfl⟩ := hq158
                show WlO _ _ _ _ _ _ _ _ _ _ _ _ _ _ _ _ _ _ [.int k2, .int t2]
                by_cases c159 : t2 = k2
                · refine Wl.icmpY 86 d9_81 (teq c159).1 ?_
                  refine Wl.iinc 89 #[.val (.ref a), .val (.ref y), .val (.int (3 : Int32)), .val (.int t2), .val (.int t2)] (1 : Int32) d9_86 (by decide) rfl rfl ?_
                  refine Wl.goto 28 d9_89 ?_
                  refine Wl.iload_n 29 d9_28 rfl ?_
                  refine Wl.aload_n 30 d9_29 rfl rfl ?_
                  refine Wl.getfield 33 d9_30 (w50 hw) F2 ?_
                  refine Wl.virtual 36 (argsL := []) d9_33 (w62 hw) (w63 hw) (w65 hw) (w64 hw) (w16 hw) (w66 hw) (nf_sel (w65 hw) rfl) (S).exa (show parseMethodDescriptor "()I" = some ⟨[], some .int⟩ by decide +kernel) rfl (lenW_met hw hcs S) (fun _ q => nomatch q) rfl rfl rfl (by decide) ⟨⟨nle rfl, nle rfl⟩, nle rfl, nle rfl⟩ ?_
                  intro v160 h161 hq162 _
                  obtain ⟨rfl, rfl⟩ := hq162
                  show WlO _ _ _ _ _ _ _ _ _ _ _ _ _ _ _ _ _ _ [.int (3 : Int32), .int (3 : Int32)]
                  refine Wl.icmpY 92 d9_36 (flt (by decide)).2.1 ?_
                  refine Wl.iconst 93 (1 : Int32) d9_92 (by decide) ?_
                  exact Wl.ireturn d9_93 rfl rfl (by simp) (nle rfl) (nle rfl) ⟨by rw [show kwI [(t0, k0), (t1, k1), (t2, k2)] = (1 : Int32) from (kw_1 (sb1 lt0 lk0 wk0 c129) (kw_1 (sb1 lt1 lk1 wk1 c140) (kw_1 (sb1 lt2 lk2 wk2 c159) rfl)))], rfl⟩
                · refine Wl.icmpN 84 d9_81 (feq c159).1 ?_
                  refine Wl.iconst 85 (0 : Int32) d9_84 (by decide) ?_
                  exact Wl.ireturn d9_85 rfl rfl (by simp) (nle rfl) (nle rfl) ⟨by rw [show kwI [(t0, k0), (t1, k1), (t2, k2)] = (0 : Int32) from (kw_1 (sb1 lt0 lk0 wk0 c129) (kw_1 (sb1 lt1 lk1 wk1 c140) (kw_0 (sc0 lt2 lk2 wk2 c155 c159))))], rfl⟩
              · refine Wl.icmpN 60 d9_57 (flt c155).2.2.1 ?_
                refine Wl.iload_n 61 d9_60 rfl ?_
                refine Wl.bipush 63 (97 : Int32) d9_61 (by decide) ?_
                refine Wl.isub 64 d9_63 ?_
                refine Wl.bipush 66 (65 : Int32) d9_64 (by decide) ?_
                refine Wl.iadd 67 d9_66 ?_
                refine Wl.i2c 68 d9_67 ?_
                refine Wl.goto 72 d9_68 ?_
                refine Wl.istore 74 #[.val (.ref a), .val (.ref y), .val (.int (2 : Int32)), .val (.int t2), .val (.int ((((t2 - (97 : Int32)) + (65 : Int32))).toUInt32.toUInt16.toUInt32.toInt32))] d9_72 rfl ?_
                refine Wl.iload 76 d9_74 rfl ?_
                refine Wl.aload_n 77 d9_76 rfl rfl ?_
                refine Wl.iload_n 78 d9_77 rfl ?_
                refine Wl.virtual 81 (argsL := [.int (2 : Int32)]) d9_78 (w90 hw) (w91 hw) (w93 hw) (w92 hw) (w16 hw) (w94 hw) (nf_sel (w93 hw) rfl) (U).exa (show parseMethodDescriptor "(I)C" = some ⟨[.int], some .char⟩ by decide +kernel) rfl (charW_met hw hcs hfm hu U (i := 2) (nle rfl)) (fun _ q => nomatch q) rfl rfl rfl (by decide) ⟨⟨nle rfl, nle rfl⟩, nle rfl, nle rfl⟩ ?_
                intro v163 h164 hq165 _
                obtain ⟨rfl, rfl⟩ := hq165
                show WlO _ _ _ _ _ _ _ _ _ _ _ _ _ _ _ _ _ _ [.int k2, .int ((((t2 - (97 : Int32)) + (65 : Int32))).toUInt32.toUInt16.toUInt32.toInt32)]
                by_cases c166 : (((t2 - (97 : Int32)) + (65 : Int32))).toUInt32.toUInt16.toUInt32.toInt32 = k2
                · refine Wl.icmpY 86 d9_81 (teq c166).1 ?_
                  refine Wl.iinc 89 #[.val (.ref a), .val (.ref y), .val (.int (3 : Int32)), .val (.int t2), .val (.int ((((t2 - (97 : Int32)) + (65 : Int32))).toUInt32.toUInt16.toUInt32.toInt32))] (1 : Int32) d9_86 (by decide) rfl rfl ?_
                  refine Wl.goto 28 d9_89 ?_
                  refine Wl.iload_n 29 d9_28 rfl ?_
                  refine Wl.aload_n 30 d9_29 rfl rfl ?_
                  refine Wl.getfield 33 d9_30 (w50 hw) F2 ?_
                  refine Wl.virtual 36 (argsL := []) d9_33 (w62 hw) (w63 hw) (w65 hw) (w64 hw) (w16 hw) (w66 hw) (nf_sel (w65 hw) rfl) (S).exa (show parseMethodDescriptor "()I" = some ⟨[], some .int⟩ by decide +kernel) rfl (lenW_met hw hcs S) (fun _ q => nomatch q) rfl rfl rfl (by decide) ⟨⟨nle rfl, nle rfl⟩, nle rfl, nle rfl⟩ ?_
                  intro v167 h168 hq169 _
                  obtain ⟨rfl, rfl⟩ := hq169
                  show WlO _ _ _ _ _ _ _ _ _ _ _ _ _ _ _ _ _ _ [.int (3 : Int32), .int (3 : Int32)]
                  refine Wl.icmpY 92 d9_36 (flt (by decide)).2.1 ?_
                  refine Wl.iconst 93 (1 : Int32) d9_92 (by decide) ?_
                  exact Wl.ireturn d9_93 rfl rfl (by simp) (nle rfl) (nle rfl) ⟨by rw [show kwI [(t0, k0), (t1, k1), (t2, k2)] = (1 : Int32) from (kw_1 (sb1 lt0 lk0 wk0 c129) (kw_1 (sb1 lt1 lk1 wk1 c140) (kw_1 (sa1 lt2 lk2 wk2 c147 c155 c166) rfl)))], rfl⟩
                · refine Wl.icmpN 84 d9_81 (feq c166).1 ?_
                  refine Wl.iconst 85 (0 : Int32) d9_84 (by decide) ?_
                  exact Wl.ireturn d9_85 rfl rfl (by simp) (nle rfl) (nle rfl) ⟨by rw [show kwI [(t0, k0), (t1, k1), (t2, k2)] = (0 : Int32) from (kw_1 (sb1 lt0 lk0 wk0 c129) (kw_1 (sb1 lt1 lk1 wk1 c140) (kw_0 (sa0 lt2 lk2 wk2 c147 c155 c166))))], rfl⟩
          · refine Wl.icmpN 84 d9_81 (feq c140).1 ?_
            refine Wl.iconst 85 (0 : Int32) d9_84 (by decide) ?_
            exact Wl.ireturn d9_85 rfl rfl (by simp) (nle rfl) (nle rfl) ⟨by rw [show kwI [(t0, k0), (t1, k1), (t2, k2)] = (0 : Int32) from (kw_1 (sb1 lt0 lk0 wk0 c129) (kw_0 (sb0 lt1 lk1 wk1 c136 c140)))], rfl⟩
        · refine Wl.icmpN 54 d9_51 (flt c136).1 ?_
          refine Wl.iload_n 55 d9_54 rfl ?_
          refine Wl.bipush 57 (122 : Int32) d9_55 (by decide) ?_
          by_cases c170 : (122 : Int32) < t1
          · refine Wl.icmpY 71 d9_57 (tlt c170).2.2.1 ?_
            refine Wl.iload_n 72 d9_71 rfl ?_
            refine Wl.istore 74 #[.val (.ref a), .val (.ref y), .val (.int (1 : Int32)), .val (.int t1), .val (.int t1)] d9_72 rfl ?_
            refine Wl.iload 76 d9_74 rfl ?_
            refine Wl.aload_n 77 d9_76 rfl rfl ?_
            refine Wl.iload_n 78 d9_77 rfl ?_
            refine Wl.virtual 81 (argsL := [.int (1 : Int32)]) d9_78 (w90 hw) (w91 hw) (w93 hw) (w92 hw) (w16 hw) (w94 hw) (nf_sel (w93 hw) rfl) (U).exa (show parseMethodDescriptor "(I)C" = some ⟨[.int], some .char⟩ by decide +kernel) rfl (charW_met hw hcs hfm hu U (i := 1) (nle rfl)) (fun _ q => nomatch q) rfl rfl rfl (by decide) ⟨⟨nle rfl, nle rfl⟩, nle rfl, nle rfl⟩ ?_
            intro v171 h172 hq173 _
            obtain ⟨rfl, rfl⟩ := hq173
            show WlO _ _ _ _ _ _ _ _ _ _ _ _ _ _ _ _ _ _ [.int k1, .int t1]
            by_cases c174 : t1 = k1
            · refine Wl.icmpY 86 d9_81 (teq c174).1 ?_
              refine Wl.iinc 89 #[.val (.ref a), .val (.ref y), .val (.int (2 : Int32)), .val (.int t1), .val (.int t1)] (1 : Int32) d9_86 (by decide) rfl rfl ?_
              refine Wl.goto 28 d9_89 ?_
              refine Wl.iload_n 29 d9_28 rfl ?_
              refine Wl.aload_n 30 d9_29 rfl rfl ?_
              refine Wl.getfield 33 d9_30 (w50 hw) F2 ?_
              refine Wl.virtual 36 (argsL := []) d9_33 (w62 hw) (w63 hw) (w65 hw) (w64 hw) (w16 hw) (w66 hw) (nf_sel (w65 hw) rfl) (S).exa (show parseMethodDescriptor "()I" = some ⟨[], some .int⟩ by decide +kernel) rfl (lenW_met hw hcs S) (fun _ q => nomatch q) rfl rfl rfl (by decide) ⟨⟨nle rfl, nle rfl⟩, nle rfl, nle rfl⟩ ?_
              intro v175 h176 hq177 _
              obtain ⟨rfl, rfl⟩ := hq177
              show WlO _ _ _ _ _ _ _ _ _ _ _ _ _ _ _ _ _ _ [.int (3 : Int32), .int (2 : Int32)]
              refine Wl.icmpN 39 d9_36 (tlt (by decide)).2.1 ?_
              refine Wl.aload_n 40 d9_39 rfl rfl ?_
              refine Wl.getfield 43 d9_40 (w50 hw) F2 ?_
              refine Wl.iload_n 44 d9_43 rfl ?_
              refine Wl.virtual 47 (argsL := [.int (2 : Int32)]) d9_44 (w90 hw) (w91 hw) (w93 hw) (w92 hw) (w16 hw) (w94 hw) (nf_sel (w93 hw) rfl) (S).exa (show parseMethodDescriptor "(I)C" = some ⟨[.int], some .char⟩ by decide +kernel) rfl (charW_met hw hcs hfm hu S (i := 2) (nle rfl)) (fun _ q => nomatch q) rfl rfl rfl (by decide) ⟨⟨nle rfl, nle rfl⟩, nle rfl, nle rfl⟩ ?_
              intro v178 h179 hq180 _
              obtain ⟨rfl, rfl⟩ := hq180
              show WlO _ _ _ _ _ _ _ _ _ _ _ _ _ _ _ _ _ _ [.int t2]
              refine Wl.istore_n 48 #[.val (.ref a), .val (.ref y), .val (.int (2 : Int32)), .val (.int t2), .val (.int t1)] d9_47 rfl ?_
              refine Wl.iload_n 49 d9_48 rfl ?_
              refine Wl.bipush 51 (97 : Int32) d9_49 (by decide) ?_
              by_cases c181 : t2 < (97 : Int32)
              · refine Wl.icmpY 71 d9_51 (tlt c181).1 ?_
                refine Wl.iload_n 72 d9_71 rfl ?_
                refine Wl.istore 74 #[.val (.ref a), .val (.ref y), .val (.int (2 : Int32)), .val (.int t2), .val (.int t2)] d9_72 rfl ?_
                refine Wl.iload 76 d9_74 rfl ?_
                refine Wl.aload_n 77 d9_76 rfl rfl ?_
                refine Wl.iload_n 78 d9_77 rfl ?_
                refine Wl.virtual 81 (argsL := [.int (2 : Int32)]) d9_78 (w90 hw) (w91 hw) (w93 hw) (w92 hw) (w16 hw) (w94 hw) (nf_sel (w93 hw) rfl) (U).exa (show parseMethodDescriptor "(I)C" = some ⟨[.int], some .char⟩ by decide +kernel) rfl (charW_met hw hcs hfm hu U (i := 2) (nle rfl)) (fun _ q => nomatch q) rfl rfl rfl (by decide) ⟨⟨nle rfl, nle rfl⟩, nle rfl, nle rfl⟩ ?_
                intro v182 h183 hq184 _
                obtain ⟨rfl, rfl⟩ := hq184
                show WlO _ _ _ _ _ _ _ _ _ _ _ _ _ _ _ _ _ _ [.int k2, .int t2]
                by_cases c185 : t2 = k2
                · refine Wl.icmpY 86 d9_81 (teq c185).1 ?_
                  refine Wl.iinc 89 #[.val (.ref a), .val (.ref y), .val (.int (3 : Int32)), .val (.int t2), .val (.int t2)] (1 : Int32) d9_86 (by decide) rfl rfl ?_
                  refine Wl.goto 28 d9_89 ?_
                  refine Wl.iload_n 29 d9_28 rfl ?_
                  refine Wl.aload_n 30 d9_29 rfl rfl ?_
                  refine Wl.getfield 33 d9_30 (w50 hw) F2 ?_
                  refine Wl.virtual 36 (argsL := []) d9_33 (w62 hw) (w63 hw) (w65 hw) (w64 hw) (w16 hw) (w66 hw) (nf_sel (w65 hw) rfl) (S).exa (show parseMethodDescriptor "()I" = some ⟨[], some .int⟩ by decide +kernel) rfl (lenW_met hw hcs S) (fun _ q => nomatch q) rfl rfl rfl (by decide) ⟨⟨nle rfl, nle rfl⟩, nle rfl, nle rfl⟩ ?_
                  intro v186 h187 hq188 _
                  obtain ⟨rfl, rfl⟩ := hq188
                  show WlO _ _ _ _ _ _ _ _ _ _ _ _ _ _ _ _ _ _ [.int (3 : Int32), .int (3 : Int32)]
                  refine Wl.icmpY 92 d9_36 (flt (by decide)).2.1 ?_
                  refine Wl.iconst 93 (1 : Int32) d9_92 (by decide) ?_
                  exact Wl.ireturn d9_93 rfl rfl (by simp) (nle rfl) (nle rfl) ⟨by rw [show kwI [(t0, k0), (t1, k1), (t2, k2)] = (1 : Int32) from (kw_1 (sb1 lt0 lk0 wk0 c129) (kw_1 (sb1 lt1 lk1 wk1 c174) (kw_1 (sb1 lt2 lk2 wk2 c185) rfl)))], rfl⟩
                · refine Wl.icmpN 84 d9_81 (feq c185).1 ?_
                  refine Wl.iconst 85 (0 : Int32) d9_84 (by decide) ?_
                  exact Wl.ireturn d9_85 rfl rfl (by simp) (nle rfl) (nle rfl) ⟨by rw [show kwI [(t0, k0), (t1, k1), (t2, k2)] = (0 : Int32) from (kw_1 (sb1 lt0 lk0 wk0 c129) (kw_1 (sb1 lt1 lk1 wk1 c174) (kw_0 (sb0 lt2 lk2 wk2 c181 c185))))], rfl⟩
              · refine Wl.icmpN 54 d9_51 (flt c181).1 ?_
                refine Wl.iload_n 55 d9_54 rfl ?_
                refine Wl.bipush 57 (122 : Int32) d9_55 (by decide) ?_
                by_cases c189 : (122 : Int32) < t2
                · refine Wl.icmpY 71 d9_57 (tlt c189).2.2.1 ?_
                  refine Wl.iload_n 72 d9_71 rfl ?_
                  refine Wl.istore 74 #[.val (.ref a), .val (.ref y), .val (.int (2 : Int32)), .val (.int t2), .val (.int t2)] d9_72 rfl ?_
                  refine Wl.iload 76 d9_74 rfl ?_
                  refine Wl.aload_n 77 d9_76 rfl rfl ?_
                  refine Wl.iload_n 78 d9_77 rfl ?_
                  refine Wl.virtual 81 (argsL := [.int (2 : Int32)]) d9_78 (w90 hw) (w91 hw) (w93 hw) (w92 hw) (w16 hw) (w94 hw) (nf_sel (w93 hw) rfl) (U).exa (show parseMethodDescriptor "(I)C" = some ⟨[.int], some .char⟩ by decide +kernel) rfl (charW_met hw hcs hfm hu U (i := 2) (nle rfl)) (fun _ q => nomatch q) rfl rfl rfl (by decide) ⟨⟨nle rfl, nle rfl⟩, nle rfl, nle rfl⟩ ?_
                  intro v190 h191 hq192 _
                  obtain ⟨rfl, rfl⟩ := hq192
                  show WlO _ _ _ _ _ _ _ _ _ _ _ _ _ _ _ _ _ _ [.int k2, .int t2]
                  by_cases c193 : t2 = k2
                  · refine Wl.icmpY 86 d9_81 (teq c193).1 ?_
                    refine Wl.iinc 89 #[.val (.ref a), .val (.ref y), .val (.int (3 : Int32)), .val (.int t2), .val (.int t2)] (1 : Int32) d9_86 (by decide) rfl rfl ?_
                    refine Wl.goto 28 d9_89 ?_
                    refine Wl.iload_n 29 d9_28 rfl ?_
                    refine Wl.aload_n 30 d9_29 rfl rfl ?_
                    refine Wl.getfield 33 d9_30 (w50 hw) F2 ?_
                    refine Wl.virtual 36 (argsL := []) d9_33 (w62 hw) (w63 hw) (w65 hw) (w64 hw) (w16 hw) (w66 hw) (nf_sel (w65 hw) rfl) (S).exa (show parseMethodDescriptor "()I" = some ⟨[], some .int⟩ by decide +kernel) rfl (lenW_met hw hcs S) (fun _ q => nomatch q) rfl rfl rfl (by decide) ⟨⟨nle rfl, nle rfl⟩, nle rfl, nle rfl⟩ ?_
                    intro v194 h195 hq196 _
                    obtain ⟨rfl, rfl⟩ := hq196
                    show WlO _ _ _ _ _ _ _ _ _ _ _ _ _ _ _ _ _ _ [.int (3 : Int32), .int (3 : Int32)]
                    refine Wl.icmpY 92 d9_36 (flt (by decide)).2.1 ?_
                    refine Wl.iconst 93 (1 : Int32) d9_92 (by decide) ?_
                    exact Wl.ireturn d9_93 rfl rfl (by simp) (nle rfl) (nle rfl) ⟨by rw [show kwI [(t0, k0), (t1, k1), (t2, k2)] = (1 : Int32) from (kw_1 (sb1 lt0 lk0 wk0 c129) (kw_1 (sb1 lt1 lk1 wk1 c174) (kw_1 (sb1 lt2 lk2 wk2 c193) rfl)))], rfl⟩
                  · refine Wl.icmpN 84 d9_81 (feq c193).1 ?_
                    refine Wl.iconst 85 (0 : Int32) d9_84 (by decide) ?_
                    exact Wl.ireturn d9_85 rfl rfl (by simp) (nle rfl) (nle rfl) ⟨by rw [show kwI [(t0, k0), (t1, k1), (t2, k2)] = (0 : Int32) from (kw_1 (sb1 lt0 lk0 wk0 c129) (kw_1 (sb1 lt1 lk1 wk1 c174) (kw_0 (sc0 lt2 lk2 wk2 c189 c193))))], rfl⟩
                · refine Wl.icmpN 60 d9_57 (flt c189).2.2.1 ?_
                  refine Wl.iload_n 61 d9_60 rfl ?_
                  refine Wl.bipush 63 (97 : Int32) d9_61 (by decide) ?_
                  refine Wl.isub 64 d9_63 ?_
                  refine Wl.bipush 66 (65 : Int32) d9_64 (by decide) ?_
                  refine Wl.iadd 67 d9_66 ?_
                  refine Wl.i2c 68 d9_67 ?_
                  refine Wl.goto 72 d9_68 ?_
                  refine Wl.istore 74 #[.val (.ref a), .val (.ref y), .val (.int (2 : Int32)), .val (.int t2), .val (.int ((((t2 - (97 : Int32)) + (65 : Int32))).toUInt32.toUInt16.toUInt32.toInt32))] d9_72 rfl ?_
                  refine Wl.iload 76 d9_74 rfl ?_
                  refine Wl.aload_n 77 d9_76 rfl rfl ?_
                  refine Wl.iload_n 78 d9_77 rfl ?_
                  refine Wl.virtual 81 (argsL := [.int (2 : Int32)]) d9_78 (w90 hw) (w91 hw) (w93 hw) (w92 hw) (w16 hw) (w94 hw) (nf_sel (w93 hw) rfl) (U).exa (show parseMethodDescriptor "(I)C" = some ⟨[.int], some .char⟩ by decide +kernel) rfl (charW_met hw hcs hfm hu U (i := 2) (nle rfl)) (fun _ q => nomatch q) rfl rfl rfl (by decide) ⟨⟨nle rfl, nle rfl⟩, nle rfl, nle rfl⟩ ?_
                  intro v197 h198 hq199 _
                  obtain ⟨rfl, rfl⟩ := hq199
                  show WlO _ _ _ _ _ _ _ _ _ _ _ _ _ _ _ _ _ _ [.int k2, .int ((((t2 - (97 : Int32)) + (65 : Int32))).toUInt32.toUInt16.toUInt32.toInt32)]
                  by_cases c200 : (((t2 - (97 : Int32)) + (65 : Int32))).toUInt32.toUInt16.toUInt32.toInt32 = k2
                  · refine Wl.icmpY 86 d9_81 (teq c200).1 ?_
                    refine Wl.iinc 89 #[.val (.ref a), .val (.ref y), .val (.int (3 : Int32)), .val (.int t2), .val (.int ((((t2 - (97 : Int32)) + (65 : Int32))).toUInt32.toUInt16.toUInt32.toInt32))] (1 : Int32) d9_86 (by decide) rfl rfl ?_
                    refine Wl.goto 28 d9_89 ?_
                    refine Wl.iload_n 29 d9_28 rfl ?_
                    refine Wl.aload_n 30 d9_29 rfl rfl ?_
                    refine Wl.getfield 33 d9_30 (w50 hw) F2 ?_
                    refine Wl.virtual 36 (argsL := []) d9_33 (w62 hw) (w63 hw) (w65 hw) (w64 hw) (w16 hw) (w66 hw) (nf_sel (w65 hw) rfl) (S).exa (show parseMethodDescriptor "()I" = some ⟨[], some .int⟩ by decide +kernel) rfl (lenW_met hw hcs S) (fun _ q => nomatch q) rfl rfl rfl (by decide) ⟨⟨nle rfl, nle rfl⟩, nle rfl, nle rfl⟩ ?_
                    intro v201 h202 hq203 _
                    obtain ⟨rfl, rfl⟩ := hq203
                    show WlO _ _ _ _ _ _ _ _ _ _ _ _ _ _ _ _ _ _ [.int (3 : Int32), .int (3 : Int32)]
                    refine Wl.icmpY 92 d9_36 (flt (by decide)).2.1 ?_
                    refine Wl.iconst 93 (1 : Int32) d9_92 (by decide) ?_
                    exact Wl.ireturn d9_93 rfl rfl (by simp) (nle rfl) (nle rfl) ⟨by rw [show kwI [(t0, k0), (t1, k1), (t2, k2)] = (1 : Int32) from (kw_1 (sb1 lt0 lk0 wk0 c129) (kw_1 (sb1 lt1 lk1 wk1 c174) (kw_1 (sa1 lt2 lk2 wk2 c181 c189 c200) rfl)))], rfl⟩
                  · refine Wl.icmpN 84 d9_81 (feq c200).1 ?_
                    refine Wl.iconst 85 (0 : Int32) d9_84 (by decide) ?_
                    exact Wl.ireturn d9_85 rfl rfl (by simp) (nle rfl) (nle rfl) ⟨by rw [show kwI [(t0, k0), (t1, k1), (t2, k2)] = (0 : Int32) from (kw_1 (sb1 lt0 lk0 wk0 c129) (kw_1 (sb1 lt1 lk1 wk1 c174) (kw_0 (sa0 lt2 lk2 wk2 c181 c189 c200))))], rfl⟩
            · refine Wl.icmpN 84 d9_81 (feq c174).1 ?_
              refine Wl.iconst 85 (0 : Int32) d9_84 (by decide) ?_
              exact Wl.ireturn d9_85 rfl rfl (by simp) (nle rfl) (nle rfl) ⟨by rw [show kwI [(t0, k0), (t1, k1), (t2, k2)] = (0 : Int32) from (kw_1 (sb1 lt0 lk0 wk0 c129) (kw_0 (sc0 lt1 lk1 wk1 c170 c174)))], rfl⟩
          · refine Wl.icmpN 60 d9_57 (flt c170).2.2.1 ?_
            refine Wl.iload_n 61 d9_60 rfl ?_
            refine Wl.bipush 63 (97 : Int32) d9_61 (by decide) ?_
            refine Wl.isub 64 d9_63 ?_
            refine Wl.bipush 66 (65 : Int32) d9_64 (by decide) ?_
            refine Wl.iadd 67 d9_66 ?_
            refine Wl.i2c 68 d9_67 ?_
            refine Wl.goto 72 d9_68 ?_
            refine Wl.istore 74 #[.val (.ref a), .val (.ref y), .val (.int (1 : Int32)), .val (.int t1), .val (.int ((((t1 - (97 : Int32)) + (65 : Int32))).toUInt32.toUInt16.toUInt32.toInt32))] d9_72 rfl ?_
            refine Wl.iload 76 d9_74 rfl ?_
            refine Wl.aload_n 77 d9_76 rfl rfl ?_
            refine Wl.iload_n 78 d9_77 rfl ?_
            refine Wl.virtual 81 (argsL := [.int (1 : Int32)]) d9_78 (w90 hw) (w91 hw) (w93 hw) (w92 hw) (w16 hw) (w94 hw) (nf_sel (w93 hw) rfl) (U).exa (show parseMethodDescriptor "(I)C" = some ⟨[.int], some .char⟩ by decide +kernel) rfl (charW_met hw hcs hfm hu U (i := 1) (nle rfl)) (fun _ q => nomatch q) rfl rfl rfl (by decide) ⟨⟨nle rfl, nle rfl⟩, nle rfl, nle rfl⟩ ?_
            intro v204 h205 hq206 _
            obtain ⟨rfl, rfl⟩ := hq206
            show WlO _ _ _ _ _ _ _ _ _ _ _ _ _ _ _ _ _ _ [.int k1, .int ((((t1 - (97 : Int32)) + (65 : Int32))).toUInt32.toUInt16.toUInt32.toInt32)]
            by_cases c207 : (((t1 - (97 : Int32)) + (65 : Int32))).toUInt32.toUInt16.toUInt32.toInt32 = k1
            · refine Wl.icmpY 86 d9_81 (teq c207).1 ?_
              refine Wl.iinc 89 #[.val (.ref a), .val (.ref y), .val (.int (2 : Int32)), .val (.int t1), .val (.int ((((t1 - (97 : Int32)) + (65 : Int32))).toUInt32.toUInt16.toUInt32.toInt32))] (1 : Int32) d9_86 (by decide) rfl rfl ?_
              refine Wl.goto 28 d9_89 ?_
              refine Wl.iload_n 29 d9_28 rfl ?_
              refine Wl.aload_n 30 d9_29 rfl rfl ?_
              refine Wl.getfield 33 d9_30 (w50 hw) F2 ?_
              refine Wl.virtual 36 (argsL := []) d9_33 (w62 hw) (w63 hw) (w65 hw) (w64 hw) (w16 hw) (w66 hw) (nf_sel (w65 hw) rfl) (S).exa (show parseMethodDescriptor "()I" = some ⟨[], some .int⟩ by decide +kernel) rfl (lenW_met hw hcs S) (fun _ q => nomatch q) rfl rfl rfl (by decide) ⟨⟨nle rfl, nle rfl⟩, nle rfl, nle rfl⟩ ?_
              intro v208 h209 hq210 _
              obtain ⟨rfl, rfl⟩ := hq210
              show WlO _ _ _ _ _ _ _ _ _ _ _ _ _ _ _ _ _ _ [.int (3 : Int32), .int (2 : Int32)]
              refine Wl.icmpN 39 d9_36 (tlt (by decide)).2.1 ?_
              refine Wl.aload_n 40 d9_39 rfl rfl ?_
              refine Wl.getfield 43 d9_40 (w50 hw) F2 ?_
              refine Wl.iload_n 44 d9_43 rfl ?_
              refine Wl.virtual 47 (argsL := [.int (2 : Int32)]) d9_44 (w90 hw) (w91 hw) (w93 hw) (w92 hw) (w16 hw) (w94 hw) (nf_sel (w93 hw) rfl) (S).exa (show parseMethodDescriptor "(I)C" = some ⟨[.int], some .char⟩ by decide +kernel) rfl (charW_met hw hcs hfm hu S (i := 2) (nle rfl)) (fun _ q => nomatch q) rfl rfl rfl (by decide) ⟨⟨nle rfl, nle rfl⟩, nle rfl, nle rfl⟩ ?_
              intro v211 h212 hq213 _
              obtain ⟨rfl, rfl⟩ := hq213
              show WlO _ _ _ _ _ _ _ _ _ _ _ _ _ _ _ _ _ _ [.int t2]
              refine Wl.istore_n 48 #[.val (.ref a), .val (.ref y), .val (.int (2 : Int32)), .val (.int t2), .val (.int ((((t1 - (97 : Int32)) + (65 : Int32))).toUInt32.toUInt16.toUInt32.toInt32))] d9_47 rfl ?_
              refine Wl.iload_n 49 d9_48 rfl ?_
              refine Wl.bipush 51 (97 : Int32) d9_49 (by decide) ?_
              by_cases c214 : t2 < (97 : Int32)
              · refine Wl.icmpY 71 d9_51 (tlt c214).1 ?_
                refine Wl.iload_n 72 d9_71 rfl ?_
                refine Wl.istore 74 #[.val (.ref a), .val (.ref y), .val (.int (2 : Int32)), .val (.int t2), .val (.int t2)] d9_72 rfl ?_
                refine Wl.iload 76 d9_74 rfl ?_
                refine Wl.aload_n 77 d9_76 rfl rfl ?_
                refine Wl.iload_n 78 d9_77 rfl ?_
                refine Wl.virtual 81 (argsL := [.int (2 : Int32)]) d9_78 (w90 hw) (w91 hw) (w93 hw) (w92 hw) (w16 hw) (w94 hw) (nf_sel (w93 hw) rfl) (U).exa (show parseMethodDescriptor "(I)C" = some ⟨[.int], some .char⟩ by decide +kernel) rfl (charW_met hw hcs hfm hu U (i := 2) (nle rfl)) (fun _ q => nomatch q) rfl rfl rfl (by decide) ⟨⟨nle rfl, nle rfl⟩, nle rfl, nle rfl⟩ ?_
                intro v215 h216 hq217 _
                obtain ⟨rfl, rfl⟩ := hq217
                show WlO _ _ _ _ _ _ _ _ _ _ _ _ _ _ _ _ _ _ [.int k2, .int t2]
                by_cases c218 : t2 = k2
                · refine Wl.icmpY 86 d9_81 (teq c218).1 ?_
                  refine Wl.iinc 89 #[.val (.ref a), .val (.ref y), .val (.int (3 : Int32)), .val (.int t2), .val (.int t2)] (1 : Int32) d9_86 (by decide) rfl rfl ?_
                  refine Wl.goto 28 d9_89 ?_
                  refine Wl.iload_n 29 d9_28 rfl ?_
                  refine Wl.aload_n 30 d9_29 rfl rfl ?_
                  refine Wl.getfield 33 d9_30 (w50 hw) F2 ?_
                  refine Wl.virtual 36 (argsL := []) d9_33 (w62 hw) (w63 hw) (w65 hw) (w64 hw) (w16 hw) (w66 hw) (nf_sel (w65 hw) rfl) (S).exa (show parseMethodDescriptor "()I" = some ⟨[], some .int⟩ by decide +kernel) rfl (lenW_met hw hcs S) (fun _ q => nomatch q) rfl rfl rfl (by decide) ⟨⟨nle rfl, nle rfl⟩, nle rfl, nle rfl⟩ ?_
                  intro v219 h220 hq221 _
                  obtain ⟨rfl, rfl⟩ := hq221
                  show WlO _ _ _ _ _ _ _ _ _ _ _ _ _ _ _ _ _ _ [.int (3 : Int32), .int (3 : Int32)]
                  refine Wl.icmpY 92 d9_36 (flt (by decide)).2.1 ?_
                  refine Wl.iconst 93 (1 : Int32) d9_92 (by decide) ?_
                  exact Wl.ireturn d9_93 rfl rfl (by simp) (nle rfl) (nle rfl) ⟨by rw [show kwI [(t0, k0), (t1, k1), (t2, k2)] = (1 : Int32) from (kw_1 (sb1 lt0 lk0 wk0 c129) (kw_1 (sa1 lt1 lk1 wk1 c136 c170 c207) (kw_1 (sb1 lt2 lk2 wk2 c218) rfl)))], rfl⟩
                · refine Wl.icmpN 84 d9_81 (feq c218).1 ?_
                  refine Wl.iconst 85 (0 : Int32) d9_84 (by decide) ?_
                  exact Wl.ireturn d9_85 rfl rfl (by simp) (nle rfl) (nle rfl) ⟨by rw [show kwI [(t0, k0), (t1, k1), (t2, k2)] = (0 : Int32) from (kw_1 (sb1 lt0 lk0 wk0 c129) (kw_1 (sa1 lt1 lk1 wk1 c136 c170 c207) (kw_0 (sb0 lt2 lk2 wk2 c214 c218))))], rfl⟩
              · refine Wl.icmpN 54 d9_51 (flt c214).1 ?_
                refine Wl.iload_n 55 d9_54 rfl ?_
                refine Wl.bipush 57 (122 : Int32) d9_55 (by decide) ?_
                by_cases c222 : (122 : Int32) < t2
                · refine Wl.icmpY 71 d9_57 (tlt c222).2.2.1 ?_
                  refine Wl.iload_n 72 d9_71 rfl ?_
                  refine Wl.istore 74 #[.val (.ref a), .val (.ref y), .val (.int (2 : Int32)), .val (.int t2), .val (.int t2)] d9_72 rfl ?_
                  refine Wl.iload 76 d9_74 rfl ?_
                  refine Wl.aload_n 77 d9_76 rfl rfl ?_
                  refine Wl.iload_n 78 d9_77 rfl ?_
                  refine Wl.virtual 81 (argsL := [.int (2 : Int32)]) d9_78 (w90 hw) (w91 hw) (w93 hw) (w92 hw) (w16 hw) (w94 hw) (nf_sel (w93 hw) rfl) (U).exa (show parseMethodDescriptor "(I)C" = some ⟨[.int], some .char⟩ by decide +kernel) rfl (charW_met hw hcs hfm hu U (i := 2) (nle rfl)) (fun _ q => nomatch q) rfl rfl rfl (by decide) ⟨⟨nle rfl, nle rfl⟩, nle rfl, nle rfl⟩ ?_
                  intro v223 h224 hq225 _
                  obtain ⟨rfl, rfl⟩ := hq225
                  show WlO _ _ _ _ _ _ _ _ _ _ _ _ _ _ _ _ _ _ [.int k2, .int t2]
                  by_cases c226 : t2 = k2
                  · refine Wl.icmpY 86 d9_81 (teq c226).1 ?_
                    refine Wl.iinc 89 #[.val (.ref a), .val (.ref y), .val (.int (3 : Int32)), .val (.int t2), .val (.int t2)] (1 : Int32) d9_86 (by decide) rfl rfl ?_
                    refine Wl.goto 28 d9_89 ?_
                    refine Wl.iload_n 29 d9_28 rfl ?_
                    refine Wl.aload_n 30 d9_29 rfl rfl ?_
                    refine Wl.getfield 33 d9_30 (w50 hw) F2 ?_
                    refine Wl.virtual 36 (argsL := []) d9_33 (w62 hw) (w63 hw) (w65 hw) (w64 hw) (w16 hw) (w66 hw) (nf_sel (w65 hw) rfl) (S).exa (show parseMethodDescriptor "()I" = some ⟨[], some .int⟩ by decide +kernel) rfl (lenW_met hw hcs S) (fun _ q => nomatch q) rfl rfl rfl (by decide) ⟨⟨nle rfl, nle rfl⟩, nle rfl, nle rfl⟩ ?_
                    intro v227 h228 hq229 _
                    obtain ⟨rfl, rfl⟩ := hq229
                    show WlO _ _ _ _ _ _ _ _ _ _ _ _ _ _ _ _ _ _ [.int (3 : Int32), .int (3 : Int32)]
                    refine Wl.icmpY 92 d9_36 (flt (by decide)).2.1 ?_
                    refine Wl.iconst 93 (1 : Int32) d9_92 (by decide) ?_
                    exact Wl.ireturn d9_93 rfl rfl (by simp) (nle rfl) (nle rfl) ⟨by rw [show kwI [(t0, k0), (t1, k1), (t2, k2)] = (1 : Int32) from (kw_1 (sb1 lt0 lk0 wk0 c129) (kw_1 (sa1 lt1 lk1 wk1 c136 c170 c207) (kw_1 (sb1 lt2 lk2 wk2 c226) rfl)))], rfl⟩
                  · refine Wl.icmpN 84 d9_81 (feq c226).1 ?_
                    refine Wl.iconst 85 (0 : Int32) d9_84 (by decide) ?_
                    exact Wl.ireturn d9_85 rfl rfl (by simp) (nle rfl) (nle rfl) ⟨by rw [show kwI [(t0, k0), (t1, k1), (t2, k2)] = (0 : Int32) from (kw_1 (sb1 lt0 lk0 wk0 c129) (kw_1 (sa1 lt1 lk1 wk1 c136 c170 c207) (kw_0 (sc0 lt2 lk2 wk2 c222 c226))))], rfl⟩
                · refine Wl.icmpN 60 d9_57 (flt c222).2.2.1 ?_
                  refine Wl.iload_n 61 d9_60 rfl ?_
                  refine Wl.bipush 63 (97 : Int32) d9_61 (by decide) ?_
                  refine Wl.isub 64 d9_63 ?_
                  refine Wl.bipush 66 (65 : Int32) d9_64 (by decide) ?_
                  refine Wl.iadd 67 d9_66 ?_
                  refine Wl.i2c 68 d9_67 ?_
                  refine Wl.goto 72 d9_68 ?_
                  refine Wl.istore 74 #[.val (.ref a), .val (.ref y), .val (.int (2 : Int32)), .val (.int t2), .val (.int ((((t2 - (97 : Int32)) + (65 : Int32))).toUInt32.toUInt16.toUInt32.toInt32))] d9_72 rfl ?_
                  refine Wl.iload 76 d9_74 rfl ?_
                  refine Wl.aload_n 77 d9_76 rfl rfl ?_
                  refine Wl.iload_n 78 d9_77 rfl ?_
                  refine Wl.virtual 81 (argsL := [.int (2 : Int32)]) d9_78 (w90 hw) (w91 hw) (w93 hw) (w92 hw) (w16 hw) (w94 hw) (nf_sel (w93 hw) rfl) (U).exa (show parseMethodDescriptor "(I)C" = some ⟨[.int], some .char⟩ by decide +kernel) rfl (charW_met hw hcs hfm hu U (i := 2) (nle rfl)) (fun _ q => nomatch q) rfl rfl rfl (by decide) ⟨⟨nle rfl, nle rfl⟩, nle rfl, nle rfl⟩ ?_
                  intro v230 h231 hq232 _
                  obtain ⟨rfl, rfl⟩ := hq232
                  show WlO _ _ _ _ _ _ _ _ _ _ _ _ _ _ _ _ _ _ [.int k2, .int ((((t2 - (97 : Int32)) + (65 : Int32))).toUInt32.toUInt16.toUInt32.toInt32)]
                  by_cases c233 : (((t2 - (97 : Int32)) + (65 : Int32))).toUInt32.toUInt16.toUInt32.toInt32 = k2
                  · refine Wl.icmpY 86 d9_81 (teq c233).1 ?_
                    refine Wl.iinc 89 #[.val (.ref a), .val (.ref y), .val (.int (3 : Int32)), .val (.int t2), .val (.int ((((t2 - (97 : Int32)) + (65 : Int32))).toUInt32.toUInt16.toUInt32.toInt32))] (1 : Int32) d9_86 (by decide) rfl rfl ?_
                    refine Wl.goto 28 d9_89 ?_
                    refine Wl.iload_n 29 d9_28 rfl ?_
                    refine Wl.aload_n 30 d9_29 rfl rfl ?_
                    refine Wl.getfield 33 d9_30 (w50 hw) F2 ?_
                    refine Wl.virtual 36 (argsL := []) d9_33 (w62 hw) (w63 hw) (w65 hw) (w64 hw) (w16 hw) (w66 hw) (nf_sel (w65 hw) rfl) (S).exa (show parseMethodDescriptor "()I" = some ⟨[], some .int⟩ by decide +kernel) rfl (lenW_met hw hcs S) (fun _ q => nomatch q) rfl rfl rfl (by decide) ⟨⟨nle rfl, nle rfl⟩, nle rfl, nle rfl⟩ ?_
                    intro v234 h235 hq236 _
                    obtain ⟨rfl, rfl⟩ := hq236
                    show WlO _ _ _ _ _ _ _ _ _ _ _ _ _ _ _ _ _ _ [.int (3 : Int32), .int (3 : Int32)]
                    refine Wl.icmpY 92 d9_36 (flt (by decide)).2.1 ?_
                    refine Wl.iconst 93 (1 : Int32) d9_92 (by decide) ?_
                    exact Wl.ireturn d9_93 rfl rfl (by simp) (nle rfl) (nle rfl) ⟨by rw [show kwI [(t0, k0), (t1, k1), (t2, k2)] = (1 : Int32) from (kw_1 (sb1 lt0 lk0 wk0 c129) (kw_1 (sa1 lt1 lk1 wk1 c136 c170 c207) (kw_1 (sa1 lt2 lk2 wk2 c214 c222 c233) rfl)))], rfl⟩
                  · refine Wl.icmpN 84 d9_81 (feq c233).1 ?_
                    refine Wl.iconst 85 (0 : Int32) d9_84 (by decide) ?_
                    exact Wl.ireturn d9_85 rfl rfl (by simp) (nle rfl) (nle rfl) ⟨by rw [show kwI [(t0, k0), (t1, k1), (t2, k2)] = (0 : Int32) from (kw_1 (sb1 lt0 lk0 wk0 c129) (kw_1 (sa1 lt1 lk1 wk1 c136 c170 c207) (kw_0 (sa0 lt2 lk2 wk2 c214 c222 c233))))], rfl⟩
            · refine Wl.icmpN 84 d9_81 (feq c207).1 ?_
              refine Wl.iconst 85 (0 : Int32) d9_84 (by decide) ?_
              exact Wl.ireturn d9_85 rfl rfl (by simp) (nle rfl) (nle rfl) ⟨by rw [show kwI [(t0, k0), (t1, k1), (t2, k2)] = (0 : Int32) from (kw_1 (sb1 lt0 lk0 wk0 c129) (kw_0 (sa0 lt1 lk1 wk1 c136 c170 c207)))], rfl⟩
      · refine Wl.icmpN 84 d9_81 (feq c129).1 ?_
        refine Wl.iconst 85 (0 : Int32) d9_84 (by decide) ?_
        exact Wl.ireturn d9_85 rfl rfl (by simp) (nle rfl) (nle rfl) ⟨by rw [show kwI [(t0, k0), (t1, k1), (t2, k2)] = (0 : Int32) from (kw_0 (sc0 lt0 lk0 wk0 c125 c129))], rfl⟩
    · refine Wl.icmpN 60 d9_57 (flt c125).2.2.1 ?_
      refine Wl.iload_n 61 d9_60 rfl ?_
      refine Wl.bipush 63 (97 : Int32) d9_61 (by decide) ?_
      refine Wl.isub 64 d9_63 ?_
      refine Wl.bipush 66 (65 : Int32) d9_64 (by decide) ?_
      refine Wl.iadd 67 d9_66 ?_
      refine Wl.i2c 68 d9_67 ?_
      refine Wl.goto 72 d9_68 ?_
      refine Wl.istore 74 #[.val (.ref a), .val (.ref y), .val (.int (0 : Int32)), .val (.int t0), .val (.int ((((t0 - (97 : Int32)) + (65 : Int32))).toUInt32.toUInt16.toUInt32.toInt32))] d9_72 rfl ?_
      refine Wl.iload 76 d9_74 rfl ?_
      refine Wl.aload_n 77 d9_76 rfl rfl ?_
      refine Wl.iload_n 78 d9_77 rfl ?_
      refine Wl.virtual 81 (argsL := [.int (0 : Int32)]) d9_78 (w90 hw) (w91 hw) (w93 hw) (w92 hw) (w16 hw) (w94 hw) (nf_sel (w93 hw) rfl) (U).exa (show parseMethodDescriptor "(I)C" = some ⟨[.int], some .char⟩ by decide +kernel) rfl (charW_met hw hcs hfm hu U (i := 0) (nle rfl)) (fun _ q => nomatch q) rfl rfl rfl (by decide) ⟨⟨nle rfl, nle rfl⟩, nle rfl, nle rfl⟩ ?_
      intro v237 h238 hq239 _
      obtain ⟨rfl, rfl⟩ := hq239
      show WlO _ _ _ _ _ _ _ _ _ _ _ _ _ _ _ _ _ _ [.int k0, .int ((((t0 - (97 : Int32)) + (65 : Int32))).toUInt32.toUInt16.toUInt32.toInt32)]
      by_cases c240 : (((t0 - (97 : Int32)) + (65 : Int32))).toUInt32.toUInt16.toUInt32.toInt32 = k0
      · refine Wl.icmpY 86 d9_81 (teq c240).1 ?_
        refine Wl.iinc 89 #[.val (.ref a), .val (.ref y), .val (.int (1 : Int32)), .val (.int t0), .val (.int ((((t0 - (97 : Int32)) + (65 : Int32))).toUInt32.toUInt16.toUInt32.toInt32))] (1 : Int32) d9_86 (by decide) rfl rfl ?_
        refine Wl.goto 28 d9_89 ?_
        refine Wl.iload_n 29 d9_28 rfl ?_
        refine Wl.aload_n 30 d9_29 rfl rfl ?_
        refine Wl.getfield 33 d9_30 (w50 hw) F2 ?_
        refine Wl.virtual 36 (argsL := []) d9_33 (w62 hw) (w63 hw) (w65 hw) (w64 hw) (w16 hw) (w66 hw) (nf_sel (w65 hw) rfl) (S).exa (show parseMethodDescriptor "()I" = some ⟨[], some .int⟩ by decide +kernel) rfl (lenW_met hw hcs S) (fun _ q => nomatch q) rfl rfl rfl (by decide) ⟨⟨nle rfl, nle rfl⟩, nle rfl, nle rfl⟩ ?_
        intro v241 h242 hq243 _
        obtain ⟨rfl, rfl⟩ := hq243
        show WlO _ _ _ _ _ _ _ _ _ _ _ _ _ _ _ _ _ _ [.int (3 : Int32), .int (1 : Int32)]
        refine Wl.icmpN 39 d9_36 (tlt (by decide)).2.1 ?_
        refine Wl.aload_n 40 d9_39 rfl rfl ?_
        refine Wl.getfield 43 d9_40 (w50 hw) F2 ?_
        refine Wl.iload_n 44 d9_43 rfl ?_
        refine Wl.virtual 47 (argsL := [.int (1 : Int32)]) d9_44 (w90 hw) (w91 hw) (w93 hw) (w92 hw) (w16 hw) (w94 hw) (nf_sel (w93 hw) rfl) (S).exa (show parseMethodDescriptor "(I)C" = some ⟨[.int], some .char⟩ by decide +kernel) rfl (charW_met hw hcs hfm hu S (i := 1) (nle rfl)) (fun _ q => nomatch q) rfl rfl rfl (by decide) ⟨⟨nle rfl, nle rfl⟩, nle rfl, nle rfl⟩ ?_
        intro v244 h245 hq246 _
        obtain ⟨rfl, rfl⟩ := hq246
        show WlO _ _ _ _ _ _ _ _ _ _ _ _ _ _ _ _ _ _ [.int t1]
        refine Wl.istore_n 48 #[.val (.ref a), .val (.ref y), .val (.int (1 : Int32)), .val (.int t1), .val (.int ((((t0 - (97 : Int32)) + (65 : Int32))).toUInt32.toUInt16.toUInt32.toInt32))] d9_47 rfl ?_
        refine Wl.iload_n 49 d9_48 rfl ?_
        refine Wl.bipush 51 (97 : Int32) d9_49 (by decide) ?_
        by_cases c247 : t1 < (97 : Int32)
        · refine Wl.icmpY 71 d9_51 (tlt c247).1 ?_
          refine Wl.iload_n 72 d9_71 rfl ?_
          refine Wl.istore 74 #[.val (.ref a), .val (.ref y), .val (.int (1 : Int32)), .val (.int t1), .val (.int t1)] d9_72 rfl ?_
          refine Wl.iload 76 d9_74 rfl ?_
          refine Wl.aload_n 77 d9_76 rfl rfl ?_
          refine Wl.iload_n 78 d9_77 rfl ?_
          refine Wl.virtual 81 (argsL := [.int (1 : Int32)]) d9_78 (w90 hw) (w91 hw) (w93 hw) (w92 hw) (w16 hw) (w94 hw) (nf_sel (w93 hw) rfl) (U).exa (show parseMethodDescriptor "(I)C" = some ⟨[.int], some .char⟩ by decide +kernel) rfl (charW_met hw hcs hfm hu U (i := 1) (nle rfl)) (fun _ q => nomatch q) rfl rfl rfl (by decide) ⟨⟨nle rfl, nle rfl⟩, nle rfl, nle rfl⟩ ?_
          intro v248 h249 hq250 _
          obtain ⟨rfl, rfl⟩ := hq250
          show WlO _ _ _ _ _ _ _ _ _ _ _ _ _ _ _ _ _ _ [.int k1, .int t1]
          by_cases c251 : t1 = k1
          · refine Wl.icmpY 86 d9_81 (teq c251).1 ?_
            refine Wl.iinc 89 #[.val (.ref a), .val (.ref y), .val (.int (2 : Int32)), .val (.int t1), .val (.int t1)] (1 : Int32) d9_86 (by decide) rfl rfl ?_
            refine Wl.goto 28 d9_89 ?_
            refine Wl.iload_n 29 d9_28 rfl ?_
            refine Wl.aload_n 30 d9_29 rfl rfl ?_
            refine Wl.getfield 33 d9_30 (w50 hw) F2 ?_
            refine Wl.virtual 36 (argsL := []) d9_33 (w62 hw) (w63 hw) (w65 hw) (w64 hw) (w16 hw) (w66 hw) (nf_sel (w65 hw) rfl) (S).exa (show parseMethodDescriptor "()I" = some ⟨[], some .int⟩ by decide +kernel) rfl (lenW_met hw hcs S) (fun _ q => nomatch q) rfl rfl rfl (by decide) ⟨⟨nle rfl, nle rfl⟩, nle rfl, nle rfl⟩ ?_
            intro v252 h253 hq254 _
            obtain ⟨rfl, rfl⟩ := hq254
            show WlO _ _ _ _ _ _ _ _ _ _ _ _ _ _ _ _ _ _ [.int (3 : Int32), .int (2 : Int32)]
            refine Wl.icmpN 39 d9_36 (tlt (by decide)).2.1 ?_
            refine Wl.aload_n 40 d9_39 rfl rfl ?_
            refine Wl.getfield 43 d9_40 (w50 hw) F2 ?_
            refine Wl.iload_n 44 d9_43 rfl ?_
            refine Wl.virtual 47 (argsL := [.int (2 : Int32)]) d9_44 (w90 hw) (w91 hw) (w93 hw) (w92 hw) (w16 hw) (w94 hw) (nf_sel (w93 hw) rfl) (S).exa (show parseMethodDescriptor "(I)C" = some ⟨[.int], some .char⟩ by decide +kernel) rfl (charW_met hw hcs hfm hu S (i := 2) (nle rfl)) (fun _ q => nomatch q) rfl rfl rfl (by decide) ⟨⟨nle rfl, nle rfl⟩, nle rfl, nle rfl⟩ ?_
            intro v255 h256 hq257 _
            obtain ⟨rfl, rfl⟩ := hq257
            show WlO _ _ _ _ _ _ _ _ _ _ _ _ _ _ _ _ _ _ [.int t2]
            refine Wl.istore_n 48 #[.val (.ref a), .val (.ref y), .val (.int (2 : Int32)), .val (.int t2), .val (.int t1)] d9_47 rfl ?_
            refine Wl.iload_n 49 d9_48 rfl ?_
            refine Wl.bipush 51 (97 : Int32) d9_49 (by decide) ?_
            by_cases c258 : t2 < (97 : Int32)
            · refine Wl.icmpY 71 d9_51 (tlt c258).1 ?_
              refine Wl.iload_n 72 d9_71 rfl ?_
              refine Wl.istore 74 #[.val (.ref a), .val (.ref y), .val (.int (2 : Int32)), .val (.int t2), .val (.int t2)] d9_72 rfl ?_
              refine Wl.iload 76 d9_74 rfl ?_
              refine Wl.aload_n 77 d9_76 rfl rfl ?_
              refine Wl.iload_n 78 d9_77 rfl ?_
              refine Wl.virtual 81 (argsL := [.int (2 : Int32)]) d9_78 (w90 hw) (w91 hw) (w93 hw) (w92 hw) (w16 hw) (w94 hw) (nf_sel (w93 hw) rfl) (U).exa (show parseMethodDescriptor "(I)C" = some ⟨[.int], some .char⟩ by decide +kernel) rfl (charW_met hw hcs hfm hu U (i := 2) (nle rfl)) (fun _ q => nomatch q) rfl rfl rfl (by decide) ⟨⟨nle rfl, nle rfl⟩, nle rfl, nle rfl⟩ ?_
              intro v259 h260 hq261 _
              obtain ⟨rfl, rfl⟩ := hq261
              show WlO _ _ _ _ _ _ _ _ _ _ _ _ _ _ _ _ _ _ [.int k2, .int t2]
              by_cases c262 : t2 = k2
              · refine Wl.icmpY 86 d9_81 (teq c262).1 ?_
                refine Wl.iinc 89 #[.val (.ref a), .val (.ref y), .val (.int (3 : Int32)), .val (.int t2), .val (.int t2)] (1 : Int32) d9_86 (by decide) rfl rfl ?_
                refine Wl.goto 28 d9_89 ?_
                refine Wl.iload_n 29 d9_28 rfl ?_
                refine Wl.aload_n 30 d9_29 rfl rfl ?_
                refine Wl.getfield 33 d9_30 (w50 hw) F2 ?_
                refine Wl.virtual 36 (argsL := []) d9_33 (w62 hw) (w63 hw) (w65 hw) (w64 hw) (w16 hw) (w66 hw) (nf_sel (w65 hw) rfl) (S).exa (show parseMethodDescriptor "()I" = some ⟨[], some .int⟩ by decide +kernel) rfl (lenW_met hw hcs S) (fun _ q => nomatch q) rfl rfl rfl (by decide) ⟨⟨nle rfl, nle rfl⟩, nle rfl, nle rfl⟩ ?_
                intro v263 h264 hq265 _
                obtain ⟨rfl, rfl⟩ := hq265
                show WlO _ _ _ _ _ _ _ _ _ _ _ _ _ _ _ _ _ _ [.int (3 : Int32), .int (3 : Int32)]
                refine Wl.icmpY 92 d9_36 (flt (by decide)).2.1 ?_
                refine Wl.iconst 93 (1 : Int32) d9_92 (by decide) ?_
                exact Wl.ireturn d9_93 rfl rfl (by simp) (nle rfl) (nle rfl) ⟨by rw [show kwI [(t0, k0), (t1, k1), (t2, k2)] = (1 : Int32) from (kw_1 (sa1 lt0 lk0 wk0 c13 c125 c240) (kw_1 (sb1 lt1 lk1 wk1 c251) (kw_1 (sb1 lt2 lk2 wk2 c262) rfl)))], rfl⟩
              · refine Wl.icmpN 84 d9_81 (feq c262).1 ?_
                refine Wl.iconst 85 (0 : Int32) d9_84 (by decide) ?_
                exact Wl.ireturn d9_85 rfl rfl (by simp) (nle rfl) (nle rfl) ⟨by rw [show kwI [(t0, k0), (t1, k1), (t2, k2)] = (0 : Int32) from (kw_1 (sa1 lt0 lk0 wk0 c13 c125 c240) (kw_1 (sb1 lt1 lk1 wk1 c251) (kw_0 (sb0 lt2 lk2 wk2 c258 c262))))], rfl⟩
            · refine Wl.icmpN 54 d9_51 (flt c258).1 ?_
              refine Wl.iload_n 55 d9_54 rfl ?_
              refine Wl.bipush 57 (122 : Int32) d9_55 (by decide) ?_
              by_cases c266 : (122 : Int32) < t2
              · refine Wl.icmpY 71 d9_57 (tlt c266).2.2.1 ?_
                refine Wl.iload_n 72 d9_71 rfl ?_
                refine Wl.istore 74 #[.val (.ref a), .val (.ref y), .val (.int (2 : Int32)), .val (.int t2), .val (.int t2)] d9_72 rfl ?_
                refine Wl.iload 76 d9_74 rfl ?_
                refine Wl.aload_n 77 d9_76 rfl rfl ?_
                refine Wl.iload_n 78 d9_77 rfl ?_
                refine Wl.virtual 81 (argsL := [.int (2 : Int32)]) d9_78 (w90 hw) (w91 hw) (w93 hw) (w92 hw) (w16 hw) (w94 hw) (nf_sel (w93 hw) rfl) (U).exa (show parseMethodDescriptor "(I)C" = some ⟨[.int], some .char⟩ by decide +kernel) rfl (charW_met hw hcs hfm hu U (i := 2) (nle rfl)) (fun _ q => nomatch q) rfl rfl rfl (by decide) ⟨⟨nle rfl, nle rfl⟩, nle rfl, nle rfl⟩ ?_
                intro v267 h268 hq269 _
                obtain ⟨rfl, rfl⟩ := hq269
                show WlO _ _ _ _ _ _ _ _ _ _ _ _ _ _ _ _ _ _ [.int k2, .int t2]
                by_cases c270 : t2 = k2
                · refine Wl.icmpY 86 d9_81 (teq c270).1 ?_
                  refine Wl.iinc 89 #[.val (.ref a), .val (.ref y), .val (.int (3 : Int32)), .val (.int t2), .val (.int t2)] (1 : Int32) d9_86 (by decide) rfl rfl ?_
                  refine Wl.goto 28 d9_89 ?_
                  refine Wl.iload_n 29 d9_28 rfl ?_
                  refine Wl.aload_n 30 d9_29 rfl rfl ?_
                  refine Wl.getfield 33 d9_30 (w50 hw) F2 ?_
                  refine Wl.virtual 36 (argsL := []) d9_33 (w62 hw) (w63 hw) (w65 hw) (w64 hw) (w16 hw) (w66 hw) (nf_sel (w65 hw) rfl) (S).exa (show parseMethodDescriptor "()I" = some ⟨[], some .int⟩ by decide +kernel) rfl (lenW_met hw hcs S) (fun _ q => nomatch q) rfl rfl rfl (by decide) ⟨⟨nle rfl, nle rfl⟩, nle rfl, nle rfl⟩ ?_
                  intro v271 h272 hq273 _
                  obtain ⟨rfl, rfl⟩ := hq273
                  show WlO _ _ _ _ _ _ _ _ _ _ _ _ _ _ _ _ _ _ [.int (3 : Int32), .int (3 : Int32)]
                  refine Wl.icmpY 92 d9_36 (flt (by decide)).2.1 ?_
                  refine Wl.iconst 93 (1 : Int32) d9_92 (by decide) ?_
                  exact Wl.ireturn d9_93 rfl rfl (by simp) (nle rfl) (nle rfl) ⟨by rw [show kwI [(t0, k0), (t1, k1), (t2, k2)] = (1 : Int32) from (kw_1 (sa1 lt0 lk0 wk0 c13 c125 c240) (kw_1 (sb1 lt1 lk1 wk1 c251) (kw_1 (sb1 lt2 lk2 wk2 c270) rfl)))], rfl⟩
                · refine Wl.icmpN 84 d9_81 (feq c270).1 ?_
                  refine Wl.iconst 85 (0 : Int32) d9_84 (by decide) ?_
                  exact Wl.ireturn d9_85 rfl rfl (by simp) (nle rfl) (nle rfl) ⟨by rw [show kwI [(t0, k0), (t1, k1), (t2, k2)] = (0 : Int32) from (kw_1 (sa1 lt0 lk0 wk0 c13 c125 c240) (kw_1 (sb1 lt1 lk1 wk1 c251) (kw_0 (sc0 lt2 lk2 wk2 c266 c270))))], rfl⟩
              · refine Wl.icmpN 60 d9_57 (flt c266).2.2.1 ?_
                refine Wl.iload_n 61 d9_60 rfl ?_
                refine Wl.bipush 63 (97 : Int32) d9_61 (by decide) ?_
                refine Wl.isub 64 d9_63 ?_
                refine Wl.bipush 66 (65 : Int32) d9_64 (by decide) ?_
                refine Wl.iadd 67 d9_66 ?_
                refine Wl.i2c 68 d9_67 ?_
                refine Wl.goto 72 d9_68 ?_
                refine Wl.istore 74 #[.val (.ref a), .val (.ref y), .val (.int (2 : Int32)), .val (.int t2), .val (.int ((((t2 - (97 : Int32)) + (65 : Int32))).toUInt32.toUInt16.toUInt32.toInt32))] d9_72 rfl ?_
                refine Wl.iload 76 d9_74 rfl ?_
                refine Wl.aload_n 77 d9_76 rfl rfl ?_
                refine Wl.iload_n 78 d9_77 rfl ?_
                refine Wl.virtual 81 (argsL := [.int (2 : Int32)]) d9_78 (w90 hw) (w91 hw) (w93 hw) (w92 hw) (w16 hw) (w94 hw) (nf_sel (w93 hw) rfl) (U).exa (show parseMethodDescriptor "(I)C" = some ⟨[.int], some .char⟩ by decide +kernel) rfl (charW_met hw hcs hfm hu U (i := 2) (nle rfl)) (fun _ q => nomatch q) rfl rfl rfl (by decide) ⟨⟨nle rfl, nle rfl⟩, nle rfl, nle rfl⟩ ?_
                intro v274 h275 hq276 _
                obtain ⟨rfl, rfl⟩ := hq276
                show WlO _ _ _ _ _ _ _ _ _ _ _ _ _ _ _ _ _ _ [.int k2, .int ((((t2 - (97 : Int32)) + (65 : Int32))).toUInt32.toUInt16.toUInt32.toInt32)]
                by_cases c277 : (((t2 - (97 : Int32)) + (65 : Int32))).toUInt32.toUInt16.toUInt32.toInt32 = k2
                · refine Wl.icmpY 86 d9_81 (teq c277).1 ?_
                  refine Wl.iinc 89 #[.val (.ref a), .val (.ref y), .val (.int (3 : Int32)), .val (.int t2), .val (.int ((((t2 - (97 : Int32)) + (65 : Int32))).toUInt32.toUInt16.toUInt32.toInt32))] (1 : Int32) d9_86 (by decide) rfl rfl ?_
                  refine Wl.goto 28 d9_89 ?_
                  refine Wl.iload_n 29 d9_28 rfl ?_
                  refine Wl.aload_n 30 d9_29 rfl rfl ?_
                  refine Wl.getfield 33 d9_30 (w50 hw) F2 ?_
                  refine Wl.virtual 36 (argsL := []) d9_33 (w62 hw) (w63 hw) (w65 hw) (w64 hw) (w16 hw) (w66 hw) (nf_sel (w65 hw) rfl) (S).exa (show parseMethodDescriptor "()I" = some ⟨[], some .int⟩ by decide +kernel) rfl (lenW_met hw hcs S) (fun _ q => nomatch q) rfl rfl rfl (by decide) ⟨⟨nle rfl, nle rfl⟩, nle rfl, nle rfl⟩ ?_
                  intro v278 h279 hq280 _
                  obtain ⟨rfl, rfl⟩ := hq280
                  show WlO _ _ _ _ _ _ _ _ _ _ _ _ _ _ _ _ _ _ [.int (3 : Int32), .int (3 : Int32)]
                  refine Wl.icmpY 92 d9_36 (flt (by decide)).2.1 ?_
                  refine Wl.iconst 93 (1 : Int32) d9_92 (by decide) ?_
                  exact Wl.ireturn d9_93 rfl rfl (by simp) (nle rfl) (nle rfl) ⟨by rw [show kwI [(t0, k0), (t1, k1), (t2, k2)] = (1 : Int32) from (kw_1 (sa1 lt0 lk0 wk0 c13 c125 c240) (kw_1 (sb1 lt1 lk1 wk1 c251) (kw_1 (sa1 lt2 lk2 wk2 c258 c266 c277) rfl)))], rfl⟩
                · refine Wl.icmpN 84 d9_81 (feq c277).1 ?_
                  refine Wl.iconst 85 (0 : Int32) d9_84 (by decide) ?_
                  exact Wl.ireturn d9_85 rfl rfl (by simp) (nle rfl) (nle rfl) ⟨by rw [show kwI [(t0, k0), (t1, k1), (t2, k2)] = (0 : Int32) from (kw_1 (sa1 lt0 lk0 wk0 c13 c125 c240) (kw_1 (sb1 lt1 lk1 wk1 c251) (kw_0 (sa0 lt2 lk2 wk2 c258 c266 c277))))], rfl⟩
          · refine Wl.icmpN 84 d9_81 (feq c251).1 ?_
            refine Wl.iconst 85 (0 : Int32) d9_84 (by decide) ?_
            exact Wl.ireturn d9_85 rfl rfl (by simp) (nle rfl) (nle rfl) ⟨by rw [show kwI [(t0, k0), (t1, k1), (t2, k2)] = (0 : Int32) from (kw_1 (sa1 lt0 lk0 wk0 c13 c125 c240) (kw_0 (sb0 lt1 lk1 wk1 c247 c251)))], rfl⟩
        · refine Wl.icmpN 54 d9_51 (flt c247).1 ?_
          refine Wl.iload_n 55 d9_54 rfl ?_
          refine Wl.bipush 57 (122 : Int32) d9_55 (by decide) ?_
          by_cases c281 : (122 : Int32) < t1
          · refine Wl.icmpY 71 d9_57 (tlt c281).2.2.1 ?_
            refine Wl.iload_n 72 d9_71 rfl ?_
            refine Wl.istore 74 #[.val (.ref a), .val (.ref y), .val (.int (1 : Int32)), .val (.int t1), .val (.int t1)] d9_72 rfl ?_
            refine Wl.iload 76 d9_74 rfl ?_
            refine Wl.aload_n 77 d9_76 rfl rfl ?_
            refine Wl.iload_n 78 d9_77 rfl ?_
            refine Wl.virtual 81 (argsL := [.int (1 : Int32)]) d9_78 (w90 hw) (w91 hw) (w93 hw) (w92 hw) (w16 hw) (w94 hw) (nf_sel (w93 hw) rfl) (U).exa (show parseMethodDescriptor "(I)C" = some ⟨[.int], some .char⟩ by decide +kernel) rfl (charW_met hw hcs hfm hu U (i := 1) (nle rfl)) (fun _ q => nomatch q) rfl rfl rfl (by decide) ⟨⟨nle rfl, nle rfl⟩, nle rfl, nle rfl⟩ ?_
            intro v282 h283 hq284 _
            obtain ⟨rfl, rfl⟩ := hq284
            show WlO _ _ _ _ _ _ _ _ _ _ _ _ _ _ _ _ _ _ [.int k1, .int t1]
            by_cases c285 : t1 = k1
            · refine Wl.icmpY 86 d9_81 (teq c285).1 ?_
              refine Wl.iinc 89 #[.val (.ref a), .val (.ref y), .val (.int (2 : Int32)), .val (.int t1), .val (.int t1)] (1 : Int32) d9_86 (by decide) rfl rfl ?_
              refine Wl.goto 28 d9_89 ?_
              refine Wl.iload_n 29 d9_28 rfl ?_
              refine Wl.aload_n 30 d9_29 rfl rfl ?_
              refine Wl.getfield 33 d9_30 (w50 hw) F2 ?_
              refine Wl.virtual 36 (argsL := []) d9_33 (w62 hw) (w63 hw) (w65 hw) (w64 hw) (w16 hw) (w66 hw) (nf_sel (w65 hw) rfl) (S).exa (show parseMethodDescriptor "()I" = some ⟨[], some .int⟩ by decide +kernel) rfl (lenW_met hw hcs S) (fun _ q => nomatch q) rfl rfl rfl (by decide) ⟨⟨nle rfl, nle rfl⟩, nle rfl, nle rfl⟩ ?_
              intro v286 h287 hq288 _
              obtain ⟨rfl, rfl⟩ := hq288
              show WlO _ _ _ _ _ _ _ _ _ _ _ _ _ _ _ _ _ _ [.int (3 : Int32), .int (2 : Int32)]
              refine Wl.icmpN 39 d9_36 (tlt (by decide)).2.1 ?_
              refine Wl.aload_n 40 d9_39 rfl rfl ?_
              refine Wl.getfield 43 d9_40 (w50 hw) F2 ?_
              refine Wl.iload_n 44 d9_43 rfl ?_
              refine Wl.virtual 47 (argsL := [.int (2 : Int32)]) d9_44 (w90 hw) (w91 hw) (w93 hw) (w92 hw) (w16 hw) (w94 hw) (nf_sel (w93 hw) rfl) (S).exa (show parseMethodDescriptor "(I)C" = some ⟨[.int], some .char⟩ by decide +kernel) rfl (charW_met hw hcs hfm hu S (i := 2) (nle rfl)) (fun _ q => nomatch q) rfl rfl rfl (by decide) ⟨⟨nle rfl, nle rfl⟩, nle rfl, nle rfl⟩ ?_
              intro v289 h290 hq291 _
              obtain ⟨rfl, rfl⟩ := hq291
              show WlO _ _ _ _ _ _ _ _ _ _ _ _ _ _ _ _ _ _ [.int t2]
              refine Wl.istore_n 48 #[.val (.ref a), .val (.ref y), .val (.int (2 : Int32)), .val (.int t2), .val (.int t1)] d9_47 rfl ?_
              refine Wl.iload_n 49 d9_48 rfl ?_
              refine Wl.bipush 51 (97 : Int32) d9_49 (by decide) ?_
              by_cases c292 : t2 < (97 : Int32)
              · refine Wl.icmpY 71 d9_51 (tlt c292).1 ?_
                refine Wl.iload_n 72 d9_71 rfl ?_
                refine Wl.istore 74 #[.val (.ref a), .val (.ref y), .val (.int (2 : Int32)), .val (.int t2), .val (.int t2)] d9_72 rfl ?_
                refine Wl.iload 76 d9_74 rfl ?_
                refine Wl.aload_n 77 d9_76 rfl rfl ?_
                refine Wl.iload_n 78 d9_77 rfl ?_
                refine Wl.virtual 81 (argsL := [.int (2 : Int32)]) d9_78 (w90 hw) (w91 hw) (w93 hw) (w92 hw) (w16 hw) (w94 hw) (nf_sel (w93 hw) rfl) (U).exa (show parseMethodDescriptor "(I)C" = some ⟨[.int], some .char⟩ by decide +kernel) rfl (charW_met hw hcs hfm hu U (i := 2) (nle rfl)) (fun _ q => nomatch q) rfl rfl rfl (by decide) ⟨⟨nle rfl, nle rfl⟩, nle rfl, nle rfl⟩ ?_
                intro v293 h294 hq295 _
                obtain ⟨rfl, rfl⟩ := hq295
                show WlO _ _ _ _ _ _ _ _ _ _ _ _ _ _ _ _ _ _ [.int k2, .int t2]
                by_cases c296 : t2 = k2
                · refine Wl.icmpY 86 d9_81 (teq c296).1 ?_
                  refine Wl.iinc 89 #[.val (.ref a), .val (.ref y), .val (.int (3 : Int32)), .val (.int t2), .val (.int t2)] (1 : Int32) d9_86 (by decide) rfl rfl ?_
                  refine Wl.goto 28 d9_89 ?_
                  refine Wl.iload_n 29 d9_28 rfl ?_
                  refine Wl.aload_n 30 d9_29 rfl rfl ?_
                  refine Wl.getfield 33 d9_30 (w50 hw) F2 ?_
                  refine Wl.virtual 36 (argsL := []) d9_33 (w62 hw) (w63 hw) (w65 hw) (w64 hw) (w16 hw) (w66 hw) (nf_sel (w65 hw) rfl) (S).exa (show parseMethodDescriptor "()I" = some ⟨[], some .int⟩ by decide +kernel) rfl (lenW_met hw hcs S) (fun _ q => nomatch q) rfl rfl rfl (by decide) ⟨⟨nle rfl, nle rfl⟩, nle rfl, nle rfl⟩ ?_
                  intro v297 h298 hq299 _
                  obtain ⟨rfl, rfl⟩ := hq299
                  show WlO _ _ _ _ _ _ _ _ _ _ _ _ _ _ _ _ _ _ [.int (3 : Int32), .int (3 : Int32)]
                  refine Wl.icmpY 92 d9_36 (flt (by decide)).2.1 ?_
                  refine Wl.iconst 93 (1 : Int32) d9_92 (by decide) ?_
                  exact Wl.ireturn d9_93 rfl rfl (by simp) (nle rfl) (nle rfl) ⟨by rw [show kwI [(t0, k0), (t1, k1), (t2, k2)] = (1 : Int32) from (kw_1 (sa1 lt0 lk0 wk0 c13 c125 c240) (kw_1 (sb1 lt1 lk1 wk1 c285) (kw_1 (sb1 lt2 lk2 wk2 c296) rfl)))], rfl⟩
                · refine Wl.icmpN 84 d9_81 (feq c296).1 ?_
                  refine Wl.iconst 85 (0 : Int32) d9_84 (by decide) ?_
                  exact Wl.ireturn d9_85 rfl rfl (by simp) (nle rfl) (nle rfl) ⟨by rw [show kwI [(t0, k0), (t1, k1), (t2, k2)] = (0 : Int32) from (kw_1 (sa1 lt0 lk0 wk0 c13 c125 c240) (kw_1 (sb1 lt1 lk1 wk1 c285) (kw_0 (sb0 lt2 lk2 wk2 c292 c296))))], rfl⟩
              · refine Wl.icmpN 54 d9_51 (flt c292).1 ?_
                refine Wl.iload_n 55 d9_54 rfl ?_
                refine Wl.bipush 57 (122 : Int32) d9_55 (by decide) ?_
                by_cases c300 : (122 : Int32) < t2
                · refine Wl.icmpY 71 d9_57 (tlt c300).2.2.1 ?_
                  refine Wl.iload_n 72 d9_71 rfl ?_
                  refine Wl.istore 74 #[.val (.ref a), .val (.ref y), .val (.int (2 : Int32)), .val (.int t2), .val (.int t2)] d9_72 rfl ?_
                  refine Wl.iload 76 d9_74 rfl ?_
                  refine Wl.aload_n 77 d9_76 rfl rfl ?_
                  refine Wl.iload_n 78 d9_77 rfl ?_
                  refine Wl.virtual 81 (argsL := [.int (2 : Int32)]) d9_78 (w90 hw) (w91 hw) (w93 hw) (w92 hw) (w16 hw) (w94 hw) (nf_sel (w93 hw) rfl) (U).exa (show parseMethodDescriptor "(I)C" = some ⟨[.int], some .char⟩ by decide +kernel) rfl (charW_met hw hcs hfm hu U (i := 2) (nle rfl)) (fun _ q => nomatch q) rfl rfl rfl (by decide) ⟨⟨nle rfl, nle rfl⟩, nle rfl, nle rfl⟩ ?_
                  intro v301 h302 hq303 _
                  obtain ⟨rfl, rfl⟩ := hq303
                  show WlO _ _ _ _ _ _ _ _ _ _ _ _ _ _ _ _ _ _ [.int k2, .int t2]
                  by_cases c304 : t2 = k2
                  · refine Wl.icmpY 86 d9_81 (teq c304).1 ?_
                    refine Wl.iinc 89 #[.val (.ref a), .val (.ref y), .val (.int (3 : Int32)), .val (.int t2), .val (.int t2)] (1 : Int32) d9_86 (by decide) rfl rfl ?_
                    refine Wl.goto 28 d9_89 ?_
                    refine Wl.iload_n 29 d9_28 rfl ?_
                    refine Wl.aload_n 30 d9_29 rfl rfl ?_
                    refine Wl.getfield 33 d9_30 (w50 hw) F2 ?_
                    refine Wl.virtual 36 (argsL := []) d9_33 (w62 hw) (w63 hw) (w65 hw) (w64 hw) (w16 hw) (w66 hw) (nf_sel (w65 hw) rfl) (S).exa (show parseMethodDescriptor "()I" = some ⟨[], some .int⟩ by decide +kernel) rfl (lenW_met hw hcs S) (fun _ q => nomatch q) rfl rfl rfl (by decide) ⟨⟨nle rfl, nle rfl⟩, nle rfl, nle rfl⟩ ?_
                    intro v305 h306 hq307 _
                    obtain ⟨rfl, rfl⟩ := hq307
                    show WlO _ _ _ _ _ _ _ _ _ _ _ _ _ _ _ _ _ _ [.int (3 : Int32), .int (3 : Int32)]
                    refine Wl.icmpY 92 d9_36 (flt (by decide)).2.1 ?_
                    refine Wl.iconst 93 (1 : Int32) d9_92 (by decide) ?_
                    exact Wl.ireturn d9_93 rfl rfl (by simp) (nle rfl) (nle rfl) ⟨by rw [show kwI [(t0, k0), (t1, k1), (t2, k2)] = (1 : Int32) from (kw_1 (sa1 lt0 lk0 wk0 c13 c125 c240) (kw_1 (sb1 lt1 lk1 wk1 c285) (kw_1 (sb1 lt2 lk2 wk2 c304) rfl)))], rfl⟩
                  · refine Wl.icmpN 84 d9_81 (feq c304).1 ?_
                    refine Wl.iconst 85 (0 : Int32) d9_84 (by decide) ?_
                    exact Wl.ireturn d9_85 rfl rfl (by simp) (nle rfl) (nle rfl) ⟨by rw [show kwI [(t0, k0), (t1, k1), (t2, k2)] = (0 : Int32) from (kw_1 (sa1 lt0 lk0 wk0 c13 c125 c240) (kw_1 (sb1 lt1 lk1 wk1 c285) (kw_0 (sc0 lt2 lk2 wk2 c300 c304))))], rfl⟩
                · refine Wl.icmpN 60 d9_57 (flt c300).2.2.1 ?_
                  refine Wl.iload_n 61 d9_60 rfl ?_
                  refine Wl.bipush 63 (97 : Int32) d9_61 (by decide) ?_
                  refine Wl.isub 64 d9_63 ?_
                  refine Wl.bipush 66 (65 : Int32) d9_64 (by decide) ?_
                  refine Wl.iadd 67 d9_66 ?_
                  refine Wl.i2c 68 d9_67 ?_
                  refine Wl.goto 72 d9_68 ?_
                  refine Wl.istore 74 #[.val (.ref a), .val (.ref y), .val (.int (2 : Int32)), .val (.int t2), .val (.int ((((t2 - (97 : Int32)) + (65 : Int32))).toUInt32.toUInt16.toUInt32.toInt32))] d9_72 rfl ?_
                  refine Wl.iload 76 d9_74 rfl ?_
                  refine Wl.aload_n 77 d9_76 rfl rfl ?_
                  refine Wl.iload_n 78 d9_77 rfl ?_
                  refine Wl.virtual 81 (argsL := [.int (2 : Int32)]) d9_78 (w90 hw) (w91 hw) (w93 hw) (w92 hw) (w16 hw) (w94 hw) (nf_sel (w93 hw) rfl) (U).exa (show parseMethodDescriptor "(I)C" = some ⟨[.int], some .char⟩ by decide +kernel) rfl (charW_met hw hcs hfm hu U (i := 2) (nle rfl)) (fun _ q => nomatch q) rfl rfl rfl (by decide) ⟨⟨nle rfl, nle rfl⟩, nle rfl, nle rfl⟩ ?_
                  intro v308 h309 hq310 _
                  obtain ⟨rfl, rfl⟩ := hq310
                  show WlO _ _ _ _ _ _ _ _ _ _ _ _ _ _ _ _ _ _ [.int k2, .int ((((t2 - (97 : Int32)) + (65 : Int32))).toUInt32.toUInt16.toUInt32.toInt32)]
                  by_cases c311 : (((t2 - (97 : Int32)) + (65 : Int32))).toUInt32.toUInt16.toUInt32.toInt32 = k2
                  · refine Wl.icmpY 86 d9_81 (teq c311).1 ?_
                    refine Wl.iinc 89 #[.val (.ref a), .val (.ref y), .val (.int (3 : Int32)), .val (.int t2), .val (.int ((((t2 - (97 : Int32)) + (65 : Int32))).toUInt32.toUInt16.toUInt32.toInt32))] (1 : Int32) d9_86 (by decide) rfl rfl ?_
                    refine Wl.goto 28 d9_89 ?_
                    refine Wl.iload_n 29 d9_28 rfl ?_
                    refine Wl.aload_n 30 d9_29 rfl rfl ?_
                    refine Wl.getfield 33 d9_30 (w50 hw) F2 ?_
                    refine Wl.virtual 36 (argsL := []) d9_33 (w62 hw) (w63 hw) (w65 hw) (w64 hw) (w16 hw) (w66 hw) (nf_sel (w65 hw) rfl) (S).exa (show parseMethodDescriptor "()I" = some ⟨[], some .int⟩ by decide +kernel) rfl (lenW_met hw hcs S) (fun _ q => nomatch q) rfl rfl rfl (by decide) ⟨⟨nle rfl, nle rfl⟩, nle rfl, nle rfl⟩ ?_
                    intro v312 h313 hq314 _
                    obtain ⟨rfl, rfl⟩ := hq314
                    show WlO _ _ _ _ _ _ _ _ _ _ _ _ _ _ _ _ _ _ [.int (3 : Int32), .int (3 : Int32)]
                    refine Wl.icmpY 92 d9_36 (flt (by decide)).2.1 ?_
                    refine Wl.iconst 93 (1 : Int32) d9_92 (by decide) ?_
                    exact Wl.ireturn d9_93 rfl rfl (by simp) (nle rfl) (nle rfl) ⟨by rw [show kwI [(t0, k0), (t1, k1), (t2, k2)] = (1 : Int32) from (kw_1 (sa1 lt0 lk0 wk0 c13 c125 c240) (kw_1 (sb1 lt1 lk1 wk1 c285) (kw_1 (sa1 lt2 lk2 wk2 c292 c300 c311) rfl)))], rfl⟩
                  · refine Wl.icmpN 84 d9_81 (feq c311).1 ?_
                    refine Wl.iconst 85 (0 : Int32) d9_84 (by decide) ?_
                    exact Wl.ireturn d9_85 rfl rfl (by simp) (nle rfl) (nle rfl) ⟨by rw [show kwI [(t0, k0), (t1, k1), (t2, k2)] = (0 : Int32) from (kw_1 (sa1 lt0 lk0 wk0 c13 c125 c240) (kw_1 (sb1 lt1 lk1 wk1 c285) (kw_0 (sa0 lt2 lk2 wk2 c292 c300 c311))))], rfl⟩
            · refine Wl.icmpN 84 d9_81 (feq c285).1 ?_
              refine Wl.iconst 85 (0 : Int32) d9_84 (by decide) ?_
              exact Wl.ireturn d9_85 rfl rfl (by simp) (nle rfl) (nle rfl) ⟨by rw [show kwI [(t0, k0), (t1, k1), (t2, k2)] = (0 : Int32) from (kw_1 (sa1 lt0 lk0 wk0 c13 c125 c240) (kw_0 (sc0 lt1 lk1 wk1 c281 c285)))], rfl⟩
          · refine Wl.icmpN 60 d9_57 (flt c281).2.2.1 ?_
            refine Wl.iload_n 61 d9_60 rfl ?_
            refine Wl.bipush 63 (97 : Int32) d9_61 (by decide) ?_
            refine Wl.isub 64 d9_63 ?_
            refine Wl.bipush 66 (65 : Int32) d9_64 (by decide) ?_
            refine Wl.iadd 67 d9_66 ?_
            refine Wl.i2c 68 d9_67 ?_
            refine Wl.goto 72 d9_68 ?_
            refine Wl.istore 74 #[.val (.ref a), .val (.ref y), .val (.int (1 : Int32)), .val (.int t1), .val (.int ((((t1 - (97 : Int32)) + (65 : Int32))).toUInt32.toUInt16.toUInt32.toInt32))] d9_72 rfl ?_
            refine Wl.iload 76 d9_74 rfl ?_
            refine Wl.aload_n 77 d9_76 rfl rfl ?_
            refine Wl.iload_n 78 d9_77 rfl ?_
            refine Wl.virtual 81 (argsL := [.int (1 : Int32)]) d9_78 (w90 hw) (w91 hw) (w93 hw) (w92 hw) (w16 hw) (w94 hw) (nf_sel (w93 hw) rfl) (U).exa (show parseMethodDescriptor "(I)C" = some ⟨[.int], some .char⟩ by decide +kernel) rfl (charW_met hw hcs hfm hu U (i := 1) (nle rfl)) (fun _ q => nomatch q) rfl rfl rfl (by decide) ⟨⟨nle rfl, nle rfl⟩, nle rfl, nle rfl⟩ ?_
            intro v315 h316 hq317 _
            obtain ⟨rfl, rfl⟩ := hq317
            show WlO _ _ _ _ _ _ _ _ _ _ _ _ _ _ _ _ _ _ [.int k1, .int ((((t1 - (97 : Int32)) + (65 : Int32))).toUInt32.toUInt16.toUInt32.toInt32)]
            by_cases c318 : (((t1 - (97 : Int32)) + (65 : Int32))).toUInt32.toUInt16.toUInt32.toInt32 = k1
            · refine Wl.icmpY 86 d9_81 (teq c318).1 ?_
              refine Wl.iinc 89 #[.val (.ref a), .val (.ref y), .val (.int (2 : Int32)), .val (.int t1), .val (.int ((((t1 - (97 : Int32)) + (65 : Int32))).toUInt32.toUInt16.toUInt32.toInt32))] (1 : Int32) d9_86 (by decide) rfl rfl ?_
              refine Wl.goto 28 d9_89 ?_
              refine Wl.iload_n 29 d9_28 rfl ?_
              refine Wl.aload_n 30 d9_29 rfl rfl ?_
              refine Wl.getfield 33 d9_30 (w50 hw) F2 ?_
              refine Wl.virtual 36 (argsL := []) d9_33 (w62 hw) (w63 hw) (w65 hw) (w64 hw) (w16 hw) (w66 hw) (nf_sel (w65 hw) rfl) (S).exa (show parseMethodDescriptor "()I" = some ⟨[], some .int⟩ by decide +kernel) rfl (lenW_met hw hcs S) (fun _ q => nomatch q) rfl rfl rfl (by decide) ⟨⟨nle rfl, nle rfl⟩, nle rfl, nle rfl⟩ ?_
              intro v319 h320 hq321 _
              obtain ⟨rfl, rfl⟩ := hq321
              show WlO _ _ _ _ _ _ _ _ _ _ _ _ _ _ _ _ _ _ [.int (3 : Int32), .int (2 : Int32)]
              refine Wl.icmpN 39 d9_36 (tlt (by decide)).2.1 ?_
              refine Wl.aload_n 40 d9_39 rfl rfl ?_
              refine Wl.getfield 43 d9_40 (w50 hw) F2 ?_
              refine Wl.iload_n 44 d9_43 rfl ?_
              refine Wl.virtual 47 (argsL := [.int (2 : Int32)]) d9_44 (w90 hw) (w91 hw) (w93 hw) (w92 hw) (w16 hw) (w94 hw) (nf_sel (w93 hw) rfl) (S).exa (show parseMethodDescriptor "(I)C" = some ⟨[.int], some .char⟩ by decide +kernel) rfl (charW_met hw hcs hfm hu S (i := 2) (nle rfl)) (fun _ q => nomatch q) rfl rfl rfl (by decide) ⟨⟨nle rfl, nle rfl⟩, nle rfl, nle rfl⟩ ?_
              intro v322 h323 hq324 _
              obtain ⟨rfl, rfl⟩ := hq324
              show WlO _ _ _ _ _ _ _ _ _ _ _ _ _ _ _ _ _ _ [.int t2]
              refine Wl.istore_n 48 #[.val (.ref a), .val (.ref y), .val (.int (2 : Int32)), .val (.int t2), .val (.int ((((t1 - (97 : Int32)) + (65 : Int32))).toUInt32.toUInt16.toUInt32.toInt32))] d9_47 rfl ?_
              refine Wl.iload_n 49 d9_48 rfl ?_
              refine Wl.bipush 51 (97 : Int32) d9_49 (by decide) ?_
              by_cases c325 : t2 < (97 : Int32)
              · refine Wl.icmpY 71 d9_51 (tlt c325).1 ?_
                refine Wl.iload_n 72 d9_71 rfl ?_
                refine Wl.istore 74 #[.val (.ref a), .val (.ref y), .val (.int (2 : Int32)), .val (.int t2), .val (.int t2)] d9_72 rfl ?_
                refine Wl.iload 76 d9_74 rfl ?_
                refine Wl.aload_n 77 d9_76 rfl rfl ?_
                refine Wl.iload_n 78 d9_77 rfl ?_
                refine Wl.virtual 81 (argsL := [.int (2 : Int32)]) d9_78 (w90 hw) (w91 hw) (w93 hw) (w92 hw) (w16 hw) (w94 hw) (nf_sel (w93 hw) rfl) (U).exa (show parseMethodDescriptor "(I)C" = some ⟨[.int], some .char⟩ by decide +kernel) rfl (charW_met hw hcs hfm hu U (i := 2) (nle rfl)) (fun _ q => nomatch q) rfl rfl rfl (by decide) ⟨⟨nle rfl, nle rfl⟩, nle rfl, nle rfl⟩ ?_
                intro v326 h327 hq328 _
                obtain ⟨rfl, rfl⟩ := hq328
                show WlO _ _ _ _ _ _ _ _ _ _ _ _ _ _ _ _ _ _ [.int k2, .int t2]
                by_cases c329 : t2 = k2
                · refine Wl.icmpY 86 d9_81 (teq c329).1 ?_
                  refine Wl.iinc 89 #[.val (.ref a), .val (.ref y), .val (.int (3 : Int32)), .val (.int t2), .val (.int t2)] (1 : Int32) d9_86 (by decide) rfl rfl ?_
                  refine Wl.goto 28 d9_89 ?_
                  refine Wl.iload_n 29 d9_28 rfl ?_
                  refine Wl.aload_n 30 d9_29 rfl rfl ?_
                  refine Wl.getfield 33 d9_30 (w50 hw) F2 ?_
                  refine Wl.virtual 36 (argsL := []) d9_33 (w62 hw) (w63 hw) (w65 hw) (w64 hw) (w16 hw) (w66 hw) (nf_sel (w65 hw) rfl) (S).exa (show parseMethodDescriptor "()I" = some ⟨[], some .int⟩ by decide +kernel) rfl (lenW_met hw hcs S) (fun _ q => nomatch q) rfl rfl rfl (by decide) ⟨⟨nle rfl, nle rfl⟩, nle rfl, nle rfl⟩ ?_
                  intro v330 h331 hq332 _
                  obtain ⟨rfl, rfl⟩ := hq332
                  show WlO _ _ _ _ _ _ _ _ _ _ _ _ _ _ _ _ _ _ [.int (3 : Int32), .int (3 : Int32)]
                  refine Wl.icmpY 92 d9_36 (flt (by decide)).2.1 ?_
                  refine Wl.iconst 93 (1 : Int32) d9_92 (by decide) ?_
                  exact Wl.ireturn d9_93 rfl rfl (by simp) (nle rfl) (nle rfl) ⟨by rw [show kwI [(t0, k0), (t1, k1), (t2, k2)] = (1 : Int32) from (kw_1 (sa1 lt0 lk0 wk0 c13 c125 c240) (kw_1 (sa1 lt1 lk1 wk1 c247 c281 c318) (kw_1 (sb1 lt2 lk2 wk2 c329) rfl)))], rfl⟩
                · refine Wl.icmpN 84 d9_81 (feq c329).1 ?_
                  refine Wl.iconst 85 (0 : Int32) d9_84 (by decide) ?_
                  exact Wl.ireturn d9_85 rfl rfl (by simp) (nle rfl) (nle rfl) ⟨by rw [show kwI [(t0, k0), (t1, k1), (t2, k2)] = (0 : Int32) from (kw_1 (sa1 lt0 lk0 wk0 c13 c125 c240) (kw_1 (sa1 lt1 lk1 wk1 c247 c281 c318) (kw_0 (sb0 lt2 lk2 wk2 c325 c329))))], rfl⟩
              · refine Wl.icmpN 54 d9_51 (flt c325).1 ?_
                refine Wl.iload_n 55 d9_54 rfl ?_
                refine Wl.bipush 57 (122 : Int32) d9_55 (by decide) ?_
                by_cases c333 : (122 : Int32) < t2
                · refine Wl.icmpY 71 d9_57 (tlt c333).2.2.1 ?_
                  refine Wl.iload_n 72 d9_71 rfl ?_
                  refine Wl.istore 74 #[.val (.ref a), .val (.ref y), .val (.int (2 : Int32)), .val (.int t2), .val (.int t2)] d9_72 rfl ?_
                  refine Wl.iload 76 d9_74 rfl ?_
                  refine Wl.aload_n 77 d9_76 rfl rfl ?_
                  refine Wl.iload_n 78 d9_77 rfl ?_
                  refine Wl.virtual 81 (argsL := [.int (2 : Int32)]) d9_78 (w90 hw) (w91 hw) (w93 hw) (w92 hw) (w16 hw) (w94 hw) (nf_sel (w93 hw) rfl) (U).exa (show parseMethodDescriptor "(I)C" = some ⟨[.int], some .char⟩ by decide +kernel) rfl (charW_met hw hcs hfm hu U (i := 2) (nle rfl)) (fun _ q => nomatch q) rfl rfl rfl (by decide) ⟨⟨nle rfl, nle rfl⟩, nle rfl, nle rfl⟩ ?_
                  intro v334 h335 hq336 _
                  obtain ⟨rfl, rfl⟩ := hq336
                  show WlO _ _ _ _ _ _ _ _ _ _ _ _ _ _ _ _ _ _ [.int k2, .int t2]
                  by_cases c337 : t2 = k2
                  · refine Wl.icmpY 86 d9_81 (teq c337).1 ?_
                    refine Wl.iinc 89 #[.val (.ref a), .val (.ref y), .val (.int (3 : Int32)), .val (.int t2), .val (.int t2)] (1 : Int32) d9_86 (by decide) rfl rfl ?_
                    refine Wl.goto 28 d9_89 ?_
                    refine Wl.iload_n 29 d9_28 rfl ?_
                    refine Wl.aload_n 30 d9_29 rfl rfl ?_
                    refine Wl.getfield 33 d9_30 (w50 hw) F2 ?_
                    refine Wl.virtual 36 (argsL := []) d9_33 (w62 hw) (w63 hw) (w65 hw) (w64 hw) (w16 hw) (w66 hw) (nf_sel (w65 hw) rfl) (S).exa (show parseMethodDescriptor "()I" = some ⟨[], some .int⟩ by decide +kernel) rfl (lenW_met hw hcs S) (fun _ q => nomatch q) rfl rfl rfl (by decide) ⟨⟨nle rfl, nle rfl⟩, nle rfl, nle rfl⟩ ?_
                    intro v338 h339 hq340 _
                    obtain ⟨rfl, rfl⟩ := hq340
                    show WlO _ _ _ _ _ _ _ _ _ _ _ _ _ _ _ _ _ _ [.int (3 : Int32), .int (3 : Int32)]
                    refine Wl.icmpY 92 d9_36 (flt (by decide)).2.1 ?_
                    refine Wl.iconst 93 (1 : Int32) d9_92 (by decide) ?_
                    exact Wl.ireturn d9_93 rfl rfl (by simp) (nle rfl) (nle rfl) ⟨by rw [show kwI [(t0, k0), (t1, k1), (t2, k2)] = (1 : Int32) from (kw_1 (sa1 lt0 lk0 wk0 c13 c125 c240) (kw_1 (sa1 lt1 lk1 wk1 c247 c281 c318) (kw_1 (sb1 lt2 lk2 wk2 c337) rfl)))], rfl⟩
                  · refine Wl.icmpN 84 d9_81 (feq c337).1 ?_
                    refine Wl.iconst 85 (0 : Int32) d9_84 (by decide) ?_
                    exact Wl.ireturn d9_85 rfl rfl (by simp) (nle rfl) (nle rfl) ⟨by rw [show kwI [(t0, k0), (t1, k1), (t2, k2)] = (0 : Int32) from (kw_1 (sa1 lt0 lk0 wk0 c13 c125 c240) (kw_1 (sa1 lt1 lk1 wk1 c247 c281 c318) (kw_0 (sc0 lt2 lk2 wk2 c333 c337))))], rfl⟩
                · refine Wl.icmpN 60 d9_57 (flt c333).2.2.1 ?_
                  refine Wl.iload_n 61 d9_60 rfl ?_
                  refine Wl.bipush 63 (97 : Int32) d9_61 (by decide) ?_
                  refine Wl.isub 64 d9_63 ?_
                  refine Wl.bipush 66 (65 : Int32) d9_64 (by decide) ?_
                  refine Wl.iadd 67 d9_66 ?_
                  refine Wl.i2c 68 d9_67 ?_
                  refine Wl.goto 72 d9_68 ?_
                  refine Wl.istore 74 #[.val (.ref a), .val (.ref y), .val (.int (2 : Int32)), .val (.int t2), .val (.int ((((t2 - (97 : Int32)) + (65 : Int32))).toUInt32.toUInt16.toUInt32.toInt32))] d9_72 rfl ?_
                  refine Wl.iload 76 d9_74 rfl ?_
                  refine Wl.aload_n 77 d9_76 rfl rfl ?_
                  refine Wl.iload_n 78 d9_77 rfl ?_
                  refine Wl.virtual 81 (argsL := [.int (2 : Int32)]) d9_78 (w90 hw) (w91 hw) (w93 hw) (w92 hw) (w16 hw) (w94 hw) (nf_sel (w93 hw) rfl) (U).exa (show parseMethodDescriptor "(I)C" = some ⟨[.int], some .char⟩ by decide +kernel) rfl (charW_met hw hcs hfm hu U (i := 2) (nle rfl)) (fun _ q => nomatch q) rfl rfl rfl (by decide) ⟨⟨nle rfl, nle rfl⟩, nle rfl, nle rfl⟩ ?_
                  intro v341 h342 hq343 _
                  obtain ⟨rfl, rfl⟩ := hq343
                  show WlO _ _ _ _ _ _ _ _ _ _ _ _ _ _ _ _ _ _ [.int k2, .int ((((t2 - (97 : Int32)) + (65 : Int32))).toUInt32.toUInt16.toUInt32.toInt32)]
                  by_cases c344 : (((t2 - (97 : Int32)) + (65 : Int32))).toUInt32.toUInt16.toUInt32.toInt32 = k2
                  · refine Wl.icmpY 86 d9_81 (teq c344).1 ?_
                    refine Wl.iinc 89 #[.val (.ref a), .val (.ref y), .val (.int (3 : Int32)), .val (.int t2), .val (.int ((((t2 - (97 : Int32)) + (65 : Int32))).toUInt32.toUInt16.toUInt32.toInt32))] (1 : Int32) d9_86 (by decide) rfl rfl ?_
                    refine Wl.goto 28 d9_89 ?_
                    refine Wl.iload_n 29 d9_28 rfl ?_
                    refine Wl.aload_n 30 d9_29 rfl rfl ?_
                    refine Wl.getfield 33 d9_30 (w50 hw) F2 ?_
                    refine Wl.virtual 36 (argsL := []) d9_33 (w62 hw) (w63 hw) (w65 hw) (w64 hw) (w16 hw) (w66 hw) (nf_sel (w65 hw) rfl) (S).exa (show parseMethodDescriptor "()I" = some ⟨[], some .int⟩ by decide +kernel) rfl (lenW_met hw hcs S) (fun _ q => nomatch q) rfl rfl rfl (by decide) ⟨⟨nle rfl, nle rfl⟩, nle rfl, nle rfl⟩ ?_
                    intro v345 h346 hq347 _
                    obtain ⟨rfl, rfl⟩ := hq347
                    show WlO _ _ _ _ _ _ _ _ _ _ _ _ _ _ _ _ _ _ [.int (3 : Int32), .int (3 : Int32)]
                    refine Wl.icmpY 92 d9_36 (flt (by decide)).2.1 ?_
                    refine Wl.iconst 93 (1 : Int32) d9_92 (by decide) ?_
                    exact Wl.ireturn d9_93 rfl rfl (by simp) (nle rfl) (nle rfl) ⟨by rw [show kwI [(t0, k0), (t1, k1), (t2, k2)] = (1 : Int32) from (kw_1 (sa1 lt0 lk0 wk0 c13 c125 c240) (kw_1 (sa1 lt1 lk1 wk1 c247 c281 c318) (kw_1 (sa1 lt2 lk2 wk2 c325 c333 c344) rfl)))], rfl⟩
                  · refine Wl.icmpN 84 d9_81 (feq c344).1 ?_
                    refine Wl.iconst 85 (0 : Int32) d9_84 (by decide) ?_
                    exact Wl.ireturn d9_85 rfl rfl (by simp) (nle rfl) (nle rfl) ⟨by rw [show kwI [(t0, k0), (t1, k1), (t2, k2)] = (0 : Int32) from (kw_1 (sa1 lt0 lk0 wk0 c13 c125 c240) (kw_1 (sa1 lt1 lk1 wk1 c247 c281 c318) (kw_0 (sa0 lt2 lk2 wk2 c325 c333 c344))))], rfl⟩
            · refine Wl.icmpN 84 d9_81 (feq c318).1 ?_
              refine Wl.iconst 85 (0 : Int32) d9_84 (by decide) ?_
              exact Wl.ireturn d9_85 rfl rfl (by simp) (nle rfl) (nle rfl) ⟨by rw [show kwI [(t0, k0), (t1, k1), (t2, k2)] = (0 : Int32) from (kw_1 (sa1 lt0 lk0 wk0 c13 c125 c240) (kw_0 (sa0 lt1 lk1 wk1 c247 c281 c318)))], rfl⟩
      · refine Wl.icmpN 84 d9_81 (feq c240).1 ?_
        refine Wl.iconst 85 (0 : Int32) d9_84 (by decide) ?_
        exact Wl.ireturn d9_85 rfl rfl (by simp) (nle rfl) (nle rfl) ⟨by rw [show kwI [(t0, k0), (t1, k1), (t2, k2)] = (0 : Int32) from (kw_0 (sa0 lt0 lk0 wk0 c13 c125 c240))], rfl⟩
set_option maxRecDepth 65536 in
set_option maxHeartbeats 40000000 in
theorem law_w00 {l : Launch} {Z : State} {a0 : Array Value} (hw : ∀ d ∈ tables_1, d.before a0 Z = true) (hcs : CSon Z) (hfm : Fmt Z) (hu : U16on Z) {as : Array Value} {h : Heap} {i0 : Int32} {i1 i2 i3 : Int64} {i4 se : Int32} {kw ks ki : Addr} {t0 t1 t2 k0 k1 k2 : Int32} (hK : Kinds Z kw ks ki) (lt0 : Ch t0) (lt1 : Ch t1) (lt2 : Ch t2) (lk0 : Ch k0) (lk1 : Ch k1) (lk2 : Ch k2) (wk0 : nlow k0) (wk1 : nlow k1) (wk2 : nlow k2) :
    Wl l Z a0 consts_1 x code maxLocals ret room_1 as (fun v h' => v = some (.int 1)) [] h 0 0 133 #[.val (.int i0), .val (.long i1), .second, .val (.long i2), .second, .val (.long i3), .second, .val (.int i4), .val (.int se), .val (.ref kw), .val (.int (0 : Int32)), .val (.int (0 : Int32)), .val (.int t0), .val (.int t1), .val (.int t2), .val (.int k0), .val (.int k1), .val (.int k2), .unset, .unset, .unset, .unset] [] := by
  refine Wl.iload 135 at_133 rfl ?_
  refine Wl.iload 137 at_135 rfl ?_
  refine Wl.iload 139 at_137 rfl ?_
  refine Wl.iload 141 at_139 rfl ?_
  refine Wl.static 144 (argsL := [.int t0, .int t1, .int t2, .int (0 : Int32)]) at_141 (w11 hw) (w12 hw) (w5 hw) (w13 hw) (show parseMethodDescriptor "(CCCI)Ljava/lang/String;" = some ⟨[.char, .char, .char, .int], some (.object "java/lang/String")⟩ by decide +kernel) rfl (str0_met hw hcs hu lt0 lt1 lt2) (fun _ q => nomatch q) rfl rfl rfl (by decide) ⟨⟨nle rfl, nle rfl⟩, nle rfl, nle rfl⟩ ?_
  intro v1 h2 hq3 _
  obtain ⟨a4, rfl, E5, S6⟩ := hq3
  have B7 : Ext h h2 := E5
  show WlO _ _ _ _ _ _ _ _ _ _ _ _ _ _ _ _ _ _ [.ref a4]
  refine Wl.astore 146 #[.val (.int i0), .val (.long i1), .second, .val (.long i2), .second, .val (.long i3), .second, .val (.int i4), .val (.int se), .val (.ref kw), .val (.int (0 : Int32)), .val (.int (0 : Int32)), .val (.int t0), .val (.int t1), .val (.int t2), .val (.int k0), .val (.int k1), .val (.int k2), .val (.ref a4), .unset, .unset, .unset] at_144 rfl rfl ?_
  refine Wl.iload 148 at_146 rfl ?_
  refine Wl.iload 150 at_148 rfl ?_
  refine Wl.iload 152 at_150 rfl ?_
  refine Wl.iload 154 at_152 rfl ?_
  refine Wl.static 157 (argsL := [.int k0, .int k1, .int k2, .int (0 : Int32)]) at_154 (w11 hw) (w12 hw) (w5 hw) (w13 hw) (show parseMethodDescriptor "(CCCI)Ljava/lang/String;" = some ⟨[.char, .char, .char, .int], some (.object "java/lang/String")⟩ by decide +kernel) rfl (str0_met hw hcs hu lk0 lk1 lk2) (fun _ q => nomatch q) rfl rfl rfl (by decide) ⟨⟨nle rfl, nle rfl⟩, nle rfl, nle rfl⟩ ?_
  intro v8 h9 hq10 _
  obtain ⟨a11, rfl, E12, S13⟩ := hq10
  have B14 : Ext h h9 := extTr B7 E12
  show WlO _ _ _ _ _ _ _ _ _ _ _ _ _ _ _ _ _ _ [.ref a11]
  refine Wl.astore 159 #[.val (.int i0), .val (.long i1), .second, .val (.long i2), .second, .val (.long i3), .second, .val (.int i4), .val (.int se), .val (.ref kw), .val (.int (0 : Int32)), .val (.int (0 : Int32)), .val (.int t0), .val (.int t1), .val (.int t2), .val (.int k0), .val (.int k1), .val (.int k2), .val (.ref a4), .val (.ref a11), .unset, .unset] at_157 rfl rfl ?_
  refine Wl.new 162 at_159 (w36 hw) (w37 hw) (w38 hw) (nle rfl) (nle rfl) ?_
  intro a15 h16 q17 E18 X19 D20
  have z21 : h.size ≤ a15 := Nat.le_trans B14.1 (Nat.le_of_eq q17.symm)
  have z22 : h9.size ≤ a15 := Nat.le_of_eq q17.symm
  have ne23 : a4 ≠ a15 := Nat.ne_of_lt (by rw [q17]; exact (((S6).exa.ext E12)).lt)
  have ne24 : a11 ≠ a15 := Nat.ne_of_lt (by rw [q17]; exact ((S13).exa).lt)
  have B25 : Ext h h16 := extTr B14 E18
  have B26 : Ext h9 h16 := E18
  have F27 : Fld Z h16 a15 "com/example/grantwork/grantwork/Token" "kind" "Lcom/example/grantwork/grantwork/Token$Kind;" (.null) := D20 (Or.inr (w49 hw)) (ty := (.object "com/example/grantwork/grantwork/Token$Kind")) (by decide)
  have F28 : Fld Z h16 a15 "com/example/grantwork/grantwork/Token" "text" "Ljava/lang/String;" (.null) := D20 (Or.inr (w51 hw)) (ty := (.object "java/lang/String")) (by decide)
  have F29 : Fld Z h16 a15 "com/example/grantwork/grantwork/Token" "length" "J" (.long 0) := D20 (Or.inr (w53 hw)) (ty := .long) (by decide)
  have F30 : Fld Z h16 a15 "com/example/grantwork/grantwork/Token" "line" "I" (.int 0) := D20 (Or.inr (w55 hw)) (ty := .int) (by decide)
  refine Wl.dup 163 at_162 rfl ?_
  refine Wl.aload 165 at_163 rfl rfl ?_
  refine Wl.aload 167 at_165 rfl rfl ?_
  refine Wl.lload 169 at_167 rfl ?_
  refine Wl.iload 171 at_169 rfl ?_
  refine Wl.special 174 (argsL := [.ref kw, .ref a4, .long i3, .int i4]) at_171 (w39 hw) (w40 hw) (w38 hw) (w41 hw) (show parseMethodDescriptor "(Lcom/example/grantwork/grantwork/Token$Kind;Ljava/lang/String;JI)V" = some ⟨[(.object "com/example/grantwork/grantwork/Token$Kind"), (.object "java/lang/String"), .long, .int], none⟩ by decide +kernel) rfl (token_met hw X19 F27 F28 F29 F30) (allS (List.mem_of_getElem? (i := 0) rfl) (fun _ q => nomatch q)) rfl rfl rfl rfl (by decide) ⟨⟨nle rfl, nle rfl⟩, nle rfl, nle rfl⟩ ?_
  intro v31 h32 hq33 _
  obtain ⟨rfl, K34, X35, F36, F37, F38, F39⟩ := hq33
  have B40 : Ext h h32 := extKeep B25 K34 (allS z21 all0)
  have B41 : Ext h9 h32 := extKeep B26 K34 (allS z22 all0)
  show WlO _ _ _ _ _ _ _ _ _ _ _ _ _ _ _ _ _ _ [.ref a15]
  refine Wl.astore 176 #[.val (.int i0), .val (.long i1), .second, .val (.long i2), .second, .val (.long i3), .second, .val (.int i4), .val (.int se), .val (.ref kw), .val (.int (0 : Int32)), .val (.int (0 : Int32)), .val (.int t0), .val (.int t1), .val (.int t2), .val (.int k0), .val (.int k1), .val (.int k2), .val (.ref a4), .val (.ref a11), .val (.ref a15), .unset] at_174 rfl rfl ?_
  refine Wl.aload 178 at_176 rfl rfl ?_
  refine Wl.getstatic 181 at_178 (w0 hw) hK.1.1 ?_
  refine Wl.acmp 184 true at_181 rfl rfl (decide_eq_true rfl) ?_
  refine Wl.iload 186 at_184 rfl ?_
  refine Wl.iload 188 at_186 rfl ?_
  refine Wl.icmpN 191 at_188 (teq (by decide)).2 ?_
  refine Wl.iload 193 at_191 rfl ?_
  refine Wl.iconst 194 (1 : Int32) at_193 (by decide) ?_
  refine Wl.icmpY 207 at_194 (tlt (by decide)).1 ?_
  refine Wl.iload 209 at_207 rfl ?_
  refine Wl.iconst 210 (2 : Int32) at_209 (by decide) ?_
  refine Wl.icmpY 223 at_210 (tlt (by decide)).1 ?_
  refine Wl.iload 225 at_223 rfl ?_
  refine Wl.iconst 226 (3 : Int32) at_225 (by decide) ?_
  refine Wl.icmpY 239 at_226 (tlt (by decide)).1 ?_
  refine Wl.iconst 240 (1 : Int32) at_239 (by decide) ?_
  refine Wl.goto 244 at_240 ?_
  refine Wl.istore 246 #[.val (.int i0), .val (.long i1), .second, .val (.long i2), .second, .val (.long i3), .second, .val (.int i4), .val (.int se), .val (.ref kw), .val (.int (0 : Int32)), .val (.int (0 : Int32)), .val (.int t0), .val (.int t1), .val (.int t2), .val (.int k0), .val (.int k1), .val (.int k2), .val (.ref a4), .val (.ref a11), .val (.ref a15), .val (.int (1 : Int32))] at_244 rfl ?_
  refine Wl.aload 248 at_246 rfl rfl ?_
  refine Wl.aload 250 at_248 rfl rfl ?_
  refine Wl.virtual 253 (argsL := [.ref a11]) at_250 (w56 hw) (w57 hw) (w59 hw) (w58 hw) (w38 hw) (w60 hw) (nf_sel (w59 hw) rfl) X35 (show parseMethodDescriptor "(Ljava/lang/String;)Z" = some ⟨[(.object "java/lang/String")], some .boolean⟩ by decide +kernel) rfl (kw00_met hw hcs hfm hu hK lt0 lt1 lt2 lk0 lk1 lk2 wk0 wk1 wk2 F36 F37 ((S6.ext E12).ext B41) (S13.ext B41)) (fun _ q => nomatch q) rfl rfl rfl (by decide) ⟨⟨nle rfl, nle rfl⟩, nle rfl, nle rfl⟩ ?_
  intro v42 h43 hq44 _
  rw [show kwI [] = (1 : Int32) from rfl] at hq44
  obtain ⟨rfl, rfl⟩ := hq44
  show WlO _ _ _ _ _ _ _ _ _ _ _ _ _ _ _ _ _ _ [.int (1 : Int32)]
  refine Wl.iload 255 at_253 rfl ?_
  refine Wl.icmpN 258 at_255 (teq (by decide)).2 ?_
  refine Wl.iconst 259 (1 : Int32) at_258 (by decide) ?_
  refine Wl.goto 263 at_259 ?_
  exact Wl.ireturn at_263 rfl rfl (by simp) (nle rfl) (nle rfl) rfl
set_option maxRecDepth 65536 in
set_option maxHeartbeats 40000000 in
theorem law_w01 {l : Launch} {Z : State} {a0 : Array Value} (hw : ∀ d ∈ tables_1, d.before a0 Z = true) (hcs : CSon Z) (hfm : Fmt Z) (hu : U16on Z) {as : Array Value} {h : Heap} {i0 : Int32} {i1 i2 i3 : Int64} {i4 se : Int32} {kw ks ki : Addr} {t0 t1 t2 k0 k1 k2 : Int32} (hK : Kinds Z kw ks ki) (lt0 : Ch t0) (lt1 : Ch t1) (lt2 : Ch t2) (lk0 : Ch k0) (lk1 : Ch k1) (lk2 : Ch k2) (wk0 : nlow k0) (wk1 : nlow k1) (wk2 : nlow k2) :
    Wl l Z a0 consts_1 x code maxLocals ret room_1 as (fun v h' => v = some (.int 1)) [] h 0 0 133 #[.val (.int i0), .val (.long i1), .second, .val (.long i2), .second, .val (.long i3), .second, .val (.int i4), .val (.int se), .val (.ref kw), .val (.int (0 : Int32)), .val (.int (1 : Int32)), .val (.int t0), .val (.int t1), .val (.int t2), .val (.int k0), .val (.int k1), .val (.int k2), .unset, .unset, .unset, .unset] [] := by
  refine Wl.iload 135 at_133 rfl ?_
  refine Wl.iload 137 at_135 rfl ?_
  refine Wl.iload 139 at_137 rfl ?_
  refine Wl.iload 141 at_139 rfl ?_
  refine Wl.static 144 (argsL := [.int t0, .int t1, .int t2, .int (0 : Int32)]) at_141 (w11 hw) (w12 hw) (w5 hw) (w13 hw) (show parseMethodDescriptor "(CCCI)Ljava/lang/String;" = some ⟨[.char, .char, .char, .int], some (.object "java/lang/String")⟩ by decide +kernel) rfl (str0_met hw hcs hu lt0 lt1 lt2) (fun _ q => nomatch q) rfl rfl rfl (by decide) ⟨⟨nle rfl, nle rfl⟩, nle rfl, nle rfl⟩ ?_
  intro v1 h2 hq3 _
  obtain ⟨a4, rfl, E5, S6⟩ := hq3
  have B7 : Ext h h2 := E5
  show WlO _ _ _ _ _ _ _ _ _ _ _ _ _ _ _ _ _ _ [.ref a4]
  refine Wl.astore 146 #[.val (.int i0), .val (.long i1), .second, .val (.long i2), .second, .val (.long i3), .second, .val (.int i4), .val (.int se), .val (.ref kw), .val (.int (0 : Int32)), .val (.int (1 : Int32)), .val (.int t0), .val (.int t1), .val (.int t2), .val (.int k0), .val (.int k1), .val (.int k2), .val (.ref a4), .unset, .unset, .unset] at_144 rfl rfl ?_
  refine Wl.iload 148 at_146 rfl ?_
  refine Wl.iload 150 at_148 rfl ?_
  refine Wl.iload 152 at_150 rfl ?_
  refine Wl.iload 154 at_152 rfl ?_
  refine Wl.static 157 (argsL := [.int k0, .int k1, .int k2, .int (1 : Int32)]) at_154 (w11 hw) (w12 hw) (w5 hw) (w13 hw) (show parseMethodDescriptor "(CCCI)Ljava/lang/String;" = some ⟨[.char, .char, .char, .int], some (.object "java/lang/String")⟩ by decide +kernel) rfl (str1_met hw hcs hu lk0 lk1 lk2) (fun _ q => nomatch q) rfl rfl rfl (by decide) ⟨⟨nle rfl, nle rfl⟩, nle rfl, nle rfl⟩ ?_
  intro v8 h9 hq10 _
  obtain ⟨a11, rfl, E12, S13⟩ := hq10
  have B14 : Ext h h9 := extTr B7 E12
  show WlO _ _ _ _ _ _ _ _ _ _ _ _ _ _ _ _ _ _ [.ref a11]
  refine Wl.astore 159 #[.val (.int i0), .val (.long i1), .second, .val (.long i2), .second, .val (.long i3), .second, .val (.int i4), .val (.int se), .val (.ref kw), .val (.int (0 : Int32)), .val (.int (1 : Int32)), .val (.int t0), .val (.int t1), .val (.int t2), .val (.int k0), .val (.int k1), .val (.int k2), .val (.ref a4), .val (.ref a11), .unset, .unset] at_157 rfl rfl ?_
  refine Wl.new 162 at_159 (w36 hw) (w37 hw) (w38 hw) (nle rfl) (nle rfl) ?_
  intro a15 h16 q17 E18 X19 D20
  have z21 : h.size ≤ a15 := Nat.le_trans B14.1 (Nat.le_of_eq q17.symm)
  have z22 : h9.size ≤ a15 := Nat.le_of_eq q17.symm
  have ne23 : a4 ≠ a15 := Nat.ne_of_lt (by rw [q17]; exact (((S6).exa.ext E12)).lt)
  have ne24 : a11 ≠ a15 := Nat.ne_of_lt (by rw [q17]; exact ((S13).exa).lt)
  have B25 : Ext h h16 := extTr B14 E18
  have B26 : Ext h9 h16 := E18
  have F27 : Fld Z h16 a15 "com/example/grantwork/grantwork/Token" "kind" "Lcom/example/grantwork/grantwork/Token$Kind;" (.null) := D20 (Or.inr (w49 hw)) (ty := (.object "com/example/grantwork/grantwork/Token$Kind")) (by decide)
  have F28 : Fld Z h16 a15 "com/example/grantwork/grantwork/Token" "text" "Ljava/lang/String;" (.null) := D20 (Or.inr (w51 hw)) (ty := (.object "java/lang/String")) (by decide)
  have F29 : Fld Z h16 a15 "com/example/grantwork/grantwork/Token" "length" "J" (.long 0) := D20 (Or.inr (w53 hw)) (ty := .long) (by decide)
  have F30 : Fld Z h16 a15 "com/example/grantwork/grantwork/Token" "line" "I" (.int 0) := D20 (Or.inr (w55 hw)) (ty := .int) (by decide)
  refine Wl.dup 163 at_162 rfl ?_
  refine Wl.aload 165 at_163 rfl rfl ?_
  refine Wl.aload 167 at_165 rfl rfl ?_
  refine Wl.lload 169 at_167 rfl ?_
  refine Wl.iload 171 at_169 rfl ?_
  refine Wl.special 174 (argsL := [.ref kw, .ref a4, .long i3, .int i4]) at_171 (w39 hw) (w40 hw) (w38 hw) (w41 hw) (show parseMethodDescriptor "(Lcom/example/grantwork/grantwork/Token$Kind;Ljava/lang/String;JI)V" = some ⟨[(.object "com/example/grantwork/grantwork/Token$Kind"), (.object "java/lang/String"), .long, .int], none⟩ by decide +kernel) rfl (token_met hw X19 F27 F28 F29 F30) (allS (List.mem_of_getElem? (i := 0) rfl) (fun _ q => nomatch q)) rfl rfl rfl rfl (by decide) ⟨⟨nle rfl, nle rfl⟩, nle rfl, nle rfl⟩ ?_
  intro v31 h32 hq33 _
  obtain ⟨rfl, K34, X35, F36, F37, F38, F39⟩ := hq33
  have B40 : Ext h h32 := extKeep B25 K34 (allS z21 all0)
  have B41 : Ext h9 h32 := extKeep B26 K34 (allS z22 all0)
  show WlO _ _ _ _ _ _ _ _ _ _ _ _ _ _ _ _ _ _ [.ref a15]
  refine Wl.astore 176 #[.val (.int i0), .val (.long i1), .second, .val (.long i2), .second, .val (.long i3), .second, .val (.int i4), .val (.int se), .val (.ref kw), .val (.int (0 : Int32)), .val (.int (1 : Int32)), .val (.int t0), .val (.int t1), .val (.int t2), .val (.int k0), .val (.int k1), .val (.int k2), .val (.ref a4), .val (.ref a11), .val (.ref a15), .unset] at_174 rfl rfl ?_
  refine Wl.aload 178 at_176 rfl rfl ?_
  refine Wl.getstatic 181 at_178 (w0 hw) hK.1.1 ?_
  refine Wl.acmp 184 true at_181 rfl rfl (decide_eq_true rfl) ?_
  refine Wl.iload 186 at_184 rfl ?_
  refine Wl.iload 188 at_186 rfl ?_
  refine Wl.icmpY 243 at_188 (feq (by decide)).2 ?_
  refine Wl.iconst 244 (0 : Int32) at_243 (by decide) ?_
  refine Wl.istore 246 #[.val (.int i0), .val (.long i1), .second, .val (.long i2), .second, .val (.long i3), .second, .val (.int i4), .val (.int se), .val (.ref kw), .val (.int (0 : Int32)), .val (.int (1 : Int32)), .val (.int t0), .val (.int t1), .val (.int t2), .val (.int k0), .val (.int k1), .val (.int k2), .val (.ref a4), .val (.ref a11), .val (.ref a15), .val (.int (0 : Int32))] at_244 rfl ?_
  refine Wl.aload 248 at_246 rfl rfl ?_
  refine Wl.aload 250 at_248 rfl rfl ?_
  refine Wl.virtual 253 (argsL := [.ref a11]) at_250 (w56 hw) (w57 hw) (w59 hw) (w58 hw) (w38 hw) (w60 hw) (nf_sel (w59 hw) rfl) X35 (show parseMethodDescriptor "(Ljava/lang/String;)Z" = some ⟨[(.object "java/lang/String")], some .boolean⟩ by decide +kernel) rfl (kw01_met hw hcs hfm hu hK lt0 lt1 lt2 lk0 lk1 lk2 wk0 wk1 wk2 F36 F37 ((S6.ext E12).ext B41) (S13.ext B41)) (fun _ q => nomatch q) rfl rfl rfl (by decide) ⟨⟨nle rfl, nle rfl⟩, nle rfl, nle rfl⟩ ?_
  intro v42 h43 hq44 _
  obtain ⟨rfl, rfl⟩ := hq44
  show WlO _ _ _ _ _ _ _ _ _ _ _ _ _ _ _ _ _ _ [.int (0 : Int32)]
  refine Wl.iload 255 at_253 rfl ?_
  refine Wl.icmpN 258 at_255 (teq (by decide)).2 ?_
  refine Wl.iconst 259 (1 : Int32) at_258 (by decide) ?_
  refine Wl.goto 263 at_259 ?_
  exact Wl.ireturn at_263 rfl rfl (by simp) (nle rfl) (nle rfl) rfl
set_option maxRecDepth 65536 in
set_option maxHeartbeats 40000000 in
theorem law_w02 {l : Launch} {Z : State} {a0 : Array Value} (hw : ∀ d ∈ tables_1, d.before a0 Z = true) (hcs : CSon Z) (hfm : Fmt Z) (hu : U16on Z) {as : Array Value} {h : Heap} {i0 : Int32} {i1 i2 i3 : Int64} {i4 se : Int32} {kw ks ki : Addr} {t0 t1 t2 k0 k1 k2 : Int32} (hK : Kinds Z kw ks ki) (lt0 : Ch t0) (lt1 : Ch t1) (lt2 : Ch t2) (lk0 : Ch k0) (lk1 : Ch k1) (lk2 : Ch k2) (wk0 : nlow k0) (wk1 : nlow k1) (wk2 : nlow k2) :
    Wl l Z a0 consts_1 x code maxLocals ret room_1 as (fun v h' => v = some (.int 1)) [] h 0 0 133 #[.val (.int i0), .val (.long i1), .second, .val (.long i2), .second, .val (.long i3), .second, .val (.int i4), .val (.int se), .val (.ref kw), .val (.int (0 : Int32)), .val (.int (2 : Int32)), .val (.int t0), .val (.int t1), .val (.int t2), .val (.int k0), .val (.int k1), .val (.int k2), .unset, .unset, .unset, .unset] [] := by
  refine Wl.iload 135 at_133 rfl ?_
  refine Wl.iload 137 at_135 rfl ?_
  refine Wl.iload 139 at_137 rfl ?_
  refine Wl.iload 141 at_139 rfl ?_
  refine Wl.static 144 (argsL := [.int t0, .int t1, .int t2, .int (0 : Int32)]) at_141 (w11 hw) (w12 hw) (w5 hw) (w13 hw) (show parseMethodDescriptor "(CCCI)Ljava/lang/String;" = some ⟨[.char, .char, .char, .int], some (.object "java/lang/String")⟩ by decide +kernel) rfl (str0_met hw hcs hu lt0 lt1 lt2) (fun _ q => nomatch q) rfl rfl rfl (by decide) ⟨⟨nle rfl, nle rfl⟩, nle rfl, nle rfl⟩ ?_
  intro v1 h2 hq3 _
  obtain ⟨a4, rfl, E5, S6⟩ := hq3
  have B7 : Ext h h2 := E5
  show WlO _ _ _ _ _ _ _ _ _ _ _ _ _ _ _ _ _ _ [.ref a4]
  refine Wl.astore 146 #[.val (.int i0), .val (.long i1), .second, .val (.long i2), .second, .val (.long i3), .second, .val (.int i4), .val (.int se), .val (.ref kw), .val (.int (0 : Int32)), .val (.int (2 : Int32)), .val (.int t0), .val (.int t1), .val (.int t2), .val (.int k0), .val (.int k1), .val (.int k2), .val (.ref a4), .unset, .unset, .unset] at_144 rfl rfl ?_
  refine Wl.iload 148 at_146 rfl ?_
  refine Wl.iload 150 at_148 rfl ?_
  refine Wl.iload 152 at_150 rfl ?_
  refine Wl.iload 154 at_152 rfl ?_
  refine Wl.static 157 (argsL := [.int k0, .int k1, .int k2, .int (2 : Int32)]) at_154 (w11 hw) (w12 hw) (w5 hw) (w13 hw) (show parseMethodDescriptor "(CCCI)Ljava/lang/String;" = some ⟨[.char, .char, .char, .int], some (.object "java/lang/String")⟩ by decide +kernel) rfl (str2_met hw hcs hu lk0 lk1 lk2) (fun _ q => nomatch q) rfl rfl rfl (by decide) ⟨⟨nle rfl, nle rfl⟩, nle rfl, nle rfl⟩ ?_
  intro v8 h9 hq10 _
  obtain ⟨a11, rfl, E12, S13⟩ := hq10
  have B14 : Ext h h9 := extTr B7 E12
  show WlO _ _ _ _ _ _ _ _ _ _ _ _ _ _ _ _ _ _ [.ref a11]
  refine Wl.astore 159 #[.val (.int i0), .val (.long i1), .second, .val (.long i2), .second, .val (.long i3), .second, .val (.int i4), .val (.int se), .val (.ref kw), .val (.int (0 : Int32)), .val (.int (2 : Int32)), .val (.int t0), .val (.int t1), .val (.int t2), .val (.int k0), .val (.int k1), .val (.int k2), .val (.ref a4), .val (.ref a11), .unset, .unset] at_157 rfl rfl ?_
  refine Wl.new 162 at_159 (w36 hw) (w37 hw) (w38 hw) (nle rfl) (nle rfl) ?_
  intro a15 h16 q17 E18 X19 D20
  have z21 : h.size ≤ a15 := Nat.le_trans B14.1 (Nat.le_of_eq q17.symm)
  have z22 : h9.size ≤ a15 := Nat.le_of_eq q17.symm
  have ne23 : a4 ≠ a15 := Nat.ne_of_lt (by rw [q17]; exact (((S6).exa.ext E12)).lt)
  have ne24 : a11 ≠ a15 := Nat.ne_of_lt (by rw [q17]; exact ((S13).exa).lt)
  have B25 : Ext h h16 := extTr B14 E18
  have B26 : Ext h9 h16 := E18
  have F27 : Fld Z h16 a15 "com/example/grantwork/grantwork/Token" "kind" "Lcom/example/grantwork/grantwork/Token$Kind;" (.null) := D20 (Or.inr (w49 hw)) (ty := (.object "com/example/grantwork/grantwork/Token$Kind")) (by decide)
  have F28 : Fld Z h16 a15 "com/example/grantwork/grantwork/Token" "text" "Ljava/lang/String;" (.null) := D20 (Or.inr (w51 hw)) (ty := (.object "java/lang/String")) (by decide)
  have F29 : Fld Z h16 a15 "com/example/grantwork/grantwork/Token" "length" "J" (.long 0) := D20 (Or.inr (w53 hw)) (ty := .long) (by decide)
  have F30 : Fld Z h16 a15 "com/example/grantwork/grantwork/Token" "line" "I" (.int 0) := D20 (Or.inr (w55 hw)) (ty := .int) (by decide)
  refine Wl.dup 163 at_162 rfl ?_
  refine Wl.aload 165 at_163 rfl rfl ?_
  refine Wl.aload 167 at_165 rfl rfl ?_
  refine Wl.lload 169 at_167 rfl ?_
  refine Wl.iload 171 at_169 rfl ?_
  refine Wl.special 174 (argsL := [.ref kw, .ref a4, .long i3, .int i4]) at_171 (w39 hw) (w40 hw) (w38 hw) (w41 hw) (show parseMethodDescriptor "(Lcom/example/grantwork/grantwork/Token$Kind;Ljava/lang/String;JI)V" = some ⟨[(.object "com/example/grantwork/grantwork/Token$Kind"), (.object "java/lang/String"), .long, .int], none⟩ by decide +kernel) rfl (token_met hw X19 F27 F28 F29 F30) (allS (List.mem_of_getElem? (i := 0) rfl) (fun _ q => nomatch q)) rfl rfl rfl rfl (by decide) ⟨⟨nle rfl, nle rfl⟩, nle rfl, nle rfl⟩ ?_
  intro v31 h32 hq33 _
  obtain ⟨rfl, K34, X35, F36, F37, F38, F39⟩ := hq33
  have B40 : Ext h h32 := extKeep B25 K34 (allS z21 all0)
  have B41 : Ext h9 h32 := extKeep B26 K34 (allS z22 all0)
  show WlO _ _ _ _ _ _ _ _ _ _ _ _ _ _ _ _ _ _ [.ref a15]
  refine Wl.astore 176 #[.val (.int i0), .val (.long i1), .second, .val (.long i2), .second, .val (.long i3), .second, .val (.int i4), .val (.int se), .val (.ref kw), .val (.int (0 : Int32)), .val (.int (2 : Int32)), .val (.int t0), .val (.int t1), .val (.int t2), .val (.int k0), .val (.int k1), .val (.int k2), .val (.ref a4), .val (.ref a11), .val (.ref a15), .unset] at_174 rfl rfl ?_
  refine Wl.aload 178 at_176 rfl rfl ?_
  refine Wl.getstatic 181 at_178 (w0 hw) hK.1.1 ?_
  refine Wl.acmp 184 true at_181 rfl rfl (decide_eq_true rfl) ?_
  refine Wl.iload 186 at_184 rfl ?_
  refine Wl.iload 188 at_186 rfl ?_
  refine Wl.icmpY 243 at_188 (feq (by decide)).2 ?_
  refine Wl.iconst 244 (0 : Int32) at_243 (by decide) ?_
  refine Wl.istore 246 #[.val (.int i0), .val (.long i1), .second, .val (.long i2), .second, .val (.long i3), .second, .val (.int i4), .val (.int se), .val (.ref kw), .val (.int (0 : Int32)), .val (.int (2 : Int32)), .val (.int t0), .val (.int t1), .val (.int t2), .val (.int k0), .val (.int k1), .val (.int k2), .val (.ref a4), .val (.ref a11), .val (.ref a15), .val (.int (0 : Int32))] at_244 rfl ?_
  refine Wl.aload 248 at_246 rfl rfl ?_
  refine Wl.aload 250 at_248 rfl rfl ?_
  refine Wl.virtual 253 (argsL := [.ref a11]) at_250 (w56 hw) (w57 hw) (w59 hw) (w58 hw) (w38 hw) (w60 hw) (nf_sel (w59 hw) rfl) X35 (show parseMethodDescriptor "(Ljava/lang/String;)Z" = some ⟨[(.object "java/lang/String")], some .boolean⟩ by decide +kernel) rfl (kw02_met hw hcs hfm hu hK lt0 lt1 lt2 lk0 lk1 lk2 wk0 wk1 wk2 F36 F37 ((S6.ext E12).ext B41) (S13.ext B41)) (fun _ q => nomatch q) rfl rfl rfl (by decide) ⟨⟨nle rfl, nle rfl⟩, nle rfl, nle rfl⟩ ?_
  intro v42 h43 hq44 _
  obtain ⟨rfl, rfl⟩ := hq44
  show WlO _ _ _ _ _ _ _ _ _ _ _ _ _ _ _ _ _ _ [.int (0 : Int32)]
  refine Wl.iload 255 at_253 rfl ?_
  refine Wl.icmpN 258 at_255 (teq (by decide)).2 ?_
  refine Wl.iconst 259 (1 : Int32) at_258 (by decide) ?_
  refine Wl.goto 263 at_259 ?_
  exact Wl.ireturn at_263 rfl rfl (by simp) (nle rfl) (nle rfl) rfl
set_option maxRecDepth 65536 in
set_option maxHeartbeats 40000000 in
theorem law_w03 {l : Launch} {Z : State} {a0 : Array Value} (hw : ∀ d ∈ tables_1, d.before a0 Z = true) (hcs : CSon Z) (hfm : Fmt Z) (hu : U16on Z) {as : Array Value} {h : Heap} {i0 : Int32} {i1 i2 i3 : Int64} {i4 se : Int32} {kw ks ki : Addr} {t0 t1 t2 k0 k1 k2 : Int32} (hK : Kinds Z kw ks ki) (lt0 : Ch t0) (lt1 : Ch t1) (lt2 : Ch t2) (lk0 : Ch k0) (lk1 : Ch k1) (lk2 : Ch k2) (wk0 : nlow k0) (wk1 : nlow k1) (wk2 : nlow k2) :
    Wl l Z a0 consts_1 x code maxLocals ret room_1 as (fun v h' => v = some (.int 1)) [] h 0 0 133 #[.val (.int i0), .val (.long i1), .second, .val (.long i2), .second, .val (.long i3), .second, .val (.int i4), .val (.int se), .val (.ref kw), .val (.int (0 : Int32)), .val (.int (3 : Int32)), .val (.int t0), .val (.int t1), .val (.int t2), .val (.int k0), .val (.int k1), .val (.int k2), .unset, .unset, .unset, .unset] [] := by
  refine Wl.iload 135 at_133 rfl ?_
  refine Wl.iload 137 at_135 rfl ?_
  refine Wl.iload 139 at_137 rfl ?_
  refine Wl.iload 141 at_139 rfl ?_
  refine Wl.static 144 (argsL := [.int t0, .int t1, .int t2, .int (0 : Int32)]) at_141 (w11 hw) (w12 hw) (w5 hw) (w13 hw) (show parseMethodDescriptor "(CCCI)Ljava/lang/String;" = some ⟨[.char, .char, .char, .int], some (.object "java/lang/String")⟩ by decide +kernel) rfl (str0_met hw hcs hu lt0 lt1 lt2) (fun _ q => nomatch q) rfl rfl rfl (by decide) ⟨⟨nle rfl, nle rfl⟩, nle rfl, nle rfl⟩ ?_
  intro v1 h2 hq3 _
  obtain ⟨a4, rfl, E5, S6⟩ := hq3
  have B7 : Ext h h2 := E5
  show WlO _ _ _ _ _ _ _ _ _ _ _ _ _ _ _ _ _ _ [.ref a4]
  refine Wl.astore 146 #[.val (.int i0), .val (.long i1), .second, .val (.long i2), .second, .val (.long i3), .second, .val (.int i4), .val (.int se), .val (.ref kw), .val (.int (0 : Int32)), .val (.int (3 : Int32)), .val (.int t0), .val (.int t1), .val (.int t2), .val (.int k0), .val (.int k1), .val (.int k2), .val (.ref a4), .unset, .unset, .unset] at_144 rfl rfl ?_
  refine Wl.iload 148 at_146 rfl ?_
  refine Wl.iload 150 at_148 rfl ?_
  refine Wl.iload 152 at_150 rfl ?_
  refine Wl.iload 154 at_152 rfl ?_
  refine Wl.static 157 (argsL := [.int k0, .int k1, .int k2, .int (3 : Int32)]) at_154 (w11 hw) (w12 hw) (w5 hw) (w13 hw) (show parseMethodDescriptor "(CCCI)Ljava/lang/String;" = some ⟨[.char, .char, .char, .int], some (.object "java/lang/String")⟩ by decide +kernel) rfl (str3_met hw hcs hu lk0 lk1 lk2) (fun _ q => nomatch q) rfl rfl rfl (by decide) ⟨⟨nle rfl, nle rfl⟩, nle rfl, nle rfl⟩ ?_
  intro v8 h9 hq10 _
  obtain ⟨a11, rfl, E12, S13⟩ := hq10
  have B14 : Ext h h9 := extTr B7 E12
  show WlO _ _ _ _ _ _ _ _ _ _ _ _ _ _ _ _ _ _ [.ref a11]
  refine Wl.astore 159 #[.val (.int i0), .val (.long i1), .second, .val (.long i2), .second, .val (.long i3), .second, .val (.int i4), .val (.int se), .val (.ref kw), .val (.int (0 : Int32)), .val (.int (3 : Int32)), .val (.int t0), .val (.int t1), .val (.int t2), .val (.int k0), .val (.int k1), .val (.int k2), .val (.ref a4), .val (.ref a11), .unset, .unset] at_157 rfl rfl ?_
  refine Wl.new 162 at_159 (w36 hw) (w37 hw) (w38 hw) (nle rfl) (nle rfl) ?_
  intro a15 h16 q17 E18 X19 D20
  have z21 : h.size ≤ a15 := Nat.le_trans B14.1 (Nat.le_of_eq q17.symm)
  have z22 : h9.size ≤ a15 := Nat.le_of_eq q17.symm
  have ne23 : a4 ≠ a15 := Nat.ne_of_lt (by rw [q17]; exact (((S6).exa.ext E12)).lt)
  have ne24 : a11 ≠ a15 := Nat.ne_of_lt (by rw [q17]; exact ((S13).exa).lt)
  have B25 : Ext h h16 := extTr B14 E18
  have B26 : Ext h9 h16 := E18
  have F27 : Fld Z h16 a15 "com/example/grantwork/grantwork/Token" "kind" "Lcom/example/grantwork/grantwork/Token$Kind;" (.null) := D20 (Or.inr (w49 hw)) (ty := (.object "com/example/grantwork/grantwork/Token$Kind")) (by decide)
  have F28 : Fld Z h16 a15 "com/example/grantwork/grantwork/Token" "text" "Ljava/lang/String;" (.null) := D20 (Or.inr (w51 hw)) (ty := (.object "java/lang/String")) (by decide)
  have F29 : Fld Z h16 a15 "com/example/grantwork/grantwork/Token" "length" "J" (.long 0) := D20 (Or.inr (w53 hw)) (ty := .long) (by decide)
  have F30 : Fld Z h16 a15 "com/example/grantwork/grantwork/Token" "line" "I" (.int 0) := D20 (Or.inr (w55 hw)) (ty := .int) (by decide)
  refine Wl.dup 163 at_162 rfl ?_
  refine Wl.aload 165 at_163 rfl rfl ?_
  refine Wl.aload 167 at_165 rfl rfl ?_
  refine Wl.lload 169 at_167 rfl ?_
  refine Wl.iload 171 at_169 rfl ?_
  refine Wl.special 174 (argsL := [.ref kw, .ref a4, .long i3, .int i4]) at_171 (w39 hw) (w40 hw) (w38 hw) (w41 hw) (show parseMethodDescriptor "(Lcom/example/grantwork/grantwork/Token$Kind;Ljava/lang/String;JI)V" = some ⟨[(.object "com/example/grantwork/grantwork/Token$Kind"), (.object "java/lang/String"), .long, .int], none⟩ by decide +kernel) rfl (token_met hw X19 F27 F28 F29 F30) (allS (List.mem_of_getElem? (i := 0) rfl) (fun _ q => nomatch q)) rfl rfl rfl rfl (by decide) ⟨⟨nle rfl, nle rfl⟩, nle rfl, nle rfl⟩ ?_
  intro v31 h32 hq33 _
  obtain ⟨rfl, K34, X35, F36, F37, F38, F39⟩ := hq33
  have B40 : Ext h h32 := extKeep B25 K34 (allS z21 all0)
  have B41 : Ext h9 h32 := extKeep B26 K34 (allS z22 all0)
  show WlO _ _ _ _ _ _ _ _ _ _ _ _ _ _ _ _ _ _ [.ref a15]
  refine Wl.astore 176 #[.val (.int i0), .val (.long i1), .second, .val (.long i2), .second, .val (.long i3), .second, .val (.int i4), .val (.int se), .val (.ref kw), .val (.int (0 : Int32)), .val (.int (3 : Int32)), .val (.int t0), .val (.int t1), .val (.int t2), .val (.int k0), .val (.int k1), .val (.int k2), .val (.ref a4), .val (.ref a11), .val (.ref a15), .unset] at_174 rfl rfl ?_
  refine Wl.aload 178 at_176 rfl rfl ?_
  refine Wl.getstatic 181 at_178 (w0 hw) hK.1.1 ?_
  refine Wl.acmp 184 true at_181 rfl rfl (decide_eq_true rfl) ?_
  refine Wl.iload 186 at_184 rfl ?_
  refine Wl.iload 188 at_186 rfl ?_
  refine Wl.icmpY 243 at_188 (feq (by decide)).2 ?_
  refine Wl.iconst 244 (0 : Int32) at_243 (by decide) ?_
  refine Wl.istore 246 #[.val (.int i0), .val (.long i1), .second, .val (.long i2), .second, .val (.long i3), .second, .val (.int i4), .val (.int se), .val (.ref kw), .val (.int (0 : Int32)), .val (.int (3 : Int32)), .val (.int t0), .val (.int t1), .val (.int t2), .val (.int k0), .val (.int k1), .val (.int k2), .val (.ref a4), .val (.ref a11), .val (.ref a15), .val (.int (0 : Int32))] at_244 rfl ?_
  refine Wl.aload 248 at_246 rfl rfl ?_
  refine Wl.aload 250 at_248 rfl rfl ?_
  refine Wl.virtual 253 (argsL := [.ref a11]) at_250 (w56 hw) (w57 hw) (w59 hw) (w58 hw) (w38 hw) (w60 hw) (nf_sel (w59 hw) rfl) X35 (show parseMethodDescriptor "(Ljava/lang/String;)Z" = some ⟨[(.object "java/lang/String")], some .boolean⟩ by decide +kernel) rfl (kw03_met hw hcs hfm hu hK lt0 lt1 lt2 lk0 lk1 lk2 wk0 wk1 wk2 F36 F37 ((S6.ext E12).ext B41) (S13.ext B41)) (fun _ q => nomatch q) rfl rfl rfl (by decide) ⟨⟨nle rfl, nle rfl⟩, nle rfl, nle rfl⟩ ?_
  intro v42 h43 hq44 _
  obtain ⟨rfl, rfl⟩ := hq44
  show WlO _ _ _ _ _ _ _ _ _ _ _ _ _ _ _ _ _ _ [.int (0 : Int32)]
  refine Wl.iload 255 at_253 rfl ?_
  refine Wl.icmpN 258 at_255 (teq (by decide)).2 ?_
  refine Wl.iconst 259 (1 : Int32) at_258 (by decide) ?_
  refine Wl.goto 263 at_259 ?_
  exact Wl.ireturn at_263 rfl rfl (by simp) (nle rfl) (nle rfl) rfl
set_option maxRecDepth 65536 in
set_option maxHeartbeats 40000000 in
theorem law_w10 {l : Launch} {Z : State} {a0 : Array Value} (hw : ∀ d ∈ tables_1, d.before a0 Z = true) (hcs : CSon Z) (hfm : Fmt Z) (hu : U16on Z) {as : Array Value} {h : Heap} {i0 : Int32} {i1 i2 i3 : Int64} {i4 se : Int32} {kw ks ki : Addr} {t0 t1 t2 k0 k1 k2 : Int32} (hK : Kinds Z kw ks ki) (lt0 : Ch t0) (lt1 : Ch t1) (lt2 : Ch t2) (lk0 : Ch k0) (lk1 : Ch k1) (lk2 : Ch k2) (wk0 : nlow k0) (wk1 : nlow k1) (wk2 : nlow k2) :
    Wl l Z a0 consts_1 x code maxLocals ret room_1 as (fun v h' => v = some (.int 1)) [] h 0 0 133 #[.val (.int i0), .val (.long i1), .second, .val (.long i2), .second, .val (.long i3), .second, .val (.int i4), .val (.int se), .val (.ref kw), .val (.int (1 : Int32)), .val (.int (0 : Int32)), .val (.int t0), .val (.int t1), .val (.int t2), .val (.int k0), .val (.int k1), .val (.int k2), .unset, .unset, .unset, .unset] [] := by
  refine Wl.iload 135 at_133 rfl ?_
  refine Wl.iload 137 at_135 rfl ?_
  refine Wl.iload 139 at_137 rfl ?_
  refine Wl.iload 141 at_139 rfl ?_
  refine Wl.static 144 (argsL := [.int t0, .int t1, .int t2, .int (1 : Int32)]) at_141 (w11 hw) (w12 hw) (w5 hw) (w13 hw) (show parseMethodDescriptor "(CCCI)Ljava/lang/String;" = some ⟨[.char, .char, .char, .int], some (.object "java/lang/String")⟩ by decide +kernel) rfl (str1_met hw hcs hu lt0 lt1 lt2) (fun _ q => nomatch q) rfl rfl rfl (by decide) ⟨⟨nle rfl, nle rfl⟩, nle rfl, nle rfl⟩ ?_
  intro v1 h2 hq3 _
  obtain ⟨a4, rfl, E5, S6⟩ := hq3
  have B7 : Ext h h2 := E5
  show WlO _ _ _ _ _ _ _ _ _ _ _ _ _ _ _ _ _ _ [.ref a4]
  refine Wl.astore 146 #[.val (.int i0), .val (.long i1), .second, .val (.long i2), .second, .val (.long i3), .second, .val (.int i4), .val (.int se), .val (.ref kw), .val (.int (1 : Int32)), .val (.int (0 : Int32)), .val (.int t0), .val (.int t1), .val (.int t2), .val (.int k0), .val (.int k1), .val (.int k2), .val (.ref a4), .unset, .unset, .unset] at_144 rfl rfl ?_
  refine Wl.iload 148 at_146 rfl ?_
  refine Wl.iload 150 at_148 rfl ?_
  refine Wl.iload 152 at_150 rfl ?_
  refine Wl.iload 154 at_152 rfl ?_
  refine Wl.static 157 (argsL := [.int k0, .int k1, .int k2, .int (0 : Int32)]) at_154 (w11 hw) (w12 hw) (w5 hw) (w13 hw) (show parseMethodDescriptor "(CCCI)Ljava/lang/String;" = some ⟨[.char, .char, .char, .int], some (.object "java/lang/String")⟩ by decide +kernel) rfl (str0_met hw hcs hu lk0 lk1 lk2) (fun _ q => nomatch q) rfl rfl rfl (by decide) ⟨⟨nle rfl, nle rfl⟩, nle rfl, nle rfl⟩ ?_
  intro v8 h9 hq10 _
  obtain ⟨a11, rfl, E12, S13⟩ := hq10
  have B14 : Ext h h9 := extTr B7 E12
  show WlO _ _ _ _ _ _ _ _ _ _ _ _ _ _ _ _ _ _ [.ref a11]
  refine Wl.astore 159 #[.val (.int i0), .val (.long i1), .second, .val (.long i2), .second, .val (.long i3), .second, .val (.int i4), .val (.int se), .val (.ref kw), .val (.int (1 : Int32)), .val (.int (0 : Int32)), .val (.int t0), .val (.int t1), .val (.int t2), .val (.int k0), .val (.int k1), .val (.int k2), .val (.ref a4), .val (.ref a11), .unset, .unset] at_157 rfl rfl ?_
  refine Wl.new 162 at_159 (w36 hw) (w37 hw) (w38 hw) (nle rfl) (nle rfl) ?_
  intro a15 h16 q17 E18 X19 D20
  have z21 : h.size ≤ a15 := Nat.le_trans B14.1 (Nat.le_of_eq q17.symm)
  have z22 : h9.size ≤ a15 := Nat.le_of_eq q17.symm
  have ne23 : a4 ≠ a15 := Nat.ne_of_lt (by rw [q17]; exact (((S6).exa.ext E12)).lt)
  have ne24 : a11 ≠ a15 := Nat.ne_of_lt (by rw [q17]; exact ((S13).exa).lt)
  have B25 : Ext h h16 := extTr B14 E18
  have B26 : Ext h9 h16 := E18
  have F27 : Fld Z h16 a15 "com/example/grantwork/grantwork/Token" "kind" "Lcom/example/grantwork/grantwork/Token$Kind;" (.null) := D20 (Or.inr (w49 hw)) (ty := (.object "com/example/grantwork/grantwork/Token$Kind")) (by decide)
  have F28 : Fld Z h16 a15 "com/example/grantwork/grantwork/Token" "text" "Ljava/lang/String;" (.null) := D20 (Or.inr (w51 hw)) (ty := (.object "java/lang/String")) (by decide)
  have F29 : Fld Z h16 a15 "com/example/grantwork/grantwork/Token" "length" "J" (.long 0) := D20 (Or.inr (w53 hw)) (ty := .long) (by decide)
  have F30 : Fld Z h16 a15 "com/example/grantwork/grantwork/Token" "line" "I" (.int 0) := D20 (Or.inr (w55 hw)) (ty := .int) (by decide)
  refine Wl.dup 163 at_162 rfl ?_
  refine Wl.aload 165 at_163 rfl rfl ?_
  refine Wl.aload 167 at_165 rfl rfl ?_
  refine Wl.lload 169 at_167 rfl ?_
  refine Wl.iload 171 at_169 rfl ?_
  refine Wl.special 174 (argsL := [.ref kw, .ref a4, .long i3, .int i4]) at_171 (w39 hw) (w40 hw) (w38 hw) (w41 hw) (show parseMethodDescriptor "(Lcom/example/grantwork/grantwork/Token$Kind;Ljava/lang/String;JI)V" = some ⟨[(.object "com/example/grantwork/grantwork/Token$Kind"), (.object "java/lang/String"), .long, .int], none⟩ by decide +kernel) rfl (token_met hw X19 F27 F28 F29 F30) (allS (List.mem_of_getElem? (i := 0) rfl) (fun _ q => nomatch q)) rfl rfl rfl rfl (by decide) ⟨⟨nle rfl, nle rfl⟩, nle rfl, nle rfl⟩ ?_
  intro v31 h32 hq33 _
  obtain ⟨rfl, K34, X35, F36, F37, F38, F39⟩ := hq33
  have B40 : Ext h h32 := extKeep B25 K34 (allS z21 all0)
  have B41 : Ext h9 h32 := extKeep B26 K34 (allS z22 all0)
  show WlO _ _ _ _ _ _ _ _ _ _ _ _ _ _ _ _ _ _ [.ref a15]
  refine Wl.astore 176 #[.val (.int i0), .val (.long i1), .second, .val (.long i2), .second, .val (.long i3), .second, .val (.int i4), .val (.int se), .val (.ref kw), .val (.int (1 : Int32)), .val (.int (0 : Int32)), .val (.int t0), .val (.int t1), .val (.int t2), .val (.int k0), .val (.int k1), .val (.int k2), .val (.ref a4), .val (.ref a11), .val (.ref a15), .unset] at_174 rfl rfl ?_
  refine Wl.aload 178 at_176 rfl rfl ?_
  refine Wl.getstatic 181 at_178 (w0 hw) hK.1.1 ?_
  refine Wl.acmp 184 true at_181 rfl rfl (decide_eq_true rfl) ?_
  refine Wl.iload 186 at_184 rfl ?_
  refine Wl.iload 188 at_186 rfl ?_
  refine Wl.icmpY 243 at_188 (feq (by decide)).2 ?_
  refine Wl.iconst 244 (0 : Int32) at_243 (by decide) ?_
  refine Wl.istore 246 #[.val (.int i0), .val (.long i1), .second, .val (.long i2), .second, .val (.long i3), .second, .val (.int i4), .val (.int se), .val (.ref kw), .val (.int (1 : Int32)), .val (.int (0 : Int32)), .val (.int t0), .val (.int t1), .val (.int t2), .val (.int k0), .val (.int k1), .val (.int k2), .val (.ref a4), .val (.ref a11), .val (.ref a15), .val (.int (0 : Int32))] at_244 rfl ?_
  refine Wl.aload 248 at_246 rfl rfl ?_
  refine Wl.aload 250 at_248 rfl rfl ?_
  refine Wl.virtual 253 (argsL := [.ref a11]) at_250 (w56 hw) (w57 hw) (w59 hw) (w58 hw) (w38 hw) (w60 hw) (nf_sel (w59 hw) rfl) X35 (show parseMethodDescriptor "(Ljava/lang/String;)Z" = some ⟨[(.object "java/lang/String")], some .boolean⟩ by decide +kernel) rfl (kw10_met hw hcs hfm hu hK lt0 lt1 lt2 lk0 lk1 lk2 wk0 wk1 wk2 F36 F37 ((S6.ext E12).ext B41) (S13.ext B41)) (fun _ q => nomatch q) rfl rfl rfl (by decide) ⟨⟨nle rfl, nle rfl⟩, nle rfl, nle rfl⟩ ?_
  intro v42 h43 hq44 _
  obtain ⟨rfl, rfl⟩ := hq44
  show WlO _ _ _ _ _ _ _ _ _ _ _ _ _ _ _ _ _ _ [.int (0 : Int32)]
  refine Wl.iload 255 at_253 rfl ?_
  refine Wl.icmpN 258 at_255 (teq (by decide)).2 ?_
  refine Wl.iconst 259 (1 : Int32) at_258 (by decide) ?_
  refine Wl.goto 263 at_259 ?_
  exact Wl.ireturn at_263 rfl rfl (by simp) (nle rfl) (nle rfl) rfl
set_option maxRecDepth 65536 in
set_option maxHeartbeats 40000000 in
theorem law_w11 {l : Launch} {Z : State} {a0 : Array Value} (hw : ∀ d ∈ tables_1, d.before a0 Z = true) (hcs : CSon Z) (hfm : Fmt Z) (hu : U16on Z) {as : Array Value} {h : Heap} {i0 : Int32} {i1 i2 i3 : Int64} {i4 se : Int32} {kw ks ki : Addr} {t0 t1 t2 k0 k1 k2 : Int32} (hK : Kinds Z kw ks ki) (lt0 : Ch t0) (lt1 : Ch t1) (lt2 : Ch t2) (lk0 : Ch k0) (lk1 : Ch k1) (lk2 : Ch k2) (wk0 : nlow k0) (wk1 : nlow k1) (wk2 : nlow k2) :
    Wl l Z a0 consts_1 x code maxLocals ret room_1 as (fun v h' => v = some (.int 1)) [] h 0 0 133 #[.val (.int i0), .val (.long i1), .second, .val (.long i2), .second, .val (.long i3), .second, .val (.int i4), .val (.int se), .val (.ref kw), .val (.int (1 : Int32)), .val (.int (1 : Int32)), .val (.int t0), .val (.int t1), .val (.int t2), .val (.int k0), .val (.int k1), .val (.int k2), .unset, .unset, .unset, .unset] [] := by
  refine Wl.iload 135 at_133 rfl ?_
  refine Wl.iload 137 at_135 rfl ?_
  refine Wl.iload 139 at_137 rfl ?_
  refine Wl.iload 141 at_139 rfl ?_
  refine Wl.static 144 (argsL := [.int t0, .int t1, .int t2, .int (1 : Int32)]) at_141 (w11 hw) (w12 hw) (w5 hw) (w13 hw) (show parseMethodDescriptor "(CCCI)Ljava/lang/String;" = some ⟨[.char, .char, .char, .int], some (.object "java/lang/String")⟩ by decide +kernel) rfl (str1_met hw hcs hu lt0 lt1 lt2) (fun _ q => nomatch q) rfl rfl rfl (by decide) ⟨⟨nle rfl, nle rfl⟩, nle rfl, nle rfl⟩ ?_
  intro v1 h2 hq3 _
  obtain ⟨a4, rfl, E5, S6⟩ := hq3
  have B7 : Ext h h2 := E5
  show WlO _ _ _ _ _ _ _ _ _ _ _ _ _ _ _ _ _ _ [.ref a4]
  refine Wl.astore 146 #[.val (.int i0), .val (.long i1), .second, .val (.long i2), .second, .val (.long i3), .second, .val (.int i4), .val (.int se), .val (.ref kw), .val (.int (1 : Int32)), .val (.int (1 : Int32)), .val (.int t0), .val (.int t1), .val (.int t2), .val (.int k0), .val (.int k1), .val (.int k2), .val (.ref a4), .unset, .unset, .unset] at_144 rfl rfl ?_
  refine Wl.iload 148 at_146 rfl ?_
  refine Wl.iload 150 at_148 rfl ?_
  refine Wl.iload 152 at_150 rfl ?_
  refine Wl.iload 154 at_152 rfl ?_
  refine Wl.static 157 (argsL := [.int k0, .int k1, .int k2, .int (1 : Int32)]) at_154 (w11 hw) (w12 hw) (w5 hw) (w13 hw) (show parseMethodDescriptor "(CCCI)Ljava/lang/String;" = some ⟨[.char, .char, .char, .int], some (.object "java/lang/String")⟩ by decide +kernel) rfl (str1_met hw hcs hu lk0 lk1 lk2) (fun _ q => nomatch q) rfl rfl rfl (by decide) ⟨⟨nle rfl, nle rfl⟩, nle rfl, nle rfl⟩ ?_
  intro v8 h9 hq10 _
  obtain ⟨a11, rfl, E12, S13⟩ := hq10
  have B14 : Ext h h9 := extTr B7 E12
  show WlO _ _ _ _ _ _ _ _ _ _ _ _ _ _ _ _ _ _ [.ref a11]
  refine Wl.astore 159 #[.val (.int i0), .val (.long i1), .second, .val (.long i2), .second, .val (.long i3), .second, .val (.int i4), .val (.int se), .val (.ref kw), .val (.int (1 : Int32)), .val (.int (1 : Int32)), .val (.int t0), .val (.int t1), .val (.int t2), .val (.int k0), .val (.int k1), .val (.int k2), .val (.ref a4), .val (.ref a11), .unset, .unset] at_157 rfl rfl ?_
  refine Wl.new 162 at_159 (w36 hw) (w37 hw) (w38 hw) (nle rfl) (nle rfl) ?_
  intro a15 h16 q17 E18 X19 D20
  have z21 : h.size ≤ a15 := Nat.le_trans B14.1 (Nat.le_of_eq q17.symm)
  have z22 : h9.size ≤ a15 := Nat.le_of_eq q17.symm
  have ne23 : a4 ≠ a15 := Nat.ne_of_lt (by rw [q17]; exact (((S6).exa.ext E12)).lt)
  have ne24 : a11 ≠ a15 := Nat.ne_of_lt (by rw [q17]; exact ((S13).exa).lt)
  have B25 : Ext h h16 := extTr B14 E18
  have B26 : Ext h9 h16 := E18
  have F27 : Fld Z h16 a15 "com/example/grantwork/grantwork/Token" "kind" "Lcom/example/grantwork/grantwork/Token$Kind;" (.null) := D20 (Or.inr (w49 hw)) (ty := (.object "com/example/grantwork/grantwork/Token$Kind")) (by decide)
  have F28 : Fld Z h16 a15 "com/example/grantwork/grantwork/Token" "text" "Ljava/lang/String;" (.null) := D20 (Or.inr (w51 hw)) (ty := (.object "java/lang/String")) (by decide)
  have F29 : Fld Z h16 a15 "com/example/grantwork/grantwork/Token" "length" "J" (.long 0) := D20 (Or.inr (w53 hw)) (ty := .long) (by decide)
  have F30 : Fld Z h16 a15 "com/example/grantwork/grantwork/Token" "line" "I" (.int 0) := D20 (Or.inr (w55 hw)) (ty := .int) (by decide)
  refine Wl.dup 163 at_162 rfl ?_
  refine Wl.aload 165 at_163 rfl rfl ?_
  refine Wl.aload 167 at_165 rfl rfl ?_
  refine Wl.lload 169 at_167 rfl ?_
  refine Wl.iload 171 at_169 rfl ?_
  refine Wl.special 174 (argsL := [.ref kw, .ref a4, .long i3, .int i4]) at_171 (w39 hw) (w40 hw) (w38 hw) (w41 hw) (show parseMethodDescriptor "(Lcom/example/grantwork/grantwork/Token$Kind;Ljava/lang/String;JI)V" = some ⟨[(.object "com/example/grantwork/grantwork/Token$Kind"), (.object "java/lang/String"), .long, .int], none⟩ by decide +kernel) rfl (token_met hw X19 F27 F28 F29 F30) (allS (List.mem_of_getElem? (i := 0) rfl) (fun _ q => nomatch q)) rfl rfl rfl rfl (by decide) ⟨⟨nle rfl, nle rfl⟩, nle rfl, nle rfl⟩ ?_
  intro v31 h32 hq33 _
  obtain ⟨rfl, K34, X35, F36, F37, F38, F39⟩ := hq33
  have B40 : Ext h h32 := extKeep B25 K34 (allS z21 all0)
  have B41 : Ext h9 h32 := extKeep B26 K34 (allS z22 all0)
  show WlO _ _ _ _ _ _ _ _ _ _ _ _ _ _ _ _ _ _ [.ref a15]
  refine Wl.astore 176 #[.val (.int i0), .val (.long i1), .second, .val (.long i2), .second, .val (.long i3), .second, .val (.int i4), .val (.int se), .val (.ref kw), .val (.int (1 : Int32)), .val (.int (1 : Int32)), .val (.int t0), .val (.int t1), .val (.int t2), .val (.int k0), .val (.int k1), .val (.int k2), .val (.ref a4), .val (.ref a11), .val (.ref a15), .unset] at_174 rfl rfl ?_
  refine Wl.aload 178 at_176 rfl rfl ?_
  refine Wl.getstatic 181 at_178 (w0 hw) hK.1.1 ?_
  refine Wl.acmp 184 true at_181 rfl rfl (decide_eq_true rfl) ?_
  refine Wl.iload 186 at_184 rfl ?_
  refine Wl.iload 188 at_186 rfl ?_
  refine Wl.icmpN 191 at_188 (teq (by decide)).2 ?_
  refine Wl.iload 193 at_191 rfl ?_
  refine Wl.iconst 194 (1 : Int32) at_193 (by decide) ?_
  refine Wl.icmpN 197 at_194 (flt (by decide)).1 ?_
  refine Wl.iload 199 at_197 rfl ?_
  refine Wl.iload 201 at_199 rfl ?_
  refine Wl.static 204 (argsL := [.int t0, .int k0]) at_201 (w87 hw) (w88 hw) (w5 hw) (w89 hw) (show parseMethodDescriptor "(CC)Z" = some ⟨[.char, .char], some .boolean⟩ by decide +kernel) rfl (same_met hw) (fun _ q => nomatch q) rfl rfl rfl (by decide) ⟨⟨nle rfl, nle rfl⟩, nle rfl, nle rfl⟩ ?_
  intro v42 h43 hq44 _
  obtain ⟨rfl, rfl⟩ := hq44
  show WlO _ _ _ _ _ _ _ _ _ _ _ _ _ _ _ _ _ _ [.int (sameI t0 k0)]
  by_cases c45 : (sameI t0 k0) = (0 : Int32)
  · refine Wl.ifY 243 at_204 (teq c45).1 ?_
    refine Wl.iconst 244 (0 : Int32) at_243 (by decide) ?_
    refine Wl.istore 246 #[.val (.int i0), .val (.long i1), .second, .val (.long i2), .second, .val (.long i3), .second, .val (.int i4), .val (.int se), .val (.ref kw), .val (.int (1 : Int32)), .val (.int (1 : Int32)), .val (.int t0), .val (.int t1), .val (.int t2), .val (.int k0), .val (.int k1), .val (.int k2), .val (.ref a4), .val (.ref a11), .val (.ref a15), .val (.int (0 : Int32))] at_244 rfl ?_
    refine Wl.aload 248 at_246 rfl rfl ?_
    refine Wl.aload 250 at_248 rfl rfl ?_
    refine Wl.virtual 253 (argsL := [.ref a11]) at_250 (w56 hw) (w57 hw) (w59 hw) (w58 hw) (w38 hw) (w60 hw) (nf_sel (w59 hw) rfl) X35 (show parseMethodDescriptor "(Ljava/lang/String;)Z" = some ⟨[(.object "java/lang/String")], some .boolean⟩ by decide +kernel) rfl (kw11_met hw hcs hfm hu hK lt0 lt1 lt2 lk0 lk1 lk2 wk0 wk1 wk2 F36 F37 ((S6.ext E12).ext B41) (S13.ext B41)) (fun _ q => nomatch q) rfl rfl rfl (by decide) ⟨⟨nle rfl, nle rfl⟩, nle rfl, nle rfl⟩ ?_
    intro v46 h47 hq48 _
    rw [show kwI [(t0, k0)] = (0 : Int32) from (kw_0 c45)] at hq48
    obtain ⟨rfl, rfl⟩ := hq48
    show WlO _ _ _ _ _ _ _ _ _ _ _ _ _ _ _ _ _ _ [.int (0 : Int32)]
    refine Wl.iload 255 at_253 rfl ?_
    refine Wl.icmpN 258 at_255 (teq (by decide)).2 ?_
    refine Wl.iconst 259 (1 : Int32) at_258 (by decide) ?_
    refine Wl.goto 263 at_259 ?_
    exact Wl.ireturn at_263 rfl rfl (by simp) (nle rfl) (nle rfl) rfl
  · refine Wl.ifN 207 at_204 (feq c45).1 ?_
    refine Wl.iload 209 at_207 rfl ?_
    refine Wl.iconst 210 (2 : Int32) at_209 (by decide) ?_
    refine Wl.icmpY 223 at_210 (tlt (by decide)).1 ?_
    refine Wl.iload 225 at_223 rfl ?_
    refine Wl.iconst 226 (3 : Int32) at_225 (by decide) ?_
    refine Wl.icmpY 239 at_226 (tlt (by decide)).1 ?_
    refine Wl.iconst 240 (1 : Int32) at_239 (by decide) ?_
    refine Wl.goto 244 at_240 ?_
    refine Wl.istore 246 #[.val (.int i0), .val (.long i1), .second, .val (.long i2), .second, .val (.long i3), .second, .val (.int i4), .val (.int se), .val (.ref kw), .val (.int (1 : Int32)), .val (.int (1 : Int32)), .val (.int t0), .val (.int t1), .val (.int t2), .val (.int k0), .val (.int k1), .val (.int k2), .val (.ref a4), .val (.ref a11), .val (.ref a15), .val (.int (1 : Int32))] at_244 rfl ?_
    refine Wl.aload 248 at_246 rfl rfl ?_
    refine Wl.aload 250 at_248 rfl rfl ?_
    refine Wl.virtual 253 (argsL := [.ref a11]) at_250 (w56 hw) (w57 hw) (w59 hw) (w58 hw) (w38 hw) (w60 hw) (nf_sel (w59 hw) rfl) X35 (show parseMethodDescriptor "(Ljava/lang/String;)Z" = some ⟨[(.object "java/lang/String")], some .boolean⟩ by decide +kernel) rfl (kw11_met hw hcs hfm hu hK lt0 lt1 lt2 lk0 lk1 lk2 wk0 wk1 wk2 F36 F37 ((S6.ext E12).ext B41) (S13.ext B41)) (fun _ q => nomatch q) rfl rfl rfl (by decide) ⟨⟨nle rfl, nle rfl⟩, nle rfl, nle rfl⟩ ?_
    intro v49 h50 hq51 _
    rw [show kwI [(t0, k0)] = (1 : Int32) from (kw_n c45 rfl)] at hq51
    obtain ⟨rfl, rfl⟩ := hq51
    show WlO _ _ _ _ _ _ _ _ _ _ _ _ _ _ _ _ _ _ [.int (1 : Int32)]
    refine Wl.iload 255 at_253 rfl ?_
    refine Wl.icmpN 258 at_255 (teq (by decide)).2 ?_
    refine Wl.iconst 259 (1 : Int32) at_258 (by decide) ?_
    refine Wl.goto 263 at_259 ?_
    exact Wl.ireturn at_263 rfl rfl (by simp) (nle rfl) (nle rfl) rfl
set_option maxRecDepth 65536 in
set_option maxHeartbeats 40000000 in
theorem law_w12 {l : Launch} {Z : State} {a0 : Array Value} (hw : ∀ d ∈ tables_1, d.before a0 Z = true) (hcs : CSon Z) (hfm : Fmt Z) (hu : U16on Z) {as : Array Value} {h : Heap} {i0 : Int32} {i1 i2 i3 : Int64} {i4 se : Int32} {kw ks ki : Addr} {t0 t1 t2 k0 k1 k2 : Int32} (hK : Kinds Z kw ks ki) (lt0 : Ch t0) (lt1 : Ch t1) (lt2 : Ch t2) (lk0 : Ch k0) (lk1 : Ch k1) (lk2 : Ch k2) (wk0 : nlow k0) (wk1 : nlow k1) (wk2 : nlow k2) :
    Wl l Z a0 consts_1 x code maxLocals ret room_1 as (fun v h' => v = some (.int 1)) [] h 0 0 133 #[.val (.int i0), .val (.long i1), .second, .val (.long i2), .second, .val (.long i3), .second, .val (.int i4), .val (.int se), .val (.ref kw), .val (.int (1 : Int32)), .val (.int (2 : Int32)), .val (.int t0), .val (.int t1), .val (.int t2), .val (.int k0), .val (.int k1), .val (.int k2), .unset, .unset, .unset, .unset] [] := by
  refine Wl.iload 135 at_133 rfl ?_
  refine Wl.iload 137 at_135 rfl ?_
  refine Wl.iload 139 at_137 rfl ?_
  refine Wl.iload 141 at_139 rfl ?_
  refine Wl.static 144 (argsL := [.int t0, .int t1, .int t2, .int (1 : Int32)]) at_141 (w11 hw) (w12 hw) (w5 hw) (w13 hw) (show parseMethodDescriptor "(CCCI)Ljava/lang/String;" = some ⟨[.char, .char, .char, .int], some (.object "java/lang/String")⟩ by decide +kernel) rfl (str1_met hw hcs hu lt0 lt1 lt2) (fun _ q => nomatch q) rfl rfl rfl (by decide) ⟨⟨nle rfl, nle rfl⟩, nle rfl, nle rfl⟩ ?_
  intro v1 h2 hq3 _
  obtain ⟨a4, rfl, E5, S6⟩ := hq3
  have B7 : Ext h h2 := E5
  show WlO _ _ _ _ _ _ _ _ _ _ _ _ _ _ _ _ _ _ [.ref a4]
  refine Wl.astore 146 #[.val (.int i0), .val (.long i1), .second, .val (.long i2), .second, .val (.long i3), .second, .val (.int i4), .val (.int se), .val (.ref kw), .val (.int (1 : Int32)), .val (.int (2 : Int32)), .val (.int t0), .val (.int t1), .val (.int t2), .val (.int k0), .val (.int k1), .val (.int k2), .val (.ref a4), .unset, .unset, .unset] at_144 rfl rfl ?_
  refine Wl.iload 148 at_146 rfl ?_
  refine Wl.iload 150 at_148 rfl ?_
  refine Wl.iload 152 at_150 rfl ?_
  refine Wl.iload 154 at_152 rfl ?_
  refine Wl.static 157 (argsL := [.int k0, .int k1, .int k2, .int (2 : Int32)]) at_154 (w11 hw) (w12 hw) (w5 hw) (w13 hw) (show parseMethodDescriptor "(CCCI)Ljava/lang/String;" = some ⟨[.char, .char, .char, .int], some (.object "java/lang/String")⟩ by decide +kernel) rfl (str2_met hw hcs hu lk0 lk1 lk2) (fun _ q => nomatch q) rfl rfl rfl (by decide) ⟨⟨nle rfl, nle rfl⟩, nle rfl, nle rfl⟩ ?_
  intro v8 h9 hq10 _
  obtain ⟨a11, rfl, E12, S13⟩ := hq10
  have B14 : Ext h h9 := extTr B7 E12
  show WlO _ _ _ _ _ _ _ _ _ _ _ _ _ _ _ _ _ _ [.ref a11]
  refine Wl.astore 159 #[.val (.int i0), .val (.long i1), .second, .val (.long i2), .second, .val (.long i3), .second, .val (.int i4), .val (.int se), .val (.ref kw), .val (.int (1 : Int32)), .val (.int (2 : Int32)), .val (.int t0), .val (.int t1), .val (.int t2), .val (.int k0), .val (.int k1), .val (.int k2), .val (.ref a4), .val (.ref a11), .unset, .unset] at_157 rfl rfl ?_
  refine Wl.new 162 at_159 (w36 hw) (w37 hw) (w38 hw) (nle rfl) (nle rfl) ?_
  intro a15 h16 q17 E18 X19 D20
  have z21 : h.size ≤ a15 := Nat.le_trans B14.1 (Nat.le_of_eq q17.symm)
  have z22 : h9.size ≤ a15 := Nat.le_of_eq q17.symm
  have ne23 : a4 ≠ a15 := Nat.ne_of_lt (by rw [q17]; exact (((S6).exa.ext E12)).lt)
  have ne24 : a11 ≠ a15 := Nat.ne_of_lt (by rw [q17]; exact ((S13).exa).lt)
  have B25 : Ext h h16 := extTr B14 E18
  have B26 : Ext h9 h16 := E18
  have F27 : Fld Z h16 a15 "com/example/grantwork/grantwork/Token" "kind" "Lcom/example/grantwork/grantwork/Token$Kind;" (.null) := D20 (Or.inr (w49 hw)) (ty := (.object "com/example/grantwork/grantwork/Token$Kind")) (by decide)
  have F28 : Fld Z h16 a15 "com/example/grantwork/grantwork/Token" "text" "Ljava/lang/String;" (.null) := D20 (Or.inr (w51 hw)) (ty := (.object "java/lang/String")) (by decide)
  have F29 : Fld Z h16 a15 "com/example/grantwork/grantwork/Token" "length" "J" (.long 0) := D20 (Or.inr (w53 hw)) (ty := .long) (by decide)
  have F30 : Fld Z h16 a15 "com/example/grantwork/grantwork/Token" "line" "I" (.int 0) := D20 (Or.inr (w55 hw)) (ty := .int) (by decide)
  refine Wl.dup 163 at_162 rfl ?_
  refine Wl.aload 165 at_163 rfl rfl ?_
  refine Wl.aload 167 at_165 rfl rfl ?_
  refine Wl.lload 169 at_167 rfl ?_
  refine Wl.iload 171 at_169 rfl ?_
  refine Wl.special 174 (argsL := [.ref kw, .ref a4, .long i3, .int i4]) at_171 (w39 hw) (w40 hw) (w38 hw) (w41 hw) (show parseMethodDescriptor "(Lcom/example/grantwork/grantwork/Token$Kind;Ljava/lang/String;JI)V" = some ⟨[(.object "com/example/grantwork/grantwork/Token$Kind"), (.object "java/lang/String"), .long, .int], none⟩ by decide +kernel) rfl (token_met hw X19 F27 F28 F29 F30) (allS (List.mem_of_getElem? (i := 0) rfl) (fun _ q => nomatch q)) rfl rfl rfl rfl (by decide) ⟨⟨nle rfl, nle rfl⟩, nle rfl, nle rfl⟩ ?_
  intro v31 h32 hq33 _
  obtain ⟨rfl, K34, X35, F36, F37, F38, F39⟩ := hq33
  have B40 : Ext h h32 := extKeep B25 K34 (allS z21 all0)
  have B41 : Ext h9 h32 := extKeep B26 K34 (allS z22 all0)
  show WlO _ _ _ _ _ _ _ _ _ _ _ _ _ _ _ _ _ _ [.ref a15]
  refine Wl.astore 176 #[.val (.int i0), .val (.long i1), .second, .val (.long i2), .second, .val (.long i3), .second, .val (.int i4), .val (.int se), .val (.ref kw), .val (.int (1 : Int32)), .val (.int (2 : Int32)), .val (.int t0), .val (.int t1), .val (.int t2), .val (.int k0), .val (.int k1), .val (.int k2), .val (.ref a4), .val (.ref a11), .val (.ref a15), .unset] at_174 rfl rfl ?_
  refine Wl.aload 178 at_176 rfl rfl ?_
  refine Wl.getstatic 181 at_178 (w0 hw) hK.1.1 ?_
  refine Wl.acmp 184 true at_181 rfl rfl (decide_eq_true rfl) ?_
  refine Wl.iload 186 at_184 rfl ?_
  refine Wl.iload 188 at_186 rfl ?_
  refine Wl.icmpY 243 at_188 (feq (by decide)).2 ?_
  refine Wl.iconst 244 (0 : Int32) at_243 (by decide) ?_
  refine Wl.istore 246 #[.val (.int i0), .val (.long i1), .second, .val (.long i2), .second, .val (.long i3), .second, .val (.int i4), .val (.int se), .val (.ref kw), .val (.int (1 : Int32)), .val (.int (2 : Int32)), .val (.int t0), .val (.int t1), .val (.int t2), .val (.int k0), .val (.int k1), .val (.int k2), .val (.ref a4), .val (.ref a11), .val (.ref a15), .val (.int (0 : Int32))] at_244 rfl ?_
  refine Wl.aload 248 at_246 rfl rfl ?_
  refine Wl.aload 250 at_248 rfl rfl ?_
  refine Wl.virtual 253 (argsL := [.ref a11]) at_250 (w56 hw) (w57 hw) (w59 hw) (w58 hw) (w38 hw) (w60 hw) (nf_sel (w59 hw) rfl) X35 (show parseMethodDescriptor "(Ljava/lang/String;)Z" = some ⟨[(.object "java/lang/String")], some .boolean⟩ by decide +kernel) rfl (kw12_met hw hcs hfm hu hK lt0 lt1 lt2 lk0 lk1 lk2 wk0 wk1 wk2 F36 F37 ((S6.ext E12).ext B41) (S13.ext B41)) (fun _ q => nomatch q) rfl rfl rfl (by decide) ⟨⟨nle rfl, nle rfl⟩, nle rfl, nle rfl⟩ ?_
  intro v42 h43 hq44 _
  obtain ⟨rfl, rfl⟩ := hq44
  show WlO _ _ _ _ _ _ _ _ _ _ _ _ _ _ _ _ _ _ [.int (0 : Int32)]
  refine Wl.iload 255 at_253 rfl ?_
  refine Wl.icmpN 258 at_255 (teq (by decide)).2 ?_
  refine Wl.iconst 259 (1 : Int32) at_258 (by decide) ?_
  refine Wl.goto 263 at_259 ?_
  exact Wl.ireturn at_263 rfl rfl (by simp) (nle rfl) (nle rfl) rfl
set_option maxRecDepth 65536 in
set_option maxHeartbeats 40000000 in
theorem law_w13 {l : Launch} {Z : State} {a0 : Array Value} (hw : ∀ d ∈ tables_1, d.before a0 Z = true) (hcs : CSon Z) (hfm : Fmt Z) (hu : U16on Z) {as : Array Value} {h : Heap} {i0 : Int32} {i1 i2 i3 : Int64} {i4 se : Int32} {kw ks ki : Addr} {t0 t1 t2 k0 k1 k2 : Int32} (hK : Kinds Z kw ks ki) (lt0 : Ch t0) (lt1 : Ch t1) (lt2 : Ch t2) (lk0 : Ch k0) (lk1 : Ch k1) (lk2 : Ch k2) (wk0 : nlow k0) (wk1 : nlow k1) (wk2 : nlow k2) :
    Wl l Z a0 consts_1 x code maxLocals ret room_1 as (fun v h' => v = some (.int 1)) [] h 0 0 133 #[.val (.int i0), .val (.long i1), .second, .val (.long i2), .second, .val (.long i3), .second, .val (.int i4), .val (.int se), .val (.ref kw), .val (.int (1 : Int32)), .val (.int (3 : Int32)), .val (.int t0), .val (.int t1), .val (.int t2), .val (.int k0), .val (.int k1), .val (.int k2), .unset, .unset, .unset, .unset] [] := by
  refine Wl.iload 135 at_133 rfl ?_
  refine Wl.iload 137 at_135 rfl ?_
  refine Wl.iload 139 at_137 rfl ?_
  refine Wl.iload 141 at_139 rfl ?_
  refine Wl.static 144 (argsL := [.int t0, .int t1, .int t2, .int (1 : Int32)]) at_141 (w11 hw) (w12 hw) (w5 hw) (w13 hw) (show parseMethodDescriptor "(CCCI)Ljava/lang/String;" = some ⟨[.char, .char, .char, .int], some (.object "java/lang/String")⟩ by decide +kernel) rfl (str1_met hw hcs hu lt0 lt1 lt2) (fun _ q => nomatch q) rfl rfl rfl (by decide) ⟨⟨nle rfl, nle rfl⟩, nle rfl, nle rfl⟩ ?_
  intro v1 h2 hq3 _
  obtain ⟨a4, rfl, E5, S6⟩ := hq3
  have B7 : Ext h h2 := E5
  show WlO _ _ _ _ _ _ _ _ _ _ _ _ _ _ _ _ _ _ [.ref a4]
  refine Wl.astore 146 #[.val (.int i0), .val (.long i1), .second, .val (.long i2), .second, .val (.long i3), .second, .val (.int i4), .val (.int se), .val (.ref kw), .val (.int (1 : Int32)), .val (.int (3 : Int32)), .val (.int t0), .val (.int t1), .val (.int t2), .val (.int k0), .val (.int k1), .val (.int k2), .val (.ref a4), .unset, .unset, .unset] at_144 rfl rfl ?_
  refine Wl.iload 148 at_146 rfl ?_
  refine Wl.iload 150 at_148 rfl ?_
  refine Wl.iload 152 at_150 rfl ?_
  refine Wl.iload 154 at_152 rfl ?_
  refine Wl.static 157 (argsL := [.int k0, .int k1, .int k2, .int (3 : Int32)]) at_154 (w11 hw) (w12 hw) (w5 hw) (w13 hw) (show parseMethodDescriptor "(CCCI)Ljava/lang/String;" = some ⟨[.char, .char, .char, .int], some (.object "java/lang/String")⟩ by decide +kernel) rfl (str3_met hw hcs hu lk0 lk1 lk2) (fun _ q => nomatch q) rfl rfl rfl (by decide) ⟨⟨nle rfl, nle rfl⟩, nle rfl, nle rfl⟩ ?_
  intro v8 h9 hq10 _
  obtain ⟨a11, rfl, E12, S13⟩ := hq10
  have B14 : Ext h h9 := extTr B7 E12
  show WlO _ _ _ _ _ _ _ _ _ _ _ _ _ _ _ _ _ _ [.ref a11]
  refine Wl.astore 159 #[.val (.int i0), .val (.long i1), .second, .val (.long i2), .second, .val (.long i3), .second, .val (.int i4), .val (.int se), .val (.ref kw), .val (.int (1 : Int32)), .val (.int (3 : Int32)), .val (.int t0), .val (.int t1), .val (.int t2), .val (.int k0), .val (.int k1), .val (.int k2), .val (.ref a4), .val (.ref a11), .unset, .unset] at_157 rfl rfl ?_
  refine Wl.new 162 at_159 (w36 hw) (w37 hw) (w38 hw) (nle rfl) (nle rfl) ?_
  intro a15 h16 q17 E18 X19 D20
  have z21 : h.size ≤ a15 := Nat.le_trans B14.1 (Nat.le_of_eq q17.symm)
  have z22 : h9.size ≤ a15 := Nat.le_of_eq q17.symm
  have ne23 : a4 ≠ a15 := Nat.ne_of_lt (by rw [q17]; exact (((S6).exa.ext E12)).lt)
  have ne24 : a11 ≠ a15 := Nat.ne_of_lt (by rw [q17]; exact ((S13).exa).lt)
  have B25 : Ext h h16 := extTr B14 E18
  have B26 : Ext h9 h16 := E18
  have F27 : Fld Z h16 a15 "com/example/grantwork/grantwork/Token" "kind" "Lcom/example/grantwork/grantwork/Token$Kind;" (.null) := D20 (Or.inr (w49 hw)) (ty := (.object "com/example/grantwork/grantwork/Token$Kind")) (by decide)
  have F28 : Fld Z h16 a15 "com/example/grantwork/grantwork/Token" "text" "Ljava/lang/String;" (.null) := D20 (Or.inr (w51 hw)) (ty := (.object "java/lang/String")) (by decide)
  have F29 : Fld Z h16 a15 "com/example/grantwork/grantwork/Token" "length" "J" (.long 0) := D20 (Or.inr (w53 hw)) (ty := .long) (by decide)
  have F30 : Fld Z h16 a15 "com/example/grantwork/grantwork/Token" "line" "I" (.int 0) := D20 (Or.inr (w55 hw)) (ty := .int) (by decide)
  refine Wl.dup 163 at_162 rfl ?_
  refine Wl.aload 165 at_163 rfl rfl ?_
  refine Wl.aload 167 at_165 rfl rfl ?_
  refine Wl.lload 169 at_167 rfl ?_
  refine Wl.iload 171 at_169 rfl ?_
  refine Wl.special 174 (argsL := [.ref kw, .ref a4, .long i3, .int i4]) at_171 (w39 hw) (w40 hw) (w38 hw) (w41 hw) (show parseMethodDescriptor "(Lcom/example/grantwork/grantwork/Token$Kind;Ljava/lang/String;JI)V" = some ⟨[(.object "com/example/grantwork/grantwork/Token$Kind"), (.object "java/lang/String"), .long, .int], none⟩ by decide +kernel) rfl (token_met hw X19 F27 F28 F29 F30) (allS (List.mem_of_getElem? (i := 0) rfl) (fun _ q => nomatch q)) rfl rfl rfl rfl (by decide) ⟨⟨nle rfl, nle rfl⟩, nle rfl, nle rfl⟩ ?_
  intro v31 h32 hq33 _
  obtain ⟨rfl, K34, X35, F36, F37, F38, F39⟩ := hq33
  have B40 : Ext h h32 := extKeep B25 K34 (allS z21 all0)
  have B41 : Ext h9 h32 := extKeep B26 K34 (allS z22 all0)
  show WlO _ _ _ _ _ _ _ _ _ _ _ _ _ _ _ _ _ _ [.ref a15]
  refine Wl.astore 176 #[.val (.int i0), .val (.long i1), .second, .val (.long i2), .second, .val (.long i3), .second, .val (.int i4), .val (.int se), .val (.ref kw), .val (.int (1 : Int32)), .val (.int (3 : Int32)), .val (.int t0), .val (.int t1), .val (.int t2), .val (.int k0), .val (.int k1), .val (.int k2), .val (.ref a4), .val (.ref a11), .val (.ref a15), .unset] at_174 rfl rfl ?_
  refine Wl.aload 178 at_176 rfl rfl ?_
  refine Wl.getstatic 181 at_178 (w0 hw) hK.1.1 ?_
  refine Wl.acmp 184 true at_181 rfl rfl (decide_eq_true rfl) ?_
  refine Wl.iload 186 at_184 rfl ?_
  refine Wl.iload 188 at_186 rfl ?_
  refine Wl.icmpY 243 at_188 (feq (by decide)).2 ?_
  refine Wl.iconst 244 (0 : Int32) at_243 (by decide) ?_
  refine Wl.istore 246 #[.val (.int i0), .val (.long i1), .second, .val (.long i2), .second, .val (.long i3), .second, .val (.int i4), .val (.int se), .val (.ref kw), .val (.int (1 : Int32)), .val (.int (3 : Int32)), .val (.int t0), .val (.int t1), .val (.int t2), .val (.int k0), .val (.int k1), .val (.int k2), .val (.ref a4), .val (.ref a11), .val (.ref a15), .val (.int (0 : Int32))] at_244 rfl ?_
  refine Wl.aload 248 at_246 rfl rfl ?_
  refine Wl.aload 250 at_248 rfl rfl ?_
  refine Wl.virtual 253 (argsL := [.ref a11]) at_250 (w56 hw) (w57 hw) (w59 hw) (w58 hw) (w38 hw) (w60 hw) (nf_sel (w59 hw) rfl) X35 (show parseMethodDescriptor "(Ljava/lang/String;)Z" = some ⟨[(.object "java/lang/String")], some .boolean⟩ by decide +kernel) rfl (kw13_met hw hcs hfm hu hK lt0 lt1 lt2 lk0 lk1 lk2 wk0 wk1 wk2 F36 F37 ((S6.ext E12).ext B41) (S13.ext B41)) (fun _ q => nomatch q) rfl rfl rfl (by decide) ⟨⟨nle rfl, nle rfl⟩, nle rfl, nle rfl⟩ ?_
  intro v42 h43 hq44 _
  obtain ⟨rfl, rfl⟩ := hq44
  show WlO _ _ _ _ _ _ _ _ _ _ _ _ _ _ _ _ _ _ [.int (0 : Int32)]
  refine Wl.iload 255 at_253 rfl ?_
  refine Wl.icmpN 258 at_255 (teq (by decide)).2 ?_
  refine Wl.iconst 259 (1 : Int32) at_258 (by decide) ?_
  refine Wl.goto 263 at_259 ?_
  exact Wl.ireturn at_263 rfl rfl (by simp) (nle rfl) (nle rfl) rfl
set_option maxRecDepth 65536 in
set_option maxHeartbeats 40000000 in
theorem law_w20 {l : Launch} {Z : State} {a0 : Array Value} (hw : ∀ d ∈ tables_1, d.before a0 Z = true) (hcs : CSon Z) (hfm : Fmt Z) (hu : U16on Z) {as : Array Value} {h : Heap} {i0 : Int32} {i1 i2 i3 : Int64} {i4 se : Int32} {kw ks ki : Addr} {t0 t1 t2 k0 k1 k2 : Int32} (hK : Kinds Z kw ks ki) (lt0 : Ch t0) (lt1 : Ch t1) (lt2 : Ch t2) (lk0 : Ch k0) (lk1 : Ch k1) (lk2 : Ch k2) (wk0 : nlow k0) (wk1 : nlow k1) (wk2 : nlow k2) :
    Wl l Z a0 consts_1 x code maxLocals ret room_1 as (fun v h' => v = some (.int 1)) [] h 0 0 133 #[.val (.int i0), .val (.long i1), .second, .val (.long i2), .second, .val (.long i3), .second, .val (.int i4), .val (.int se), .val (.ref kw), .val (.int (2 : Int32)), .val (.int (0 : Int32)), .val (.int t0), .val (.int t1), .val (.int t2), .val (.int k0), .val (.int k1), .val (.int k2), .unset, .unset, .unset, .unset] [] := by
  refine Wl.iload 135 at_133 rfl ?_
  refine Wl.iload 137 at_135 rfl ?_
  refine Wl.iload 139 at_137 rfl ?_
  refine Wl.iload 141 at_139 rfl ?_
  refine Wl.static 144 (argsL := [.int t0, .int t1, .int t2, .int (2 : Int32)]) at_141 (w11 hw) (w12 hw) (w5 hw) (w13 hw) (show parseMethodDescriptor "(CCCI)Ljava/lang/String;" = some ⟨[.char, .char, .char, .int], some (.object "java/lang/String")⟩ by decide +kernel) rfl (str2_met hw hcs hu lt0 lt1 lt2) (fun _ q => nomatch q) rfl rfl rfl (by decide) ⟨⟨nle rfl, nle rfl⟩, nle rfl, nle rfl⟩ ?_
  intro v1 h2 hq3 _
  obtain ⟨a4, rfl, E5, S6⟩ := hq3
  have B7 : Ext h h2 := E5
  show WlO _ _ _ _ _ _ _ _ _ _ _ _ _ _ _ _ _ _ [.ref a4]
  refine Wl.astore 146 #[.val (.int i0), .val (.long i1), .second, .val (.long i2), .second, .val (.long i3), .second, .val (.int i4), .val (.int se), .val (.ref kw), .val (.int (2 : Int32)), .val (.int (0 : Int32)), .val (.int t0), .val (.int t1), .val (.int t2), .val (.int k0), .val (.int k1), .val (.int k2), .val (.ref a4), .unset, .unset, .unset] at_144 rfl rfl ?_
  refine Wl.iload 148 at_146 rfl ?_
  refine Wl.iload 150 at_148 rfl ?_
  refine Wl.iload 152 at_150 rfl ?_
  refine Wl.iload 154 at_152 rfl ?_
  refine Wl.static 157 (argsL := [.int k0, .int k1, .int k2, .int (0 : Int32)]) at_154 (w11 hw) (w12 hw) (w5 hw) (w13 hw) (show parseMethodDescriptor "(CCCI)Ljava/lang/String;" = some ⟨[.char, .char, .char, .int], some (.object "java/lang/String")⟩ by decide +kernel) rfl (str0_met hw hcs hu lk0 lk1 lk2) (fun _ q => nomatch q) rfl rfl rfl (by decide) ⟨⟨nle rfl, nle rfl⟩, nle rfl, nle rfl⟩ ?_
  intro v8 h9 hq10 _
  obtain ⟨a11, rfl, E12, S13⟩ := hq10
  have B14 : Ext h h9 := extTr B7 E12
  show WlO _ _ _ _ _ _ _ _ _ _ _ _ _ _ _ _ _ _ [.ref a11]
  refine Wl.astore 159 #[.val (.int i0), .val (.long i1), .second, .val (.long i2), .second, .val (.long i3), .second, .val (.int i4), .val (.int se), .val (.ref kw), .val (.int (2 : Int32)), .val (.int (0 : Int32)), .val (.int t0), .val (.int t1), .val (.int t2), .val (.int k0), .val (.int k1), .val (.int k2), .val (.ref a4), .val (.ref a11), .unset, .unset] at_157 rfl rfl ?_
  refine Wl.new 162 at_159 (w36 hw) (w37 hw) (w38 hw) (nle rfl) (nle rfl) ?_
  intro a15 h16 q17 E18 X19 D20
  have z21 : h.size ≤ a15 := Nat.le_trans B14.1 (Nat.le_of_eq q17.symm)
  have z22 : h9.size ≤ a15 := Nat.le_of_eq q17.symm
  have ne23 : a4 ≠ a15 := Nat.ne_of_lt (by rw [q17]; exact (((S6).exa.ext E12)).lt)
  have ne24 : a11 ≠ a15 := Nat.ne_of_lt (by rw [q17]; exact ((S13).exa).lt)
  have B25 : Ext h h16 := extTr B14 E18
  have B26 : Ext h9 h16 := E18
  have F27 : Fld Z h16 a15 "com/example/grantwork/grantwork/Token" "kind" "Lcom/example/grantwork/grantwork/Token$Kind;" (.null) := D20 (Or.inr (w49 hw)) (ty := (.object "com/example/grantwork/grantwork/Token$Kind")) (by decide)
  have F28 : Fld Z h16 a15 "com/example/grantwork/grantwork/Token" "text" "Ljava/lang/String;" (.null) := D20 (Or.inr (w51 hw)) (ty := (.object "java/lang/String")) (by decide)
  have F29 : Fld Z h16 a15 "com/example/grantwork/grantwork/Token" "length" "J" (.long 0) := D20 (Or.inr (w53 hw)) (ty := .long) (by decide)
  have F30 : Fld Z h16 a15 "com/example/grantwork/grantwork/Token" "line" "I" (.int 0) := D20 (Or.inr (w55 hw)) (ty := .int) (by decide)
  refine Wl.dup 163 at_162 rfl ?_
  refine Wl.aload 165 at_163 rfl rfl ?_
  refine Wl.aload 167 at_165 rfl rfl ?_
  refine Wl.lload 169 at_167 rfl ?_
  refine Wl.iload 171 at_169 rfl ?_
  refine Wl.special 174 (argsL := [.ref kw, .ref a4, .long i3, .int i4]) at_171 (w39 hw) (w40 hw) (w38 hw) (w41 hw) (show parseMethodDescriptor "(Lcom/example/grantwork/grantwork/Token$Kind;Ljava/lang/String;JI)V" = some ⟨[(.object "com/example/grantwork/grantwork/Token$Kind"), (.object "java/lang/String"), .long, .int], none⟩ by decide +kernel) rfl (token_met hw X19 F27 F28 F29 F30) (allS (List.mem_of_getElem? (i := 0) rfl) (fun _ q => nomatch q)) rfl rfl rfl rfl (by decide) ⟨⟨nle rfl, nle rfl⟩, nle rfl, nle rfl⟩ ?_
  intro v31 h32 hq33 _
  obtain ⟨rfl, K34, X35, F36, F37, F38, F39⟩ := hq33
  have B40 : Ext h h32 := extKeep B25 K34 (allS z21 all0)
  have B41 : Ext h9 h32 := extKeep B26 K34 (allS z22 all0)
  show WlO _ _ _ _ _ _ _ _ _ _ _ _ _ _ _ _ _ _ [.ref a15]
  refine Wl.astore 176 #[.val (.int i0), .val (.long i1), .second, .val (.long i2), .second, .val (.long i3), .second, .val (.int i4), .val (.int se), .val (.ref kw), .val (.int (2 : Int32)), .val (.int (0 : Int32)), .val (.int t0), .val (.int t1), .val (.int t2), .val (.int k0), .val (.int k1), .val (.int k2), .val (.ref a4), .val (.ref a11), .val (.ref a15), .unset] at_174 rfl rfl ?_
  refine Wl.aload 178 at_176 rfl rfl ?_
  refine Wl.getstatic 181 at_178 (w0 hw) hK.1.1 ?_
  refine Wl.acmp 184 true at_181 rfl rfl (decide_eq_true rfl) ?_
  refine Wl.iload 186 at_184 rfl ?_
  refine Wl.iload 188 at_186 rfl ?_
  refine Wl.icmpY 243 at_188 (feq (by decide)).2 ?_
  refine Wl.iconst 244 (0 : Int32) at_243 (by decide) ?_
  refine Wl.istore 246 #[.val (.int i0), .val (.long i1), .second, .val (.long i2), .second, .val (.long i3), .second, .val (.int i4), .val (.int se), .val (.ref kw), .val (.int (2 : Int32)), .val (.int (0 : Int32)), .val (.int t0), .val (.int t1), .val (.int t2), .val (.int k0), .val (.int k1), .val (.int k2), .val (.ref a4), .val (.ref a11), .val (.ref a15), .val (.int (0 : Int32))] at_244 rfl ?_
  refine Wl.aload 248 at_246 rfl rfl ?_
  refine Wl.aload 250 at_248 rfl rfl ?_
  refine Wl.virtual 253 (argsL := [.ref a11]) at_250 (w56 hw) (w57 hw) (w59 hw) (w58 hw) (w38 hw) (w60 hw) (nf_sel (w59 hw) rfl) X35 (show parseMethodDescriptor "(Ljava/lang/String;)Z" = some ⟨[(.object "java/lang/String")], some .boolean⟩ by decide +kernel) rfl (kw20_met hw hcs hfm hu hK lt0 lt1 lt2 lk0 lk1 lk2 wk0 wk1 wk2 F36 F37 ((S6.ext E12).ext B41) (S13.ext B41)) (fun _ q => nomatch q) rfl rfl rfl (by decide) ⟨⟨nle rfl, nle rfl⟩, nle rfl, nle rfl⟩ ?_
  intro v42 h43 hq44 _
  obtain ⟨rfl, rfl⟩ := hq44
  show WlO _ _ _ _ _ _ _ _ _ _ _ _ _ _ _ _ _ _ [.int (0 : Int32)]
  refine Wl.iload 255 at_253 rfl ?_
  refine Wl.icmpN 258 at_255 (teq (by decide)).2 ?_
  refine Wl.iconst 259 (1 : Int32) at_258 (by decide) ?_
  refine Wl.goto 263 at_259 ?_
  exact Wl.ireturn at_263 rfl rfl (by simp) (nle rfl) (nle rfl) rfl
set_option maxRecDepth 65536 in
set_option maxHeartbeats 40000000 in
theorem law_w21 {l : Launch} {Z : State} {a0 : Array Value} (hw : ∀ d ∈ tables_1, d.before a0 Z = true) (hcs : CSon Z) (hfm : Fmt Z) (hu : U16on Z) {as : Array Value} {h : Heap} {i0 : Int32} {i1 i2 i3 : Int64} {i4 se : Int32} {kw ks ki : Addr} {t0 t1 t2 k0 k1 k2 : Int32} (hK : Kinds Z kw ks ki) (lt0 : Ch t0) (lt1 : Ch t1) (lt2 : Ch t2) (lk0 : Ch k0) (lk1 : Ch k1) (lk2 : Ch k2) (wk0 : nlow k0) (wk1 : nlow k1) (wk2 : nlow k2) :
    Wl l Z a0 consts_1 x code maxLocals ret room_1 as (fun v h' => v = some (.int 1)) [] h 0 0 133 #[.val (.int i0), .val (.long i1), .second, .val (.long i2), .second, .val (.long i3), .second, .val (.int i4), .val (.int se), .val (.ref kw), .val (.int (2 : Int32)), .val (.int (1 : Int32)), .val (.int t0), .val (.int t1), .val (.int t2), .val (.int k0), .val (.int k1), .val (.int k2), .unset, .unset, .unset, .unset] [] := by
  refine Wl.iload 135 at_133 rfl ?_
  refine Wl.iload 137 at_135 rfl ?_
  refine Wl.iload 139 at_137 rfl ?_
  refine Wl.iload 141 at_139 rfl ?_
  refine Wl.static 144 (argsL := [.int t0, .int t1, .int t2, .int (2 : Int32)]) at_141 (w11 hw) (w12 hw) (w5 hw) (w13 hw) (show parseMethodDescriptor "(CCCI)Ljava/lang/String;" = some ⟨[.char, .char, .char, .int], some (.object "java/lang/String")⟩ by decide +kernel) rfl (str2_met hw hcs hu lt0 lt1 lt2) (fun _ q => nomatch q) rfl rfl rfl (by decide) ⟨⟨nle rfl, nle rfl⟩, nle rfl, nle rfl⟩ ?_
  intro v1 h2 hq3 _
  obtain ⟨a4, rfl, E5, S6⟩ := hq3
  have B7 : Ext h h2 := E5
  show WlO _ _ _ _ _ _ _ _ _ _ _ _ _ _ _ _ _ _ [.ref a4]
  refine Wl.astore 146 #[.val (.int i0), .val (.long i1), .second, .val (.long i2), .second, .val (.long i3), .second, .val (.int i4), .val (.int se), .val (.ref kw), .val (.int (2 : Int32)), .val (.int (1 : Int32)), .val (.int t0), .val (.int t1), .val (.int t2), .val (.int k0), .val (.int k1), .val (.int k2), .val (.ref a4), .unset, .unset, .unset] at_144 rfl rfl ?_
  refine Wl.iload 148 at_146 rfl ?_
  refine Wl.iload 150 at_148 rfl ?_
  refine Wl.iload 152 at_150 rfl ?_
  refine Wl.iload 154 at_152 rfl ?_
  refine Wl.static 157 (argsL := [.int k0, .int k1, .int k2, .int (1 : Int32)]) at_154 (w11 hw) (w12 hw) (w5 hw) (w13 hw) (show parseMethodDescriptor "(CCCI)Ljava/lang/String;" = some ⟨[.char, .char, .char, .int], some (.object "java/lang/String")⟩ by decide +kernel) rfl (str1_met hw hcs hu lk0 lk1 lk2) (fun _ q => nomatch q) rfl rfl rfl (by decide) ⟨⟨nle rfl, nle rfl⟩, nle rfl, nle rfl⟩ ?_
  intro v8 h9 hq10 _
  obtain ⟨a11, rfl, E12, S13⟩ := hq10
  have B14 : Ext h h9 := extTr B7 E12
  show WlO _ _ _ _ _ _ _ _ _ _ _ _ _ _ _ _ _ _ [.ref a11]
  refine Wl.astore 159 #[.val (.int i0), .val (.long i1), .second, .val (.long i2), .second, .val (.long i3), .second, .val (.int i4), .val (.int se), .val (.ref kw), .val (.int (2 : Int32)), .val (.int (1 : Int32)), .val (.int t0), .val (.int t1), .val (.int t2), .val (.int k0), .val (.int k1), .val (.int k2), .val (.ref a4), .val (.ref a11), .unset, .unset] at_157 rfl rfl ?_
  refine Wl.new 162 at_159 (w36 hw) (w37 hw) (w38 hw) (nle rfl) (nle rfl) ?_
  intro a15 h16 q17 E18 X19 D20
  have z21 : h.size ≤ a15 := Nat.le_trans B14.1 (Nat.le_of_eq q17.symm)
  have z22 : h9.size ≤ a15 := Nat.le_of_eq q17.symm
  have ne23 : a4 ≠ a15 := Nat.ne_of_lt (by rw [q17]; exact (((S6).exa.ext E12)).lt)
  have ne24 : a11 ≠ a15 := Nat.ne_of_lt (by rw [q17]; exact ((S13).exa).lt)
  have B25 : Ext h h16 := extTr B14 E18
  have B26 : Ext h9 h16 := E18
  have F27 : Fld Z h16 a15 "com/example/grantwork/grantwork/Token" "kind" "Lcom/example/grantwork/grantwork/Token$Kind;" (.null) := D20 (Or.inr (w49 hw)) (ty := (.object "com/example/grantwork/grantwork/Token$Kind")) (by decide)
  have F28 : Fld Z h16 a15 "com/example/grantwork/grantwork/Token" "text" "Ljava/lang/String;" (.null) := D20 (Or.inr (w51 hw)) (ty := (.object "java/lang/String")) (by decide)
  have F29 : Fld Z h16 a15 "com/example/grantwork/grantwork/Token" "length" "J" (.long 0) := D20 (Or.inr (w53 hw)) (ty := .long) (by decide)
  have F30 : Fld Z h16 a15 "com/example/grantwork/grantwork/Token" "line" "I" (.int 0) := D20 (Or.inr (w55 hw)) (ty := .int) (by decide)
  refine Wl.dup 163 at_162 rfl ?_
  refine Wl.aload 165 at_163 rfl rfl ?_
  refine Wl.aload 167 at_165 rfl rfl ?_
  refine Wl.lload 169 at_167 rfl ?_
  refine Wl.iload 171 at_169 rfl ?_
  refine Wl.special 174 (argsL := [.ref kw, .ref a4, .long i3, .int i4]) at_171 (w39 hw) (w40 hw) (w38 hw) (w41 hw) (show parseMethodDescriptor "(Lcom/example/grantwork/grantwork/Token$Kind;Ljava/lang/String;JI)V" = some ⟨[(.object "com/example/grantwork/grantwork/Token$Kind"), (.object "java/lang/String"), .long, .int], none⟩ by decide +kernel) rfl (token_met hw X19 F27 F28 F29 F30) (allS (List.mem_of_getElem? (i := 0) rfl) (fun _ q => nomatch q)) rfl rfl rfl rfl (by decide) ⟨⟨nle rfl, nle rfl⟩, nle rfl, nle rfl⟩ ?_
  intro v31 h32 hq33 _
  obtain ⟨rfl, K34, X35, F36, F37, F38, F39⟩ := hq33
  have B40 : Ext h h32 := extKeep B25 K34 (allS z21 all0)
  have B41 : Ext h9 h32 := extKeep B26 K34 (allS z22 all0)
  show WlO _ _ _ _ _ _ _ _ _ _ _ _ _ _ _ _ _ _ [.ref a15]
  refine Wl.astore 176 #[.val (.int i0), .val (.long i1), .second, .val (.long i2), .second, .val (.long i3), .second, .val (.int i4), .val (.int se), .val (.ref kw), .val (.int (2 : Int32)), .val (.int (1 : Int32)), .val (.int t0), .val (.int t1), .val (.int t2), .val (.int k0), .val (.int k1), .val (.int k2), .val (.ref a4), .val (.ref a11), .val (.ref a15), .unset] at_174 rfl rfl ?_
  refine Wl.aload 178 at_176 rfl rfl ?_
  refine Wl.getstatic 181 at_178 (w0 hw) hK.1.1 ?_
  refine Wl.acmp 184 true at_181 rfl rfl (decide_eq_true rfl) ?_
  refine Wl.iload 186 at_184 rfl ?_
  refine Wl.iload 188 at_186 rfl ?_
  refine Wl.icmpY 243 at_188 (feq (by decide)).2 ?_
  refine Wl.iconst 244 (0 : Int32) at_243 (by decide) ?_
  refine Wl.istore 246 #[.val (.int i0), .val (.long i1), .second, .val (.long i2), .second, .val (.long i3), .second, .val (.int i4), .val (.int se), .val (.ref kw), .val (.int (2 : Int32)), .val (.int (1 : Int32)), .val (.int t0), .val (.int t1), .val (.int t2), .val (.int k0), .val (.int k1), .val (.int k2), .val (.ref a4), .val (.ref a11), .val (.ref a15), .val (.int (0 : Int32))] at_244 rfl ?_
  refine Wl.aload 248 at_246 rfl rfl ?_
  refine Wl.aload 250 at_248 rfl rfl ?_
  refine Wl.virtual 253 (argsL := [.ref a11]) at_250 (w56 hw) (w57 hw) (w59 hw) (w58 hw) (w38 hw) (w60 hw) (nf_sel (w59 hw) rfl) X35 (show parseMethodDescriptor "(Ljava/lang/String;)Z" = some ⟨[(.object "java/lang/String")], some .boolean⟩ by decide +kernel) rfl (kw21_met hw hcs hfm hu hK lt0 lt1 lt2 lk0 lk1 lk2 wk0 wk1 wk2 F36 F37 ((S6.ext E12).ext B41) (S13.ext B41)) (fun _ q => nomatch q) rfl rfl rfl (by decide) ⟨⟨nle rfl, nle rfl⟩, nle rfl, nle rfl⟩ ?_
  intro v42 h43 hq44 _
  obtain ⟨rfl, rfl⟩ := hq44
  show WlO _ _ _ _ _ _ _ _ _ _ _ _ _ _ _ _ _ _ [.int (0 : Int32)]
  refine Wl.iload 255 at_253 rfl ?_
  refine Wl.icmpN 258 at_255 (teq (by decide)).2 ?_
  refine Wl.iconst 259 (1 : Int32) at_258 (by decide) ?_
  refine Wl.goto 263 at_259 ?_
  exact Wl.ireturn at_263 rfl rfl (by simp) (nle rfl) (nle rfl) rfl
set_option maxRecDepth 65536 in
set_option maxHeartbeats 40000000 in
theorem law_w22 {l : Launch} {Z : State} {a0 : Array Value} (hw : ∀ d ∈ tables_1, d.before a0 Z = true) (hcs : CSon Z) (hfm : Fmt Z) (hu : U16on Z) {as : Array Value} {h : Heap} {i0 : Int32} {i1 i2 i3 : Int64} {i4 se : Int32} {kw ks ki : Addr} {t0 t1 t2 k0 k1 k2 : Int32} (hK : Kinds Z kw ks ki) (lt0 : Ch t0) (lt1 : Ch t1) (lt2 : Ch t2) (lk0 : Ch k0) (lk1 : Ch k1) (lk2 : Ch k2) (wk0 : nlow k0) (wk1 : nlow k1) (wk2 : nlow k2) :
    Wl l Z a0 consts_1 x code maxLocals ret room_1 as (fun v h' => v = some (.int 1)) [] h 0 0 133 #[.val (.int i0), .val (.long i1), .second, .val (.long i2), .second, .val (.long i3), .second, .val (.int i4), .val (.int se), .val (.ref kw), .val (.int (2 : Int32)), .val (.int (2 : Int32)), .val (.int t0), .val (.int t1), .val (.int t2), .val (.int k0), .val (.int k1), .val (.int k2), .unset, .unset, .unset, .unset] [] := by
  refine Wl.iload 135 at_133 rfl ?_
  refine Wl.iload 137 at_135 rfl ?_
  refine Wl.iload 139 at_137 rfl ?_
  refine Wl.iload 141 at_139 rfl ?_
  refine Wl.static 144 (argsL := [.int t0, .int t1, .int t2, .int (2 : Int32)]) at_141 (w11 hw) (w12 hw) (w5 hw) (w13 hw) (show parseMethodDescriptor "(CCCI)Ljava/lang/String;" = some ⟨[.char, .char, .char, .int], some (.object "java/lang/String")⟩ by decide +kernel) rfl (str2_met hw hcs hu lt0 lt1 lt2) (fun _ q => nomatch q) rfl rfl rfl (by decide) ⟨⟨nle rfl, nle rfl⟩, nle rfl, nle rfl⟩ ?_
  intro v1 h2 hq3 _
  obtain ⟨a4, rfl, E5, S6⟩ := hq3
  have B7 : Ext h h2 := E5
  show WlO _ _ _ _ _ _ _ _ _ _ _ _ _ _ _ _ _ _ [.ref a4]
  refine Wl.astore 146 #[.val (.int i0), .val (.long i1), .second, .val (.long i2), .second, .val (.long i3), .second, .val (.int i4), .val (.int se), .val (.ref kw), .val (.int (2 : Int32)), .val (.int (2 : Int32)), .val (.int t0), .val (.int t1), .val (.int t2), .val (.int k0), .val (.int k1), .val (.int k2), .val (.ref a4), .unset, .unset, .unset] at_144 rfl rfl ?_
  refine Wl.iload 148 at_146 rfl ?_
  refine Wl.iload 150 at_148 rfl ?_
  refine Wl.iload 152 at_150 rfl ?_
  refine Wl.iload 154 at_152 rfl ?_
  refine Wl.static 157 (argsL := [.int k0, .int k1, .int k2, .int (2 : Int32)]) at_154 (w11 hw) (w12 hw) (w5 hw) (w13 hw) (show parseMethodDescriptor "(CCCI)Ljava/lang/String;" = some ⟨[.char, .char, .char, .int], some (.object "java/lang/String")⟩ by decide +kernel) rfl (str2_met hw hcs hu lk0 lk1 lk2) (fun _ q => nomatch q) rfl rfl rfl (by decide) ⟨⟨nle rfl, nle rfl⟩, nle rfl, nle rfl⟩ ?_
  intro v8 h9 hq10 _
  obtain ⟨a11, rfl, E12, S13⟩ := hq10
  have B14 : Ext h h9 := extTr B7 E12
  show WlO _ _ _ _ _ _ _ _ _ _ _ _ _ _ _ _ _ _ [.ref a11]
  refine Wl.astore 159 #[.val (.int i0), .val (.long i1), .second, .val (.long i2), .second, .val (.long i3), .second, .val (.int i4), .val (.int se), .val (.ref kw), .val (.int (2 : Int32)), .val (.int (2 : Int32)), .val (.int t0), .val (.int t1), .val (.int t2), .val (.int k0), .val (.int k1), .val (.int k2), .val (.ref a4), .val (.ref a11), .unset, .unset] at_157 rfl rfl ?_
  refine Wl.new 162 at_159 (w36 hw) (w37 hw) (w38 hw) (nle rfl) (nle rfl) ?_
  intro a15 h16 q17 E18 X19 D20
  have z21 : h.size ≤ a15 := Nat.le_trans B14.1 (Nat.le_of_eq q17.symm)
  have z22 : h9.size ≤ a15 := Nat.le_of_eq q17.symm
  have ne23 : a4 ≠ a15 := Nat.ne_of_lt (by rw [q17]; exact (((S6).exa.ext E12)).lt)
  have ne24 : a11 ≠ a15 := Nat.ne_of_lt (by rw [q17]; exact ((S13).exa).lt)
  have B25 : Ext h h16 := extTr B14 E18
  have B26 : Ext h9 h16 := E18
  have F27 : Fld Z h16 a15 "com/example/grantwork/grantwork/Token" "kind" "Lcom/example/grantwork/grantwork/Token$Kind;" (.null) := D20 (Or.inr (w49 hw)) (ty := (.object "com/example/grantwork/grantwork/Token$Kind")) (by decide)
  have F28 : Fld Z h16 a15 "com/example/grantwork/grantwork/Token" "text" "Ljava/lang/String;" (.null) := D20 (Or.inr (w51 hw)) (ty := (.object "java/lang/String")) (by decide)
  have F29 : Fld Z h16 a15 "com/example/grantwork/grantwork/Token" "length" "J" (.long 0) := D20 (Or.inr (w53 hw)) (ty := .long) (by decide)
  have F30 : Fld Z h16 a15 "com/example/grantwork/grantwork/Token" "line" "I" (.int 0) := D20 (Or.inr (w55 hw)) (ty := .int) (by decide)
  refine Wl.dup 163 at_162 rfl ?_
  refine Wl.aload 165 at_163 rfl rfl ?_
  refine Wl.aload 167 at_165 rfl rfl ?_
  refine Wl.lload 169 at_167 rfl ?_
  refine Wl.iload 171 at_169 rfl ?_
  refine Wl.special 174 (argsL := [.ref kw, .ref a4, .long i3, .int i4]) at_171 (w39 hw) (w40 hw) (w38 hw) (w41 hw) (show parseMethodDescriptor "(Lcom/example/grantwork/grantwork/Token$Kind;Ljava/lang/String;JI)V" = some ⟨[(.object "com/example/grantwork/grantwork/Token$Kind"), (.object "java/lang/String"), .long, .int], none⟩ by decide +kernel) rfl (token_met hw X19 F27 F28 F29 F30) (allS (List.mem_of_getElem? (i := 0) rfl) (fun _ q => nomatch q)) rfl rfl rfl rfl (by decide) ⟨⟨nle rfl, nle rfl⟩, nle rfl, nle rfl⟩ ?_
  intro v31 h32 hq33 _
  obtain ⟨rfl, K34, X35, F36, F37, F38, F39⟩ := hq33
  have B40 : Ext h h32 := extKeep B25 K34 (allS z21 all0)
  have B41 : Ext h9 h32 := extKeep B26 K34 (allS z22 all0)
  show WlO _ _ _ _ _ _ _ _ _ _ _ _ _ _ _ _ _ _ [.ref a15]
  refine Wl.astore 176 #[.val (.int i0), .val (.long i1), .second, .val (.long i2), .second, .val (.long i3), .second, .val (.int i4), .val (.int se), .val (.ref kw), .val (.int (2 : Int32)), .val (.int (2 : Int32)), .val (.int t0), .val (.int t1), .val (.int t2), .val (.int k0), .val (.int k1), .val (.int k2), .val (.ref a4), .val (.ref a11), .val (.ref a15), .unset] at_174 rfl rfl ?_
  refine Wl.aload 178 at_176 rfl rfl ?_
  refine Wl.getstatic 181 at_178 (w0 hw) hK.1.1 ?_
  refine Wl.acmp 184 true at_181 rfl rfl (decide_eq_true rfl) ?_
  refine Wl.iload 186 at_184 rfl ?_
  refine Wl.iload 188 at_186 rfl ?_
  refine Wl.icmpN 191 at_188 (teq (by decide)).2 ?_
  refine Wl.iload 193 at_191 rfl ?_
  refine Wl.iconst 194 (1 : Int32) at_193 (by decide) ?_
  refine Wl.icmpN 197 at_194 (flt (by decide)).1 ?_
  refine Wl.iload 199 at_197 rfl ?_
  refine Wl.iload 201 at_199 rfl ?_
  refine Wl.static 204 (argsL := [.int t0, .int k0]) at_201 (w87 hw) (w88 hw) (w5 hw) (w89 hw) (show parseMethodDescriptor "(CC)Z" = some ⟨[.char, .char], some .boolean⟩ by decide +kernel) rfl (same_met hw) (fun _ q => nomatch q) rfl rfl rfl (by decide) ⟨⟨nle rfl, nle rfl⟩, nle rfl, nle rfl⟩ ?_
  intro v42 h43 hq44 _
  obtain ⟨rfl, rfl⟩ := hq44
  show WlO _ _ _ _ _ _ _ _ _ _ _ _ _ _ _ _ _ _ [.int (sameI t0 k0)]
  by_cases c45 : (sameI t0 k0) = (0 : Int32)
  · refine Wl.ifY 243 at_204 (teq c45).1 ?_
    refine Wl.iconst 244 (0 : Int32) at_243 (by decide) ?_
    refine Wl.istore 246 #[.val (.int i0), .val (.long i1), .second, .val (.long i2), .second, .val (.long i3), .second, .val (.int i4), .val (.int se), .val (.ref kw), .val (.int (2 : Int32)), .val (.int (2 : Int32)), .val (.int t0), .val (.int t1), .val (.int t2), .val (.int k0), .val (.int k1), .val (.int k2), .val (.ref a4), .val (.ref a11), .val (.ref a15), .val (.int (0 : Int32))] at_244 rfl ?_
    refine Wl.aload 248 at_246 rfl rfl ?_
    refine Wl.aload 250 at_248 rfl rfl ?_
    refine Wl.virtual 253 (argsL := [.ref a11]) at_250 (w56 hw) (w57 hw) (w59 hw) (w58 hw) (w38 hw) (w60 hw) (nf_sel (w59 hw) rfl) X35 (show parseMethodDescriptor "(Ljava/lang/String;)Z" = some ⟨[(.object "java/lang/String")], some .boolean⟩ by decide +kernel) rfl (kw22_met hw hcs hfm hu hK lt0 lt1 lt2 lk0 lk1 lk2 wk0 wk1 wk2 F36 F37 ((S6.ext E12).ext B41) (S13.ext B41)) (fun _ q => nomatch q) rfl rfl rfl (by decide) ⟨⟨nle rfl, nle rfl⟩, nle rfl, nle rfl⟩ ?_
    intro v46 h47 hq48 _
    rw [show kwI [(t0, k0), (t1, k1)] = (0 : Int32) from (kw_0 c45)] at hq48
    obtain ⟨rfl, rfl⟩ := hq48
    show WlO _ _ _ _ _ _ _ _ _ _ _ _ _ _ _ _ _ _ [.int (0 : Int32)]
    refine Wl.iload 255 at_253 rfl ?_
    refine Wl.icmpN 258 at_255 (teq (by decide)).2 ?_
    refine Wl.iconst 259 (1 : Int32) at_258 (by decide) ?_
    refine Wl.goto 263 at_259 ?_
    exact Wl.ireturn at_263 rfl rfl (by simp) (nle rfl) (nle rfl) rfl
  · refine Wl.ifN 207 at_204 (feq c45).1 ?_
    refine Wl.iload 209 at_207 rfl ?_
    refine Wl.iconst 210 (2 : Int32) at_209 (by decide) ?_
    refine Wl.icmpN 213 at_210 (flt (by decide)).1 ?_
    refine Wl.iload 215 at_213 rfl ?_
    refine Wl.iload 217 at_215 rfl ?_
    refine Wl.static 220 (argsL := [.int t1, .int k1]) at_217 (w87 hw) (w88 hw) (w5 hw) (w89 hw) (show parseMethodDescriptor "(CC)Z" = some ⟨[.char, .char], some .boolean⟩ by decide +kernel) rfl (same_met hw) (fun _ q => nomatch q) rfl rfl rfl (by decide) ⟨⟨nle rfl, nle rfl⟩, nle rfl, nle rfl⟩ ?_
    intro v49 h50 hq51 _
    obtain ⟨rfl, rfl⟩ := hq51
    show WlO _ _ _ _ _ _ _ _ _ _ _ _ _ _ _ _ _ _ [.int (sameI t1 k1)]
    by_cases c52 : (sameI t1 k1) = (0 : Int32)
    · refine Wl.ifY 243 at_220 (teq c52).1 ?_
      refine Wl.iconst 244 (0 : Int32) at_243 (by decide) ?_
      refine Wl.istore 246 #[.val (.int i0), .val (.long i1), .second, .val (.long i2), .second, .val (.long i3), .second, .val (.int i4), .val (.int se), .val (.ref kw), .val (.int (2 : Int32)), .val (.int (2 : Int32)), .val (.int t0), .val (.int t1), .val (.int t2), .val (.int k0), .val (.int k1), .val (.int k2), .val (.ref a4), .val (.ref a11), .val (.ref a15), .val (.int (0 : Int32))] at_244 rfl ?_
      refine Wl.aload 248 at_246 rfl rfl ?_
      refine Wl.aload 250 at_248 rfl rfl ?_
      refine Wl.virtual 253 (argsL := [.ref a11]) at_250 (w56 hw) (w57 hw) (w59 hw) (w58 hw) (w38 hw) (w60 hw) (nf_sel (w59 hw) rfl) X35 (show parseMethodDescriptor "(Ljava/lang/String;)Z" = some ⟨[(.object "java/lang/String")], some .boolean⟩ by decide +kernel) rfl (kw22_met hw hcs hfm hu hK lt0 lt1 lt2 lk0 lk1 lk2 wk0 wk1 wk2 F36 F37 ((S6.ext E12).ext B41) (S13.ext B41)) (fun _ q => nomatch q) rfl rfl rfl (by decide) ⟨⟨nle rfl, nle rfl⟩, nle rfl, nle rfl⟩ ?_
      intro v53 h54 hq55 _
      rw [show kwI [(t0, k0), (t1, k1)] = (0 : Int32) from (kw_n c45 (kw_0 c52))] at hq55
      obtain ⟨rfl, rfl⟩ := hq55
      show WlO _ _ _ _ _ _ _ _ _ _ _ _ _ _ _ _ _ _ [.int (0 : Int32)]
      refine Wl.iload 255 at_253 rfl ?_
      refine Wl.icmpN 258 at_255 (teq (by decide)).2 ?_
      refine Wl.iconst 259 (1 : Int32) at_258 (by decide) ?_
      refine Wl.goto 263 at_259 ?_
      exact Wl.ireturn at_263 rfl rfl (by simp) (nle rfl) (nle rfl) rfl
    · refine Wl.ifN 223 at_220 (feq c52).1 ?_
      refine Wl.iload 225 at_223 rfl ?_
      refine Wl.iconst 226 (3 : Int32) at_225 (by decide) ?_
      refine Wl.icmpY 239 at_226 (tlt (by decide)).1 ?_
      refine Wl.iconst 240 (1 : Int32) at_239 (by decide) ?_
      refine Wl.goto 244 at_240 ?_
      refine Wl.istore 246 #[.val (.int i0), .val (.long i1), .second, .val (.long i2), .second, .val (.long i3), .second, .val (.int i4), .val (.int se), .val (.ref kw), .val (.int (2 : Int32)), .val (.int (2 : Int32)), .val (.int t0), .val (.int t1), .val (.int t2), .val (.int k0), .val (.int k1), .val (.int k2), .val (.ref a4), .val (.ref a11), .val (.ref a15), .val (.int (1 : Int32))] at_244 rfl ?_
      refine Wl.aload 248 at_246 rfl rfl ?_
      refine Wl.aload 250 at_248 rfl rfl ?_
      refine Wl.virtual 253 (argsL := [.ref a11]) at_250 (w56 hw) (w57 hw) (w59 hw) (w58 hw) (w38 hw) (w60 hw) (nf_sel (w59 hw) rfl) X35 (show parseMethodDescriptor "(Ljava/lang/String;)Z" = some ⟨[(.object "java/lang/String")], some .boolean⟩ by decide +kernel) rfl (kw22_met hw hcs hfm hu hK lt0 lt1 lt2 lk0 lk1 lk2 wk0 wk1 wk2 F36 F37 ((S6.ext E12).ext B41) (S13.ext B41)) (fun _ q => nomatch q) rfl rfl rfl (by decide) ⟨⟨nle rfl, nle rfl⟩, nle rfl, nle rfl⟩ ?_
      intro v56 h57 hq58 _
      rw [show kwI [(t0, k0), (t1, k1)] = (1 : Int32) from (kw_n c45 (kw_n c52 rfl))] at hq58
      obtain ⟨rfl, rfl⟩ := hq58
      show WlO _ _ _ _ _ _ _ _ _ _ _ _ _ _ _ _ _ _ [.int (1 : Int32)]
      refine Wl.iload 255 at_253 rfl ?_
      refine Wl.icmpN 258 at_255 (teq (by decide)).2 ?_
      refine Wl.iconst 259 (1 : Int32) at_258 (by decide) ?_
      refine Wl.goto 263 at_259 ?_
      exact Wl.ireturn at_263 rfl rfl (by simp) (nle rfl) (nle rfl) rfl
set_option maxRecDepth 65536 in
set_option maxHeartbeats 40000000 in
theorem law_w23 {l : Launch} {Z : State} {a0 : Array Value} (hw : ∀ d ∈ tables_1, d.before a0 Z = true) (hcs : CSon Z) (hfm : Fmt Z) (hu : U16on Z) {as : Array Value} {h : Heap} {i0 : Int32} {i1 i2 i3 : Int64} {i4 se : Int32} {kw ks ki : Addr} {t0 t1 t2 k0 k1 k2 : Int32} (hK : Kinds Z kw ks ki) (lt0 : Ch t0) (lt1 : Ch t1) (lt2 : Ch t2) (lk0 : Ch k0) (lk1 : Ch k1) (lk2 : Ch k2) (wk0 : nlow k0) (wk1 : nlow k1) (wk2 : nlow k2) :
    Wl l Z a0 consts_1 x code maxLocals ret room_1 as (fun v h' => v = some (.int 1)) [] h 0 0 133 #[.val (.int i0), .val (.long i1), .second, .val (.long i2), .second, .val (.long i3), .second, .val (.int i4), .val (.int se), .val (.ref kw), .val (.int (2 : Int32)), .val (.int (3 : Int32)), .val (.int t0), .val (.int t1), .val (.int t2), .val (.int k0), .val (.int k1), .val (.int k2), .unset, .unset, .unset, .unset] [] := by
  refine Wl.iload 135 at_133 rfl ?_
  refine Wl.iload 137 at_135 rfl ?_
  refine Wl.iload 139 at_137 rfl ?_
  refine Wl.iload 141 at_139 rfl ?_
  refine Wl.static 144 (argsL := [.int t0, .int t1, .int t2, .int (2 : Int32)]) at_141 (w11 hw) (w12 hw) (w5 hw) (w13 hw) (show parseMethodDescriptor "(CCCI)Ljava/lang/String;" = some ⟨[.char, .char, .char, .int], some (.object "java/lang/String")⟩ by decide +kernel) rfl (str2_met hw hcs hu lt0 lt1 lt2) (fun _ q => nomatch q) rfl rfl rfl (by decide) ⟨⟨nle rfl, nle rfl⟩, nle rfl, nle rfl⟩ ?_
  intro v1 h2 hq3 _
  obtain ⟨a4, rfl, E5, S6⟩ := hq3
  have B7 : Ext h h2 := E5
  show WlO _ _ _ _ _ _ _ _ _ _ _ _ _ _ _ _ _ _ [.ref a4]
  refine Wl.astore 146 #[.val (.int i0), .val (.long i1), .second, .val (.long i2), .second, .val (.long i3), .second, .val (.int i4), .val (.int se), .val (.ref kw), .val (.int (2 : Int32)), .val (.int (3 : Int32)), .val (.int t0), .val (.int t1), .val (.int t2), .val (.int k0), .val (.int k1), .val (.int k2), .val (.ref a4), .unset, .unset, .unset] at_144 rfl rfl ?_
  refine Wl.iload 148 at_146 rfl ?_
  refine Wl.iload 150 at_148 rfl ?_
  refine Wl.iload 152 at_150 rfl ?_
  refine Wl.iload 154 at_152 rfl ?_
  refine Wl.static 157 (argsL := [.int k0, .int k1, .int k2, .int (3 : Int32)]) at_154 (w11 hw) (w12 hw) (w5 hw) (w13 hw) (show parseMethodDescriptor "(CCCI)Ljava/lang/String;" = some ⟨[.char, .char, .char, .int], some (.object "java/lang/String")⟩ by decide +kernel) rfl (str3_met hw hcs hu lk0 lk1 lk2) (fun _ q => nomatch q) rfl rfl rfl (by decide) ⟨⟨nle rfl, nle rfl⟩, nle rfl, nle rfl⟩ ?_
  intro v8 h9 hq10 _
  obtain ⟨a11, rfl, E12, S13⟩ := hq10
  have B14 : Ext h h9 := extTr B7 E12
  show WlO _ _ _ _ _ _ _ _ _ _ _ _ _ _ _ _ _ _ [.ref a11]
  refine Wl.astore 159 #[.val (.int i0), .val (.long i1), .second, .val (.long i2), .second, .val (.long i3), .second, .val (.int i4), .val (.int se), .val (.ref kw), .val (.int (2 : Int32)), .val (.int (3 : Int32)), .val (.int t0), .val (.int t1), .val (.int t2), .val (.int k0), .val (.int k1), .val (.int k2), .val (.ref a4), .val (.ref a11), .unset, .unset] at_157 rfl rfl ?_
  refine Wl.new 162 at_159 (w36 hw) (w37 hw) (w38 hw) (nle rfl) (nle rfl) ?_
  intro a15 h16 q17 E18 X19 D20
  have z21 : h.size ≤ a15 := Nat.le_trans B14.1 (Nat.le_of_eq q17.symm)
  have z22 : h9.size ≤ a15 := Nat.le_of_eq q17.symm
  have ne23 : a4 ≠ a15 := Nat.ne_of_lt (by rw [q17]; exact (((S6).exa.ext E12)).lt)
  have ne24 : a11 ≠ a15 := Nat.ne_of_lt (by rw [q17]; exact ((S13).exa).lt)
  have B25 : Ext h h16 := extTr B14 E18
  have B26 : Ext h9 h16 := E18
  have F27 : Fld Z h16 a15 "com/example/grantwork/grantwork/Token" "kind" "Lcom/example/grantwork/grantwork/Token$Kind;" (.null) := D20 (Or.inr (w49 hw)) (ty := (.object "com/example/grantwork/grantwork/Token$Kind")) (by decide)
  have F28 : Fld Z h16 a15 "com/example/grantwork/grantwork/Token" "text" "Ljava/lang/String;" (.null) := D20 (Or.inr (w51 hw)) (ty := (.object "java/lang/String")) (by decide)
  have F29 : Fld Z h16 a15 "com/example/grantwork/grantwork/Token" "length" "J" (.long 0) := D20 (Or.inr (w53 hw)) (ty := .long) (by decide)
  have F30 : Fld Z h16 a15 "com/example/grantwork/grantwork/Token" "line" "I" (.int 0) := D20 (Or.inr (w55 hw)) (ty := .int) (by decide)
  refine Wl.dup 163 at_162 rfl ?_
  refine Wl.aload 165 at_163 rfl rfl ?_
  refine Wl.aload 167 at_165 rfl rfl ?_
  refine Wl.lload 169 at_167 rfl ?_
  refine Wl.iload 171 at_169 rfl ?_
  refine Wl.special 174 (argsL := [.ref kw, .ref a4, .long i3, .int i4]) at_171 (w39 hw) (w40 hw) (w38 hw) (w41 hw) (show parseMethodDescriptor "(Lcom/example/grantwork/grantwork/Token$Kind;Ljava/lang/String;JI)V" = some ⟨[(.object "com/example/grantwork/grantwork/Token$Kind"), (.object "java/lang/String"), .long, .int], none⟩ by decide +kernel) rfl (token_met hw X19 F27 F28 F29 F30) (allS (List.mem_of_getElem? (i := 0) rfl) (fun _ q => nomatch q)) rfl rfl rfl rfl (by decide) ⟨⟨nle rfl, nle rfl⟩, nle rfl, nle rfl⟩ ?_
  intro v31 h32 hq33 _
  obtain ⟨rfl, K34, X35, F36, F37, F38, F39⟩ := hq33
  have B40 : Ext h h32 := extKeep B25 K34 (allS z21 all0)
  have B41 : Ext h9 h32 := extKeep B26 K34 (allS z22 all0)
  show WlO _ _ _ _ _ _ _ _ _ _ _ _ _ _ _ _ _ _ [.ref a15]
  refine Wl.astore 176 #[.val (.int i0), .val (.long i1), .second, .val (.long i2), .second, .val (.long i3), .second, .val (.int i4), .val (.int se), .val (.ref kw), .val (.int (2 : Int32)), .val (.int (3 : Int32)), .val (.int t0), .val (.int t1), .val (.int t2), .val (.int k0), .val (.int k1), .val (.int k2), .val (.ref a4), .val (.ref a11), .val (.ref a15), .unset] at_174 rfl rfl ?_
  refine Wl.aload 178 at_176 rfl rfl ?_
  refine Wl.getstatic 181 at_178 (w0 hw) hK.1.1 ?_
  refine Wl.acmp 184 true at_181 rfl rfl (decide_eq_true rfl) ?_
  refine Wl.iload 186 at_184 rfl ?_
  refine Wl.iload 188 at_186 rfl ?_
  refine Wl.icmpY 243 at_188 (feq (by decide)).2 ?_
  refine Wl.iconst 244 (0 : Int32) at_243 (by decide) ?_
  refine Wl.istore 246 #[.val (.int i0), .val (.long i1), .second, .val (.long i2), .second, .val (.long i3), .second, .val (.int i4), .val (.int se), .val (.ref kw), .val (.int (2 : Int32)), .val (.int (3 : Int32)), .val (.int t0), .val (.int t1), .val (.int t2), .val (.int k0), .val (.int k1), .val (.int k2), .val (.ref a4), .val (.ref a11), .val (.ref a15), .val (.int (0 : Int32))] at_244 rfl ?_
  refine Wl.aload 248 at_246 rfl rfl ?_
  refine Wl.aload 250 at_248 rfl rfl ?_
  refine Wl.virtual 253 (argsL := [.ref a11]) at_250 (w56 hw) (w57 hw) (w59 hw) (w58 hw) (w38 hw) (w60 hw) (nf_sel (w59 hw) rfl) X35 (show parseMethodDescriptor "(Ljava/lang/String;)Z" = some ⟨[(.object "java/lang/String")], some .boolean⟩ by decide +kernel) rfl (kw23_met hw hcs hfm hu hK lt0 lt1 lt2 lk0 lk1 lk2 wk0 wk1 wk2 F36 F37 ((S6.ext E12).ext B41) (S13.ext B41)) (fun _ q => nomatch q) rfl rfl rfl (by decide) ⟨⟨nle rfl, nle rfl⟩, nle rfl, nle rfl⟩ ?_
  intro v42 h43 hq44 _
  obtain ⟨rfl, rfl⟩ := hq44
  show WlO _ _ _ _ _ _ _ _ _ _ _ _ _ _ _ _ _ _ [.int (0 : Int32)]
  refine Wl.iload 255 at_253 rfl ?_
  refine Wl.icmpN 258 at_255 (teq (by decide)).2 ?_
  refine Wl.iconst 259 (1 : Int32) at_258 (by decide) ?_
  refine Wl.goto 263 at_259 ?_
  exact Wl.ireturn at_263 rfl rfl (by simp) (nle rfl) (nle rfl) rfl
set_option maxRecDepth 65536 in
set_option maxHeartbeats 40000000 in
theorem law_w30 {l : Launch} {Z : State} {a0 : Array Value} (hw : ∀ d ∈ tables_1, d.before a0 Z = true) (hcs : CSon Z) (hfm : Fmt Z) (hu : U16on Z) {as : Array Value} {h : Heap} {i0 : Int32} {i1 i2 i3 : Int64} {i4 se : Int32} {kw ks ki : Addr} {t0 t1 t2 k0 k1 k2 : Int32} (hK : Kinds Z kw ks ki) (lt0 : Ch t0) (lt1 : Ch t1) (lt2 : Ch t2) (lk0 : Ch k0) (lk1 : Ch k1) (lk2 : Ch k2) (wk0 : nlow k0) (wk1 : nlow k1) (wk2 : nlow k2) :
    Wl l Z a0 consts_1 x code maxLocals ret room_1 as (fun v h' => v = some (.int 1)) [] h 0 0 133 #[.val (.int i0), .val (.long i1), .second, .val (.long i2), .second, .val (.long i3), .second, .val (.int i4), .val (.int se), .val (.ref kw), .val (.int (3 : Int32)), .val (.int (0 : Int32)), .val (.int t0), .val (.int t1), .val (.int t2), .val (.int k0), .val (.int k1), .val (.int k2), .unset, .unset, .unset, .unset] [] := by
  refine Wl.iload 135 at_133 rfl ?_
  refine Wl.iload 137 at_135 rfl ?_
  refine Wl.iload 139 at_137 rfl ?_
  refine Wl.iload 141 at_139 rfl ?_
  refine Wl.static 144 (argsL := [.int t0, .int t1, .int t2, .int (3 : Int32)]) at_141 (w11 hw) (w12 hw) (w5 hw) (w13 hw) (show parseMethodDescriptor "(CCCI)Ljava/lang/String;" = some ⟨[.char, .char, .char, .int], some (.object "java/lang/String")⟩ by decide +kernel) rfl (str3_met hw hcs hu lt0 lt1 lt2) (fun _ q => nomatch q) rfl rfl rfl (by decide) ⟨⟨nle rfl, nle rfl⟩, nle rfl, nle rfl⟩ ?_
  intro v1 h2 hq3 _
  obtain ⟨a4, rfl, E5, S6⟩ := hq3
  have B7 : Ext h h2 := E5
  show WlO _ _ _ _ _ _ _ _ _ _ _ _ _ _ _ _ _ _ [.ref a4]
  refine Wl.astore 146 #[.val (.int i0), .val (.long i1), .second, .val (.long i2), .second, .val (.long i3), .second, .val (.int i4), .val (.int se), .val (.ref kw), .val (.int (3 : Int32)), .val (.int (0 : Int32)), .val (.int t0), .val (.int t1), .val (.int t2), .val (.int k0), .val (.int k1), .val (.int k2), .val (.ref a4), .unset, .unset, .unset] at_144 rfl rfl ?_
  refine Wl.iload 148 at_146 rfl ?_
  refine Wl.iload 150 at_148 rfl ?_
  refine Wl.iload 152 at_150 rfl ?_
  refine Wl.iload 154 at_152 rfl ?_
  refine Wl.static 157 (argsL := [.int k0, .int k1, .int k2, .int (0 : Int32)]) at_154 (w11 hw) (w12 hw) (w5 hw) (w13 hw) (show parseMethodDescriptor "(CCCI)Ljava/lang/String;" = some ⟨[.char, .char, .char, .int], some (.object "java/lang/String")⟩ by decide +kernel) rfl (str0_met hw hcs hu lk0 lk1 lk2) (fun _ q => nomatch q) rfl rfl rfl (by decide) ⟨⟨nle rfl, nle rfl⟩, nle rfl, nle rfl⟩ ?_
  intro v8 h9 hq10 _
  obtain ⟨a11, rfl, E12, S13⟩ := hq10
  have B14 : Ext h h9 := extTr B7 E12
  show WlO _ _ _ _ _ _ _ _ _ _ _ _ _ _ _ _ _ _ [.ref a11]
  refine Wl.astore 159 #[.val (.int i0), .val (.long i1), .second, .val (.long i2), .second, .val (.long i3), .second, .val (.int i4), .val (.int se), .val (.ref kw), .val (.int (3 : Int32)), .val (.int (0 : Int32)), .val (.int t0), .val (.int t1), .val (.int t2), .val (.int k0), .val (.int k1), .val (.int k2), .val (.ref a4), .val (.ref a11), .unset, .unset] at_157 rfl rfl ?_
  refine Wl.new 162 at_159 (w36 hw) (w37 hw) (w38 hw) (nle rfl) (nle rfl) ?_
  intro a15 h16 q17 E18 X19 D20
  have z21 : h.size ≤ a15 := Nat.le_trans B14.1 (Nat.le_of_eq q17.symm)
  have z22 : h9.size ≤ a15 := Nat.le_of_eq q17.symm
  have ne23 : a4 ≠ a15 := Nat.ne_of_lt (by rw [q17]; exact (((S6).exa.ext E12)).lt)
  have ne24 : a11 ≠ a15 := Nat.ne_of_lt (by rw [q17]; exact ((S13).exa).lt)
  have B25 : Ext h h16 := extTr B14 E18
  have B26 : Ext h9 h16 := E18
  have F27 : Fld Z h16 a15 "com/example/grantwork/grantwork/Token" "kind" "Lcom/example/grantwork/grantwork/Token$Kind;" (.null) := D20 (Or.inr (w49 hw)) (ty := (.object "com/example/grantwork/grantwork/Token$Kind")) (by decide)
  have F28 : Fld Z h16 a15 "com/example/grantwork/grantwork/Token" "text" "Ljava/lang/String;" (.null) := D20 (Or.inr (w51 hw)) (ty := (.object "java/lang/String")) (by decide)
  have F29 : Fld Z h16 a15 "com/example/grantwork/grantwork/Token" "length" "J" (.long 0) := D20 (Or.inr (w53 hw)) (ty := .long) (by decide)
  have F30 : Fld Z h16 a15 "com/example/grantwork/grantwork/Token" "line" "I" (.int 0) := D20 (Or.inr (w55 hw)) (ty := .int) (by decide)
  refine Wl.dup 163 at_162 rfl ?_
  refine Wl.aload 165 at_163 rfl rfl ?_
  refine Wl.aload 167 at_165 rfl rfl ?_
  refine Wl.lload 169 at_167 rfl ?_
  refine Wl.iload 171 at_169 rfl ?_
  refine Wl.special 174 (argsL := [.ref kw, .ref a4, .long i3, .int i4]) at_171 (w39 hw) (w40 hw) (w38 hw) (w41 hw) (show parseMethodDescriptor "(Lcom/example/grantwork/grantwork/Token$Kind;Ljava/lang/String;JI)V" = some ⟨[(.object "com/example/grantwork/grantwork/Token$Kind"), (.object "java/lang/String"), .long, .int], none⟩ by decide +kernel) rfl (token_met hw X19 F27 F28 F29 F30) (allS (List.mem_of_getElem? (i := 0) rfl) (fun _ q => nomatch q)) rfl rfl rfl rfl (by decide) ⟨⟨nle rfl, nle rfl⟩, nle rfl, nle rfl⟩ ?_
  intro v31 h32 hq33 _
  obtain ⟨rfl, K34, X35, F36, F37, F38, F39⟩ := hq33
  have B40 : Ext h h32 := extKeep B25 K34 (allS z21 all0)
  have B41 : Ext h9 h32 := extKeep B26 K34 (allS z22 all0)
  show WlO _ _ _ _ _ _ _ _ _ _ _ _ _ _ _ _ _ _ [.ref a15]
  refine Wl.astore 176 #[.val (.int i0), .val (.long i1), .second, .val (.long i2), .second, .val (.long i3), .second, .val (.int i4), .val (.int se), .val (.ref kw), .val (.int (3 : Int32)), .val (.int (0 : Int32)), .val (.int t0), .val (.int t1), .val (.int t2), .val (.int k0), .val (.int k1), .val (.int k2), .val (.ref a4), .val (.ref a11), .val (.ref a15), .unset] at_174 rfl rfl ?_
  refine Wl.aload 178 at_176 rfl rfl ?_
  refine Wl.getstatic 181 at_178 (w0 hw) hK.1.1 ?_
  refine Wl.acmp 184 true at_181 rfl rfl (decide_eq_true rfl) ?_
  refine Wl.iload 186 at_184 rfl ?_
  refine Wl.iload 188 at_186 rfl ?_
  refine Wl.icmpY 243 at_188 (feq (by decide)).2 ?_
  refine Wl.iconst 244 (0 : Int32) at_243 (by decide) ?_
  refine Wl.istore 246 #[.val (.int i0), .val (.long i1), .second, .val (.long i2), .second, .val (.long i3), .second, .val (.int i4), .val (.int se), .val (.ref kw), .val (.int (3 : Int32)), .val (.int (0 : Int32)), .val (.int t0), .val (.int t1), .val (.int t2), .val (.int k0), .val (.int k1), .val (.int k2), .val (.ref a4), .val (.ref a11), .val (.ref a15), .val (.int (0 : Int32))] at_244 rfl ?_
  refine Wl.aload 248 at_246 rfl rfl ?_
  refine Wl.aload 250 at_248 rfl rfl ?_
  refine Wl.virtual 253 (argsL := [.ref a11]) at_250 (w56 hw) (w57 hw) (w59 hw) (w58 hw) (w38 hw) (w60 hw) (nf_sel (w59 hw) rfl) X35 (show parseMethodDescriptor "(Ljava/lang/String;)Z" = some ⟨[(.object "java/lang/String")], some .boolean⟩ by decide +kernel) rfl (kw30_met hw hcs hfm hu hK lt0 lt1 lt2 lk0 lk1 lk2 wk0 wk1 wk2 F36 F37 ((S6.ext E12).ext B41) (S13.ext B41)) (fun _ q => nomatch q) rfl rfl rfl (by decide) ⟨⟨nle rfl, nle rfl⟩, nle rfl, nle rfl⟩ ?_
  intro v42 h43 hq44 _
  obtain ⟨rfl, rfl⟩ := hq44
  show WlO _ _ _ _ _ _ _ _ _ _ _ _ _ _ _ _ _ _ [.int (0 : Int32)]
  refine Wl.iload 255 at_253 rfl ?_
  refine Wl.icmpN 258 at_255 (teq (by decide)).2 ?_
  refine Wl.iconst 259 (1 : Int32) at_258 (by decide) ?_
  refine Wl.goto 263 at_259 ?_
  exact Wl.ireturn at_263 rfl rfl (by simp) (nle rfl) (nle rfl) rfl
set_option maxRecDepth 65536 in
set_option maxHeartbeats 40000000 in
theorem law_w31 {l : Launch} {Z : State} {a0 : Array Value} (hw : ∀ d ∈ tables_1, d.before a0 Z = true) (hcs : CSon Z) (hfm : Fmt Z) (hu : U16on Z) {as : Array Value} {h : Heap} {i0 : Int32} {i1 i2 i3 : Int64} {i4 se : Int32} {kw ks ki : Addr} {t0 t1 t2 k0 k1 k2 : Int32} (hK : Kinds Z kw ks ki) (lt0 : Ch t0) (lt1 : Ch t1) (lt2 : Ch t2) (lk0 : Ch k0) (lk1 : Ch k1) (lk2 : Ch k2) (wk0 : nlow k0) (wk1 : nlow k1) (wk2 : nlow k2) :
    Wl l Z a0 consts_1 x code maxLocals ret room_1 as (fun v h' => v = some (.int 1)) [] h 0 0 133 #[.val (.int i0), .val (.long i1), .second, .val (.long i2), .second, .val (.long i3), .second, .val (.int i4), .val (.int se), .val (.ref kw), .val (.int (3 : Int32)), .val (.int (1 : Int32)), .val (.int t0), .val (.int t1), .val (.int t2), .val (.int k0), .val (.int k1), .val (.int k2), .unset, .unset, .unset, .unset] [] := by
  refine Wl.iload 135 at_133 rfl ?_
  refine Wl.iload 137 at_135 rfl ?_
  refine Wl.iload 139 at_137 rfl ?_
  refine Wl.iload 141 at_139 rfl ?_
  refine Wl.static 144 (argsL := [.int t0, .int t1, .int t2, .int (3 : Int32)]) at_141 (w11 hw) (w12 hw) (w5 hw) (w13 hw) (show parseMethodDescriptor "(CCCI)Ljava/lang/String;" = some ⟨[.char, .char, .char, .int], some (.object "java/lang/String")⟩ by decide +kernel) rfl (str3_met hw hcs hu lt0 lt1 lt2) (fun _ q => nomatch q) rfl rfl rfl (by decide) ⟨⟨nle rfl, nle rfl⟩, nle rfl, nle rfl⟩ ?_
  intro v1 h2 hq3 _
  obtain ⟨a4, rfl, E5, S6⟩ := hq3
  have B7 : Ext h h2 := E5
  show WlO _ _ _ _ _ _ _ _ _ _ _ _ _ _ _ _ _ _ [.ref a4]
  refine Wl.astore 146 #[.val (.int i0), .val (.long i1), .second, .val (.long i2), .second, .val (.long i3), .second, .val (.int i4), .val (.int se), .val (.ref kw), .val (.int (3 : Int32)), .val (.int (1 : Int32)), .val (.int t0), .val (.int t1), .val (.int t2), .val (.int k0), .val (.int k1), .val (.int k2), .val (.ref a4), .unset, .unset, .unset] at_144 rfl rfl ?_
  refine Wl.iload 148 at_146 rfl ?_
  refine Wl.iload 150 at_148 rfl ?_
  refine Wl.iload 152 at_150 rfl ?_
  refine Wl.iload 154 at_152 rfl ?_
  refine Wl.static 157 (argsL := [.int k0, .int k1, .int k2, .int (1 : Int32)]) at_154 (w11 hw) (w12 hw) (w5 hw) (w13 hw) (show parseMethodDescriptor "(CCCI)Ljava/lang/String;" = some ⟨[.char, .char, .char, .int], some (.object "java/lang/String")⟩ by decide +kernel) rfl (str1_met hw hcs hu lk0 lk1 lk2) (fun _ q => nomatch q) rfl rfl rfl (by decide) ⟨⟨nle rfl, nle rfl⟩, nle rfl, nle rfl⟩ ?_
  intro v8 h9 hq10 _
  obtain ⟨a11, rfl, E12, S13⟩ := hq10
  have B14 : Ext h h9 := extTr B7 E12
  show WlO _ _ _ _ _ _ _ _ _ _ _ _ _ _ _ _ _ _ [.ref a11]
  refine Wl.astore 159 #[.val (.int i0), .val (.long i1), .second, .val (.long i2), .second, .val (.long i3), .second, .val (.int i4), .val (.int se), .val (.ref kw), .val (.int (3 : Int32)), .val (.int (1 : Int32)), .val (.int t0), .val (.int t1), .val (.int t2), .val (.int k0), .val (.int k1), .val (.int k2), .val (.ref a4), .val (.ref a11), .unset, .unset] at_157 rfl rfl ?_
  refine Wl.new 162 at_159 (w36 hw) (w37 hw) (w38 hw) (nle rfl) (nle rfl) ?_
  intro a15 h16 q17 E18 X19 D20
  have z21 : h.size ≤ a15 := Nat.le_trans B14.1 (Nat.le_of_eq q17.symm)
  have z22 : h9.size ≤ a15 := Nat.le_of_eq q17.symm
  have ne23 : a4 ≠ a15 := Nat.ne_of_lt (by rw [q17]; exact (((S6).exa.ext E12)).lt)
  have ne24 : a11 ≠ a15 := Nat.ne_of_lt (by rw [q17]; exact ((S13).exa).lt)
  have B25 : Ext h h16 := extTr B14 E18
  have B26 : Ext h9 h16 := E18
  have F27 : Fld Z h16 a15 "com/example/grantwork/grantwork/Token" "kind" "Lcom/example/grantwork/grantwork/Token$Kind;" (.null) := D20 (Or.inr (w49 hw)) (ty := (.object "com/example/grantwork/grantwork/Token$Kind")) (by decide)
  have F28 : Fld Z h16 a15 "com/example/grantwork/grantwork/Token" "text" "Ljava/lang/String;" (.null) := D20 (Or.inr (w51 hw)) (ty := (.object "java/lang/String")) (by decide)
  have F29 : Fld Z h16 a15 "com/example/grantwork/grantwork/Token" "length" "J" (.long 0) := D20 (Or.inr (w53 hw)) (ty := .long) (by decide)
  have F30 : Fld Z h16 a15 "com/example/grantwork/grantwork/Token" "line" "I" (.int 0) := D20 (Or.inr (w55 hw)) (ty := .int) (by decide)
  refine Wl.dup 163 at_162 rfl ?_
  refine Wl.aload 165 at_163 rfl rfl ?_
  refine Wl.aload 167 at_165 rfl rfl ?_
  refine Wl.lload 169 at_167 rfl ?_
  refine Wl.iload 171 at_169 rfl ?_
  refine Wl.special 174 (argsL := [.ref kw, .ref a4, .long i3, .int i4]) at_171 (w39 hw) (w40 hw) (w38 hw) (w41 hw) (show parseMethodDescriptor "(Lcom/example/grantwork/grantwork/Token$Kind;Ljava/lang/String;JI)V" = some ⟨[(.object "com/example/grantwork/grantwork/Token$Kind"), (.object "java/lang/String"), .long, .int], none⟩ by decide +kernel) rfl (token_met hw X19 F27 F28 F29 F30) (allS (List.mem_of_getElem? (i := 0) rfl) (fun _ q => nomatch q)) rfl rfl rfl rfl (by decide) ⟨⟨nle rfl, nle rfl⟩, nle rfl, nle rfl⟩ ?_
  intro v31 h32 hq33 _
  obtain ⟨rfl, K34, X35, F36, F37, F38, F39⟩ := hq33
  have B40 : Ext h h32 := extKeep B25 K34 (allS z21 all0)
  have B41 : Ext h9 h32 := extKeep B26 K34 (allS z22 all0)
  show WlO _ _ _ _ _ _ _ _ _ _ _ _ _ _ _ _ _ _ [.ref a15]
  refine Wl.astore 176 #[.val (.int i0), .val (.long i1), .second, .val (.long i2), .second, .val (.long i3), .second, .val (.int i4), .val (.int se), .val (.ref kw), .val (.int (3 : Int32)), .val (.int (1 : Int32)), .val (.int t0), .val (.int t1), .val (.int t2), .val (.int k0), .val (.int k1), .val (.int k2), .val (.ref a4), .val (.ref a11), .val (.ref a15), .unset] at_174 rfl rfl ?_
  refine Wl.aload 178 at_176 rfl rfl ?_
  refine Wl.getstatic 181 at_178 (w0 hw) hK.1.1 ?_
  refine Wl.acmp 184 true at_181 rfl rfl (decide_eq_true rfl) ?_
  refine Wl.iload 186 at_184 rfl ?_
  refine Wl.iload 188 at_186 rfl ?_
  refine Wl.icmpY 243 at_188 (feq (by decide)).2 ?_
  refine Wl.iconst 244 (0 : Int32) at_243 (by decide) ?_
  refine Wl.istore 246 #[.val (.int i0), .val (.long i1), .second, .val (.long i2), .second, .val (.long i3), .second, .val (.int i4), .val (.int se), .val (.ref kw), .val (.int (3 : Int32)), .val (.int (1 : Int32)), .val (.int t0), .val (.int t1), .val (.int t2), .val (.int k0), .val (.int k1), .val (.int k2), .val (.ref a4), .val (.ref a11), .val (.ref a15), .val (.int (0 : Int32))] at_244 rfl ?_
  refine Wl.aload 248 at_246 rfl rfl ?_
  refine Wl.aload 250 at_248 rfl rfl ?_
  refine Wl.virtual 253 (argsL := [.ref a11]) at_250 (w56 hw) (w57 hw) (w59 hw) (w58 hw) (w38 hw) (w60 hw) (nf_sel (w59 hw) rfl) X35 (show parseMethodDescriptor "(Ljava/lang/String;)Z" = some ⟨[(.object "java/lang/String")], some .boolean⟩ by decide +kernel) rfl (kw31_met hw hcs hfm hu hK lt0 lt1 lt2 lk0 lk1 lk2 wk0 wk1 wk2 F36 F37 ((S6.ext E12).ext B41) (S13.ext B41)) (fun _ q => nomatch q) rfl rfl rfl (by decide) ⟨⟨nle rfl, nle rfl⟩, nle rfl, nle rfl⟩ ?_
  intro v42 h43 hq44 _
  obtain ⟨rfl, rfl⟩ := hq44
  show WlO _ _ _ _ _ _ _ _ _ _ _ _ _ _ _ _ _ _ [.int (0 : Int32)]
  refine Wl.iload 255 at_253 rfl ?_
  refine Wl.icmpN 258 at_255 (teq (by decide)).2 ?_
  refine Wl.iconst 259 (1 : Int32) at_258 (by decide) ?_
  refine Wl.goto 263 at_259 ?_
  exact Wl.ireturn at_263 rfl rfl (by simp) (nle rfl) (nle rfl) rfl
set_option maxRecDepth 65536 in
set_option maxHeartbeats 40000000 in
theorem law_w32 {l : Launch} {Z : State} {a0 : Array Value} (hw : ∀ d ∈ tables_1, d.before a0 Z = true) (hcs : CSon Z) (hfm : Fmt Z) (hu : U16on Z) {as : Array Value} {h : Heap} {i0 : Int32} {i1 i2 i3 : Int64} {i4 se : Int32} {kw ks ki : Addr} {t0 t1 t2 k0 k1 k2 : Int32} (hK : Kinds Z kw ks ki) (lt0 : Ch t0) (lt1 : Ch t1) (lt2 : Ch t2) (lk0 : Ch k0) (lk1 : Ch k1) (lk2 : Ch k2) (wk0 : nlow k0) (wk1 : nlow k1) (wk2 : nlow k2) :
    Wl l Z a0 consts_1 x code maxLocals ret room_1 as (fun v h' => v = some (.int 1)) [] h 0 0 133 #[.val (.int i0), .val (.long i1), .second, .val (.long i2), .second, .val (.long i3), .second, .val (.int i4), .val (.int se), .val (.ref kw), .val (.int (3 : Int32)), .val (.int (2 : Int32)), .val (.int t0), .val (.int t1), .val (.int t2), .val (.int k0), .val (.int k1), .val (.int k2), .unset, .unset, .unset, .unset] [] := by
  refine Wl.iload 135 at_133 rfl ?_
  refine Wl.iload 137 at_135 rfl ?_
  refine Wl.iload 139 at_137 rfl ?_
  refine Wl.iload 141 at_139 rfl ?_
  refine Wl.static 144 (argsL := [.int t0, .int t1, .int t2, .int (3 : Int32)]) at_141 (w11 hw) (w12 hw) (w5 hw) (w13 hw) (show parseMethodDescriptor "(CCCI)Ljava/lang/String;" = some ⟨[.char, .char, .char, .int], some (.object "java/lang/String")⟩ by decide +kernel) rfl (str3_met hw hcs hu lt0 lt1 lt2) (fun _ q => nomatch q) rfl rfl rfl (by decide) ⟨⟨nle rfl, nle rfl⟩, nle rfl, nle rfl⟩ ?_
  intro v1 h2 hq3 _
  obtain ⟨a4, rfl, E5, S6⟩ := hq3
  have B7 : Ext h h2 := E5
  show WlO _ _ _ _ _ _ _ _ _ _ _ _ _ _ _ _ _ _ [.ref a4]
  refine Wl.astore 146 #[.val (.int i0), .val (.long i1), .second, .val (.long i2), .second, .val (.long i3), .second, .val (.int i4), .val (.int se), .val (.ref kw), .val (.int (3 : Int32)), .val (.int (2 : Int32)), .val (.int t0), .val (.int t1), .val (.int t2), .val (.int k0), .val (.int k1), .val (.int k2), .val (.ref a4), .unset, .unset, .unset] at_144 rfl rfl ?_
  refine Wl.iload 148 at_146 rfl ?_
  refine Wl.iload 150 at_148 rfl ?_
  refine Wl.iload 152 at_150 rfl ?_
  refine Wl.iload 154 at_152 rfl ?_
  refine Wl.static 157 (argsL := [.int k0, .int k1, .int k2, .int (2 : Int32)]) at_154 (w11 hw) (w12 hw) (w5 hw) (w13 hw) (show parseMethodDescriptor "(CCCI)Ljava/lang/String;" = some ⟨[.char, .char, .char, .int], some (.object "java/lang/String")⟩ by decide +kernel) rfl (str2_met hw hcs hu lk0 lk1 lk2) (fun _ q => nomatch q) rfl rfl rfl (by decide) ⟨⟨nle rfl, nle rfl⟩, nle rfl, nle rfl⟩ ?_
  intro v8 h9 hq10 _
  obtain ⟨a11, rfl, E12, S13⟩ := hq10
  have B14 : Ext h h9 := extTr B7 E12
  show WlO _ _ _ _ _ _ _ _ _ _ _ _ _ _ _ _ _ _ [.ref a11]
  refine Wl.astore 159 #[.val (.int i0), .val (.long i1), .second, .val (.long i2), .second, .val (.long i3), .second, .val (.int i4), .val (.int se), .val (.ref kw), .val (.int (3 : Int32)), .val (.int (2 : Int32)), .val (.int t0), .val (.int t1), .val (.int t2), .val (.int k0), .val (.int k1), .val (.int k2), .val (.ref a4), .val (.ref a11), .unset, .unset] at_157 rfl rfl ?_
  refine Wl.new 162 at_159 (w36 hw) (w37 hw) (w38 hw) (nle rfl) (nle rfl) ?_
  intro a15 h16 q17 E18 X19 D20
  have z21 : h.size ≤ a15 := Nat.le_trans B14.1 (Nat.le_of_eq q17.symm)
  have z22 : h9.size ≤ a15 := Nat.le_of_eq q17.symm
  have ne23 : a4 ≠ a15 := Nat.ne_of_lt (by rw [q17]; exact (((S6).exa.ext E12)).lt)
  have ne24 : a11 ≠ a15 := Nat.ne_of_lt (by rw [q17]; exact ((S13).exa).lt)
  have B25 : Ext h h16 := extTr B14 E18
  have B26 : Ext h9 h16 := E18
  have F27 : Fld Z h16 a15 "com/example/grantwork/grantwork/Token" "kind" "Lcom/example/grantwork/grantwork/Token$Kind;" (.null) := D20 (Or.inr (w49 hw)) (ty := (.object "com/example/grantwork/grantwork/Token$Kind")) (by decide)
  have F28 : Fld Z h16 a15 "com/example/grantwork/grantwork/Token" "text" "Ljava/lang/String;" (.null) := D20 (Or.inr (w51 hw)) (ty := (.object "java/lang/String")) (by decide)
  have F29 : Fld Z h16 a15 "com/example/grantwork/grantwork/Token" "length" "J" (.long 0) := D20 (Or.inr (w53 hw)) (ty := .long) (by decide)
  have F30 : Fld Z h16 a15 "com/example/grantwork/grantwork/Token" "line" "I" (.int 0) := D20 (Or.inr (w55 hw)) (ty := .int) (by decide)
  refine Wl.dup 163 at_162 rfl ?_
  refine Wl.aload 165 at_163 rfl rfl ?_
  refine Wl.aload 167 at_165 rfl rfl ?_
  refine Wl.lload 169 at_167 rfl ?_
  refine Wl.iload 171 at_169 rfl ?_
  refine Wl.special 174 (argsL := [.ref kw, .ref a4, .long i3, .int i4]) at_171 (w39 hw) (w40 hw) (w38 hw) (w41 hw) (show parseMethodDescriptor "(Lcom/example/grantwork/grantwork/Token$Kind;Ljava/lang/String;JI)V" = some ⟨[(.object "com/example/grantwork/grantwork/Token$Kind"), (.object "java/lang/String"), .long, .int], none⟩ by decide +kernel) rfl (token_met hw X19 F27 F28 F29 F30) (allS (List.mem_of_getElem? (i := 0) rfl) (fun _ q => nomatch q)) rfl rfl rfl rfl (by decide) ⟨⟨nle rfl, nle rfl⟩, nle rfl, nle rfl⟩ ?_
  intro v31 h32 hq33 _
  obtain ⟨rfl, K34, X35, F36, F37, F38, F39⟩ := hq33
  have B40 : Ext h h32 := extKeep B25 K34 (allS z21 all0)
  have B41 : Ext h9 h32 := extKeep B26 K34 (allS z22 all0)
  show WlO _ _ _ _ _ _ _ _ _ _ _ _ _ _ _ _ _ _ [.ref a15]
  refine Wl.astore 176 #[.val (.int i0), .val (.long i1), .second, .val (.long i2), .second, .val (.long i3), .second, .val (.int i4), .val (.int se), .val (.ref kw), .val (.int (3 : Int32)), .val (.int (2 : Int32)), .val (.int t0), .val (.int t1), .val (.int t2), .val (.int k0), .val (.int k1), .val (.int k2), .val (.ref a4), .val (.ref a11), .val (.ref a15), .unset] at_174 rfl rfl ?_
  refine Wl.aload 178 at_176 rfl rfl ?_
  refine Wl.getstatic 181 at_178 (w0 hw) hK.1.1 ?_
  refine Wl.acmp 184 true at_181 rfl rfl (decide_eq_true rfl) ?_
  refine Wl.iload 186 at_184 rfl ?_
  refine Wl.iload 188 at_186 rfl ?_
  refine Wl.icmpY 243 at_188 (feq (by decide)).2 ?_
  refine Wl.iconst 244 (0 : Int32) at_243 (by decide) ?_
  refine Wl.istore 246 #[.val (.int i0), .val (.long i1), .second, .val (.long i2), .second, .val (.long i3), .second, .val (.int i4), .val (.int se), .val (.ref kw), .val (.int (3 : Int32)), .val (.int (2 : Int32)), .val (.int t0), .val (.int t1), .val (.int t2), .val (.int k0), .val (.int k1), .val (.int k2), .val (.ref a4), .val (.ref a11), .val (.ref a15), .val (.int (0 : Int32))] at_244 rfl ?_
  refine Wl.aload 248 at_246 rfl rfl ?_
  refine Wl.aload 250 at_248 rfl rfl ?_
  refine Wl.virtual 253 (argsL := [.ref a11]) at_250 (w56 hw) (w57 hw) (w59 hw) (w58 hw) (w38 hw) (w60 hw) (nf_sel (w59 hw) rfl) X35 (show parseMethodDescriptor "(Ljava/lang/String;)Z" = some ⟨[(.object "java/lang/String")], some .boolean⟩ by decide +kernel) rfl (kw32_met hw hcs hfm hu hK lt0 lt1 lt2 lk0 lk1 lk2 wk0 wk1 wk2 F36 F37 ((S6.ext E12).ext B41) (S13.ext B41)) (fun _ q => nomatch q) rfl rfl rfl (by decide) ⟨⟨nle rfl, nle rfl⟩, nle rfl, nle rfl⟩ ?_
  intro v42 h43 hq44 _
  obtain ⟨rfl, rfl⟩ := hq44
  show WlO _ _ _ _ _ _ _ _ _ _ _ _ _ _ _ _ _ _ [.int (0 : Int32)]
  refine Wl.iload 255 at_253 rfl ?_
  refine Wl.icmpN 258 at_255 (teq (by decide)).2 ?_
  refine Wl.iconst 259 (1 : Int32) at_258 (by decide) ?_
  refine Wl.goto 263 at_259 ?_
  exact Wl.ireturn at_263 rfl rfl (by simp) (nle rfl) (nle rfl) rfl
set_option maxRecDepth 65536 in
set_option maxHeartbeats 40000000 in
theorem law_w33 {l : Launch} {Z : State} {a0 : Array Value} (hw : ∀ d ∈ tables_1, d.before a0 Z = true) (hcs : CSon Z) (hfm : Fmt Z) (hu : U16on Z) {as : Array Value} {h : Heap} {i0 : Int32} {i1 i2 i3 : Int64} {i4 se : Int32} {kw ks ki : Addr} {t0 t1 t2 k0 k1 k2 : Int32} (hK : Kinds Z kw ks ki) (lt0 : Ch t0) (lt1 : Ch t1) (lt2 : Ch t2) (lk0 : Ch k0) (lk1 : Ch k1) (lk2 : Ch k2) (wk0 : nlow k0) (wk1 : nlow k1) (wk2 : nlow k2) :
    Wl l Z a0 consts_1 x code maxLocals ret room_1 as (fun v h' => v = some (.int 1)) [] h 0 0 133 #[.val (.int i0), .val (.long i1), .second, .val (.long i2), .second, .val (.long i3), .second, .val (.int i4), .val (.int se), .val (.ref kw), .val (.int (3 : Int32)), .val (.int (3 : Int32)), .val (.int t0), .val (.int t1), .val (.int t2), .val (.int k0), .val (.int k1), .val (.int k2), .unset, .unset, .unset, .unset] [] := by
  refine Wl.iload 135 at_133 rfl ?_
  refine Wl.iload 137 at_135 rfl ?_
  refine Wl.iload 139 at_137 rfl ?_
  refine Wl.iload 141 at_139 rfl ?_
  refine Wl.static 144 (argsL := [.int t0, .int t1, .int t2, .int (3 : Int32)]) at_141 (w11 hw) (w12 hw) (w5 hw) (w13 hw) (show parseMethodDescriptor "(CCCI)Ljava/lang/String;" = some ⟨[.char, .char, .char, .int], some (.object "java/lang/String")⟩ by decide +kernel) rfl (str3_met hw hcs hu lt0 lt1 lt2) (fun _ q => nomatch q) rfl rfl rfl (by decide) ⟨⟨nle rfl, nle rfl⟩, nle rfl, nle rfl⟩ ?_
  intro v1 h2 hq3 _
  obtain ⟨a4, rfl, E5, S6⟩ := hq3
  have B7 : Ext h h2 := E5
  show WlO _ _ _ _ _ _ _ _ _ _ _ _ _ _ _ _ _ _ [.ref a4]
  refine Wl.astore 146 #[.val (.int i0), .val (.long i1), .second, .val (.long i2), .second, .val (.long i3), .second, .val (.int i4), .val (.int se), .val (.ref kw), .val (.int (3 : Int32)), .val (.int (3 : Int32)), .val (.int t0), .val (.int t1), .val (.int t2), .val (.int k0), .val (.int k1), .val (.int k2), .val (.ref a4), .unset, .unset, .unset] at_144 rfl rfl ?_
  refine Wl.iload 148 at_146 rfl ?_
  refine Wl.iload 150 at_148 rfl ?_
  refine Wl.iload 152 at_150 rfl ?_
  refine Wl.iload 154 at_152 rfl ?_
  refine Wl.static 157 (argsL := [.int k0, .int k1, .int k2, .int (3 : Int32)]) at_154 (w11 hw) (w12 hw) (w5 hw) (w13 hw) (show parseMethodDescriptor "(CCCI)Ljava/lang/String;" = some ⟨[.char, .char, .char, .int], some (.object "java/lang/String")⟩ by decide +kernel) rfl (str3_met hw hcs hu lk0 lk1 lk2) (fun _ q => nomatch q) rfl rfl rfl (by decide) ⟨⟨nle rfl, nle rfl⟩, nle rfl, nle rfl⟩ ?_
  intro v8 h9 hq10 _
  obtain ⟨a11, rfl, E12, S13⟩ := hq10
  have B14 : Ext h h9 := extTr B7 E12
  show WlO _ _ _ _ _ _ _ _ _ _ _ _ _ _ _ _ _ _ [.ref a11]
  refine Wl.astore 159 #[.val (.int i0), .val (.long i1), .second, .val (.long i2), .second, .val (.long i3), .second, .val (.int i4), .val (.int se), .val (.ref kw), .val (.int (3 : Int32)), .val (.int (3 : Int32)), .val (.int t0), .val (.int t1), .val (.int t2), .val (.int k0), .val (.int k1), .val (.int k2), .val (.ref a4), .val (.ref a11), .unset, .unset] at_157 rfl rfl ?_
  refine Wl.new 162 at_159 (w36 hw) (w37 hw) (w38 hw) (nle rfl) (nle rfl) ?_
  intro a15 h16 q17 E18 X19 D20
  have z21 : h.size ≤ a15 := Nat.le_trans B14.1 (Nat.le_of_eq q17.symm)
  have z22 : h9.size ≤ a15 := Nat.le_of_eq q17.symm
  have ne23 : a4 ≠ a15 := Nat.ne_of_lt (by rw [q17]; exact (((S6).exa.ext E12)).lt)
  have ne24 : a11 ≠ a15 := Nat.ne_of_lt (by rw [q17]; exact ((S13).exa).lt)
  have B25 : Ext h h16 := extTr B14 E18
  have B26 : Ext h9 h16 := E18
  have F27 : Fld Z h16 a15 "com/example/grantwork/grantwork/Token" "kind" "Lcom/example/grantwork/grantwork/Token$Kind;" (.null) := D20 (Or.inr (w49 hw)) (ty := (.object "com/example/grantwork/grantwork/Token$Kind")) (by decide)
  have F28 : Fld Z h16 a15 "com/example/grantwork/grantwork/Token" "text" "Ljava/lang/String;" (.null) := D20 (Or.inr (w51 hw)) (ty := (.object "java/lang/String")) (by decide)
  have F29 : Fld Z h16 a15 "com/example/grantwork/grantwork/Token" "length" "J" (.long 0) := D20 (Or.inr (w53 hw)) (ty := .long) (by decide)
  have F30 : Fld Z h16 a15 "com/example/grantwork/grantwork/Token" "line" "I" (.int 0) := D20 (Or.inr (w55 hw)) (ty := .int) (by decide)
  refine Wl.dup 163 at_162 rfl ?_
  refine Wl.aload 165 at_163 rfl rfl ?_
  refine Wl.aload 167 at_165 rfl rfl ?_
  refine Wl.lload 169 at_167 rfl ?_
  refine Wl.iload 171 at_169 rfl ?_
  refine Wl.special 174 (argsL := [.ref kw, .ref a4, .long i3, .int i4]) at_171 (w39 hw) (w40 hw) (w38 hw) (w41 hw) (show parseMethodDescriptor "(Lcom/example/grantwork/grantwork/Token$Kind;Ljava/lang/String;JI)V" = some ⟨[(.object "com/example/grantwork/grantwork/Token$Kind"), (.object "java/lang/String"), .long, .int], none⟩ by decide +kernel) rfl (token_met hw X19 F27 F28 F29 F30) (allS (List.mem_of_getElem? (i := 0) rfl) (fun _ q => nomatch q)) rfl rfl rfl rfl (by decide) ⟨⟨nle rfl, nle rfl⟩, nle rfl, nle rfl⟩ ?_
  intro v31 h32 hq33 _
  obtain ⟨rfl, K34, X35, F36, F37, F38, F39⟩ := hq33
  have B40 : Ext h h32 := extKeep B25 K34 (allS z21 all0)
  have B41 : Ext h9 h32 := extKeep B26 K34 (allS z22 all0)
  show WlO _ _ _ _ _ _ _ _ _ _ _ _ _ _ _ _ _ _ [.ref a15]
  refine Wl.astore 176 #[.val (.int i0), .val (.long i1), .second, .val (.long i2), .second, .val (.long i3), .second, .val (.int i4), .val (.int se), .val (.ref kw), .val (.int (3 : Int32)), .val (.int (3 : Int32)), .val (.int t0), .val (.int t1), .val (.int t2), .val (.int k0), .val (.int k1), .val (.int k2), .val (.ref a4), .val (.ref a11), .val (.ref a15), .unset] at_174 rfl rfl ?_
  refine Wl.aload 178 at_176 rfl rfl ?_
  refine Wl.getstatic 181 at_178 (w0 hw) hK.1.1 ?_
  refine Wl.acmp 184 true at_181 rfl rfl (decide_eq_true rfl) ?_
  refine Wl.iload 186 at_184 rfl ?_
  refine Wl.iload 188 at_186 rfl ?_
  refine Wl.icmpN 191 at_188 (teq (by decide)).2 ?_
  refine Wl.iload 193 at_191 rfl ?_
  refine Wl.iconst 194 (1 : Int32) at_193 (by decide) ?_
  refine Wl.icmpN 197 at_194 (flt (by decide)).1 ?_
  refine Wl.iload 199 at_197 rfl ?_
  refine Wl.iload 201 at_199 rfl ?_
  refine Wl.static 204 (argsL := [.int t0, .int k0]) at_201 (w87 hw) (w88 hw) (w5 hw) (w89 hw) (show parseMethodDescriptor "(CC)Z" = some ⟨[.char, .char], some .boolean⟩ by decide +kernel) rfl (same_met hw) (fun _ q => nomatch q) rfl rfl rfl (by decide) ⟨⟨nle rfl, nle rfl⟩, nle rfl, nle rfl⟩ ?_
  intro v42 h43 hq44 _
  obtain ⟨rfl, rfl⟩ := hq44
  show WlO _ _ _ _ _ _ _ _ _ _ _ _ _ _ _ _ _ _ [.int (sameI t0 k0)]
  by_cases c45 : (sameI t0 k0) = (0 : Int32)
  · refine Wl.ifY 243 at_204 (teq c45).1 ?_
    refine Wl.iconst 244 (0 : Int32) at_243 (by decide) ?_
    refine Wl.istore 246 #[.val (.int i0), .val (.long i1), .second, .val (.long i2), .second, .val (.long i3), .second, .val (.int i4), .val (.int se), .val (.ref kw), .val (.int (3 : Int32)), .val (.int (3 : Int32)), .val (.int t0), .val (.int t1), .val (.int t2), .val (.int k0), .val (.int k1), .val (.int k2), .val (.ref a4), .val (.ref a11), .val (.ref a15), .val (.int (0 : Int32))] at_244 rfl ?_
    refine Wl.aload 248 at_246 rfl rfl ?_
    refine Wl.aload 250 at_248 rfl rfl ?_
    refine Wl.virtual 253 (argsL := [.ref a11]) at_250 (w56 hw) (w57 hw) (w59 hw) (w58 hw) (w38 hw) (w60 hw) (nf_sel (w59 hw) rfl) X35 (show parseMethodDescriptor "(Ljava/lang/String;)Z" = some ⟨[(.object "java/lang/String")], some .boolean⟩ by decide +kernel) rfl (kw33_met hw hcs hfm hu hK lt0 lt1 lt2 lk0 lk1 lk2 wk0 wk1 wk2 F36 F37 ((S6.ext E12).ext B41) (S13.ext B41)) (fun _ q => nomatch q) rfl rfl rfl (by decide) ⟨⟨nle rfl, nle rfl⟩, nle rfl, nle rfl⟩ ?_
    intro v46 h47 hq48 _
    rw [show kwI [(t0, k0), (t1, k1), (t2, k2)] = (0 : Int32) from (kw_0 c45)] at hq48
    obtain ⟨rfl, rfl⟩ := hq48
    show WlO _ _ _ _ _ _ _ _ _ _ _ _ _ _ _ _ _ _ [.int (0 : Int32)]
    refine Wl.iload 255 at_253 rfl ?_
    refine Wl.icmpN 258 at_255 (teq (by decide)).2 ?_
    refine Wl.iconst 259 (1 : Int32) at_258 (by decide) ?_
    refine Wl.goto 263 at_259 ?_
    exact Wl.ireturn at_263 rfl rfl (by simp) (nle rfl) (nle rfl) rfl
  · refine Wl.ifN 207 at_204 (feq c45).1 ?_
    refine Wl.iload 209 at_207 rfl ?_
    refine Wl.iconst 210 (2 : Int32) at_209 (by decide) ?_
    refine Wl.icmpN 213 at_210 (flt (by decide)).1 ?_
    refine Wl.iload 215 at_213 rfl ?_
    refine Wl.iload 217 at_215 rfl ?_
    refine Wl.static 220 (argsL := [.int t1, .int k1]) at_217 (w87 hw) (w88 hw) (w5 hw) (w89 hw) (show parseMethodDescriptor "(CC)Z" = some ⟨[.char, .char], some .boolean⟩ by decide +kernel) rfl (same_met hw) (fun _ q => nomatch q) rfl rfl rfl (by decide) ⟨⟨nle rfl, nle rfl⟩, nle rfl, nle rfl⟩ ?_
    intro v49 h50 hq51 _
    obtain ⟨rfl, rfl⟩ := hq51
    show WlO _ _ _ _ _ _ _ _ _ _ _ _ _ _ _ _ _ _ [.int (sameI t1 k1)]
    by_cases c52 : (sameI t1 k1) = (0 : Int32)
    · refine Wl.ifY 243 at_220 (teq c52).1 ?_
      refine Wl.iconst 244 (0 : Int32) at_243 (by decide) ?_
      refine Wl.istore 246 #[.val (.int i0), .val (.long i1), .second, .val (.long i2), .second, .val (.long i3), .second, .val (.int i4), .val (.int se), .val (.ref kw), .val (.int (3 : Int32)), .val (.int (3 : Int32)), .val (.int t0), .val (.int t1), .val (.int t2), .val (.int k0), .val (.int k1), .val (.int k2), .val (.ref a4), .val (.ref a11), .val (.ref a15), .val (.int (0 : Int32))] at_244 rfl ?_
      refine Wl.aload 248 at_246 rfl rfl ?_
      refine Wl.aload 250 at_248 rfl rfl ?_
      refine Wl.virtual 253 (argsL := [.ref a11]) at_250 (w56 hw) (w57 hw) (w59 hw) (w58 hw) (w38 hw) (w60 hw) (nf_sel (w59 hw) rfl) X35 (show parseMethodDescriptor "(Ljava/lang/String;)Z" = some ⟨[(.object "java/lang/String")], some .boolean⟩ by decide +kernel) rfl (kw33_met hw hcs hfm hu hK lt0 lt1 lt2 lk0 lk1 lk2 wk0 wk1 wk2 F36 F37 ((S6.ext E12).ext B41) (S13.ext B41)) (fun _ q => nomatch q) rfl rfl rfl (by decide) ⟨⟨nle rfl, nle rfl⟩, nle rfl, nle rfl⟩ ?_
      intro v53 h54 hq55 _
      rw [show kwI [(t0, k0), (t1, k1), (t2, k2)] = (0 : Int32) from (kw_n c45 (kw_0 c52))] at hq55
      obtain ⟨rfl, rfl⟩ := hq55
      show WlO _ _ _ _ _ _ _ _ _ _ _ _ _ _ _ _ _ _ [.int (0 : Int32)]
      refine Wl.iload 255 at_253 rfl ?_
      refine Wl.icmpN 258 at_255 (teq (by decide)).2 ?_
      refine Wl.iconst 259 (1 : Int32) at_258 (by decide) ?_
      refine Wl.goto 263 at_259 ?_
      exact Wl.ireturn at_263 rfl rfl (by simp) (nle rfl) (nle rfl) rfl
    · refine Wl.ifN 223 at_220 (feq c52).1 ?_
      refine Wl.iload 225 at_223 rfl ?_
      refine Wl.iconst 226 (3 : Int32) at_225 (by decide) ?_
      refine Wl.icmpN 229 at_226 (flt (by decide)).1 ?_
      refine Wl.iload 231 at_229 rfl ?_
      refine Wl.iload 233 at_231 rfl ?_
      refine Wl.static 236 (argsL := [.int t2, .int k2]) at_233 (w87 hw) (w88 hw) (w5 hw) (w89 hw) (show parseMethodDescriptor "(CC)Z" = some ⟨[.char, .char], some .boolean⟩ by decide +kernel) rfl (same_met hw) (fun _ q => nomatch q) rfl rfl rfl (by decide) ⟨⟨nle rfl, nle rfl⟩, nle rfl, nle rfl⟩ ?_
      intro v56 h57 hq58 _
      obtain ⟨rfl, rfl⟩ := hq58
      show WlO _ _ _ _ _ _ _ _ _ _ _ _ _ _ _ _ _ _ [.int (sameI t2 k2)]
      by_cases c59 : (sameI t2 k2) = (0 : Int32)
      · refine Wl.ifY 243 at_236 (teq c59).1 ?_
        refine Wl.iconst 244 (0 : Int32) at_243 (by decide) ?_
        refine Wl.istore 246 #[.val (.int i0), .val (.long i1), .second, .val (.long i2), .second, .val (.long i3), .second, .val (.int i4), .val (.int se), .val (.ref kw), .val (.int (3 : Int32)), .val (.int (3 : Int32)), .val (.int t0), .val (.int t1), .val (.int t2), .val (.int k0), .val (.int k1), .val (.int k2), .val (.ref a4), .val (.ref a11), .val (.ref a15), .val (.int (0 : Int32))] at_244 rfl ?_
        refine Wl.aload 248 at_246 rfl rfl ?_
        refine Wl.aload 250 at_248 rfl rfl ?_
        refine Wl.virtual 253 (argsL := [.ref a11]) at_250 (w56 hw) (w57 hw) (w59 hw) (w58 hw) (w38 hw) (w60 hw) (nf_sel (w59 hw) rfl) X35 (show parseMethodDescriptor "(Ljava/lang/String;)Z" = some ⟨[(.object "java/lang/String")], some .boolean⟩ by decide +kernel) rfl (kw33_met hw hcs hfm hu hK lt0 lt1 lt2 lk0 lk1 lk2 wk0 wk1 wk2 F36 F37 ((S6.ext E12).ext B41) (S13.ext B41)) (fun _ q => nomatch q) rfl rfl rfl (by decide) ⟨⟨nle rfl, nle rfl⟩, nle rfl, nle rfl⟩ ?_
        intro v60 h61 hq62 _
        rw [show kwI [(t0, k0), (t1, k1), (t2, k2)] = (0 : Int32) from (kw_n c45 (kw_n c52 (kw_0 c59)))] at hq62
        obtain ⟨rfl, rfl⟩ := hq62
        show WlO _ _ _ _ _ _ _ _ _ _ _ _ _ _ _ _ _ _ [.int (0 : Int32)]
        refine Wl.iload 255 at_253 rfl ?_
        refine Wl.icmpN 258 at_255 (teq (by decide)).2 ?_
        refine Wl.iconst 259 (1 : Int32) at_258 (by decide) ?_
        refine Wl.goto 263 at_259 ?_
        exact Wl.ireturn at_263 rfl rfl (by simp) (nle rfl) (nle rfl) rfl
      · refine Wl.ifN 239 at_236 (feq c59).1 ?_
        refine Wl.iconst 240 (1 : Int32) at_239 (by decide) ?_
        refine Wl.goto 244 at_240 ?_
        refine Wl.istore 246 #[.val (.int i0), .val (.long i1), .second, .val (.long i2), .second, .val (.long i3), .second, .val (.int i4), .val (.int se), .val (.ref kw), .val (.int (3 : Int32)), .val (.int (3 : Int32)), .val (.int t0), .val (.int t1), .val (.int t2), .val (.int k0), .val (.int k1), .val (.int k2), .val (.ref a4), .val (.ref a11), .val (.ref a15), .val (.int (1 : Int32))] at_244 rfl ?_
        refine Wl.aload 248 at_246 rfl rfl ?_
        refine Wl.aload 250 at_248 rfl rfl ?_
        refine Wl.virtual 253 (argsL := [.ref a11]) at_250 (w56 hw) (w57 hw) (w59 hw) (w58 hw) (w38 hw) (w60 hw) (nf_sel (w59 hw) rfl) X35 (show parseMethodDescriptor "(Ljava/lang/String;)Z" = some ⟨[(.object "java/lang/String")], some .boolean⟩ by decide +kernel) rfl (kw33_met hw hcs hfm hu hK lt0 lt1 lt2 lk0 lk1 lk2 wk0 wk1 wk2 F36 F37 ((S6.ext E12).ext B41) (S13.ext B41)) (fun _ q => nomatch q) rfl rfl rfl (by decide) ⟨⟨nle rfl, nle rfl⟩, nle rfl, nle rfl⟩ ?_
        intro v63 h64 hq65 _
        rw [show kwI [(t0, k0), (t1, k1), (t2, k2)] = (1 : Int32) from (kw_n c45 (kw_n c52 (kw_n c59 rfl)))] at hq65
        obtain ⟨rfl, rfl⟩ := hq65
        show WlO _ _ _ _ _ _ _ _ _ _ _ _ _ _ _ _ _ _ [.int (1 : Int32)]
        refine Wl.iload 255 at_253 rfl ?_
        refine Wl.icmpN 258 at_255 (teq (by decide)).2 ?_
        refine Wl.iconst 259 (1 : Int32) at_258 (by decide) ?_
        refine Wl.goto 263 at_259 ?_
        exact Wl.ireturn at_263 rfl rfl (by simp) (nle rfl) (nle rfl) rfl
set_option maxRecDepth 65536 in
set_option maxHeartbeats 40000000 in
theorem law_o00 {l : Launch} {Z : State} {a0 : Array Value} (hw : ∀ d ∈ tables_1, d.before a0 Z = true) (hcs : CSon Z) (hfm : Fmt Z) (hu : U16on Z) {as : Array Value} {h : Heap} {i0 : Int32} {i1 i2 i3 : Int64} {i4 se : Int32} {kk kw ks ki : Addr} {t0 t1 t2 k0 k1 k2 : Int32} (hK : Kinds Z kw ks ki) (hkk : kk ≠ kw) (lt0 : Ch t0) (lt1 : Ch t1) (lt2 : Ch t2) (lk0 : Ch k0) (lk1 : Ch k1) (lk2 : Ch k2) (wk0 : nlow k0) (wk1 : nlow k1) (wk2 : nlow k2) :
    Wl l Z a0 consts_1 x code maxLocals ret room_1 as (fun v h' => v = some (.int 1)) [] h 0 0 133 #[.val (.int i0), .val (.long i1), .second, .val (.long i2), .second, .val (.long i3), .second, .val (.int i4), .val (.int se), .val (.ref kk), .val (.int (0 : Int32)), .val (.int (0 : Int32)), .val (.int t0), .val (.int t1), .val (.int t2), .val (.int k0), .val (.int k1), .val (.int k2), .unset, .unset, .unset, .unset] [] := by
  refine Wl.iload 135 at_133 rfl ?_
  refine Wl.iload 137 at_135 rfl ?_
  refine Wl.iload 139 at_137 rfl ?_
  refine Wl.iload 141 at_139 rfl ?_
  refine Wl.static 144 (argsL := [.int t0, .int t1, .int t2, .int (0 : Int32)]) at_141 (w11 hw) (w12 hw) (w5 hw) (w13 hw) (show parseMethodDescriptor "(CCCI)Ljava/lang/String;" = some ⟨[.char, .char, .char, .int], some (.object "java/lang/String")⟩ by decide +kernel) rfl (str0_met hw hcs hu lt0 lt1 lt2) (fun _ q => nomatch q) rfl rfl rfl (by decide) ⟨⟨nle rfl, nle rfl⟩, nle rfl, nle rfl⟩ ?_
  intro v1 h2 hq3 _
  obtain ⟨a4, rfl, E5, S6⟩ := hq3
  have B7 : Ext h h2 := E5
  show WlO _ _ _ _ _ _ _ _ _ _ _ _ _ _ _ _ _ _ [.ref a4]
  refine Wl.astore 146 #[.val (.int i0), .val (.long i1), .second, .val (.long i2), .second, .val (.long i3), .second, .val (.int i4), .val (.int se), .val (.ref kk), .val (.int (0 : Int32)), .val (.int (0 : Int32)), .val (.int t0), .val (.int t1), .val (.int t2), .val (.int k0), .val (.int k1), .val (.int k2), .val (.ref a4), .unset, .unset, .unset] at_144 rfl rfl ?_
  refine Wl.iload 148 at_146 rfl ?_
  refine Wl.iload 150 at_148 rfl ?_
  refine Wl.iload 152 at_150 rfl ?_
  refine Wl.iload 154 at_152 rfl ?_
  refine Wl.static 157 (argsL := [.int k0, .int k1, .int k2, .int (0 : Int32)]) at_154 (w11 hw) (w12 hw) (w5 hw) (w13 hw) (show parseMethodDescriptor "(CCCI)Ljava/lang/String;" = some ⟨[.char, .char, .char, .int], some (.object "java/lang/String")⟩ by decide +kernel) rfl (str0_met hw hcs hu lk0 lk1 lk2) (fun _ q => nomatch q) rfl rfl rfl (by decide) ⟨⟨nle rfl, nle rfl⟩, nle rfl, nle rfl⟩ ?_
  intro v8 h9 hq10 _
  obtain ⟨a11, rfl, E12, S13⟩ := hq10
  have B14 : Ext h h9 := extTr B7 E12
  show WlO _ _ _ _ _ _ _ _ _ _ _ _ _ _ _ _ _ _ [.ref a11]
  refine Wl.astore 159 #[.val (.int i0), .val (.long i1), .second, .val (.long i2), .second, .val (.long i3), .second, .val (.int i4), .val (.int se), .val (.ref kk), .val (.int (0 : Int32)), .val (.int (0 : Int32)), .val (.int t0), .val (.int t1), .val (.int t2), .val (.int k0), .val (.int k1), .val (.int k2), .val (.ref a4), .val (.ref a11), .unset, .unset] at_157 rfl rfl ?_
  refine Wl.new 162 at_159 (w36 hw) (w37 hw) (w38 hw) (nle rfl) (nle rfl) ?_
  intro a15 h16 q17 E18 X19 D20
  have z21 : h.size ≤ a15 := Nat.le_trans B14.1 (Nat.le_of_eq q17.symm)
  have z22 : h9.size ≤ a15 := Nat.le_of_eq q17.symm
  have ne23 : a4 ≠ a15 := Nat.ne_of_lt (by rw [q17]; exact (((S6).exa.ext E12)).lt)
  have ne24 : a11 ≠ a15 := Nat.ne_of_lt (by rw [q17]; exact ((S13).exa).lt)
  have B25 : Ext h h16 := extTr B14 E18
  have B26 : Ext h9 h16 := E18
  have F27 : Fld Z h16 a15 "com/example/grantwork/grantwork/Token" "kind" "Lcom/example/grantwork/grantwork/Token$Kind;" (.null) := D20 (Or.inr (w49 hw)) (ty := (.object "com/example/grantwork/grantwork/Token$Kind")) (by decide)
  have F28 : Fld Z h16 a15 "com/example/grantwork/grantwork/Token" "text" "Ljava/lang/String;" (.null) := D20 (Or.inr (w51 hw)) (ty := (.object "java/lang/String")) (by decide)
  have F29 : Fld Z h16 a15 "com/example/grantwork/grantwork/Token" "length" "J" (.long 0) := D20 (Or.inr (w53 hw)) (ty := .long) (by decide)
  have F30 : Fld Z h16 a15 "com/example/grantwork/grantwork/Token" "line" "I" (.int 0) := D20 (Or.inr (w55 hw)) (ty := .int) (by decide)
  refine Wl.dup 163 at_162 rfl ?_
  refine Wl.aload 165 at_163 rfl rfl ?_
  refine Wl.aload 167 at_165 rfl rfl ?_
  refine Wl.lload 169 at_167 rfl ?_
  refine Wl.iload 171 at_169 rfl ?_
  refine Wl.special 174 (argsL := [.ref kk, .ref a4, .long i3, .int i4]) at_171 (w39 hw) (w40 hw) (w38 hw) (w41 hw) (show parseMethodDescriptor "(Lcom/example/grantwork/grantwork/Token$Kind;Ljava/lang/String;JI)V" = some ⟨[(.object "com/example/grantwork/grantwork/Token$Kind"), (.object "java/lang/String"), .long, .int], none⟩ by decide +kernel) rfl (token_met hw X19 F27 F28 F29 F30) (allS (List.mem_of_getElem? (i := 0) rfl) (fun _ q => nomatch q)) rfl rfl rfl rfl (by decide) ⟨⟨nle rfl, nle rfl⟩, nle rfl, nle rfl⟩ ?_
  intro v31 h32 hq33 _
  obtain ⟨rfl, K34, X35, F36, F37, F38, F39⟩ := hq33
  have B40 : Ext h h32 := extKeep B25 K34 (allS z21 all0)
  have B41 : Ext h9 h32 := extKeep B26 K34 (allS z22 all0)
  show WlO _ _ _ _ _ _ _ _ _ _ _ _ _ _ _ _ _ _ [.ref a15]
  refine Wl.astore 176 #[.val (.int i0), .val (.long i1), .second, .val (.long i2), .second, .val (.long i3), .second, .val (.int i4), .val (.int se), .val (.ref kk), .val (.int (0 : Int32)), .val (.int (0 : Int32)), .val (.int t0), .val (.int t1), .val (.int t2), .val (.int k0), .val (.int k1), .val (.int k2), .val (.ref a4), .val (.ref a11), .val (.ref a15), .unset] at_174 rfl rfl ?_
  refine Wl.aload 178 at_176 rfl rfl ?_
  refine Wl.getstatic 181 at_178 (w0 hw) hK.1.1 ?_
  refine Wl.acmp 243 false at_181 rfl rfl (decide_eq_false fun q => hkk (Value.ref.inj q)) ?_
  refine Wl.iconst 244 (0 : Int32) at_243 (by decide) ?_
  refine Wl.istore 246 #[.val (.int i0), .val (.long i1), .second, .val (.long i2), .second, .val (.long i3), .second, .val (.int i4), .val (.int se), .val (.ref kk), .val (.int (0 : Int32)), .val (.int (0 : Int32)), .val (.int t0), .val (.int t1), .val (.int t2), .val (.int k0), .val (.int k1), .val (.int k2), .val (.ref a4), .val (.ref a11), .val (.ref a15), .val (.int (0 : Int32))] at_244 rfl ?_
  refine Wl.aload 248 at_246 rfl rfl ?_
  refine Wl.aload 250 at_248 rfl rfl ?_
  refine Wl.virtual 253 (argsL := [.ref a11]) at_250 (w56 hw) (w57 hw) (w59 hw) (w58 hw) (w38 hw) (w60 hw) (nf_sel (w59 hw) rfl) X35 (show parseMethodDescriptor "(Ljava/lang/String;)Z" = some ⟨[(.object "java/lang/String")], some .boolean⟩ by decide +kernel) rfl (kwN_met hw hK hkk F36 F37) (fun _ q => nomatch q) rfl rfl rfl (by decide) ⟨⟨nle rfl, nle rfl⟩, nle rfl, nle rfl⟩ ?_
  intro v42 h43 hq44 _
  obtain ⟨rfl, rfl⟩ := hq44
  show WlO _ _ _ _ _ _ _ _ _ _ _ _ _ _ _ _ _ _ [.int (0 : Int32)]
  refine Wl.iload 255 at_253 rfl ?_
  refine Wl.icmpN 258 at_255 (teq (by decide)).2 ?_
  refine Wl.iconst 259 (1 : Int32) at_258 (by decide) ?_
  refine Wl.goto 263 at_259 ?_
  exact Wl.ireturn at_263 rfl rfl (by simp) (nle rfl) (nle rfl) rfl
set_option maxRecDepth 65536 in
set_option maxHeartbeats 40000000 in
theorem law_o01 {l : Launch} {Z : State} {a0 : Array Value} (hw : ∀ d ∈ tables_1, d.before a0 Z = true) (hcs : CSon Z) (hfm : Fmt Z) (hu : U16on Z) {as : Array Value} {h : Heap} {i0 : Int32} {i1 i2 i3 : Int64} {i4 se : Int32} {kk kw ks ki : Addr} {t0 t1 t2 k0 k1 k2 : Int32} (hK : Kinds Z kw ks ki) (hkk : kk ≠ kw) (lt0 : Ch t0) (lt1 : Ch t1) (lt2 : Ch t2) (lk0 : Ch k0) (lk1 : Ch k1) (lk2 : Ch k2) (wk0 : nlow k0) (wk1 : nlow k1) (wk2 : nlow k2) :
    Wl l Z a0 consts_1 x code maxLocals ret room_1 as (fun v h' => v = some (.int 1)) [] h 0 0 133 #[.val (.int i0), .val (.long i1), .second, .val (.long i2), .second, .val (.long i3), .second, .val (.int i4), .val (.int se), .val (.ref kk), .val (.int (0 : Int32)), .val (.int (1 : Int32)), .val (.int t0), .val (.int t1), .val (.int t2), .val (.int k0), .val (.int k1), .val (.int k2), .unset, .unset, .unset, .unset] [] := by
  refine Wl.iload 135 at_133 rfl ?_
  refine Wl.iload 137 at_135 rfl ?_
  refine Wl.iload 139 at_137 rfl ?_
  refine Wl.iload 141 at_139 rfl ?_
  refine Wl.static 144 (argsL := [.int t0, .int t1, .int t2, .int (0 : Int32)]) at_141 (w11 hw) (w12 hw) (w5 hw) (w13 hw) (show parseMethodDescriptor "(CCCI)Ljava/lang/String;" = some ⟨[.char, .char, .char, .int], some (.object "java/lang/String")⟩ by decide +kernel) rfl (str0_met hw hcs hu lt0 lt1 lt2) (fun _ q => nomatch q) rfl rfl rfl (by decide) ⟨⟨nle rfl, nle rfl⟩, nle rfl, nle rfl⟩ ?_
  intro v1 h2 hq3 _
  obtain ⟨a4, rfl, E5, S6⟩ := hq3
  have B7 : Ext h h2 := E5
  show WlO _ _ _ _ _ _ _ _ _ _ _ _ _ _ _ _ _ _ [.ref a4]
  refine Wl.astore 146 #[.val (.int i0), .val (.long i1), .second, .val (.long i2), .second, .val (.long i3), .second, .val (.int i4), .val (.int se), .val (.ref kk), .val (.int (0 : Int32)), .val (.int (1 : Int32)), .val (.int t0), .val (.int t1), .val (.int t2), .val (.int k0), .val (.int k1), .val (.int k2), .val (.ref a4), .unset, .unset, .unset] at_144 rfl rfl ?_
  refine Wl.iload 148 at_146 rfl ?_
  refine Wl.iload 150 at_148 rfl ?_
  refine Wl.iload 152 at_150 rfl ?_
  refine Wl.iload 154 at_152 rfl ?_
  refine Wl.static 157 (argsL := [.int k0, .int k1, .int k2, .int (1 : Int32)]) at_154 (w11 hw) (w12 hw) (w5 hw) (w13 hw) (show parseMethodDescriptor "(CCCI)Ljava/lang/String;" = some ⟨[.char, .char, .char, .int], some (.object "java/lang/String")⟩ by decide +kernel) rfl (str1_met hw hcs hu lk0 lk1 lk2) (fun _ q => nomatch q) rfl rfl rfl (by decide) ⟨⟨nle rfl, nle rfl⟩, nle rfl, nle rfl⟩ ?_
  intro v8 h9 hq10 _
  obtain ⟨a11, rfl, E12, S13⟩ := hq10
  have B14 : Ext h h9 := extTr B7 E12
  show WlO _ _ _ _ _ _ _ _ _ _ _ _ _ _ _ _ _ _ [.ref a11]
  refine Wl.astore 159 #[.val (.int i0), .val (.long i1), .second, .val (.long i2), .second, .val (.long i3), .second, .val (.int i4), .val (.int se), .val (.ref kk), .val (.int (0 : Int32)), .val (.int (1 : Int32)), .val (.int t0), .val (.int t1), .val (.int t2), .val (.int k0), .val (.int k1), .val (.int k2), .val (.ref a4), .val (.ref a11), .unset, .unset] at_157 rfl rfl ?_
  refine Wl.new 162 at_159 (w36 hw) (w37 hw) (w38 hw) (nle rfl) (nle rfl) ?_
  intro a15 h16 q17 E18 X19 D20
  have z21 : h.size ≤ a15 := Nat.le_trans B14.1 (Nat.le_of_eq q17.symm)
  have z22 : h9.size ≤ a15 := Nat.le_of_eq q17.symm
  have ne23 : a4 ≠ a15 := Nat.ne_of_lt (by rw [q17]; exact (((S6).exa.ext E12)).lt)
  have ne24 : a11 ≠ a15 := Nat.ne_of_lt (by rw [q17]; exact ((S13).exa).lt)
  have B25 : Ext h h16 := extTr B14 E18
  have B26 : Ext h9 h16 := E18
  have F27 : Fld Z h16 a15 "com/example/grantwork/grantwork/Token" "kind" "Lcom/example/grantwork/grantwork/Token$Kind;" (.null) := D20 (Or.inr (w49 hw)) (ty := (.object "com/example/grantwork/grantwork/Token$Kind")) (by decide)
  have F28 : Fld Z h16 a15 "com/example/grantwork/grantwork/Token" "text" "Ljava/lang/String;" (.null) := D20 (Or.inr (w51 hw)) (ty := (.object "java/lang/String")) (by decide)
  have F29 : Fld Z h16 a15 "com/example/grantwork/grantwork/Token" "length" "J" (.long 0) := D20 (Or.inr (w53 hw)) (ty := .long) (by decide)
  have F30 : Fld Z h16 a15 "com/example/grantwork/grantwork/Token" "line" "I" (.int 0) := D20 (Or.inr (w55 hw)) (ty := .int) (by decide)
  refine Wl.dup 163 at_162 rfl ?_
  refine Wl.aload 165 at_163 rfl rfl ?_
  refine Wl.aload 167 at_165 rfl rfl ?_
  refine Wl.lload 169 at_167 rfl ?_
  refine Wl.iload 171 at_169 rfl ?_
  refine Wl.special 174 (argsL := [.ref kk, .ref a4, .long i3, .int i4]) at_171 (w39 hw) (w40 hw) (w38 hw) (w41 hw) (show parseMethodDescriptor "(Lcom/example/grantwork/grantwork/Token$Kind;Ljava/lang/String;JI)V" = some ⟨[(.object "com/example/grantwork/grantwork/Token$Kind"), (.object "java/lang/String"), .long, .int], none⟩ by decide +kernel) rfl (token_met hw X19 F27 F28 F29 F30) (allS (List.mem_of_getElem? (i := 0) rfl) (fun _ q => nomatch q)) rfl rfl rfl rfl (by decide) ⟨⟨nle rfl, nle rfl⟩, nle rfl, nle rfl⟩ ?_
  intro v31 h32 hq33 _
  obtain ⟨rfl, K34, X35, F36, F37, F38, F39⟩ := hq33
  have B40 : Ext h h32 := extKeep B25 K34 (allS z21 all0)
  have B41 : Ext h9 h32 := extKeep B26 K34 (allS z22 all0)
  show WlO _ _ _ _ _ _ _ _ _ _ _ _ _ _ _ _ _ _ [.ref a15]
  refine Wl.astore 176 #[.val (.int i0), .val (.long i1), .second, .val (.long i2), .second, .val (.long i3), .second, .val (.int i4), .val (.int se), .val (.ref kk), .val (.int (0 : Int32)), .val (.int (1 : Int32)), .val (.int t0), .val (.int t1), .val (.int t2), .val (.int k0), .val (.int k1), .val (.int k2), .val (.ref a4), .val (.ref a11), .val (.ref a15), .unset] at_174 rfl rfl ?_
  refine Wl.aload 178 at_176 rfl rfl ?_
  refine Wl.getstatic 181 at_178 (w0 hw) hK.1.1 ?_
  refine Wl.acmp 243 false at_181 rfl rfl (decide_eq_false fun q => hkk (Value.ref.inj q)) ?_
  refine Wl.iconst 244 (0 : Int32) at_243 (by decide) ?_
  refine Wl.istore 246 #[.val (.int i0), .val (.long i1), .second, .val (.long i2), .second, .val (.long i3), .second, .val (.int i4), .val (.int se), .val (.ref kk), .val (.int (0 : Int32)), .val (.int (1 : Int32)), .val (.int t0), .val (.int t1), .val (.int t2), .val (.int k0), .val (.int k1), .val (.int k2), .val (.ref a4), .val (.ref a11), .val (.ref a15), .val (.int (0 : Int32))] at_244 rfl ?_
  refine Wl.aload 248 at_246 rfl rfl ?_
  refine Wl.aload 250 at_248 rfl rfl ?_
  refine Wl.virtual 253 (argsL := [.ref a11]) at_250 (w56 hw) (w57 hw) (w59 hw) (w58 hw) (w38 hw) (w60 hw) (nf_sel (w59 hw) rfl) X35 (show parseMethodDescriptor "(Ljava/lang/String;)Z" = some ⟨[(.object "java/lang/String")], some .boolean⟩ by decide +kernel) rfl (kwN_met hw hK hkk F36 F37) (fun _ q => nomatch q) rfl rfl rfl (by decide) ⟨⟨nle rfl, nle rfl⟩, nle rfl, nle rfl⟩ ?_
  intro v42 h43 hq44 _
  obtain ⟨rfl, rfl⟩ := hq44
  show WlO _ _ _ _ _ _ _ _ _ _ _ _ _ _ _ _ _ _ [.int (0 : Int32)]
  refine Wl.iload 255 at_253 rfl ?_
  refine Wl.icmpN 258 at_255 (teq (by decide)).2 ?_
  refine Wl.iconst 259 (1 : Int32) at_258 (by decide) ?_
  refine Wl.goto 263 at_259 ?_
  exact Wl.ireturn at_263 rfl rfl (by simp) (nle rfl) (nle rfl) rfl
set_option maxRecDepth 65536 in
set_option maxHeartbeats 40000000 in
theorem law_o02 {l : Launch} {Z : State} {a0 : Array Value} (hw : ∀ d ∈ tables_1, d.before a0 Z = true) (hcs : CSon Z) (hfm : Fmt Z) (hu : U16on Z) {as : Array Value} {h : Heap} {i0 : Int32} {i1 i2 i3 : Int64} {i4 se : Int32} {kk kw ks ki : Addr} {t0 t1 t2 k0 k1 k2 : Int32} (hK : Kinds Z kw ks ki) (hkk : kk ≠ kw) (lt0 : Ch t0) (lt1 : Ch t1) (lt2 : Ch t2) (lk0 : Ch k0) (lk1 : Ch k1) (lk2 : Ch k2) (wk0 : nlow k0) (wk1 : nlow k1) (wk2 : nlow k2) :
    Wl l Z a0 consts_1 x code maxLocals ret room_1 as (fun v h' => v = some (.int 1)) [] h 0 0 133 #[.val (.int i0), .val (.long i1), .second, .val (.long i2), .second, .val (.long i3), .second, .val (.int i4), .val (.int se), .val (.ref kk), .val (.int (0 : Int32)), .val (.int (2 : Int32)), .val (.int t0), .val (.int t1), .val (.int t2), .val (.int k0), .val (.int k1), .val (.int k2), .unset, .unset, .unset, .unset] [] := by
  refine Wl.iload 135 at_133 rfl ?_
  refine Wl.iload 137 at_135 rfl ?_
  refine Wl.iload 139 at_137 rfl ?_
  refine Wl.iload 141 at_139 rfl ?_
  refine Wl.static 144 (argsL := [.int t0, .int t1, .int t2, .int (0 : Int32)]) at_141 (w11 hw) (w12 hw) (w5 hw) (w13 hw) (show parseMethodDescriptor "(CCCI)Ljava/lang/String;" = some ⟨[.char, .char, .char, .int], some (.object "java/lang/String")⟩ by decide +kernel) rfl (str0_met hw hcs hu lt0 lt1 lt2) (fun _ q => nomatch q) rfl rfl rfl (by decide) ⟨⟨nle rfl, nle rfl⟩, nle rfl, nle rfl⟩ ?_
  intro v1 h2 hq3 _
  obtain ⟨a4, rfl, E5, S6⟩ := hq3
  have B7 : Ext h h2 := E5
  show WlO _ _ _ _ _ _ _ _ _ _ _ _ _ _ _ _ _ _ [.ref a4]
  refine Wl.astore 146 #[.val (.int i0), .val (.long i1), .second, .val (.long i2), .second, .val (.long i3), .second, .val (.int i4), .val (.int se), .val (.ref kk), .val (.int (0 : Int32)), .val (.int (2 : Int32)), .val (.int t0), .val (.int t1), .val (.int t2), .val (.int k0), .val (.int k1), .val (.int k2), .val (.ref a4), .unset, .unset, .unset] at_144 rfl rfl ?_
  refine Wl.iload 148 at_146 rfl ?_
  refine Wl.iload 150 at_148 rfl ?_
  refine Wl.iload 152 at_150 rfl ?_
  refine Wl.iload 154 at_152 rfl ?_
  refine Wl.static 157 (argsL := [.int k0, .int k1, .int k2, .int (2 : Int32)]) at_154 (w11 hw) (w12 hw) (w5 hw) (w13 hw) (show parseMethodDescriptor "(CCCI)Ljava/lang/String;" = some ⟨[.char, .char, .char, .int], some (.object "java/lang/String")⟩ by decide +kernel) rfl (str2_met hw hcs hu lk0 lk1 lk2) (fun _ q => nomatch q) rfl rfl rfl (by decide) ⟨⟨nle rfl, nle rfl⟩, nle rfl, nle rfl⟩ ?_
  intro v8 h9 hq10 _
  obtain ⟨a11, rfl, E12, S13⟩ := hq10
  have B14 : Ext h h9 := extTr B7 E12
  show WlO _ _ _ _ _ _ _ _ _ _ _ _ _ _ _ _ _ _ [.ref a11]
  refine Wl.astore 159 #[.val (.int i0), .val (.long i1), .second, .val (.long i2), .second, .val (.long i3), .second, .val (.int i4), .val (.int se), .val (.ref kk), .val (.int (0 : Int32)), .val (.int (2 : Int32)), .val (.int t0), .val (.int t1), .val (.int t2), .val (.int k0), .val (.int k1), .val (.int k2), .val (.ref a4), .val (.ref a11), .unset, .unset] at_157 rfl rfl ?_
  refine Wl.new 162 at_159 (w36 hw) (w37 hw) (w38 hw) (nle rfl) (nle rfl) ?_
  intro a15 h16 q17 E18 X19 D20
  have z21 : h.size ≤ a15 := Nat.le_trans B14.1 (Nat.le_of_eq q17.symm)
  have z22 : h9.size ≤ a15 := Nat.le_of_eq q17.symm
  have ne23 : a4 ≠ a15 := Nat.ne_of_lt (by rw [q17]; exact (((S6).exa.ext E12)).lt)
  have ne24 : a11 ≠ a15 := Nat.ne_of_lt (by rw [q17]; exact ((S13).exa).lt)
  have B25 : Ext h h16 := extTr B14 E18
  have B26 : Ext h9 h16 := E18
  have F27 : Fld Z h16 a15 "com/example/grantwork/grantwork/Token" "kind" "Lcom/example/grantwork/grantwork/Token$Kind;" (.null) := D20 (Or.inr (w49 hw)) (ty := (.object "com/example/grantwork/grantwork/Token$Kind")) (by decide)
  have F28 : Fld Z h16 a15 "com/example/grantwork/grantwork/Token" "text" "Ljava/lang/String;" (.null) := D20 (Or.inr (w51 hw)) (ty := (.object "java/lang/String")) (by decide)
  have F29 : Fld Z h16 a15 "com/example/grantwork/grantwork/Token" "length" "J" (.long 0) := D20 (Or.inr (w53 hw)) (ty := .long) (by decide)
  have F30 : Fld Z h16 a15 "com/example/grantwork/grantwork/Token" "line" "I" (.int 0) := D20 (Or.inr (w55 hw)) (ty := .int) (by decide)
  refine Wl.dup 163 at_162 rfl ?_
  refine Wl.aload 165 at_163 rfl rfl ?_
  refine Wl.aload 167 at_165 rfl rfl ?_
  refine Wl.lload 169 at_167 rfl ?_
  refine Wl.iload 171 at_169 rfl ?_
  refine Wl.special 174 (argsL := [.ref kk, .ref a4, .long i3, .int i4]) at_171 (w39 hw) (w40 hw) (w38 hw) (w41 hw) (show parseMethodDescriptor "(Lcom/example/grantwork/grantwork/Token$Kind;Ljava/lang/String;JI)V" = some ⟨[(.object "com/example/grantwork/grantwork/Token$Kind"), (.object "java/lang/String"), .long, .int], none⟩ by decide +kernel) rfl (token_met hw X19 F27 F28 F29 F30) (allS (List.mem_of_getElem? (i := 0) rfl) (fun _ q => nomatch q)) rfl rfl rfl rfl (by decide) ⟨⟨nle rfl, nle rfl⟩, nle rfl, nle rfl⟩ ?_
  intro v31 h32 hq33 _
  obtain ⟨rfl, K34, X35, F36, F37, F38, F39⟩ := hq33
  have B40 : Ext h h32 := extKeep B25 K34 (allS z21 all0)
  have B41 : Ext h9 h32 := extKeep B26 K34 (allS z22 all0)
  show WlO _ _ _ _ _ _ _ _ _ _ _ _ _ _ _ _ _ _ [.ref a15]
  refine Wl.astore 176 #[.val (.int i0), .val (.long i1), .second, .val (.long i2), .second, .val (.long i3), .second, .val (.int i4), .val (.int se), .val (.ref kk), .val (.int (0 : Int32)), .val (.int (2 : Int32)), .val (.int t0), .val (.int t1), .val (.int t2), .val (.int k0), .val (.int k1), .val (.int k2), .val (.ref a4), .val (.ref a11), .val (.ref a15), .unset] at_174 rfl rfl ?_
  refine Wl.aload 178 at_176 rfl rfl ?_
  refine Wl.getstatic 181 at_178 (w0 hw) hK.1.1 ?_
  refine Wl.acmp 243 false at_181 rfl rfl (decide_eq_false fun q => hkk (Value.ref.inj q)) ?_
  refine Wl.iconst 244 (0 : Int32) at_243 (by decide) ?_
  refine Wl.istore 246 #[.val (.int i0), .val (.long i1), .second, .val (.long i2), .second, .val (.long i3), .second, .val (.int i4), .val (.int se), .val (.ref kk), .val (.int (0 : Int32)), .val (.int (2 : Int32)), .val (.int t0), .val (.int t1), .val (.int t2), .val (.int k0), .val (.int k1), .val (.int k2), .val (.ref a4), .val (.ref a11), .val (.ref a15), .val (.int (0 : Int32))] at_244 rfl ?_
  refine Wl.aload 248 at_246 rfl rfl ?_
  refine Wl.aload 250 at_248 rfl rfl ?_
  refine Wl.virtual 253 (argsL := [.ref a11]) at_250 (w56 hw) (w57 hw) (w59 hw) (w58 hw) (w38 hw) (w60 hw) (nf_sel (w59 hw) rfl) X35 (show parseMethodDescriptor "(Ljava/lang/String;)Z" = some ⟨[(.object "java/lang/String")], some .boolean⟩ by decide +kernel) rfl (kwN_met hw hK hkk F36 F37) (fun _ q => nomatch q) rfl rfl rfl (by decide) ⟨⟨nle rfl, nle rfl⟩, nle rfl, nle rfl⟩ ?_
  intro v42 h43 hq44 _
  obtain ⟨rfl, rfl⟩ := hq44
  show WlO _ _ _ _ _ _ _ _ _ _ _ _ _ _ _ _ _ _ [.int (0 : Int32)]
  refine Wl.iload 255 at_253 rfl ?_
  refine Wl.icmpN 258 at_255 (teq (by decide)).2 ?_
  refine Wl.iconst 259 (1 : Int32) at_258 (by decide) ?_
  refine Wl.goto 263 at_259 ?_
  exact Wl.ireturn at_263 rfl rfl (by simp) (nle rfl) (nle rfl) rfl
set_option maxRecDepth 65536 in
set_option maxHeartbeats 40000000 in
theorem law_o03 {l : Launch} {Z : State} {a0 : Array Value} (hw : ∀ d ∈ tables_1, d.before a0 Z = true) (hcs : CSon Z) (hfm : Fmt Z) (hu : U16on Z) {as : Array Value} {h : Heap} {i0 : Int32} {i1 i2 i3 : Int64} {i4 se : Int32} {kk kw ks ki : Addr} {t0 t1 t2 k0 k1 k2 : Int32} (hK : Kinds Z kw ks ki) (hkk : kk ≠ kw) (lt0 : Ch t0) (lt1 : Ch t1) (lt2 : Ch t2) (lk0 : Ch k0) (lk1 : Ch k1) (lk2 : Ch k2) (wk0 : nlow k0) (wk1 : nlow k1) (wk2 : nlow k2) :
    Wl l Z a0 consts_1 x code maxLocals ret room_1 as (fun v h' => v = some (.int 1)) [] h 0 0 133 #[.val (.int i0), .val (.long i1), .second, .val (.long i2), .second, .val (.long i3), .second, .val (.int i4), .val (.int se), .val (.ref kk), .val (.int (0 : Int32)), .val (.int (3 : Int32)), .val (.int t0), .val (.int t1), .val (.int t2), .val (.int k0), .val (.int k1), .val (.int k2), .unset, .unset, .unset, .unset] [] := by
  refine Wl.iload 135 at_133 rfl ?_
  refine Wl.iload 137 at_135 rfl ?_
  refine Wl.iload 139 at_137 rfl ?_
  refine Wl.iload 141 at_139 rfl ?_
  refine Wl.static 144 (argsL := [.int t0, .int t1, .int t2, .int (0 : Int32)]) at_141 (w11 hw) (w12 hw) (w5 hw) (w13 hw) (show parseMethodDescriptor "(CCCI)Ljava/lang/String;" = some ⟨[.char, .char, .char, .int], some (.object "java/lang/String")⟩ by decide +kernel) rfl (str0_met hw hcs hu lt0 lt1 lt2) (fun _ q => nomatch q) rfl rfl rfl (by decide) ⟨⟨nle rfl, nle rfl⟩, nle rfl, nle rfl⟩ ?_
  intro v1 h2 hq3 _
  obtain ⟨a4, rfl, E5, S6⟩ := hq3
  have B7 : Ext h h2 := E5
  show WlO _ _ _ _ _ _ _ _ _ _ _ _ _ _ _ _ _ _ [.ref a4]
  refine Wl.astore 146 #[.val (.int i0), .val (.long i1), .second, .val (.long i2), .second, .val (.long i3), .second, .val (.int i4), .val (.int se), .val (.ref kk), .val (.int (0 : Int32)), .val (.int (3 : Int32)), .val (.int t0), .val (.int t1), .val (.int t2), .val (.int k0), .val (.int k1), .val (.int k2), .val (.ref a4), .unset, .unset, .unset] at_144 rfl rfl ?_
  refine Wl.iload 148 at_146 rfl ?_
  refine Wl.iload 150 at_148 rfl ?_
  refine Wl.iload 152 at_150 rfl ?_
  refine Wl.iload 154 at_152 rfl ?_
  refine Wl.static 157 (argsL := [.int k0, .int k1, .int k2, .int (3 : Int32)]) at_154 (w11 hw) (w12 hw) (w5 hw) (w13 hw) (show parseMethodDescriptor "(CCCI)Ljava/lang/String;" = some ⟨[.char, .char, .char, .int], some (.object "java/lang/String")⟩ by decide +kernel) rfl (str3_met hw hcs hu lk0 lk1 lk2) (fun _ q => nomatch q) rfl rfl rfl (by decide) ⟨⟨nle rfl, nle rfl⟩, nle rfl, nle rfl⟩ ?_
  intro v8 h9 hq10 _
  obtain ⟨a11, rfl, E12, S13⟩ := hq10
  have B14 : Ext h h9 := extTr B7 E12
  show WlO _ _ _ _ _ _ _ _ _ _ _ _ _ _ _ _ _ _ [.ref a11]
  refine Wl.astore 159 #[.val (.int i0), .val (.long i1), .second, .val (.long i2), .second, .val (.long i3), .second, .val (.int i4), .val (.int se), .val (.ref kk), .val (.int (0 : Int32)), .val (.int (3 : Int32)), .val (.int t0), .val (.int t1), .val (.int t2), .val (.int k0), .val (.int k1), .val (.int k2), .val (.ref a4), .val (.ref a11), .unset, .unset] at_157 rfl rfl ?_
  refine Wl.new 162 at_159 (w36 hw) (w37 hw) (w38 hw) (nle rfl) (nle rfl) ?_
  intro a15 h16 q17 E18 X19 D20
  have z21 : h.size ≤ a15 := Nat.le_trans B14.1 (Nat.le_of_eq q17.symm)
  have z22 : h9.size ≤ a15 := Nat.le_of_eq q17.symm
  have ne23 : a4 ≠ a15 := Nat.ne_of_lt (by rw [q17]; exact (((S6).exa.ext E12)).lt)
  have ne24 : a11 ≠ a15 := Nat.ne_of_lt (by rw [q17]; exact ((S13).exa).lt)
  have B25 : Ext h h16 := extTr B14 E18
  have B26 : Ext h9 h16 := E18
  have F27 : Fld Z h16 a15 "com/example/grantwork/grantwork/Token" "kind" "Lcom/example/grantwork/grantwork/Token$Kind;" (.null) := D20 (Or.inr (w49 hw)) (ty := (.object "com/example/grantwork/grantwork/Token$Kind")) (by decide)
  have F28 : Fld Z h16 a15 "com/example/grantwork/grantwork/Token" "text" "Ljava/lang/String;" (.null) := D20 (Or.inr (w51 hw)) (ty := (.object "java/lang/String")) (by decide)
  have F29 : Fld Z h16 a15 "com/example/grantwork/grantwork/Token" "length" "J" (.long 0) := D20 (Or.inr (w53 hw)) (ty := .long) (by decide)
  have F30 : Fld Z h16 a15 "com/example/grantwork/grantwork/Token" "line" "I" (.int 0) := D20 (Or.inr (w55 hw)) (ty := .int) (by decide)
  refine Wl.dup 163 at_162 rfl ?_
  refine Wl.aload 165 at_163 rfl rfl ?_
  refine Wl.aload 167 at_165 rfl rfl ?_
  refine Wl.lload 169 at_167 rfl ?_
  refine Wl.iload 171 at_169 rfl ?_
  refine Wl.special 174 (argsL := [.ref kk, .ref a4, .long i3, .int i4]) at_171 (w39 hw) (w40 hw) (w38 hw) (w41 hw) (show parseMethodDescriptor "(Lcom/example/grantwork/grantwork/Token$Kind;Ljava/lang/String;JI)V" = some ⟨[(.object "com/example/grantwork/grantwork/Token$Kind"), (.object "java/lang/String"), .long, .int], none⟩ by decide +kernel) rfl (token_met hw X19 F27 F28 F29 F30) (allS (List.mem_of_getElem? (i := 0) rfl) (fun _ q => nomatch q)) rfl rfl rfl rfl (by decide) ⟨⟨nle rfl, nle rfl⟩, nle rfl, nle rfl⟩ ?_
  intro v31 h32 hq33 _
  obtain ⟨rfl, K34, X35, F36, F37, F38, F39⟩ := hq33
  have B40 : Ext h h32 := extKeep B25 K34 (allS z21 all0)
  have B41 : Ext h9 h32 := extKeep B26 K34 (allS z22 all0)
  show WlO _ _ _ _ _ _ _ _ _ _ _ _ _ _ _ _ _ _ [.ref a15]
  refine Wl.astore 176 #[.val (.int i0), .val (.long i1), .second, .val (.long i2), .second, .val (.long i3), .second, .val (.int i4), .val (.int se), .val (.ref kk), .val (.int (0 : Int32)), .val (.int (3 : Int32)), .val (.int t0), .val (.int t1), .val (.int t2), .val (.int k0), .val (.int k1), .val (.int k2), .val (.ref a4), .val (.ref a11), .val (.ref a15), .unset] at_174 rfl rfl ?_
  refine Wl.aload 178 at_176 rfl rfl ?_
  refine Wl.getstatic 181 at_178 (w0 hw) hK.1.1 ?_
  refine Wl.acmp 243 false at_181 rfl rfl (decide_eq_false fun q => hkk (Value.ref.inj q)) ?_
  refine Wl.iconst 244 (0 : Int32) at_243 (by decide) ?_
  refine Wl.istore 246 #[.val (.int i0), .val (.long i1), .second, .val (.long i2), .second, .val (.long i3), .second, .val (.int i4), .val (.int se), .val (.ref kk), .val (.int (0 : Int32)), .val (.int (3 : Int32)), .val (.int t0), .val (.int t1), .val (.int t2), .val (.int k0), .val (.int k1), .val (.int k2), .val (.ref a4), .val (.ref a11), .val (.ref a15), .val (.int (0 : Int32))] at_244 rfl ?_
  refine Wl.aload 248 at_246 rfl rfl ?_
  refine Wl.aload 250 at_248 rfl rfl ?_
  refine Wl.virtual 253 (argsL := [.ref a11]) at_250 (w56 hw) (w57 hw) (w59 hw) (w58 hw) (w38 hw) (w60 hw) (nf_sel (w59 hw) rfl) X35 (show parseMethodDescriptor "(Ljava/lang/String;)Z" = some ⟨[(.object "java/lang/String")], some .boolean⟩ by decide +kernel) rfl (kwN_met hw hK hkk F36 F37) (fun _ q => nomatch q) rfl rfl rfl (by decide) ⟨⟨nle rfl, nle rfl⟩, nle rfl, nle rfl⟩ ?_
  intro v42 h43 hq44 _
  obtain ⟨rfl, rfl⟩ := hq44
  show WlO _ _ _ _ _ _ _ _ _ _ _ _ _ _ _ _ _ _ [.int (0 : Int32)]
  refine Wl.iload 255 at_253 rfl ?_
  refine Wl.icmpN 258 at_255 (teq (by decide)).2 ?_
  refine Wl.iconst 259 (1 : Int32) at_258 (by decide) ?_
  refine Wl.goto 263 at_259 ?_
  exact Wl.ireturn at_263 rfl rfl (by simp) (nle rfl) (nle rfl) rfl
set_option maxRecDepth 65536 in
set_option maxHeartbeats 40000000 in
theorem law_o10 {l : Launch} {Z : State} {a0 : Array Value} (hw : ∀ d ∈ tables_1, d.before a0 Z = true) (hcs : CSon Z) (hfm : Fmt Z) (hu : U16on Z) {as : Array Value} {h : Heap} {i0 : Int32} {i1 i2 i3 : Int64} {i4 se : Int32} {kk kw ks ki : Addr} {t0 t1 t2 k0 k1 k2 : Int32} (hK : Kinds Z kw ks ki) (hkk : kk ≠ kw) (lt0 : Ch t0) (lt1 : Ch t1) (lt2 : Ch t2) (lk0 : Ch k0) (lk1 : Ch k1) (lk2 : Ch k2) (wk0 : nlow k0) (wk1 : nlow k1) (wk2 : nlow k2) :
    Wl l Z a0 consts_1 x code maxLocals ret room_1 as (fun v h' => v = some (.int 1)) [] h 0 0 133 #[.val (.int i0), .val (.long i1), .second, .val (.long i2), .second, .val (.long i3), .second, .val (.int i4), .val (.int se), .val (.ref kk), .val (.int (1 : Int32)), .val (.int (0 : Int32)), .val (.int t0), .val (.int t1), .val (.int t2), .val (.int k0), .val (.int k1), .val (.int k2), .unset, .unset, .unset, .unset] [] := by
  refine Wl.iload 135 at_133 rfl ?_
  refine Wl.iload 137 at_135 rfl ?_
  refine Wl.iload 139 at_137 rfl ?_
  refine Wl.iload 141 at_139 rfl ?_
  refine Wl.static 144 (argsL := [.int t0, .int t1, .int t2, .int (1 : Int32)]) at_141 (w11 hw) (w12 hw) (w5 hw) (w13 hw) (show parseMethodDescriptor "(CCCI)Ljava/lang/String;" = some ⟨[.char, .char, .char, .int], some (.object "java/lang/String")⟩ by decide +kernel) rfl (str1_met hw hcs hu lt0 lt1 lt2) (fun _ q => nomatch q) rfl rfl rfl (by decide) ⟨⟨nle rfl, nle rfl⟩, nle rfl, nle rfl⟩ ?_
  intro v1 h2 hq3 _
  obtain ⟨a4, rfl, E5, S6⟩ := hq3
  have B7 : Ext h h2 := E5
  show WlO _ _ _ _ _ _ _ _ _ _ _ _ _ _ _ _ _ _ [.ref a4]
  refine Wl.astore 146 #[.val (.int i0), .val (.long i1), .second, .val (.long i2), .second, .val (.long i3), .second, .val (.int i4), .val (.int se), .val (.ref kk), .val (.int (1 : Int32)), .val (.int (0 : Int32)), .val (.int t0), .val (.int t1), .val (.int t2), .val (.int k0), .val (.int k1), .val (.int k2), .val (.ref a4), .unset, .unset, .unset] at_144 rfl rfl ?_
  refine Wl.iload 148 at_146 rfl ?_
  refine Wl.iload 150 at_148 rfl ?_
  refine Wl.iload 152 at_150 rfl ?_
  refine Wl.iload 154 at_152 rfl ?_
  refine Wl.static 157 (argsL := [.int k0, .int k1, .int k2, .int (0 : Int32)]) at_154 (w11 hw) (w12 hw) (w5 hw) (w13 hw) (show parseMethodDescriptor "(CCCI)Ljava/lang/String;" = some ⟨[.char, .char, .char, .int], some (.object "java/lang/String")⟩ by decide +kernel) rfl (str0_met hw hcs hu lk0 lk1 lk2) (fun _ q => nomatch q) rfl rfl rfl (by decide) ⟨⟨nle rfl, nle rfl⟩, nle rfl, nle rfl⟩ ?_
  intro v8 h9 hq10 _
  obtain ⟨a11, rfl, E12, S13⟩ := hq10
  have B14 : Ext h h9 := extTr B7 E12
  show WlO _ _ _ _ _ _ _ _ _ _ _ _ _ _ _ _ _ _ [.ref a11]
  refine Wl.astore 159 #[.val (.int i0), .val (.long i1), .second, .val (.long i2), .second, .val (.long i3), .second, .val (.int i4), .val (.int se), .val (.ref kk), .val (.int (1 : Int32)), .val (.int (0 : Int32)), .val (.int t0), .val (.int t1), .val (.int t2), .val (.int k0), .val (.int k1), .val (.int k2), .val (.ref a4), .val (.ref a11), .unset, .unset] at_157 rfl rfl ?_
  refine Wl.new 162 at_159 (w36 hw) (w37 hw) (w38 hw) (nle rfl) (nle rfl) ?_
  intro a15 h16 q17 E18 X19 D20
  have z21 : h.size ≤ a15 := Nat.le_trans B14.1 (Nat.le_of_eq q17.symm)
  have z22 : h9.size ≤ a15 := Nat.le_of_eq q17.symm
  have ne23 : a4 ≠ a15 := Nat.ne_of_lt (by rw [q17]; exact (((S6).exa.ext E12)).lt)
  have ne24 : a11 ≠ a15 := Nat.ne_of_lt (by rw [q17]; exact ((S13).exa).lt)
  have B25 : Ext h h16 := extTr B14 E18
  have B26 : Ext h9 h16 := E18
  have F27 : Fld Z h16 a15 "com/example/grantwork/grantwork/Token" "kind" "Lcom/example/grantwork/grantwork/Token$Kind;" (.null) := D20 (Or.inr (w49 hw)) (ty := (.object "com/example/grantwork/grantwork/Token$Kind")) (by decide)
  have F28 : Fld Z h16 a15 "com/example/grantwork/grantwork/Token" "text" "Ljava/lang/String;" (.null) := D20 (Or.inr (w51 hw)) (ty := (.object "java/lang/String")) (by decide)
  have F29 : Fld Z h16 a15 "com/example/grantwork/grantwork/Token" "length" "J" (.long 0) := D20 (Or.inr (w53 hw)) (ty := .long) (by decide)
  have F30 : Fld Z h16 a15 "com/example/grantwork/grantwork/Token" "line" "I" (.int 0) := D20 (Or.inr (w55 hw)) (ty := .int) (by decide)
  refine Wl.dup 163 at_162 rfl ?_
  refine Wl.aload 165 at_163 rfl rfl ?_
  refine Wl.aload 167 at_165 rfl rfl ?_
  refine Wl.lload 169 at_167 rfl ?_
  refine Wl.iload 171 at_169 rfl ?_
  refine Wl.special 174 (argsL := [.ref kk, .ref a4, .long i3, .int i4]) at_171 (w39 hw) (w40 hw) (w38 hw) (w41 hw) (show parseMethodDescriptor "(Lcom/example/grantwork/grantwork/Token$Kind;Ljava/lang/String;JI)V" = some ⟨[(.object "com/example/grantwork/grantwork/Token$Kind"), (.object "java/lang/String"), .long, .int], none⟩ by decide +kernel) rfl (token_met hw X19 F27 F28 F29 F30) (allS (List.mem_of_getElem? (i := 0) rfl) (fun _ q => nomatch q)) rfl rfl rfl rfl (by decide) ⟨⟨nle rfl, nle rfl⟩, nle rfl, nle rfl⟩ ?_
  intro v31 h32 hq33 _
  obtain ⟨rfl, K34, X35, F36, F37, F38, F39⟩ := hq33
  have B40 : Ext h h32 := extKeep B25 K34 (allS z21 all0)
  have B41 : Ext h9 h32 := extKeep B26 K34 (allS z22 all0)
  show WlO _ _ _ _ _ _ _ _ _ _ _ _ _ _ _ _ _ _ [.ref a15]
  refine Wl.astore 176 #[.val (.int i0), .val (.long i1), .second, .val (.long i2), .second, .val (.long i3), .second, .val (.int i4), .val (.int se), .val (.ref kk), .val (.int (1 : Int32)), .val (.int (0 : Int32)), .val (.int t0), .val (.int t1), .val (.int t2), .val (.int k0), .val (.int k1), .val (.int k2), .val (.ref a4), .val (.ref a11), .val (.ref a15), .unset] at_174 rfl rfl ?_
  refine Wl.aload 178 at_176 rfl rfl ?_
  refine Wl.getstatic 181 at_178 (w0 hw) hK.1.1 ?_
  refine Wl.acmp 243 false at_181 rfl rfl (decide_eq_false fun q => hkk (Value.ref.inj q)) ?_
  refine Wl.iconst 244 (0 : Int32) at_243 (by decide) ?_
  refine Wl.istore 246 #[.val (.int i0), .val (.long i1), .second, .val (.long i2), .second, .val (.long i3), .second, .val (.int i4), .val (.int se), .val (.ref kk), .val (.int (1 : Int32)), .val (.int (0 : Int32)), .val (.int t0), .val (.int t1), .val (.int t2), .val (.int k0), .val (.int k1), .val (.int k2), .val (.ref a4), .val (.ref a11), .val (.ref a15), .val (.int (0 : Int32))] at_244 rfl ?_
  refine Wl.aload 248 at_246 rfl rfl ?_
  refine Wl.aload 250 at_248 rfl rfl ?_
  refine Wl.virtual 253 (argsL := [.ref a11]) at_250 (w56 hw) (w57 hw) (w59 hw) (w58 hw) (w38 hw) (w60 hw) (nf_sel (w59 hw) rfl) X35 (show parseMethodDescriptor "(Ljava/lang/String;)Z" = some ⟨[(.object "java/lang/String")], some .boolean⟩ by decide +kernel) rfl (kwN_met hw hK hkk F36 F37) (fun _ q => nomatch q) rfl rfl rfl (by decide) ⟨⟨nle rfl, nle rfl⟩, nle rfl, nle rfl⟩ ?_
  intro v42 h43 hq44 _
  obtain ⟨rfl, rfl⟩ := hq44
  show WlO _ _ _ _ _ _ _ _ _ _ _ _ _ _ _ _ _ _ [.int (0 : Int32)]
  refine Wl.iload 255 at_253 rfl ?_
  refine Wl.icmpN 258 at_255 (teq (by decide)).2 ?_
  refine Wl.iconst 259 (1 : Int32) at_258 (by decide) ?_
  refine Wl.goto 263 at_259 ?_
  exact Wl.ireturn at_263 rfl rfl (by simp) (nle rfl) (nle rfl) rfl
set_option maxRecDepth 65536 in
set_option maxHeartbeats 40000000 in
theorem law_o11 {l : Launch} {Z : State} {a0 : Array Value} (hw : ∀ d ∈ tables_1, d.before a0 Z = true) (hcs : CSon Z) (hfm : Fmt Z) (hu : U16on Z) {as : Array Value} {h : Heap} {i0 : Int32} {i1 i2 i3 : Int64} {i4 se : Int32} {kk kw ks ki : Addr} {t0 t1 t2 k0 k1 k2 : Int32} (hK : Kinds Z kw ks ki) (hkk : kk ≠ kw) (lt0 : Ch t0) (lt1 : Ch t1) (lt2 : Ch t2) (lk0 : Ch k0) (lk1 : Ch k1) (lk2 : Ch k2) (wk0 : nlow k0) (wk1 : nlow k1) (wk2 : nlow k2) :
    Wl l Z a0 consts_1 x code maxLocals ret room_1 as (fun v h' => v = some (.int 1)) [] h 0 0 133 #[.val (.int i0), .val (.long i1), .second, .val (.long i2), .second, .val (.long i3), .second, .val (.int i4), .val (.int se), .val (.ref kk), .val (.int (1 : Int32)), .val (.int (1 : Int32)), .val (.int t0), .val (.int t1), .val (.int t2), .val (.int k0), .val (.int k1), .val (.int k2), .unset, .unset, .unset, .unset] [] := by
  refine Wl.iload 135 at_133 rfl ?_
  refine Wl.iload 137 at_135 rfl ?_
  refine Wl.iload 139 at_137 rfl ?_
  refine Wl.iload 141 at_139 rfl ?_
  refine Wl.static 144 (argsL := [.int t0, .int t1, .int t2, .int (1 : Int32)]) at_141 (w11 hw) (w12 hw) (w5 hw) (w13 hw) (show parseMethodDescriptor "(CCCI)Ljava/lang/String;" = some ⟨[.char, .char, .char, .int], some (.object "java/lang/String")⟩ by decide +kernel) rfl (str1_met hw hcs hu lt0 lt1 lt2) (fun _ q => nomatch q) rfl rfl rfl (by decide) ⟨⟨nle rfl, nle rfl⟩, nle rfl, nle rfl⟩ ?_
  intro v1 h2 hq3 _
  obtain ⟨a4, rfl, E5, S6⟩ := hq3
  have B7 : Ext h h2 := E5
  show WlO _ _ _ _ _ _ _ _ _ _ _ _ _ _ _ _ _ _ [.ref a4]
  refine Wl.astore 146 #[.val (.int i0), .val (.long i1), .second, .val (.long i2), .second, .val (.long i3), .second, .val (.int i4), .val (.int se), .val (.ref kk), .val (.int (1 : Int32)), .val (.int (1 : Int32)), .val (.int t0), .val (.int t1), .val (.int t2), .val (.int k0), .val (.int k1), .val (.int k2), .val (.ref a4), .unset, .unset, .unset] at_144 rfl rfl ?_
  refine Wl.iload 148 at_146 rfl ?_
  refine Wl.iload 150 at_148 rfl ?_
  refine Wl.iload 152 at_150 rfl ?_
  refine Wl.iload 154 at_152 rfl ?_
  refine Wl.static 157 (argsL := [.int k0, .int k1, .int k2, .int (1 : Int32)]) at_154 (w11 hw) (w12 hw) (w5 hw) (w13 hw) (show parseMethodDescriptor "(CCCI)Ljava/lang/String;" = some ⟨[.char, .char, .char, .int], some (.object "java/lang/String")⟩ by decide +kernel) rfl (str1_met hw hcs hu lk0 lk1 lk2) (fun _ q => nomatch q) rfl rfl rfl (by decide) ⟨⟨nle rfl, nle rfl⟩, nle rfl, nle rfl⟩ ?_
  intro v8 h9 hq10 _
  obtain ⟨a11, rfl, E12, S13⟩ := hq10
  have B14 : Ext h h9 := extTr B7 E12
  show WlO _ _ _ _ _ _ _ _ _ _ _ _ _ _ _ _ _ _ [.ref a11]
  refine Wl.astore 159 #[.val (.int i0), .val (.long i1), .second, .val (.long i2), .second, .val (.long i3), .second, .val (.int i4), .val (.int se), .val (.ref kk), .val (.int (1 : Int32)), .val (.int (1 : Int32)), .val (.int t0), .val (.int t1), .val (.int t2), .val (.int k0), .val (.int k1), .val (.int k2), .val (.ref a4), .val (.ref a11), .unset, .unset] at_157 rfl rfl ?_
  refine Wl.new 162 at_159 (w36 hw) (w37 hw) (w38 hw) (nle rfl) (nle rfl) ?_
  intro a15 h16 q17 E18 X19 D20
  have z21 : h.size ≤ a15 := Nat.le_trans B14.1 (Nat.le_of_eq q17.symm)
  have z22 : h9.size ≤ a15 := Nat.le_of_eq q17.symm
  have ne23 : a4 ≠ a15 := Nat.ne_of_lt (by rw [q17]; exact (((S6).exa.ext E12)).lt)
  have ne24 : a11 ≠ a15 := Nat.ne_of_lt (by rw [q17]; exact ((S13).exa).lt)
  have B25 : Ext h h16 := extTr B14 E18
  have B26 : Ext h9 h16 := E18
  have F27 : Fld Z h16 a15 "com/example/grantwork/grantwork/Token" "kind" "Lcom/example/grantwork/grantwork/Token$Kind;" (.null) := D20 (Or.inr (w49 hw)) (ty := (.object "com/example/grantwork/grantwork/Token$Kind")) (by decide)
  have F28 : Fld Z h16 a15 "com/example/grantwork/grantwork/Token" "text" "Ljava/lang/String;" (.null) := D20 (Or.inr (w51 hw)) (ty := (.object "java/lang/String")) (by decide)
  have F29 : Fld Z h16 a15 "com/example/grantwork/grantwork/Token" "length" "J" (.long 0) := D20 (Or.inr (w53 hw)) (ty := .long) (by decide)
  have F30 : Fld Z h16 a15 "com/example/grantwork/grantwork/Token" "line" "I" (.int 0) := D20 (Or.inr (w55 hw)) (ty := .int) (by decide)
  refine Wl.dup 163 at_162 rfl ?_
  refine Wl.aload 165 at_163 rfl rfl ?_
  refine Wl.aload 167 at_165 rfl rfl ?_
  refine Wl.lload 169 at_167 rfl ?_
  refine Wl.iload 171 at_169 rfl ?_
  refine Wl.special 174 (argsL := [.ref kk, .ref a4, .long i3, .int i4]) at_171 (w39 hw) (w40 hw) (w38 hw) (w41 hw) (show parseMethodDescriptor "(Lcom/example/grantwork/grantwork/Token$Kind;Ljava/lang/String;JI)V" = some ⟨[(.object "com/example/grantwork/grantwork/Token$Kind"), (.object "java/lang/String"), .long, .int], none⟩ by decide +kernel) rfl (token_met hw X19 F27 F28 F29 F30) (allS (List.mem_of_getElem? (i := 0) rfl) (fun _ q => nomatch q)) rfl rfl rfl rfl (by decide) ⟨⟨nle rfl, nle rfl⟩, nle rfl, nle rfl⟩ ?_
  intro v31 h32 hq33 _
  obtain ⟨rfl, K34, X35, F36, F37, F38, F39⟩ := hq33
  have B40 : Ext h h32 := extKeep B25 K34 (allS z21 all0)
  have B41 : Ext h9 h32 := extKeep B26 K34 (allS z22 all0)
  show WlO _ _ _ _ _ _ _ _ _ _ _ _ _ _ _ _ _ _ [.ref a15]
  refine Wl.astore 176 #[.val (.int i0), .val (.long i1), .second, .val (.long i2), .second, .val (.long i3), .second, .val (.int i4), .val (.int se), .val (.ref kk), .val (.int (1 : Int32)), .val (.int (1 : Int32)), .val (.int t0), .val (.int t1), .val (.int t2), .val (.int k0), .val (.int k1), .val (.int k2), .val (.ref a4), .val (.ref a11), .val (.ref a15), .unset] at_174 rfl rfl ?_
  refine Wl.aload 178 at_176 rfl rfl ?_
  refine Wl.getstatic 181 at_178 (w0 hw) hK.1.1 ?_
  refine Wl.acmp 243 false at_181 rfl rfl (decide_eq_false fun q => hkk (Value.ref.inj q)) ?_
  refine Wl.iconst 244 (0 : Int32) at_243 (by decide) ?_
  refine Wl.istore 246 #[.val (.int i0), .val (.long i1), .second, .val (.long i2), .second, .val (.long i3), .second, .val (.int i4), .val (.int se), .val (.ref kk), .val (.int (1 : Int32)), .val (.int (1 : Int32)), .val (.int t0), .val (.int t1), .val (.int t2), .val (.int k0), .val (.int k1), .val (.int k2), .val (.ref a4), .val (.ref a11), .val (.ref a15), .val (.int (0 : Int32))] at_244 rfl ?_
  refine Wl.aload 248 at_246 rfl rfl ?_
  refine Wl.aload 250 at_248 rfl rfl ?_
  refine Wl.virtual 253 (argsL := [.ref a11]) at_250 (w56 hw) (w57 hw) (w59 hw) (w58 hw) (w38 hw) (w60 hw) (nf_sel (w59 hw) rfl) X35 (show parseMethodDescriptor "(Ljava/lang/String;)Z" = some ⟨[(.object "java/lang/String")], some .boolean⟩ by decide +kernel) rfl (kwN_met hw hK hkk F36 F37) (fun _ q => nomatch q) rfl rfl rfl (by decide) ⟨⟨nle rfl, nle rfl⟩, nle rfl, nle rfl⟩ ?_
  intro v42 h43 hq44 _
  obtain ⟨rfl, rfl⟩ := hq44
  show WlO _ _ _ _ _ _ _ _ _ _ _ _ _ _ _ _ _ _ [.int (0 : Int32)]
  refine Wl.iload 255 at_253 rfl ?_
  refine Wl.icmpN 258 at_255 (teq (by decide)).2 ?_
  refine Wl.iconst 259 (1 : Int32) at_258 (by decide) ?_
  refine Wl.goto 263 at_259 ?_
  exact Wl.ireturn at_263 rfl rfl (by simp) (nle rfl) (nle rfl) rfl
set_option maxRecDepth 65536 in
set_option maxHeartbeats 40000000 in
theorem law_o12 {l : Launch} {Z : State} {a0 : Array Value} (hw : ∀ d ∈ tables_1, d.before a0 Z = true) (hcs : CSon Z) (hfm : Fmt Z) (hu : U16on Z) {as : Array Value} {h : Heap} {i0 : Int32} {i1 i2 i3 : Int64} {i4 se : Int32} {kk kw ks ki : Addr} {t0 t1 t2 k0 k1 k2 : Int32} (hK : Kinds Z kw ks ki) (hkk : kk ≠ kw) (lt0 : Ch t0) (lt1 : Ch t1) (lt2 : Ch t2) (lk0 : Ch k0) (lk1 : Ch k1) (lk2 : Ch k2) (wk0 : nlow k0) (wk1 : nlow k1) (wk2 : nlow k2) :
    Wl l Z a0 consts_1 x code maxLocals ret room_1 as (fun v h' => v = some (.int 1)) [] h 0 0 133 #[.val (.int i0), .val (.long i1), .second, .val (.long i2), .second, .val (.long i3), .second, .val (.int i4), .val (.int se), .val (.ref kk), .val (.int (1 : Int32)), .val (.int (2 : Int32)), .val (.int t0), .val (.int t1), .val (.int t2), .val (.int k0), .val (.int k1), .val (.int k2), .unset, .unset, .unset, .unset] [] := by
  refine Wl.iload 135 at_133 rfl ?_
  refine Wl.iload 137 at_135 rfl ?_
  refine Wl.iload 139 at_137 rfl ?_
  refine Wl.iload 141 at_139 rfl ?_
  refine Wl.static 144 (argsL := [.int t0, .int t1, .int t2, .int (1 : Int32)]) at_141 (w11 hw) (w12 hw) (w5 hw) (w13 hw) (show parseMethodDescriptor "(CCCI)Ljava/lang/String;" = some ⟨[.char, .char, .char, .int], some (.object "java/lang/String")⟩ by decide +kernel) rfl (str1_met hw hcs hu lt0 lt1 lt2) (fun _ q => nomatch q) rfl rfl rfl (by decide) ⟨⟨nle rfl, nle rfl⟩, nle rfl, nle rfl⟩ ?_
  intro v1 h2 hq3 _
  obtain ⟨a4, rfl, E5, S6⟩ := hq3
  have B7 : Ext h h2 := E5
  show WlO _ _ _ _ _ _ _ _ _ _ _ _ _ _ _ _ _ _ [.ref a4]
  refine Wl.astore 146 #[.val (.int i0), .val (.long i1), .second, .val (.long i2), .second, .val (.long i3), .second, .val (.int i4), .val (.int se), .val (.ref kk), .val (.int (1 : Int32)), .val (.int (2 : Int32)), .val (.int t0), .val (.int t1), .val (.int t2), .val (.int k0), .val (.int k1), .val (.int k2), .val (.ref a4), .unset, .unset, .unset] at_144 rfl rfl ?_
  refine Wl.iload 148 at_146 rfl ?_
  refine Wl.iload 150 at_148 rfl ?_
  refine Wl.iload 152 at_150 rfl ?_
  refine Wl.iload 154 at_152 rfl ?_
  refine Wl.static 157 (argsL := [.int k0, .int k1, .int k2, .int (2 : Int32)]) at_154 (w11 hw) (w12 hw) (w5 hw) (w13 hw) (show parseMethodDescriptor "(CCCI)Ljava/lang/String;" = some ⟨[.char, .char, .char, .int], some (.object "java/lang/String")⟩ by decide +kernel) rfl (str2_met hw hcs hu lk0 lk1 lk2) (fun _ q => nomatch q) rfl rfl rfl (by decide) ⟨⟨nle rfl, nle rfl⟩, nle rfl, nle rfl⟩ ?_
  intro v8 h9 hq10 _
  obtain ⟨a11, rfl, E12, S13⟩ := hq10
  have B14 : Ext h h9 := extTr B7 E12
  show WlO _ _ _ _ _ _ _ _ _ _ _ _ _ _ _ _ _ _ [.ref a11]
  refine Wl.astore 159 #[.val (.int i0), .val (.long i1), .second, .val (.long i2), .second, .val (.long i3), .second, .val (.int i4), .val (.int se), .val (.ref kk), .val (.int (1 : Int32)), .val (.int (2 : Int32)), .val (.int t0), .val (.int t1), .val (.int t2), .val (.int k0), .val (.int k1), .val (.int k2), .val (.ref a4), .val (.ref a11), .unset, .unset] at_157 rfl rfl ?_
  refine Wl.new 162 at_159 (w36 hw) (w37 hw) (w38 hw) (nle rfl) (nle rfl) ?_
  intro a15 h16 q17 E18 X19 D20
  have z21 : h.size ≤ a15 := Nat.le_trans B14.1 (Nat.le_of_eq q17.symm)
  have z22 : h9.size ≤ a15 := Nat.le_of_eq q17.symm
  have ne23 : a4 ≠ a15 := Nat.ne_of_lt (by rw [q17]; exact (((S6).exa.ext E12)).lt)
  have ne24 : a11 ≠ a15 := Nat.ne_of_lt (by rw [q17]; exact ((S13).exa).lt)
  have B25 : Ext h h16 := extTr B14 E18
  have B26 : Ext h9 h16 := E18
  have F27 : Fld Z h16 a15 "com/example/grantwork/grantwork/Token" "kind" "Lcom/example/grantwork/grantwork/Token$Kind;" (.null) := D20 (Or.inr (w49 hw)) (ty := (.object "com/example/grantwork/grantwork/Token$Kind")) (by decide)
  have F28 : Fld Z h16 a15 "com/example/grantwork/grantwork/Token" "text" "Ljava/lang/String;" (.null) := D20 (Or.inr (w51 hw)) (ty := (.object "java/lang/String")) (by decide)
  have F29 : Fld Z h16 a15 "com/example/grantwork/grantwork/Token" "length" "J" (.long 0) := D20 (Or.inr (w53 hw)) (ty := .long) (by decide)
  have F30 : Fld Z h16 a15 "com/example/grantwork/grantwork/Token" "line" "I" (.int 0) := D20 (Or.inr (w55 hw)) (ty := .int) (by decide)
  refine Wl.dup 163 at_162 rfl ?_
  refine Wl.aload 165 at_163 rfl rfl ?_
  refine Wl.aload 167 at_165 rfl rfl ?_
  refine Wl.lload 169 at_167 rfl ?_
  refine Wl.iload 171 at_169 rfl ?_
  refine Wl.special 174 (argsL := [.ref kk, .ref a4, .long i3, .int i4]) at_171 (w39 hw) (w40 hw) (w38 hw) (w41 hw) (show parseMethodDescriptor "(Lcom/example/grantwork/grantwork/Token$Kind;Ljava/lang/String;JI)V" = some ⟨[(.object "com/example/grantwork/grantwork/Token$Kind"), (.object "java/lang/String"), .long, .int], none⟩ by decide +kernel) rfl (token_met hw X19 F27 F28 F29 F30) (allS (List.mem_of_getElem? (i := 0) rfl) (fun _ q => nomatch q)) rfl rfl rfl rfl (by decide) ⟨⟨nle rfl, nle rfl⟩, nle rfl, nle rfl⟩ ?_
  intro v31 h32 hq33 _
  obtain ⟨rfl, K34, X35, F36, F37, F38, F39⟩ := hq33
  have B40 : Ext h h32 := extKeep B25 K34 (allS z21 all0)
  have B41 : Ext h9 h32 := extKeep B26 K34 (allS z22 all0)
  show WlO _ _ _ _ _ _ _ _ _ _ _ _ _ _ _ _ _ _ [.ref a15]
  refine Wl.astore 176 #[.val (.int i0), .val (.long i1), .second, .val (.long i2), .second, .val (.long i3), .second, .val (.int i4), .val (.int se), .val (.ref kk), .val (.int (1 : Int32)), .val (.int (2 : Int32)), .val (.int t0), .val (.int t1), .val (.int t2), .val (.int k0), .val (.int k1), .val (.int k2), .val (.ref a4), .val (.ref a11), .val (.ref a15), .unset] at_174 rfl rfl ?_
  refine Wl.aload 178 at_176 rfl rfl ?_
  refine Wl.getstatic 181 at_178 (w0 hw) hK.1.1 ?_
  refine Wl.acmp 243 false at_181 rfl rfl (decide_eq_false fun q => hkk (Value.ref.inj q)) ?_
  refine Wl.iconst 244 (0 : Int32) at_243 (by decide) ?_
  refine Wl.istore 246 #[.val (.int i0), .val (.long i1), .second, .val (.long i2), .second, .val (.long i3), .second, .val (.int i4), .val (.int se), .val (.ref kk), .val (.int (1 : Int32)), .val (.int (2 : Int32)), .val (.int t0), .val (.int t1), .val (.int t2), .val (.int k0), .val (.int k1), .val (.int k2), .val (.ref a4), .val (.ref a11), .val (.ref a15), .val (.int (0 : Int32))] at_244 rfl ?_
  refine Wl.aload 248 at_246 rfl rfl ?_
  refine Wl.aload 250 at_248 rfl rfl ?_
  refine Wl.virtual 253 (argsL := [.ref a11]) at_250 (w56 hw) (w57 hw) (w59 hw) (w58 hw) (w38 hw) (w60 hw) (nf_sel (w59 hw) rfl) X35 (show parseMethodDescriptor "(Ljava/lang/String;)Z" = some ⟨[(.object "java/lang/String")], some .boolean⟩ by decide +kernel) rfl (kwN_met hw hK hkk F36 F37) (fun _ q => nomatch q) rfl rfl rfl (by decide) ⟨⟨nle rfl, nle rfl⟩, nle rfl, nle rfl⟩ ?_
  intro v42 h43 hq44 _
  obtain ⟨rfl, rfl⟩ := hq44
  show WlO _ _ _ _ _ _ _ _ _ _ _ _ _ _ _ _ _ _ [.int (0 : Int32)]
  refine Wl.iload 255 at_253 rfl ?_
  refine Wl.icmpN 258 at_255 (teq (by decide)).2 ?_
  refine Wl.iconst 259 (1 : Int32) at_258 (by decide) ?_
  refine Wl.goto 263 at_259 ?_
  exact Wl.ireturn at_263 rfl rfl (by simp) (nle rfl) (nle rfl) rfl
set_option maxRecDepth 65536 in
set_option maxHeartbeats 40000000 in
theorem law_o13 {l : Launch} {Z : State} {a0 : Array Value} (hw : ∀ d ∈ tables_1, d.before a0 Z = true) (hcs : CSon Z) (hfm : Fmt Z) (hu : U16on Z) {as : Array Value} {h : Heap} {i0 : Int32} {i1 i2 i3 : Int64} {i4 se : Int32} {kk kw ks ki : Addr} {t0 t1 t2 k0 k1 k2 : Int32} (hK : Kinds Z kw ks ki) (hkk : kk ≠ kw) (lt0 : Ch t0) (lt1 : Ch t1) (lt2 : Ch t2) (lk0 : Ch k0) (lk1 : Ch k1) (lk2 : Ch k2) (wk0 : nlow k0) (wk1 : nlow k1) (wk2 : nlow k2) :
    Wl l Z a0 consts_1 x code maxLocals ret room_1 as (fun v h' => v = some (.int 1)) [] h 0 0 133 #[.val (.int i0), .val (.long i1), .second, .val (.long i2), .second, .val (.long i3), .second, .val (.int i4), .val (.int se), .val (.ref kk), .val (.int (1 : Int32)), .val (.int (3 : Int32)), .val (.int t0), .val (.int t1), .val (.int t2), .val (.int k0), .val (.int k1), .val (.int k2), .unset, .unset, .unset, .unset] [] := by
  refine Wl.iload 135 at_133 rfl ?_
  refine Wl.iload 137 at_135 rfl ?_
  refine Wl.iload 139 at_137 rfl ?_
  refine Wl.iload 141 at_139 rfl ?_
  refine Wl.static 144 (argsL := [.int t0, .int t1, .int t2, .int (1 : Int32)]) at_141 (w11 hw) (w12 hw) (w5 hw) (w13 hw) (show parseMethodDescriptor "(CCCI)Ljava/lang/String;" = some ⟨[.char, .char, .char, .int], some (.object "java/lang/String")⟩ by decide +kernel) rfl (str1_met hw hcs hu lt0 lt1 lt2) (fun _ q => nomatch q) rfl rfl rfl (by decide) ⟨⟨nle rfl, nle rfl⟩, nle rfl, nle rfl⟩ ?_
  intro v1 h2 hq3 _
  obtain ⟨a4, rfl, E5, S6⟩ := hq3
  have B7 : Ext h h2 := E5
  show WlO _ _ _ _ _ _ _ _ _ _ _ _ _ _ _ _ _ _ [.ref a4]
  refine Wl.astore 146 #[.val (.int i0), .val (.long i1), .second, .val (.long i2), .second, .val (.long i3), .second, .val (.int i4), .val (.int se), .val (.ref kk), .val (.int (1 : Int32)), .val (.int (3 : Int32)), .val (.int t0), .val (.int t1), .val (.int t2), .val (.int k0), .val (.int k1), .val (.int k2), .val (.ref a4), .unset, .unset, .unset] at_144 rfl rfl ?_
  refine Wl.iload 148 at_146 rfl ?_
  refine Wl.iload 150 at_148 rfl ?_
  refine Wl.iload 152 at_150 rfl ?_
  refine Wl.iload 154 at_152 rfl ?_
  refine Wl.static 157 (argsL := [.int k0, .int k1, .int k2, .int (3 : Int32)]) at_154 (w11 hw) (w12 hw) (w5 hw) (w13 hw) (show parseMethodDescriptor "(CCCI)Ljava/lang/String;" = some ⟨[.char, .char, .char, .int], some (.object "java/lang/String")⟩ by decide +kernel) rfl (str3_met hw hcs hu lk0 lk1 lk2) (fun _ q => nomatch q) rfl rfl rfl (by decide) ⟨⟨nle rfl, nle rfl⟩, nle rfl, nle rfl⟩ ?_
  intro v8 h9 hq10 _
  obtain ⟨a11, rfl, E12, S13⟩ := hq10
  have B14 : Ext h h9 := extTr B7 E12
  show WlO _ _ _ _ _ _ _ _ _ _ _ _ _ _ _ _ _ _ [.ref a11]
  refine Wl.astore 159 #[.val (.int i0), .val (.long i1), .second, .val (.long i2), .second, .val (.long i3), .second, .val (.int i4), .val (.int se), .val (.ref kk), .val (.int (1 : Int32)), .val (.int (3 : Int32)), .val (.int t0), .val (.int t1), .val (.int t2), .val (.int k0), .val (.int k1), .val (.int k2), .val (.ref a4), .val (.ref a11), .unset, .unset] at_157 rfl rfl ?_
  refine Wl.new 162 at_159 (w36 hw) (w37 hw) (w38 hw) (nle rfl) (nle rfl) ?_
  intro a15 h16 q17 E18 X19 D20
  have z21 : h.size ≤ a15 := Nat.le_trans B14.1 (Nat.le_of_eq q17.symm)
  have z22 : h9.size ≤ a15 := Nat.le_of_eq q17.symm
  have ne23 : a4 ≠ a15 := Nat.ne_of_lt (by rw [q17]; exact (((S6).exa.ext E12)).lt)
  have ne24 : a11 ≠ a15 := Nat.ne_of_lt (by rw [q17]; exact ((S13).exa).lt)
  have B25 : Ext h h16 := extTr B14 E18
  have B26 : Ext h9 h16 := E18
  have F27 : Fld Z h16 a15 "com/example/grantwork/grantwork/Token" "kind" "Lcom/example/grantwork/grantwork/Token$Kind;" (.null) := D20 (Or.inr (w49 hw)) (ty := (.object "com/example/grantwork/grantwork/Token$Kind")) (by decide)
  have F28 : Fld Z h16 a15 "com/example/grantwork/grantwork/Token" "text" "Ljava/lang/String;" (.null) := D20 (Or.inr (w51 hw)) (ty := (.object "java/lang/String")) (by decide)
  have F29 : Fld Z h16 a15 "com/example/grantwork/grantwork/Token" "length" "J" (.long 0) := D20 (Or.inr (w53 hw)) (ty := .long) (by decide)
  have F30 : Fld Z h16 a15 "com/example/grantwork/grantwork/Token" "line" "I" (.int 0) := D20 (Or.inr (w55 hw)) (ty := .int) (by decide)
  refine Wl.dup 163 at_162 rfl ?_
  refine Wl.aload 165 at_163 rfl rfl ?_
  refine Wl.aload 167 at_165 rfl rfl ?_
  refine Wl.lload 169 at_167 rfl ?_
  refine Wl.iload 171 at_169 rfl ?_
  refine Wl.special 174 (argsL := [.ref kk, .ref a4, .long i3, .int i4]) at_171 (w39 hw) (w40 hw) (w38 hw) (w41 hw) (show parseMethodDescriptor "(Lcom/example/grantwork/grantwork/Token$Kind;Ljava/lang/String;JI)V" = some ⟨[(.object "com/example/grantwork/grantwork/Token$Kind"), (.object "java/lang/String"), .long, .int], none⟩ by decide +kernel) rfl (token_met hw X19 F27 F28 F29 F30) (allS (List.mem_of_getElem? (i := 0) rfl) (fun _ q => nomatch q)) rfl rfl rfl rfl (by decide) ⟨⟨nle rfl, nle rfl⟩, nle rfl, nle rfl⟩ ?_
  intro v31 h32 hq33 _
  obtain ⟨rfl, K34, X35, F36, F37, F38, F39⟩ := hq33
  have B40 : Ext h h32 := extKeep B25 K34 (allS z21 all0)
  have B41 : Ext h9 h32 := extKeep B26 K34 (allS z22 all0)
  show WlO _ _ _ _ _ _ _ _ _ _ _ _ _ _ _ _ _ _ [.ref a15]
  refine Wl.astore 176 #[.val (.int i0), .val (.long i1), .second, .val (.long i2), .second, .val (.long i3), .second, .val (.int i4), .val (.int se), .val (.ref kk), .val (.int (1 : Int32)), .val (.int (3 : Int32)), .val (.int t0), .val (.int t1), .val (.int t2), .val (.int k0), .val (.int k1), .val (.int k2), .val (.ref a4), .val (.ref a11), .val (.ref a15), .unset] at_174 rfl rfl ?_
  refine Wl.aload 178 at_176 rfl rfl ?_
  refine Wl.getstatic 181 at_178 (w0 hw) hK.1.1 ?_
  refine Wl.acmp 243 false at_181 rfl rfl (decide_eq_false fun q => hkk (Value.ref.inj q)) ?_
  refine Wl.iconst 244 (0 : Int32) at_243 (by decide) ?_
  refine Wl.istore 246 #[.val (.int i0), .val (.long i1), .second, .val (.long i2), .second, .val (.long i3), .second, .val (.int i4), .val (.int se), .val (.ref kk), .val (.int (1 : Int32)), .val (.int (3 : Int32)), .val (.int t0), .val (.int t1), .val (.int t2), .val (.int k0), .val (.int k1), .val (.int k2), .val (.ref a4), .val (.ref a11), .val (.ref a15), .val (.int (0 : Int32))] at_244 rfl ?_
  refine Wl.aload 248 at_246 rfl rfl ?_
  refine Wl.aload 250 at_248 rfl rfl ?_
  refine Wl.virtual 253 (argsL := [.ref a11]) at_250 (w56 hw) (w57 hw) (w59 hw) (w58 hw) (w38 hw) (w60 hw) (nf_sel (w59 hw) rfl) X35 (show parseMethodDescriptor "(Ljava/lang/String;)Z" = some ⟨[(.object "java/lang/String")], some .boolean⟩ by decide +kernel) rfl (kwN_met hw hK hkk F36 F37) (fun _ q => nomatch q) rfl rfl rfl (by decide) ⟨⟨nle rfl, nle rfl⟩, nle rfl, nle rfl⟩ ?_
  intro v42 h43 hq44 _
  obtain ⟨rfl, rfl⟩ := hq44
  show WlO _ _ _ _ _ _ _ _ _ _ _ _ _ _ _ _ _ _ [.int (0 : Int32)]
  refine Wl.iload 255 at_253 rfl ?_
  refine Wl.icmpN 258 at_255 (teq (by decide)).2 ?_
  refine Wl.iconst 259 (1 : Int32) at_258 (by decide) ?_
  refine Wl.goto 263 at_259 ?_
  exact Wl.ireturn at_263 rfl rfl (by simp) (nle rfl) (nle rfl) rfl
set_option maxRecDepth 65536 in
set_option maxHeartbeats 40000000 in
theorem law_o20 {l : Launch} {Z : State} {a0 : Array Value} (hw : ∀ d ∈ tables_1, d.before a0 Z = true) (hcs : CSon Z) (hfm : Fmt Z) (hu : U16on Z) {as : Array Value} {h : Heap} {i0 : Int32} {i1 i2 i3 : Int64} {i4 se : Int32} {kk kw ks ki : Addr} {t0 t1 t2 k0 k1 k2 : Int32} (hK : Kinds Z kw ks ki) (hkk : kk ≠ kw) (lt0 : Ch t0) (lt1 : Ch t1) (lt2 : Ch t2) (lk0 : Ch k0) (lk1 : Ch k1) (lk2 : Ch k2) (wk0 : nlow k0) (wk1 : nlow k1) (wk2 : nlow k2) :
    Wl l Z a0 consts_1 x code maxLocals ret room_1 as (fun v h' => v = some (.int 1)) [] h 0 0 133 #[.val (.int i0), .val (.long i1), .second, .val (.long i2), .second, .val (.long i3), .second, .val (.int i4), .val (.int se), .val (.ref kk), .val (.int (2 : Int32)), .val (.int (0 : Int32)), .val (.int t0), .val (.int t1), .val (.int t2), .val (.int k0), .val (.int k1), .val (.int k2), .unset, .unset, .unset, .unset] [] := by
  refine Wl.iload 135 at_133 rfl ?_
  refine Wl.iload 137 at_135 rfl ?_
  refine Wl.iload 139 at_137 rfl ?_
  refine Wl.iload 141 at_139 rfl ?_
  refine Wl.static 144 (argsL := [.int t0, .int t1, .int t2, .int (2 : Int32)]) at_141 (w11 hw) (w12 hw) (w5 hw) (w13 hw) (show parseMethodDescriptor "(CCCI)Ljava/lang/String;" = some ⟨[.char, .char, .char, .int], some (.object "java/lang/String")⟩ by decide +kernel) rfl (str2_met hw hcs hu lt0 lt1 lt2) (fun _ q => nomatch q) rfl rfl rfl (by decide) ⟨⟨nle rfl, nle rfl⟩, nle rfl, nle rfl⟩ ?_
  intro v1 h2 hq3 _
  obtain ⟨a4, rfl, E5, S6⟩ := hq3
  have B7 : Ext h h2 := E5
  show WlO _ _ _ _ _ _ _ _ _ _ _ _ _ _ _ _ _ _ [.ref a4]
  refine Wl.astore 146 #[.val (.int i0), .val (.long i1), .second, .val (.long i2), .second, .val (.long i3), .second, .val (.int i4), .val (.int se), .val (.ref kk), .val (.int (2 : Int32)), .val (.int (0 : Int32)), .val (.int t0), .val (.int t1), .val (.int t2), .val (.int k0), .val (.int k1), .val (.int k2), .val (.ref a4), .unset, .unset, .unset] at_144 rfl rfl ?_
  refine Wl.iload 148 at_146 rfl ?_
  refine Wl.iload 150 at_148 rfl ?_
  refine Wl.iload 152 at_150 rfl ?_
  refine Wl.iload 154 at_152 rfl ?_
  refine Wl.static 157 (argsL := [.int k0, .int k1, .int k2, .int (0 : Int32)]) at_154 (w11 hw) (w12 hw) (w5 hw) (w13 hw) (show parseMethodDescriptor "(CCCI)Ljava/lang/String;" = some ⟨[.char, .char, .char, .int], some (.object "java/lang/String")⟩ by decide +kernel) rfl (str0_met hw hcs hu lk0 lk1 lk2) (fun _ q => nomatch q) rfl rfl rfl (by decide) ⟨⟨nle rfl, nle rfl⟩, nle rfl, nle rfl⟩ ?_
  intro v8 h9 hq10 _
  obtain ⟨a11, rfl, E12, S13⟩ := hq10
  have B14 : Ext h h9 := extTr B7 E12
  show WlO _ _ _ _ _ _ _ _ _ _ _ _ _ _ _ _ _ _ [.ref a11]
  refine Wl.astore 159 #[.val (.int i0), .val (.long i1), .second, .val (.long i2), .second, .val (.long i3), .second, .val (.int i4), .val (.int se), .val (.ref kk), .val (.int (2 : Int32)), .val (.int (0 : Int32)), .val (.int t0), .val (.int t1), .val (.int t2), .val (.int k0), .val (.int k1), .val (.int k2), .val (.ref a4), .val (.ref a11), .unset, .unset] at_157 rfl rfl ?_
  refine Wl.new 162 at_159 (w36 hw) (w37 hw) (w38 hw) (nle rfl) (nle rfl) ?_
  intro a15 h16 q17 E18 X19 D20
  have z21 : h.size ≤ a15 := Nat.le_trans B14.1 (Nat.le_of_eq q17.symm)
  have z22 : h9.size ≤ a15 := Nat.le_of_eq q17.symm
  have ne23 : a4 ≠ a15 := Nat.ne_of_lt (by rw [q17]; exact (((S6).exa.ext E12)).lt)
  have ne24 : a11 ≠ a15 := Nat.ne_of_lt (by rw [q17]; exact ((S13).exa).lt)
  have B25 : Ext h h16 := extTr B14 E18
  have B26 : Ext h9 h16 := E18
  have F27 : Fld Z h16 a15 "com/example/grantwork/grantwork/Token" "kind" "Lcom/example/grantwork/grantwork/Token$Kind;" (.null) := D20 (Or.inr (w49 hw)) (ty := (.object "com/example/grantwork/grantwork/Token$Kind")) (by decide)
  have F28 : Fld Z h16 a15 "com/example/grantwork/grantwork/Token" "text" "Ljava/lang/String;" (.null) := D20 (Or.inr (w51 hw)) (ty := (.object "java/lang/String")) (by decide)
  have F29 : Fld Z h16 a15 "com/example/grantwork/grantwork/Token" "length" "J" (.long 0) := D20 (Or.inr (w53 hw)) (ty := .long) (by decide)
  have F30 : Fld Z h16 a15 "com/example/grantwork/grantwork/Token" "line" "I" (.int 0) := D20 (Or.inr (w55 hw)) (ty := .int) (by decide)
  refine Wl.dup 163 at_162 rfl ?_
  refine Wl.aload 165 at_163 rfl rfl ?_
  refine Wl.aload 167 at_165 rfl rfl ?_
  refine Wl.lload 169 at_167 rfl ?_
  refine Wl.iload 171 at_169 rfl ?_
  refine Wl.special 174 (argsL := [.ref kk, .ref a4, .long i3, .int i4]) at_171 (w39 hw) (w40 hw) (w38 hw) (w41 hw) (show parseMethodDescriptor "(Lcom/example/grantwork/grantwork/Token$Kind;Ljava/lang/String;JI)V" = some ⟨[(.object "com/example/grantwork/grantwork/Token$Kind"), (.object "java/lang/String"), .long, .int], none⟩ by decide +kernel) rfl (token_met hw X19 F27 F28 F29 F30) (allS (List.mem_of_getElem? (i := 0) rfl) (fun _ q => nomatch q)) rfl rfl rfl rfl (by decide) ⟨⟨nle rfl, nle rfl⟩, nle rfl, nle rfl⟩ ?_
  intro v31 h32 hq33 _
  obtain ⟨rfl, K34, X35, F36, F37, F38, F39⟩ := hq33
  have B40 : Ext h h32 := extKeep B25 K34 (allS z21 all0)
  have B41 : Ext h9 h32 := extKeep B26 K34 (allS z22 all0)
  show WlO _ _ _ _ _ _ _ _ _ _ _ _ _ _ _ _ _ _ [.ref a15]
  refine Wl.astore 176 #[.val (.int i0), .val (.long i1), .second, .val (.long i2), .second, .val (.long i3), .second, .val (.int i4), .val (.int se), .val (.ref kk), .val (.int (2 : Int32)), .val (.int (0 : Int32)), .val (.int t0), .val (.int t1), .val (.int t2), .val (.int k0), .val (.int k1), .val (.int k2), .val (.ref a4), .val (.ref a11), .val (.ref a15), .unset] at_174 rfl rfl ?_
  refine Wl.aload 178 at_176 rfl rfl ?_
  refine Wl.getstatic 181 at_178 (w0 hw) hK.1.1 ?_
  refine Wl.acmp 243 false at_181 rfl rfl (decide_eq_false fun q => hkk (Value.ref.inj q)) ?_
  refine Wl.iconst 244 (0 : Int32) at_243 (by decide) ?_
  refine Wl.istore 246 #[.val (.int i0), .val (.long i1), .second, .val (.long i2), .second, .val (.long i3), .second, .val (.int i4), .val (.int se), .val (.ref kk), .val (.int (2 : Int32)), .val (.int (0 : Int32)), .val (.int t0), .val (.int t1), .val (.int t2), .val (.int k0), .val (.int k1), .val (.int k2), .val (.ref a4), .val (.ref a11), .val (.ref a15), .val (.int (0 : Int32))] at_244 rfl ?_
  refine Wl.aload 248 at_246 rfl rfl ?_
  refine Wl.aload 250 at_248 rfl rfl ?_
  refine Wl.virtual 253 (argsL := [.ref a11]) at_250 (w56 hw) (w57 hw) (w59 hw) (w58 hw) (w38 hw) (w60 hw) (nf_sel (w59 hw) rfl) X35 (show parseMethodDescriptor "(Ljava/lang/String;)Z" = some ⟨[(.object "java/lang/String")], some .boolean⟩ by decide +kernel) rfl (kwN_met hw hK hkk F36 F37) (fun _ q => nomatch q) rfl rfl rfl (by decide) ⟨⟨nle rfl, nle rfl⟩, nle rfl, nle rfl⟩ ?_
  intro v42 h43 hq44 _
  obtain ⟨rfl, rfl⟩ := hq44
  show WlO _ _ _ _ _ _ _ _ _ _ _ _ _ _ _ _ _ _ [.int (0 : Int32)]
  refine Wl.iload 255 at_253 rfl ?_
  refine Wl.icmpN 258 at_255 (teq (by decide)).2 ?_
  refine Wl.iconst 259 (1 : Int32) at_258 (by decide) ?_
  refine Wl.goto 263 at_259 ?_
  exact Wl.ireturn at_263 rfl rfl (by simp) (nle rfl) (nle rfl) rfl
set_option maxRecDepth 65536 in
set_option maxHeartbeats 40000000 in
theorem law_o21 {l : Launch} {Z : State} {a0 : Array Value} (hw : ∀ d ∈ tables_1, d.before a0 Z = true) (hcs : CSon Z) (hfm : Fmt Z) (hu : U16on Z) {as : Array Value} {h : Heap} {i0 : Int32} {i1 i2 i3 : Int64} {i4 se : Int32} {kk kw ks ki : Addr} {t0 t1 t2 k0 k1 k2 : Int32} (hK : Kinds Z kw ks ki) (hkk : kk ≠ kw) (lt0 : Ch t0) (lt1 : Ch t1) (lt2 : Ch t2) (lk0 : Ch k0) (lk1 : Ch k1) (lk2 : Ch k2) (wk0 : nlow k0) (wk1 : nlow k1) (wk2 : nlow k2) :
    Wl l Z a0 consts_1 x code maxLocals ret room_1 as (fun v h' => v = some (.int 1)) [] h 0 0 133 #[.val (.int i0), .val (.long i1), .second, .val (.long i2), .second, .val (.long i3), .second, .val (.int i4), .val (.int se), .val (.ref kk), .val (.int (2 : Int32)), .val (.int (1 : Int32)), .val (.int t0), .val (.int t1), .val (.int t2), .val (.int k0), .val (.int k1), .val (.int k2), .unset, .unset, .unset, .unset] [] := by
  refine Wl.iload 135 at_133 rfl ?_
  refine Wl.iload 137 at_135 rfl ?_
  refine Wl.iload 139 at_137 rfl ?_
  refine Wl.iload 141 at_139 rfl ?_
  refine Wl.static 144 (argsL := [.int t0, .int t1, .int t2, .int (2 : Int32)]) at_141 (w11 hw) (w12 hw) (w5 hw) (w13 hw) (show parseMethodDescriptor "(CCCI)Ljava/lang/String;" = some ⟨[.char, .char, .char, .int], some (.object "java/lang/String")⟩ by decide +kernel) rfl (str2_met hw hcs hu lt0 lt1 lt2) (fun _ q => nomatch q) rfl rfl rfl (by decide) ⟨⟨nle rfl, nle rfl⟩, nle rfl, nle rfl⟩ ?_
  intro v1 h2 hq3 _
  obtain ⟨a4, rfl, E5, S6⟩ := hq3
  have B7 : Ext h h2 := E5
  show WlO _ _ _ _ _ _ _ _ _ _ _ _ _ _ _ _ _ _ [.ref a4]
  refine Wl.astore 146 #[.val (.int i0), .val (.long i1), .second, .val (.long i2), .second, .val (.long i3), .second, .val (.int i4), .val (.int se), .val (.ref kk), .val (.int (2 : Int32)), .val (.int (1 : Int32)), .val (.int t0), .val (.int t1), .val (.int t2), .val (.int k0), .val (.int k1), .val (.int k2), .val (.ref a4), .unset, .unset, .unset] at_144 rfl rfl ?_
  refine Wl.iload 148 at_146 rfl ?_
  refine Wl.iload 150 at_148 rfl ?_
  refine Wl.iload 152 at_150 rfl ?_
  refine Wl.iload 154 at_152 rfl ?_
  refine Wl.static 157 (argsL := [.int k0, .int k1, .int k2, .int (1 : Int32)]) at_154 (w11 hw) (w12 hw) (w5 hw) (w13 hw) (show parseMethodDescriptor "(CCCI)Ljava/lang/String;" = some ⟨[.char, .char, .char, .int], some (.object "java/lang/String")⟩ by decide +kernel) rfl (str1_met hw hcs hu lk0 lk1 lk2) (fun _ q => nomatch q) rfl rfl rfl (by decide) ⟨⟨nle rfl, nle rfl⟩, nle rfl, nle rfl⟩ ?_
  intro v8 h9 hq10 _
  obtain ⟨a11, rfl, E12, S13⟩ := hq10
  have B14 : Ext h h9 := extTr B7 E12
  show WlO _ _ _ _ _ _ _ _ _ _ _ _ _ _ _ _ _ _ [.ref a11]
  refine Wl.astore 159 #[.val (.int i0), .val (.long i1), .second, .val (.long i2), .second, .val (.long i3), .second, .val (.int i4), .val (.int se), .val (.ref kk), .val (.int (2 : Int32)), .val (.int (1 : Int32)), .val (.int t0), .val (.int t1), .val (.int t2), .val (.int k0), .val (.int k1), .val (.int k2), .val (.ref a4), .val (.ref a11), .unset, .unset] at_157 rfl rfl ?_
  refine Wl.new 162 at_159 (w36 hw) (w37 hw) (w38 hw) (nle rfl) (nle rfl) ?_
  intro a15 h16 q17 E18 X19 D20
  have z21 : h.size ≤ a15 := Nat.le_trans B14.1 (Nat.le_of_eq q17.symm)
  have z22 : h9.size ≤ a15 := Nat.le_of_eq q17.symm
  have ne23 : a4 ≠ a15 := Nat.ne_of_lt (by rw [q17]; exact (((S6).exa.ext E12)).lt)
  have ne24 : a11 ≠ a15 := Nat.ne_of_lt (by rw [q17]; exact ((S13).exa).lt)
  have B25 : Ext h h16 := extTr B14 E18
  have B26 : Ext h9 h16 := E18
  have F27 : Fld Z h16 a15 "com/example/grantwork/grantwork/Token" "kind" "Lcom/example/grantwork/grantwork/Token$Kind;" (.null) := D20 (Or.inr (w49 hw)) (ty := (.object "com/example/grantwork/grantwork/Token$Kind")) (by decide)
  have F28 : Fld Z h16 a15 "com/example/grantwork/grantwork/Token" "text" "Ljava/lang/String;" (.null) := D20 (Or.inr (w51 hw)) (ty := (.object "java/lang/String")) (by decide)
  have F29 : Fld Z h16 a15 "com/example/grantwork/grantwork/Token" "length" "J" (.long 0) := D20 (Or.inr (w53 hw)) (ty := .long) (by decide)
  have F30 : Fld Z h16 a15 "com/example/grantwork/grantwork/Token" "line" "I" (.int 0) := D20 (Or.inr (w55 hw)) (ty := .int) (by decide)
  refine Wl.dup 163 at_162 rfl ?_
  refine Wl.aload 165 at_163 rfl rfl ?_
  refine Wl.aload 167 at_165 rfl rfl ?_
  refine Wl.lload 169 at_167 rfl ?_
  refine Wl.iload 171 at_169 rfl ?_
  refine Wl.special 174 (argsL := [.ref kk, .ref a4, .long i3, .int i4]) at_171 (w39 hw) (w40 hw) (w38 hw) (w41 hw) (show parseMethodDescriptor "(Lcom/example/grantwork/grantwork/Token$Kind;Ljava/lang/String;JI)V" = some ⟨[(.object "com/example/grantwork/grantwork/Token$Kind"), (.object "java/lang/String"), .long, .int], none⟩ by decide +kernel) rfl (token_met hw X19 F27 F28 F29 F30) (allS (List.mem_of_getElem? (i := 0) rfl) (fun _ q => nomatch q)) rfl rfl rfl rfl (by decide) ⟨⟨nle rfl, nle rfl⟩, nle rfl, nle rfl⟩ ?_
  intro v31 h32 hq33 _
  obtain ⟨rfl, K34, X35, F36, F37, F38, F39⟩ := hq33
  have B40 : Ext h h32 := extKeep B25 K34 (allS z21 all0)
  have B41 : Ext h9 h32 := extKeep B26 K34 (allS z22 all0)
  show WlO _ _ _ _ _ _ _ _ _ _ _ _ _ _ _ _ _ _ [.ref a15]
  refine Wl.astore 176 #[.val (.int i0), .val (.long i1), .second, .val (.long i2), .second, .val (.long i3), .second, .val (.int i4), .val (.int se), .val (.ref kk), .val (.int (2 : Int32)), .val (.int (1 : Int32)), .val (.int t0), .val (.int t1), .val (.int t2), .val (.int k0), .val (.int k1), .val (.int k2), .val (.ref a4), .val (.ref a11), .val (.ref a15), .unset] at_174 rfl rfl ?_
  refine Wl.aload 178 at_176 rfl rfl ?_
  refine Wl.getstatic 181 at_178 (w0 hw) hK.1.1 ?_
  refine Wl.acmp 243 false at_181 rfl rfl (decide_eq_false fun q => hkk (Value.ref.inj q)) ?_
  refine Wl.iconst 244 (0 : Int32) at_243 (by decide) ?_
  refine Wl.istore 246 #[.val (.int i0), .val (.long i1), .second, .val (.long i2), .second, .val (.long i3), .second, .val (.int i4), .val (.int se), .val (.ref kk), .val (.int (2 : Int32)), .val (.int (1 : Int32)), .val (.int t0), .val (.int t1), .val (.int t2), .val (.int k0), .val (.int k1), .val (.int k2), .val (.ref a4), .val (.ref a11), .val (.ref a15), .val (.int (0 : Int32))] at_244 rfl ?_
  refine Wl.aload 248 at_246 rfl rfl ?_
  refine Wl.aload 250 at_248 rfl rfl ?_
  refine Wl.virtual 253 (argsL := [.ref a11]) at_250 (w56 hw) (w57 hw) (w59 hw) (w58 hw) (w38 hw) (w60 hw) (nf_sel (w59 hw) rfl) X35 (show parseMethodDescriptor "(Ljava/lang/String;)Z" = some ⟨[(.object "java/lang/String")], some .boolean⟩ by decide +kernel) rfl (kwN_met hw hK hkk F36 F37) (fun _ q => nomatch q) rfl rfl rfl (by decide) ⟨⟨nle rfl, nle rfl⟩, nle rfl, nle rfl⟩ ?_
  intro v42 h43 hq44 _
  obtain ⟨rfl, rfl⟩ := hq44
  show WlO _ _ _ _ _ _ _ _ _ _ _ _ _ _ _ _ _ _ [.int (0 : Int32)]
  refine Wl.iload 255 at_253 rfl ?_
  refine Wl.icmpN 258 at_255 (teq (by decide)).2 ?_
  refine Wl.iconst 259 (1 : Int32) at_258 (by decide) ?_
  refine Wl.goto 263 at_259 ?_
  exact Wl.ireturn at_263 rfl rfl (by simp) (nle rfl) (nle rfl) rfl
set_option maxRecDepth 65536 in
set_option maxHeartbeats 40000000 in
theorem law_o22 {l : Launch} {Z : State} {a0 : Array Value} (hw : ∀ d ∈ tables_1, d.before a0 Z = true) (hcs : CSon Z) (hfm : Fmt Z) (hu : U16on Z) {as : Array Value} {h : Heap} {i0 : Int32} {i1 i2 i3 : Int64} {i4 se : Int32} {kk kw ks ki : Addr} {t0 t1 t2 k0 k1 k2 : Int32} (hK : Kinds Z kw ks ki) (hkk : kk ≠ kw) (lt0 : Ch t0) (lt1 : Ch t1) (lt2 : Ch t2) (lk0 : Ch k0) (lk1 : Ch k1) (lk2 : Ch k2) (wk0 : nlow k0) (wk1 : nlow k1) (wk2 : nlow k2) :
    Wl l Z a0 consts_1 x code maxLocals ret room_1 as (fun v h' => v = some (.int 1)) [] h 0 0 133 #[.val (.int i0), .val (.long i1), .second, .val (.long i2), .second, .val (.long i3), .second, .val (.int i4), .val (.int se), .val (.ref kk), .val (.int (2 : Int32)), .val (.int (2 : Int32)), .val (.int t0), .val (.int t1), .val (.int t2), .val (.int k0), .val (.int k1), .val (.int k2), .unset, .unset, .unset, .unset] [] := by
  refine Wl.iload 135 at_133 rfl ?_
  refine Wl.iload 137 at_135 rfl ?_
  refine Wl.iload 139 at_137 rfl ?_
  refine Wl.iload 141 at_139 rfl ?_
  refine Wl.static 144 (argsL := [.int t0, .int t1, .int t2, .int (2 : Int32)]) at_141 (w11 hw) (w12 hw) (w5 hw) (w13 hw) (show parseMethodDescriptor "(CCCI)Ljava/lang/String;" = some ⟨[.char, .char, .char, .int], some (.object "java/lang/String")⟩ by decide +kernel) rfl (str2_met hw hcs hu lt0 lt1 lt2) (fun _ q => nomatch q) rfl rfl rfl (by decide) ⟨⟨nle rfl, nle rfl⟩, nle rfl, nle rfl⟩ ?_
  intro v1 h2 hq3 _
  obtain ⟨a4, rfl, E5, S6⟩ := hq3
  have B7 : Ext h h2 := E5
  show WlO _ _ _ _ _ _ _ _ _ _ _ _ _ _ _ _ _ _ [.ref a4]
  refine Wl.astore 146 #[.val (.int i0), .val (.long i1), .second, .val (.long i2), .second, .val (.long i3), .second, .val (.int i4), .val (.int se), .val (.ref kk), .val (.int (2 : Int32)), .val (.int (2 : Int32)), .val (.int t0), .val (.int t1), .val (.int t2), .val (.int k0), .val (.int k1), .val (.int k2), .val (.ref a4), .unset, .unset, .unset] at_144 rfl rfl ?_
  refine Wl.iload 148 at_146 rfl ?_
  refine Wl.iload 150 at_148 rfl ?_
  refine Wl.iload 152 at_150 rfl ?_
  refine Wl.iload 154 at_152 rfl ?_
  refine Wl.static 157 (argsL := [.int k0, .int k1, .int k2, .int (2 : Int32)]) at_154 (w11 hw) (w12 hw) (w5 hw) (w13 hw) (show parseMethodDescriptor "(CCCI)Ljava/lang/String;" = some ⟨[.char, .char, .char, .int], some (.object "java/lang/String")⟩ by decide +kernel) rfl (str2_met hw hcs hu lk0 lk1 lk2) (fun _ q => nomatch q) rfl rfl rfl (by decide) ⟨⟨nle rfl, nle rfl⟩, nle rfl, nle rfl⟩ ?_
  intro v8 h9 hq10 _
  obtain ⟨a11, rfl, E12, S13⟩ := hq10
  have B14 : Ext h h9 := extTr B7 E12
  show WlO _ _ _ _ _ _ _ _ _ _ _ _ _ _ _ _ _ _ [.ref a11]
  refine Wl.astore 159 #[.val (.int i0), .val (.long i1), .second, .val (.long i2), .second, .val (.long i3), .second, .val (.int i4), .val (.int se), .val (.ref kk), .val (.int (2 : Int32)), .val (.int (2 : Int32)), .val (.int t0), .val (.int t1), .val (.int t2), .val (.int k0), .val (.int k1), .val (.int k2), .val (.ref a4), .val (.ref a11), .unset, .unset] at_157 rfl rfl ?_
  refine Wl.new 162 at_159 (w36 hw) (w37 hw) (w38 hw) (nle rfl) (nle rfl) ?_
  intro a15 h16 q17 E18 X19 D20
  have z21 : h.size ≤ a15 := Nat.le_trans B14.1 (Nat.le_of_eq q17.symm)
  have z22 : h9.size ≤ a15 := Nat.le_of_eq q17.symm
  have ne23 : a4 ≠ a15 := Nat.ne_of_lt (by rw [q17]; exact (((S6).exa.ext E12)).lt)
  have ne24 : a11 ≠ a15 := Nat.ne_of_lt (by rw [q17]; exact ((S13).exa).lt)
  have B25 : Ext h h16 := extTr B14 E18
  have B26 : Ext h9 h16 := E18
  have F27 : Fld Z h16 a15 "com/example/grantwork/grantwork/Token" "kind" "Lcom/example/grantwork/grantwork/Token$Kind;" (.null) := D20 (Or.inr (w49 hw)) (ty := (.object "com/example/grantwork/grantwork/Token$Kind")) (by decide)
  have F28 : Fld Z h16 a15 "com/example/grantwork/grantwork/Token" "text" "Ljava/lang/String;" (.null) := D20 (Or.inr (w51 hw)) (ty := (.object "java/lang/String")) (by decide)
  have F29 : Fld Z h16 a15 "com/example/grantwork/grantwork/Token" "length" "J" (.long 0) := D20 (Or.inr (w53 hw)) (ty := .long) (by decide)
  have F30 : Fld Z h16 a15 "com/example/grantwork/grantwork/Token" "line" "I" (.int 0) := D20 (Or.inr (w55 hw)) (ty := .int) (by decide)
  refine Wl.dup 163 at_162 rfl ?_
  refine Wl.aload 165 at_163 rfl rfl ?_
  refine Wl.aload 167 at_165 rfl rfl ?_
  refine Wl.lload 169 at_167 rfl ?_
  refine Wl.iload 171 at_169 rfl ?_
  refine Wl.special 174 (argsL := [.ref kk, .ref a4, .long i3, .int i4]) at_171 (w39 hw) (w40 hw) (w38 hw) (w41 hw) (show parseMethodDescriptor "(Lcom/example/grantwork/grantwork/Token$Kind;Ljava/lang/String;JI)V" = some ⟨[(.object "com/example/grantwork/grantwork/Token$Kind"), (.object "java/lang/String"), .long, .int], none⟩ by decide +kernel) rfl (token_met hw X19 F27 F28 F29 F30) (allS (List.mem_of_getElem? (i := 0) rfl) (fun _ q => nomatch q)) rfl rfl rfl rfl (by decide) ⟨⟨nle rfl, nle rfl⟩, nle rfl, nle rfl⟩ ?_
  intro v31 h32 hq33 _
  obtain ⟨rfl, K34, X35, F36, F37, F38, F39⟩ := hq33
  have B40 : Ext h h32 := extKeep B25 K34 (allS z21 all0)
  have B41 : Ext h9 h32 := extKeep B26 K34 (allS z22 all0)
  show WlO _ _ _ _ _ _ _ _ _ _ _ _ _ _ _ _ _ _ [.ref a15]
  refine Wl.astore 176 #[.val (.int i0), .val (.long i1), .second, .val (.long i2), .second, .val (.long i3), .second, .val (.int i4), .val (.int se), .val (.ref kk), .val (.int (2 : Int32)), .val (.int (2 : Int32)), .val (.int t0), .val (.int t1), .val (.int t2), .val (.int k0), .val (.int k1), .val (.int k2), .val (.ref a4), .val (.ref a11), .val (.ref a15), .unset] at_174 rfl rfl ?_
  refine Wl.aload 178 at_176 rfl rfl ?_
  refine Wl.getstatic 181 at_178 (w0 hw) hK.1.1 ?_
  refine Wl.acmp 243 false at_181 rfl rfl (decide_eq_false fun q => hkk (Value.ref.inj q)) ?_
  refine Wl.iconst 244 (0 : Int32) at_243 (by decide) ?_
  refine Wl.istore 246 #[.val (.int i0), .val (.long i1), .second, .val (.long i2), .second, .val (.long i3), .second, .val (.int i4), .val (.int se), .val (.ref kk), .val (.int (2 : Int32)), .val (.int (2 : Int32)), .val (.int t0), .val (.int t1), .val (.int t2), .val (.int k0), .val (.int k1), .val (.int k2), .val (.ref a4), .val (.ref a11), .val (.ref a15), .val (.int (0 : Int32))] at_244 rfl ?_
  refine Wl.aload 248 at_246 rfl rfl ?_
  refine Wl.aload 250 at_248 rfl rfl ?_
  refine Wl.virtual 253 (argsL := [.ref a11]) at_250 (w56 hw) (w57 hw) (w59 hw) (w58 hw) (w38 hw) (w60 hw) (nf_sel (w59 hw) rfl) X35 (show parseMethodDescriptor "(Ljava/lang/String;)Z" = some ⟨[(.object "java/lang/String")], some .boolean⟩ by decide +kernel) rfl (kwN_met hw hK hkk F36 F37) (fun _ q => nomatch q) rfl rfl rfl (by decide) ⟨⟨nle rfl, nle rfl⟩, nle rfl, nle rfl⟩ ?_
  intro v42 h43 hq44 _
  obtain ⟨rfl, rfl⟩ := hq44
  show WlO _ _ _ _ _ _ _ _ _ _ _ _ _ _ _ _ _ _ [.int (0 : Int32)]
  refine Wl.iload 255 at_253 rfl ?_
  refine Wl.icmpN 258 at_255 (teq (by decide)).2 ?_
  refine Wl.iconst 259 (1 : Int32) at_258 (by decide) ?_
  refine Wl.goto 263 at_259 ?_
  exact Wl.ireturn at_263 rfl rfl (by simp) (nle rfl) (nle rfl) rfl
set_option maxRecDepth 65536 in
set_option maxHeartbeats 40000000 in
theorem law_o23 {l : Launch} {Z : State} {a0 : Array Value} (hw : ∀ d ∈ tables_1, d.before a0 Z = true) (hcs : CSon Z) (hfm : Fmt Z) (hu : U16on Z) {as : Array Value} {h : Heap} {i0 : Int32} {i1 i2 i3 : Int64} {i4 se : Int32} {kk kw ks ki : Addr} {t0 t1 t2 k0 k1 k2 : Int32} (hK : Kinds Z kw ks ki) (hkk : kk ≠ kw) (lt0 : Ch t0) (lt1 : Ch t1) (lt2 : Ch t2) (lk0 : Ch k0) (lk1 : Ch k1) (lk2 : Ch k2) (wk0 : nlow k0) (wk1 : nlow k1) (wk2 : nlow k2) :
    Wl l Z a0 consts_1 x code maxLocals ret room_1 as (fun v h' => v = some (.int 1)) [] h 0 0 133 #[.val (.int i0), .val (.long i1), .second, .val (.long i2), .second, .val (.long i3), .second, .val (.int i4), .val (.int se), .val (.ref kk), .val (.int (2 : Int32)), .val (.int (3 : Int32)), .val (.int t0), .val (.int t1), .val (.int t2), .val (.int k0), .val (.int k1), .val (.int k2), .unset, .unset, .unset, .unset] [] := by
  refine Wl.iload 135 at_133 rfl ?_
  refine Wl.iload 137 at_135 rfl ?_
  refine Wl.iload 139 at_137 rfl ?_
  refine Wl.iload 141 at_139 rfl ?_
  refine Wl.static 144 (argsL := [.int t0, .int t1, .int t2, .int (2 : Int32)]) at_141 (w11 hw) (w12 hw) (w5 hw) (w13 hw) (show parseMethodDescriptor "(CCCI)Ljava/lang/String;" = some ⟨[.char, .char, .char, .int], some (.object "java/lang/String")⟩ by decide +kernel) rfl (str2_met hw hcs hu lt0 lt1 lt2) (fun _ q => nomatch q) rfl rfl rfl (by decide) ⟨⟨nle rfl, nle rfl⟩, nle rfl, nle rfl⟩ ?_
  intro v1 h2 hq3 _
  obtain ⟨a4, rfl, E5, S6⟩ := hq3
  have B7 : Ext h h2 := E5
  show WlO _ _ _ _ _ _ _ _ _ _ _ _ _ _ _ _ _ _ [.ref a4]
  refine Wl.astore 146 #[.val (.int i0), .val (.long i1), .second, .val (.long i2), .second, .val (.long i3), .second, .val (.int i4), .val (.int se), .val (.ref kk), .val (.int (2 : Int32)), .val (.int (3 : Int32)), .val (.int t0), .val (.int t1), .val (.int t2), .val (.int k0), .val (.int k1), .val (.int k2), .val (.ref a4), .unset, .unset, .unset] at_144 rfl rfl ?_
  refine Wl.iload 148 at_146 rfl ?_
  refine Wl.iload 150 at_148 rfl ?_
  refine Wl.iload 152 at_150 rfl ?_
  refine Wl.iload 154 at_152 rfl ?_
  refine Wl.static 157 (argsL := [.int k0, .int k1, .int k2, .int (3 : Int32)]) at_154 (w11 hw) (w12 hw) (w5 hw) (w13 hw) (show parseMethodDescriptor "(CCCI)Ljava/lang/String;" = some ⟨[.char, .char, .char, .int], some (.object "java/lang/String")⟩ by decide +kernel) rfl (str3_met hw hcs hu lk0 lk1 lk2) (fun _ q => nomatch q) rfl rfl rfl (by decide) ⟨⟨nle rfl, nle rfl⟩, nle rfl, nle rfl⟩ ?_
  intro v8 h9 hq10 _
  obtain ⟨a11, rfl, E12, S13⟩ := hq10
  have B14 : Ext h h9 := extTr B7 E12
  show WlO _ _ _ _ _ _ _ _ _ _ _ _ _ _ _ _ _ _ [.ref a11]
  refine Wl.astore 159 #[.val (.int i0), .val (.long i1), .second, .val (.long i2), .second, .val (.long i3), .second, .val (.int i4), .val (.int se), .val (.ref kk), .val (.int (2 : Int32)), .val (.int (3 : Int32)), .val (.int t0), .val (.int t1), .val (.int t2), .val (.int k0), .val (.int k1), .val (.int k2), .val (.ref a4), .val (.ref a11), .unset, .unset] at_157 rfl rfl ?_
  refine Wl.new 162 at_159 (w36 hw) (w37 hw) (w38 hw) (nle rfl) (nle rfl) ?_
  intro a15 h16 q17 E18 X19 D20
  have z21 : h.size ≤ a15 := Nat.le_trans B14.1 (Nat.le_of_eq q17.symm)
  have z22 : h9.size ≤ a15 := Nat.le_of_eq q17.symm
  have ne23 : a4 ≠ a15 := Nat.ne_of_lt (by rw [q17]; exact (((S6).exa.ext E12)).lt)
  have ne24 : a11 ≠ a15 := Nat.ne_of_lt (by rw [q17]; exact ((S13).exa).lt)
  have B25 : Ext h h16 := extTr B14 E18
  have B26 : Ext h9 h16 := E18
  have F27 : Fld Z h16 a15 "com/example/grantwork/grantwork/Token" "kind" "Lcom/example/grantwork/grantwork/Token$Kind;" (.null) := D20 (Or.inr (w49 hw)) (ty := (.object "com/example/grantwork/grantwork/Token$Kind")) (by decide)
  have F28 : Fld Z h16 a15 "com/example/grantwork/grantwork/Token" "text" "Ljava/lang/String;" (.null) := D20 (Or.inr (w51 hw)) (ty := (.object "java/lang/String")) (by decide)
  have F29 : Fld Z h16 a15 "com/example/grantwork/grantwork/Token" "length" "J" (.long 0) := D20 (Or.inr (w53 hw)) (ty := .long) (by decide)
  have F30 : Fld Z h16 a15 "com/example/grantwork/grantwork/Token" "line" "I" (.int 0) := D20 (Or.inr (w55 hw)) (ty := .int) (by decide)
  refine Wl.dup 163 at_162 rfl ?_
  refine Wl.aload 165 at_163 rfl rfl ?_
  refine Wl.aload 167 at_165 rfl rfl ?_
  refine Wl.lload 169 at_167 rfl ?_
  refine Wl.iload 171 at_169 rfl ?_
  refine Wl.special 174 (argsL := [.ref kk, .ref a4, .long i3, .int i4]) at_171 (w39 hw) (w40 hw) (w38 hw) (w41 hw) (show parseMethodDescriptor "(Lcom/example/grantwork/grantwork/Token$Kind;Ljava/lang/String;JI)V" = some ⟨[(.object "com/example/grantwork/grantwork/Token$Kind"), (.object "java/lang/String"), .long, .int], none⟩ by decide +kernel) rfl (token_met hw X19 F27 F28 F29 F30) (allS (List.mem_of_getElem? (i := 0) rfl) (fun _ q => nomatch q)) rfl rfl rfl rfl (by decide) ⟨⟨nle rfl, nle rfl⟩, nle rfl, nle rfl⟩ ?_
  intro v31 h32 hq33 _
  obtain ⟨rfl, K34, X35, F36, F37, F38, F39⟩ := hq33
  have B40 : Ext h h32 := extKeep B25 K34 (allS z21 all0)
  have B41 : Ext h9 h32 := extKeep B26 K34 (allS z22 all0)
  show WlO _ _ _ _ _ _ _ _ _ _ _ _ _ _ _ _ _ _ [.ref a15]
  refine Wl.astore 176 #[.val (.int i0), .val (.long i1), .second, .val (.long i2), .second, .val (.long i3), .second, .val (.int i4), .val (.int se), .val (.ref kk), .val (.int (2 : Int32)), .val (.int (3 : Int32)), .val (.int t0), .val (.int t1), .val (.int t2), .val (.int k0), .val (.int k1), .val (.int k2), .val (.ref a4), .val (.ref a11), .val (.ref a15), .unset] at_174 rfl rfl ?_
  refine Wl.aload 178 at_176 rfl rfl ?_
  refine Wl.getstatic 181 at_178 (w0 hw) hK.1.1 ?_
  refine Wl.acmp 243 false at_181 rfl rfl (decide_eq_false fun q => hkk (Value.ref.inj q)) ?_
  refine Wl.iconst 244 (0 : Int32) at_243 (by decide) ?_
  refine Wl.istore 246 #[.val (.int i0), .val (.long i1), .second, .val (.long i2), .second, .val (.long i3), .second, .val (.int i4), .val (.int se), .val (.ref kk), .val (.int (2 : Int32)), .val (.int (3 : Int32)), .val (.int t0), .val (.int t1), .val (.int t2), .val (.int k0), .val (.int k1), .val (.int k2), .val (.ref a4), .val (.ref a11), .val (.ref a15), .val (.int (0 : Int32))] at_244 rfl ?_
  refine Wl.aload 248 at_246 rfl rfl ?_
  refine Wl.aload 250 at_248 rfl rfl ?_
  refine Wl.virtual 253 (argsL := [.ref a11]) at_250 (w56 hw) (w57 hw) (w59 hw) (w58 hw) (w38 hw) (w60 hw) (nf_sel (w59 hw) rfl) X35 (show parseMethodDescriptor "(Ljava/lang/String;)Z" = some ⟨[(.object "java/lang/String")], some .boolean⟩ by decide +kernel) rfl (kwN_met hw hK hkk F36 F37) (fun _ q => nomatch q) rfl rfl rfl (by decide) ⟨⟨nle rfl, nle rfl⟩, nle rfl, nle rfl⟩ ?_
  intro v42 h43 hq44 _
  obtain ⟨rfl, rfl⟩ := hq44
  show WlO _ _ _ _ _ _ _ _ _ _ _ _ _ _ _ _ _ _ [.int (0 : Int32)]
  refine Wl.iload 255 at_253 rfl ?_
  refine Wl.icmpN 258 at_255 (teq (by decide)).2 ?_
  refine Wl.iconst 259 (1 : Int32) at_258 (by decide) ?_
  refine Wl.goto 263 at_259 ?_
  exact Wl.ireturn at_263 rfl rfl (by simp) (nle rfl) (nle rfl) rfl
set_option maxRecDepth 65536 in
set_option maxHeartbeats 40000000 in
theorem law_o30 {l : Launch} {Z : State} {a0 : Array Value} (hw : ∀ d ∈ tables_1, d.before a0 Z = true) (hcs : CSon Z) (hfm : Fmt Z) (hu : U16on Z) {as : Array Value} {h : Heap} {i0 : Int32} {i1 i2 i3 : Int64} {i4 se : Int32} {kk kw ks ki : Addr} {t0 t1 t2 k0 k1 k2 : Int32} (hK : Kinds Z kw ks ki) (hkk : kk ≠ kw) (lt0 : Ch t0) (lt1 : Ch t1) (lt2 : Ch t2) (lk0 : Ch k0) (lk1 : Ch k1) (lk2 : Ch k2) (wk0 : nlow k0) (wk1 : nlow k1) (wk2 : nlow k2) :
    Wl l Z a0 consts_1 x code maxLocals ret room_1 as (fun v h' => v = some (.int 1)) [] h 0 0 133 #[.val (.int i0), .val (.long i1), .second, .val (.long i2), .second, .val (.long i3), .second, .val (.int i4), .val (.int se), .val (.ref kk), .val (.int (3 : Int32)), .val (.int (0 : Int32)), .val (.int t0), .val (.int t1), .val (.int t2), .val (.int k0), .val (.int k1), .val (.int k2), .unset, .unset, .unset, .unset] [] := by
  refine Wl.iload 135 at_133 rfl ?_
  refine Wl.iload 137 at_135 rfl ?_
  refine Wl.iload 139 at_137 rfl ?_
  refine Wl.iload 141 at_139 rfl ?_
  refine Wl.static 144 (argsL := [.int t0, .int t1, .int t2, .int (3 : Int32)]) at_141 (w11 hw) (w12 hw) (w5 hw) (w13 hw) (show parseMethodDescriptor "(CCCI)Ljava/lang/String;" = some ⟨[.char, .char, .char, .int], some (.object "java/lang/String")⟩ by decide +kernel) rfl (str3_met hw hcs hu lt0 lt1 lt2) (fun _ q => nomatch q) rfl rfl rfl (by decide) ⟨⟨nle rfl, nle rfl⟩, nle rfl, nle rfl⟩ ?_
  intro v1 h2 hq3 _
  obtain ⟨a4, rfl, E5, S6⟩ := hq3
  have B7 : Ext h h2 := E5
  show WlO _ _ _ _ _ _ _ _ _ _ _ _ _ _ _ _ _ _ [.ref a4]
  refine Wl.astore 146 #[.val (.int i0), .val (.long i1), .second, .val (.long i2), .second, .val (.long i3), .second, .val (.int i4), .val (.int se), .val (.ref kk), .val (.int (3 : Int32)), .val (.int (0 : Int32)), .val (.int t0), .val (.int t1), .val (.int t2), .val (.int k0), .val (.int k1), .val (.int k2), .val (.ref a4), .unset, .unset, .unset] at_144 rfl rfl ?_
  refine Wl.iload 148 at_146 rfl ?_
  refine Wl.iload 150 at_148 rfl ?_
  refine Wl.iload 152 at_150 rfl ?_
  refine Wl.iload 154 at_152 rfl ?_
  refine Wl.static 157 (argsL := [.int k0, .int k1, .int k2, .int (0 : Int32)]) at_154 (w11 hw) (w12 hw) (w5 hw) (w13 hw) (show parseMethodDescriptor "(CCCI)Ljava/lang/String;" = some ⟨[.char, .char, .char, .int], some (.object "java/lang/String")⟩ by decide +kernel) rfl (str0_met hw hcs hu lk0 lk1 lk2) (fun _ q => nomatch q) rfl rfl rfl (by decide) ⟨⟨nle rfl, nle rfl⟩, nle rfl, nle rfl⟩ ?_
  intro v8 h9 hq10 _
  obtain ⟨a11, rfl, E12, S13⟩ := hq10
  have B14 : Ext h h9 := extTr B7 E12
  show WlO _ _ _ _ _ _ _ _ _ _ _ _ _ _ _ _ _ _ [.ref a11]
  refine Wl.astore 159 #[.val (.int i0), .val (.long i1), .second, .val (.long i2), .second, .val (.long i3), .second, .val (.int i4), .val (.int se), .val (.ref kk), .val (.int (3 : Int32)), .val (.int (0 : Int32)), .val (.int t0), .val (.int t1), .val (.int t2), .val (.int k0), .val (.int k1), .val (.int k2), .val (.ref a4), .val (.ref a11), .unset, .unset] at_157 rfl rfl ?_
  refine Wl.new 162 at_159 (w36 hw) (w37 hw) (w38 hw) (nle rfl) (nle rfl) ?_
  intro a15 h16 q17 E18 X19 D20
  have z21 : h.size ≤ a15 := Nat.le_trans B14.1 (Nat.le_of_eq q17.symm)
  have z22 : h9.size ≤ a15 := Nat.le_of_eq q17.symm
  have ne23 : a4 ≠ a15 := Nat.ne_of_lt (by rw [q17]; exact (((S6).exa.ext E12)).lt)
  have ne24 : a11 ≠ a15 := Nat.ne_of_lt (by rw [q17]; exact ((S13).exa).lt)
  have B25 : Ext h h16 := extTr B14 E18
  have B26 : Ext h9 h16 := E18
  have F27 : Fld Z h16 a15 "com/example/grantwork/grantwork/Token" "kind" "Lcom/example/grantwork/grantwork/Token$Kind;" (.null) := D20 (Or.inr (w49 hw)) (ty := (.object "com/example/grantwork/grantwork/Token$Kind")) (by decide)
  have F28 : Fld Z h16 a15 "com/example/grantwork/grantwork/Token" "text" "Ljava/lang/String;" (.null) := D20 (Or.inr (w51 hw)) (ty := (.object "java/lang/String")) (by decide)
  have F29 : Fld Z h16 a15 "com/example/grantwork/grantwork/Token" "length" "J" (.long 0) := D20 (Or.inr (w53 hw)) (ty := .long) (by decide)
  have F30 : Fld Z h16 a15 "com/example/grantwork/grantwork/Token" "line" "I" (.int 0) := D20 (Or.inr (w55 hw)) (ty := .int) (by decide)
  refine Wl.dup 163 at_162 rfl ?_
  refine Wl.aload 165 at_163 rfl rfl ?_
  refine Wl.aload 167 at_165 rfl rfl ?_
  refine Wl.lload 169 at_167 rfl ?_
  refine Wl.iload 171 at_169 rfl ?_
  refine Wl.special 174 (argsL := [.ref kk, .ref a4, .long i3, .int i4]) at_171 (w39 hw) (w40 hw) (w38 hw) (w41 hw) (show parseMethodDescriptor "(Lcom/example/grantwork/grantwork/Token$Kind;Ljava/lang/String;JI)V" = some ⟨[(.object "com/example/grantwork/grantwork/Token$Kind"), (.object "java/lang/String"), .long, .int], none⟩ by decide +kernel) rfl (token_met hw X19 F27 F28 F29 F30) (allS (List.mem_of_getElem? (i := 0) rfl) (fun _ q => nomatch q)) rfl rfl rfl rfl (by decide) ⟨⟨nle rfl, nle rfl⟩, nle rfl, nle rfl⟩ ?_
  intro v31 h32 hq33 _
  obtain ⟨rfl, K34, X35, F36, F37, F38, F39⟩ := hq33
  have B40 : Ext h h32 := extKeep B25 K34 (allS z21 all0)
  have B41 : Ext h9 h32 := extKeep B26 K34 (allS z22 all0)
  show WlO _ _ _ _ _ _ _ _ _ _ _ _ _ _ _ _ _ _ [.ref a15]
  refine Wl.astore 176 #[.val (.int i0), .val (.long i1), .second, .val (.long i2), .second, .val (.long i3), .second, .val (.int i4), .val (.int se), .val (.ref kk), .val (.int (3 : Int32)), .val (.int (0 : Int32)), .val (.int t0), .val (.int t1), .val (.int t2), .val (.int k0), .val (.int k1), .val (.int k2), .val (.ref a4), .val (.ref a11), .val (.ref a15), .unset] at_174 rfl rfl ?_
  refine Wl.aload 178 at_176 rfl rfl ?_
  refine Wl.getstatic 181 at_178 (w0 hw) hK.1.1 ?_
  refine Wl.acmp 243 false at_181 rfl rfl (decide_eq_false fun q => hkk (Value.ref.inj q)) ?_
  refine Wl.iconst 244 (0 : Int32) at_243 (by decide) ?_
  refine Wl.istore 246 #[.val (.int i0), .val (.long i1), .second, .val (.long i2), .second, .val (.long i3), .second, .val (.int i4), .val (.int se), .val (.ref kk), .val (.int (3 : Int32)), .val (.int (0 : Int32)), .val (.int t0), .val (.int t1), .val (.int t2), .val (.int k0), .val (.int k1), .val (.int k2), .val (.ref a4), .val (.ref a11), .val (.ref a15), .val (.int (0 : Int32))] at_244 rfl ?_
  refine Wl.aload 248 at_246 rfl rfl ?_
  refine Wl.aload 250 at_248 rfl rfl ?_
  refine Wl.virtual 253 (argsL := [.ref a11]) at_250 (w56 hw) (w57 hw) (w59 hw) (w58 hw) (w38 hw) (w60 hw) (nf_sel (w59 hw) rfl) X35 (show parseMethodDescriptor "(Ljava/lang/String;)Z" = some ⟨[(.object "java/lang/String")], some .boolean⟩ by decide +kernel) rfl (kwN_met hw hK hkk F36 F37) (fun _ q => nomatch q) rfl rfl rfl (by decide) ⟨⟨nle rfl, nle rfl⟩, nle rfl, nle rfl⟩ ?_
  intro v42 h43 hq44 _
  obtain ⟨rfl, rfl⟩ := hq44
  show WlO _ _ _ _ _ _ _ _ _ _ _ _ _ _ _ _ _ _ [.int (0 : Int32)]
  refine Wl.iload 255 at_253 rfl ?_
  refine Wl.icmpN 258 at_255 (teq (by decide)).2 ?_
  refine Wl.iconst 259 (1 : Int32) at_258 (by decide) ?_
  refine Wl.goto 263 at_259 ?_
  exact Wl.ireturn at_263 rfl rfl (by simp) (nle rfl) (nle rfl) rfl
set_option maxRecDepth 65536 in
set_option maxHeartbeats 40000000 in
theorem law_o31 {l : Launch} {Z : State} {a0 : Array Value} (hw : ∀ d ∈ tables_1, d.before a0 Z = true) (hcs : CSon Z) (hfm : Fmt Z) (hu : U16on Z) {as : Array Value} {h : Heap} {i0 : Int32} {i1 i2 i3 : Int64} {i4 se : Int32} {kk kw ks ki : Addr} {t0 t1 t2 k0 k1 k2 : Int32} (hK : Kinds Z kw ks ki) (hkk : kk ≠ kw) (lt0 : Ch t0) (lt1 : Ch t1) (lt2 : Ch t2) (lk0 : Ch k0) (lk1 : Ch k1) (lk2 : Ch k2) (wk0 : nlow k0) (wk1 : nlow k1) (wk2 : nlow k2) :
    Wl l Z a0 consts_1 x code maxLocals ret room_1 as (fun v h' => v = some (.int 1)) [] h 0 0 133 #[.val (.int i0), .val (.long i1), .second, .val (.long i2), .second, .val (.long i3), .second, .val (.int i4), .val (.int se), .val (.ref kk), .val (.int (3 : Int32)), .val (.int (1 : Int32)), .val (.int t0), .val (.int t1), .val (.int t2), .val (.int k0), .val (.int k1), .val (.int k2), .unset, .unset, .unset, .unset] [] := by
  refine Wl.iload 135 at_133 rfl ?_
  refine Wl.iload 137 at_135 rfl ?_
  refine Wl.iload 139 at_137 rfl ?_
  refine Wl.iload 141 at_139 rfl ?_
  refine Wl.static 144 (argsL := [.int t0, .int t1, .int t2, .int (3 : Int32)]) at_141 (w11 hw) (w12 hw) (w5 hw) (w13 hw) (show parseMethodDescriptor "(CCCI)Ljava/lang/String;" = some ⟨[.char, .char, .char, .int], some (.object "java/lang/String")⟩ by decide +kernel) rfl (str3_met hw hcs hu lt0 lt1 lt2) (fun _ q => nomatch q) rfl rfl rfl (by decide) ⟨⟨nle rfl, nle rfl⟩, nle rfl, nle rfl⟩ ?_
  intro v1 h2 hq3 _
  obtain ⟨a4, rfl, E5, S6⟩ := hq3
  have B7 : Ext h h2 := E5
  show WlO _ _ _ _ _ _ _ _ _ _ _ _ _ _ _ _ _ _ [.ref a4]
  refine Wl.astore 146 #[.val (.int i0), .val (.long i1), .second, .val (.long i2), .second, .val (.long i3), .second, .val (.int i4), .val (.int se), .val (.ref kk), .val (.int (3 : Int32)), .val (.int (1 : Int32)), .val (.int t0), .val (.int t1), .val (.int t2), .val (.int k0), .val (.int k1), .val (.int k2), .val (.ref a4), .unset, .unset, .unset] at_144 rfl rfl ?_
  refine Wl.iload 148 at_146 rfl ?_
  refine Wl.iload 150 at_148 rfl ?_
  refine Wl.iload 152 at_150 rfl ?_
  refine Wl.iload 154 at_152 rfl ?_
  refine Wl.static 157 (argsL := [.int k0, .int k1, .int k2, .int (1 : Int32)]) at_154 (w11 hw) (w12 hw) (w5 hw) (w13 hw) (show parseMethodDescriptor "(CCCI)Ljava/lang/String;" = some ⟨[.char, .char, .char, .int], some (.object "java/lang/String")⟩ by decide +kernel) rfl (str1_met hw hcs hu lk0 lk1 lk2) (fun _ q => nomatch q) rfl rfl rfl (by decide) ⟨⟨nle rfl, nle rfl⟩, nle rfl, nle rfl⟩ ?_
  intro v8 h9 hq10 _
  obtain ⟨a11, rfl, E12, S13⟩ := hq10
  have B14 : Ext h h9 := extTr B7 E12
  show WlO _ _ _ _ _ _ _ _ _ _ _ _ _ _ _ _ _ _ [.ref a11]
  refine Wl.astore 159 #[.val (.int i0), .val (.long i1), .second, .val (.long i2), .second, .val (.long i3), .second, .val (.int i4), .val (.int se), .val (.ref kk), .val (.int (3 : Int32)), .val (.int (1 : Int32)), .val (.int t0), .val (.int t1), .val (.int t2), .val (.int k0), .val (.int k1), .val (.int k2), .val (.ref a4), .val (.ref a11), .unset, .unset] at_157 rfl rfl ?_
  refine Wl.new 162 at_159 (w36 hw) (w37 hw) (w38 hw) (nle rfl) (nle rfl) ?_
  intro a15 h16 q17 E18 X19 D20
  have z21 : h.size ≤ a15 := Nat.le_trans B14.1 (Nat.le_of_eq q17.symm)
  have z22 : h9.size ≤ a15 := Nat.le_of_eq q17.symm
  have ne23 : a4 ≠ a15 := Nat.ne_of_lt (by rw [q17]; exact (((S6).exa.ext E12)).lt)
  have ne24 : a11 ≠ a15 := Nat.ne_of_lt (by rw [q17]; exact ((S13).exa).lt)
  have B25 : Ext h h16 := extTr B14 E18
  have B26 : Ext h9 h16 := E18
  have F27 : Fld Z h16 a15 "com/example/grantwork/grantwork/Token" "kind" "Lcom/example/grantwork/grantwork/Token$Kind;" (.null) := D20 (Or.inr (w49 hw)) (ty := (.object "com/example/grantwork/grantwork/Token$Kind")) (by decide)
  have F28 : Fld Z h16 a15 "com/example/grantwork/grantwork/Token" "text" "Ljava/lang/String;" (.null) := D20 (Or.inr (w51 hw)) (ty := (.object "java/lang/String")) (by decide)
  have F29 : Fld Z h16 a15 "com/example/grantwork/grantwork/Token" "length" "J" (.long 0) := D20 (Or.inr (w53 hw)) (ty := .long) (by decide)
  have F30 : Fld Z h16 a15 "com/example/grantwork/grantwork/Token" "line" "I" (.int 0) := D20 (Or.inr (w55 hw)) (ty := .int) (by decide)
  refine Wl.dup 163 at_162 rfl ?_
  refine Wl.aload 165 at_163 rfl rfl ?_
  refine Wl.aload 167 at_165 rfl rfl ?_
  refine Wl.lload 169 at_167 rfl ?_
  refine Wl.iload 171 at_169 rfl ?_
  refine Wl.special 174 (argsL := [.ref kk, .ref a4, .long i3, .int i4]) at_171 (w39 hw) (w40 hw) (w38 hw) (w41 hw) (show parseMethodDescriptor "(Lcom/example/grantwork/grantwork/Token$Kind;Ljava/lang/String;JI)V" = some ⟨[(.object "com/example/grantwork/grantwork/Token$Kind"), (.object "java/lang/String"), .long, .int], none⟩ by decide +kernel) rfl (token_met hw X19 F27 F28 F29 F30) (allS (List.mem_of_getElem? (i := 0) rfl) (fun _ q => nomatch q)) rfl rfl rfl rfl (by decide) ⟨⟨nle rfl, nle rfl⟩, nle rfl, nle rfl⟩ ?_
  intro v31 h32 hq33 _
  obtain ⟨rfl, K34, X35, F36, F37, F38, F39⟩ := hq33
  have B40 : Ext h h32 := extKeep B25 K34 (allS z21 all0)
  have B41 : Ext h9 h32 := extKeep B26 K34 (allS z22 all0)
  show WlO _ _ _ _ _ _ _ _ _ _ _ _ _ _ _ _ _ _ [.ref a15]
  refine Wl.astore 176 #[.val (.int i0), .val (.long i1), .second, .val (.long i2), .second, .val (.long i3), .second, .val (.int i4), .val (.int se), .val (.ref kk), .val (.int (3 : Int32)), .val (.int (1 : Int32)), .val (.int t0), .val (.int t1), .val (.int t2), .val (.int k0), .val (.int k1), .val (.int k2), .val (.ref a4), .val (.ref a11), .val (.ref a15), .unset] at_174 rfl rfl ?_
  refine Wl.aload 178 at_176 rfl rfl ?_
  refine Wl.getstatic 181 at_178 (w0 hw) hK.1.1 ?_
  refine Wl.acmp 243 false at_181 rfl rfl (decide_eq_false fun q => hkk (Value.ref.inj q)) ?_
  refine Wl.iconst 244 (0 : Int32) at_243 (by decide) ?_
  refine Wl.istore 246 #[.val (.int i0), .val (.long i1), .second, .val (.long i2), .second, .val (.long i3), .second, .val (.int i4), .val (.int se), .val (.ref kk), .val (.int (3 : Int32)), .val (.int (1 : Int32)), .val (.int t0), .val (.int t1), .val (.int t2), .val (.int k0), .val (.int k1), .val (.int k2), .val (.ref a4), .val (.ref a11), .val (.ref a15), .val (.int (0 : Int32))] at_244 rfl ?_
  refine Wl.aload 248 at_246 rfl rfl ?_
  refine Wl.aload 250 at_248 rfl rfl ?_
  refine Wl.virtual 253 (argsL := [.ref a11]) at_250 (w56 hw) (w57 hw) (w59 hw) (w58 hw) (w38 hw) (w60 hw) (nf_sel (w59 hw) rfl) X35 (show parseMethodDescriptor "(Ljava/lang/String;)Z" = some ⟨[(.object "java/lang/String")], some .boolean⟩ by decide +kernel) rfl (kwN_met hw hK hkk F36 F37) (fun _ q => nomatch q) rfl rfl rfl (by decide) ⟨⟨nle rfl, nle rfl⟩, nle rfl, nle rfl⟩ ?_
  intro v42 h43 hq44 _
  obtain ⟨rfl, rfl⟩ := hq44
  show WlO _ _ _ _ _ _ _ _ _ _ _ _ _ _ _ _ _ _ [.int (0 : Int32)]
  refine Wl.iload 255 at_253 rfl ?_
  refine Wl.icmpN 258 at_255 (teq (by decide)).2 ?_
  refine Wl.iconst 259 (1 : Int32) at_258 (by decide) ?_
  refine Wl.goto 263 at_259 ?_
  exact Wl.ireturn at_263 rfl rfl (by simp) (nle rfl) (nle rfl) rfl
set_option maxRecDepth 65536 in
set_option maxHeartbeats 40000000 in
theorem law_o32 {l : Launch} {Z : State} {a0 : Array Value} (hw : ∀ d ∈ tables_1, d.before a0 Z = true) (hcs : CSon Z) (hfm : Fmt Z) (hu : U16on Z) {as : Array Value} {h : Heap} {i0 : Int32} {i1 i2 i3 : Int64} {i4 se : Int32} {kk kw ks ki : Addr} {t0 t1 t2 k0 k1 k2 : Int32} (hK : Kinds Z kw ks ki) (hkk : kk ≠ kw) (lt0 : Ch t0) (lt1 : Ch t1) (lt2 : Ch t2) (lk0 : Ch k0) (lk1 : Ch k1) (lk2 : Ch k2) (wk0 : nlow k0) (wk1 : nlow k1) (wk2 : nlow k2) :
    Wl l Z a0 consts_1 x code maxLocals ret room_1 as (fun v h' => v = some (.int 1)) [] h 0 0 133 #[.val (.int i0), .val (.long i1), .second, .val (.long i2), .second, .val (.long i3), .second, .val (.int i4), .val (.int se), .val (.ref kk), .val (.int (3 : Int32)), .val (.int (2 : Int32)), .val (.int t0), .val (.int t1), .val (.int t2), .val (.int k0), .val (.int k1), .val (.int k2), .unset, .unset, .unset, .unset] [] := by
  refine Wl.iload 135 at_133 rfl ?_
  refine Wl.iload 137 at_135 rfl ?_
  refine Wl.iload 139 at_137 rfl ?_
  refine Wl.iload 141 at_139 rfl ?_
  refine Wl.static 144 (argsL := [.int t0, .int t1, .int t2, .int (3 : Int32)]) at_141 (w11 hw) (w12 hw) (w5 hw) (w13 hw) (show parseMethodDescriptor "(CCCI)Ljava/lang/String;" = some ⟨[.char, .char, .char, .int], some (.object "java/lang/String")⟩ by decide +kernel) rfl (str3_met hw hcs hu lt0 lt1 lt2) (fun _ q => nomatch q) rfl rfl rfl (by decide) ⟨⟨nle rfl, nle rfl⟩, nle rfl, nle rfl⟩ ?_
  intro v1 h2 hq3 _
  obtain ⟨a4, rfl, E5, S6⟩ := hq3
  have B7 : Ext h h2 := E5
  show WlO _ _ _ _ _ _ _ _ _ _ _ _ _ _ _ _ _ _ [.ref a4]
  refine Wl.astore 146 #[.val (.int i0), .val (.long i1), .second, .val (.long i2), .second, .val (.long i3), .second, .val (.int i4), .val (.int se), .val (.ref kk), .val (.int (3 : Int32)), .val (.int (2 : Int32)), .val (.int t0), .val (.int t1), .val (.int t2), .val (.int k0), .val (.int k1), .val (.int k2), .val (.ref a4), .unset, .unset, .unset] at_144 rfl rfl ?_
  refine Wl.iload 148 at_146 rfl ?_
  refine Wl.iload 150 at_148 rfl ?_
  refine Wl.iload 152 at_150 rfl ?_
  refine Wl.iload 154 at_152 rfl ?_
  refine Wl.static 157 (argsL := [.int k0, .int k1, .int k2, .int (2 : Int32)]) at_154 (w11 hw) (w12 hw) (w5 hw) (w13 hw) (show parseMethodDescriptor "(CCCI)Ljava/lang/String;" = some ⟨[.char, .char, .char, .int], some (.object "java/lang/String")⟩ by decide +kernel) rfl (str2_met hw hcs hu lk0 lk1 lk2) (fun _ q => nomatch q) rfl rfl rfl (by decide) ⟨⟨nle rfl, nle rfl⟩, nle rfl, nle rfl⟩ ?_
  intro v8 h9 hq10 _
  obtain ⟨a11, rfl, E12, S13⟩ := hq10
  have B14 : Ext h h9 := extTr B7 E12
  show WlO _ _ _ _ _ _ _ _ _ _ _ _ _ _ _ _ _ _ [.ref a11]
  refine Wl.astore 159 #[.val (.int i0), .val (.long i1), .second, .val (.long i2), .second, .val (.long i3), .second, .val (.int i4), .val (.int se), .val (.ref kk), .val (.int (3 : Int32)), .val (.int (2 : Int32)), .val (.int t0), .val (.int t1), .val (.int t2), .val (.int k0), .val (.int k1), .val (.int k2), .val (.ref a4), .val (.ref a11), .unset, .unset] at_157 rfl rfl ?_
  refine Wl.new 162 at_159 (w36 hw) (w37 hw) (w38 hw) (nle rfl) (nle rfl) ?_
  intro a15 h16 q17 E18 X19 D20
  have z21 : h.size ≤ a15 := Nat.le_trans B14.1 (Nat.le_of_eq q17.symm)
  have z22 : h9.size ≤ a15 := Nat.le_of_eq q17.symm
  have ne23 : a4 ≠ a15 := Nat.ne_of_lt (by rw [q17]; exact (((S6).exa.ext E12)).lt)
  have ne24 : a11 ≠ a15 := Nat.ne_of_lt (by rw [q17]; exact ((S13).exa).lt)
  have B25 : Ext h h16 := extTr B14 E18
  have B26 : Ext h9 h16 := E18
  have F27 : Fld Z h16 a15 "com/example/grantwork/grantwork/Token" "kind" "Lcom/example/grantwork/grantwork/Token$Kind;" (.null) := D20 (Or.inr (w49 hw)) (ty := (.object "com/example/grantwork/grantwork/Token$Kind")) (by decide)
  have F28 : Fld Z h16 a15 "com/example/grantwork/grantwork/Token" "text" "Ljava/lang/String;" (.null) := D20 (Or.inr (w51 hw)) (ty := (.object "java/lang/String")) (by decide)
  have F29 : Fld Z h16 a15 "com/example/grantwork/grantwork/Token" "length" "J" (.long 0) := D20 (Or.inr (w53 hw)) (ty := .long) (by decide)
  have F30 : Fld Z h16 a15 "com/example/grantwork/grantwork/Token" "line" "I" (.int 0) := D20 (Or.inr (w55 hw)) (ty := .int) (by decide)
  refine Wl.dup 163 at_162 rfl ?_
  refine Wl.aload 165 at_163 rfl rfl ?_
  refine Wl.aload 167 at_165 rfl rfl ?_
  refine Wl.lload 169 at_167 rfl ?_
  refine Wl.iload 171 at_169 rfl ?_
  refine Wl.special 174 (argsL := [.ref kk, .ref a4, .long i3, .int i4]) at_171 (w39 hw) (w40 hw) (w38 hw) (w41 hw) (show parseMethodDescriptor "(Lcom/example/grantwork/grantwork/Token$Kind;Ljava/lang/String;JI)V" = some ⟨[(.object "com/example/grantwork/grantwork/Token$Kind"), (.object "java/lang/String"), .long, .int], none⟩ by decide +kernel) rfl (token_met hw X19 F27 F28 F29 F30) (allS (List.mem_of_getElem? (i := 0) rfl) (fun _ q => nomatch q)) rfl rfl rfl rfl (by decide) ⟨⟨nle rfl, nle rfl⟩, nle rfl, nle rfl⟩ ?_
  intro v31 h32 hq33 _
  obtain ⟨rfl, K34, X35, F36, F37, F38, F39⟩ := hq33
  have B40 : Ext h h32 := extKeep B25 K34 (allS z21 all0)
  have B41 : Ext h9 h32 := extKeep B26 K34 (allS z22 all0)
  show WlO _ _ _ _ _ _ _ _ _ _ _ _ _ _ _ _ _ _ [.ref a15]
  refine Wl.astore 176 #[.val (.int i0), .val (.long i1), .second, .val (.long i2), .second, .val (.long i3), .second, .val (.int i4), .val (.int se), .val (.ref kk), .val (.int (3 : Int32)), .val (.int (2 : Int32)), .val (.int t0), .val (.int t1), .val (.int t2), .val (.int k0), .val (.int k1), .val (.int k2), .val (.ref a4), .val (.ref a11), .val (.ref a15), .unset] at_174 rfl rfl ?_
  refine Wl.aload 178 at_176 rfl rfl ?_
  refine Wl.getstatic 181 at_178 (w0 hw) hK.1.1 ?_
  refine Wl.acmp 243 false at_181 rfl rfl (decide_eq_false fun q => hkk (Value.ref.inj q)) ?_
  refine Wl.iconst 244 (0 : Int32) at_243 (by decide) ?_
  refine Wl.istore 246 #[.val (.int i0), .val (.long i1), .second, .val (.long i2), .second, .val (.long i3), .second, .val (.int i4), .val (.int se), .val (.ref kk), .val (.int (3 : Int32)), .val (.int (2 : Int32)), .val (.int t0), .val (.int t1), .val (.int t2), .val (.int k0), .val (.int k1), .val (.int k2), .val (.ref a4), .val (.ref a11), .val (.ref a15), .val (.int (0 : Int32))] at_244 rfl ?_
  refine Wl.aload 248 at_246 rfl rfl ?_
  refine Wl.aload 250 at_248 rfl rfl ?_
  refine Wl.virtual 253 (argsL := [.ref a11]) at_250 (w56 hw) (w57 hw) (w59 hw) (w58 hw) (w38 hw) (w60 hw) (nf_sel (w59 hw) rfl) X35 (show parseMethodDescriptor "(Ljava/lang/String;)Z" = some ⟨[(.object "java/lang/String")], some .boolean⟩ by decide +kernel) rfl (kwN_met hw hK hkk F36 F37) (fun _ q => nomatch q) rfl rfl rfl (by decide) ⟨⟨nle rfl, nle rfl⟩, nle rfl, nle rfl⟩ ?_
  intro v42 h43 hq44 _
  obtain ⟨rfl, rfl⟩ := hq44
  show WlO _ _ _ _ _ _ _ _ _ _ _ _ _ _ _ _ _ _ [.int (0 : Int32)]
  refine Wl.iload 255 at_253 rfl ?_
  refine Wl.icmpN 258 at_255 (teq (by decide)).2 ?_
  refine Wl.iconst 259 (1 : Int32) at_258 (by decide) ?_
  refine Wl.goto 263 at_259 ?_
  exact Wl.ireturn at_263 rfl rfl (by simp) (nle rfl) (nle rfl) rfl
set_option maxRecDepth 65536 in
set_option maxHeartbeats 40000000 in
theorem law_o33 {l : Launch} {Z : State} {a0 : Array Value} (hw : ∀ d ∈ tables_1, d.before a0 Z = true) (hcs : CSon Z) (hfm : Fmt Z) (hu : U16on Z) {as : Array Value} {h : Heap} {i0 : Int32} {i1 i2 i3 : Int64} {i4 se : Int32} {kk kw ks ki : Addr} {t0 t1 t2 k0 k1 k2 : Int32} (hK : Kinds Z kw ks ki) (hkk : kk ≠ kw) (lt0 : Ch t0) (lt1 : Ch t1) (lt2 : Ch t2) (lk0 : Ch k0) (lk1 : Ch k1) (lk2 : Ch k2) (wk0 : nlow k0) (wk1 : nlow k1) (wk2 : nlow k2) :
    Wl l Z a0 consts_1 x code maxLocals ret room_1 as (fun v h' => v = some (.int 1)) [] h 0 0 133 #[.val (.int i0), .val (.long i1), .second, .val (.long i2), .second, .val (.long i3), .second, .val (.int i4), .val (.int se), .val (.ref kk), .val (.int (3 : Int32)), .val (.int (3 : Int32)), .val (.int t0), .val (.int t1), .val (.int t2), .val (.int k0), .val (.int k1), .val (.int k2), .unset, .unset, .unset, .unset] [] := by
  refine Wl.iload 135 at_133 rfl ?_
  refine Wl.iload 137 at_135 rfl ?_
  refine Wl.iload 139 at_137 rfl ?_
  refine Wl.iload 141 at_139 rfl ?_
  refine Wl.static 144 (argsL := [.int t0, .int t1, .int t2, .int (3 : Int32)]) at_141 (w11 hw) (w12 hw) (w5 hw) (w13 hw) (show parseMethodDescriptor "(CCCI)Ljava/lang/String;" = some ⟨[.char, .char, .char, .int], some (.object "java/lang/String")⟩ by decide +kernel) rfl (str3_met hw hcs hu lt0 lt1 lt2) (fun _ q => nomatch q) rfl rfl rfl (by decide) ⟨⟨nle rfl, nle rfl⟩, nle rfl, nle rfl⟩ ?_
  intro v1 h2 hq3 _
  obtain ⟨a4, rfl, E5, S6⟩ := hq3
  have B7 : Ext h h2 := E5
  show WlO _ _ _ _ _ _ _ _ _ _ _ _ _ _ _ _ _ _ [.ref a4]
  refine Wl.astore 146 #[.val (.int i0), .val (.long i1), .second, .val (.long i2), .second, .val (.long i3), .second, .val (.int i4), .val (.int se), .val (.ref kk), .val (.int (3 : Int32)), .val (.int (3 : Int32)), .val (.int t0), .val (.int t1), .val (.int t2), .val (.int k0), .val (.int k1), .val (.int k2), .val (.ref a4), .unset, .unset, .unset] at_144 rfl rfl ?_
  refine Wl.iload 148 at_146 rfl ?_
  refine Wl.iload 150 at_148 rfl ?_
  refine Wl.iload 152 at_150 rfl ?_
  refine Wl.iload 154 at_152 rfl ?_
  refine Wl.static 157 (argsL := [.int k0, .int k1, .int k2, .int (3 : Int32)]) at_154 (w11 hw) (w12 hw) (w5 hw) (w13 hw) (show parseMethodDescriptor "(CCCI)Ljava/lang/String;" = some ⟨[.char, .char, .char, .int], some (.object "java/lang/String")⟩ by decide +kernel) rfl (str3_met hw hcs hu lk0 lk1 lk2) (fun _ q => nomatch q) rfl rfl rfl (by decide) ⟨⟨nle rfl, nle rfl⟩, nle rfl, nle rfl⟩ ?_
  intro v8 h9 hq10 _
  obtain ⟨a11, rfl, E12, S13⟩ := hq10
  have B14 : Ext h h9 := extTr B7 E12
  show WlO _ _ _ _ _ _ _ _ _ _ _ _ _ _ _ _ _ _ [.ref a11]
  refine Wl.astore 159 #[.val (.int i0), .val (.long i1), .second, .val (.long i2), .second, .val (.long i3), .second, .val (.int i4), .val (.int se), .val (.ref kk), .val (.int (3 : Int32)), .val (.int (3 : Int32)), .val (.int t0), .val (.int t1), .val (.int t2), .val (.int k0), .val (.int k1), .val (.int k2), .val (.ref a4), .val (.ref a11), .unset, .unset] at_157 rfl rfl ?_
  refine Wl.new 162 at_159 (w36 hw) (w37 hw) (w38 hw) (nle rfl) (nle rfl) ?_
  intro a15 h16 q17 E18 X19 D20
  have z21 : h.size ≤ a15 := Nat.le_trans B14.1 (Nat.le_of_eq q17.symm)
  have z22 : h9.size ≤ a15 := Nat.le_of_eq q17.symm
  have ne23 : a4 ≠ a15 := Nat.ne_of_lt (by rw [q17]; exact (((S6).exa.ext E12)).lt)
  have ne24 : a11 ≠ a15 := Nat.ne_of_lt (by rw [q17]; exact ((S13).exa).lt)
  have B25 : Ext h h16 := extTr B14 E18
  have B26 : Ext h9 h16 := E18
  have F27 : Fld Z h16 a15 "com/example/grantwork/grantwork/Token" "kind" "Lcom/example/grantwork/grantwork/Token$Kind;" (.null) := D20 (Or.inr (w49 hw)) (ty := (.object "com/example/grantwork/grantwork/Token$Kind")) (by decide)
  have F28 : Fld Z h16 a15 "com/example/grantwork/grantwork/Token" "text" "Ljava/lang/String;" (.null) := D20 (Or.inr (w51 hw)) (ty := (.object "java/lang/String")) (by decide)
  have F29 : Fld Z h16 a15 "com/example/grantwork/grantwork/Token" "length" "J" (.long 0) := D20 (Or.inr (w53 hw)) (ty := .long) (by decide)
  have F30 : Fld Z h16 a15 "com/example/grantwork/grantwork/Token" "line" "I" (.int 0) := D20 (Or.inr (w55 hw)) (ty := .int) (by decide)
  refine Wl.dup 163 at_162 rfl ?_
  refine Wl.aload 165 at_163 rfl rfl ?_
  refine Wl.aload 167 at_165 rfl rfl ?_
  refine Wl.lload 169 at_167 rfl ?_
  refine Wl.iload 171 at_169 rfl ?_
  refine Wl.special 174 (argsL := [.ref kk, .ref a4, .long i3, .int i4]) at_171 (w39 hw) (w40 hw) (w38 hw) (w41 hw) (show parseMethodDescriptor "(Lcom/example/grantwork/grantwork/Token$Kind;Ljava/lang/String;JI)V" = some ⟨[(.object "com/example/grantwork/grantwork/Token$Kind"), (.object "java/lang/String"), .long, .int], none⟩ by decide +kernel) rfl (token_met hw X19 F27 F28 F29 F30) (allS (List.mem_of_getElem? (i := 0) rfl) (fun _ q => nomatch q)) rfl rfl rfl rfl (by decide) ⟨⟨nle rfl, nle rfl⟩, nle rfl, nle rfl⟩ ?_
  intro v31 h32 hq33 _
  obtain ⟨rfl, K34, X35, F36, F37, F38, F39⟩ := hq33
  have B40 : Ext h h32 := extKeep B25 K34 (allS z21 all0)
  have B41 : Ext h9 h32 := extKeep B26 K34 (allS z22 all0)
  show WlO _ _ _ _ _ _ _ _ _ _ _ _ _ _ _ _ _ _ [.ref a15]
  refine Wl.astore 176 #[.val (.int i0), .val (.long i1), .second, .val (.long i2), .second, .val (.long i3), .second, .val (.int i4), .val (.int se), .val (.ref kk), .val (.int (3 : Int32)), .val (.int (3 : Int32)), .val (.int t0), .val (.int t1), .val (.int t2), .val (.int k0), .val (.int k1), .val (.int k2), .val (.ref a4), .val (.ref a11), .val (.ref a15), .unset] at_174 rfl rfl ?_
  refine Wl.aload 178 at_176 rfl rfl ?_
  refine Wl.getstatic 181 at_178 (w0 hw) hK.1.1 ?_
  refine Wl.acmp 243 false at_181 rfl rfl (decide_eq_false fun q => hkk (Value.ref.inj q)) ?_
  refine Wl.iconst 244 (0 : Int32) at_243 (by decide) ?_
  refine Wl.istore 246 #[.val (.int i0), .val (.long i1), .second, .val (.long i2), .second, .val (.long i3), .second, .val (.int i4), .val (.int se), .val (.ref kk), .val (.int (3 : Int32)), .val (.int (3 : Int32)), .val (.int t0), .val (.int t1), .val (.int t2), .val (.int k0), .val (.int k1), .val (.int k2), .val (.ref a4), .val (.ref a11), .val (.ref a15), .val (.int (0 : Int32))] at_244 rfl ?_
  refine Wl.aload 248 at_246 rfl rfl ?_
  refine Wl.aload 250 at_248 rfl rfl ?_
  refine Wl.virtual 253 (argsL := [.ref a11]) at_250 (w56 hw) (w57 hw) (w59 hw) (w58 hw) (w38 hw) (w60 hw) (nf_sel (w59 hw) rfl) X35 (show parseMethodDescriptor "(Ljava/lang/String;)Z" = some ⟨[(.object "java/lang/String")], some .boolean⟩ by decide +kernel) rfl (kwN_met hw hK hkk F36 F37) (fun _ q => nomatch q) rfl rfl rfl (by decide) ⟨⟨nle rfl, nle rfl⟩, nle rfl, nle rfl⟩ ?_
  intro v42 h43 hq44 _
  obtain ⟨rfl, rfl⟩ := hq44
  show WlO _ _ _ _ _ _ _ _ _ _ _ _ _ _ _ _ _ _ [.int (0 : Int32)]
  refine Wl.iload 255 at_253 rfl ?_
  refine Wl.icmpN 258 at_255 (teq (by decide)).2 ?_
  refine Wl.iconst 259 (1 : Int32) at_258 (by decide) ?_
  refine Wl.goto 263 at_259 ?_
  exact Wl.ireturn at_263 rfl rfl (by simp) (nle rfl) (nle rfl) rfl
set_option maxRecDepth 65536 in
set_option maxHeartbeats 40000000 in
theorem law_met {l : Launch} {Z : State} {a0 : Array Value} (hw : ∀ d ∈ tables_1, d.before a0 Z = true) (hcs : CSon Z) (hfm : Fmt Z) (hu : U16on Z) {kw ks ki : Addr} (hK : Kinds Z kw ks ki) (i0 : Int32) (i1 i2 i3 : Int64) (i4 : Int32) :
    Met l Z consts_1 x code maxLocals ret tables_1 room_1 #[.int i0, .long i1, .long i2, .long i3, .int i4] Z.heap [] (fun v h' => v = some (.int 1)) := by
  generalize hh0 : Z.heap = h
  refine Met.of_walk (a0 := a0) (Ls := #[.val (.int i0), .val (.long i1), .second, .val (.long i2), .second, .val (.long i3), .second, .val (.int i4), .unset, .unset, .unset, .unset, .unset, .unset, .unset, .unset, .unset, .unset, .unset, .unset, .unset, .unset]) (plainFor_of_name pn_2) (own_hEL hw) (Array.toList_inj.mp ((Jvm.Sym.argsToLocals_toList _ _).trans rfl)) ?_
  refine Wl.iload_n 1 at_0 rfl ?_
  refine Wl.iconst 2 (3 : Int32) at_1 (by decide) ?_
  refine Wl.iand 3 at_2 ?_
  refine Wl.istore 5 #[.val (.int i0), .val (.long i1), .second, .val (.long i2), .second, .val (.long i3), .second, .val (.int i4), .val (.int (i0 &&& (3 : Int32))), .unset, .unset, .unset, .unset, .unset, .unset, .unset, .unset, .unset, .unset, .unset, .unset, .unset] at_3 rfl ?_
  refine Wl.iload 7 at_5 rfl ?_
  refine Wl.iconst 8 (1 : Int32) at_7 (by decide) ?_
  by_cases c1 : (i0 &&& (3 : Int32)) = (1 : Int32)
  · refine Wl.icmpN 11 at_8 (teq c1).2 ?_
    refine Wl.getstatic 14 at_11 (w111 hw) hK.1.2.1 ?_
    refine Wl.goto 32 at_14 ?_
    refine Wl.astore 34 #[.val (.int i0), .val (.long i1), .second, .val (.long i2), .second, .val (.long i3), .second, .val (.int i4), .val (.int (i0 &&& (3 : Int32))), .val (.ref ks), .unset, .unset, .unset, .unset, .unset, .unset, .unset, .unset, .unset, .unset, .unset, .unset] at_32 rfl rfl ?_
    refine Wl.iload_n 35 at_34 rfl ?_
    refine Wl.iconst 36 (2 : Int32) at_35 (by decide) ?_
    refine Wl.iushr 37 at_36 ?_
    refine Wl.iconst 38 (3 : Int32) at_37 (by decide) ?_
    refine Wl.iand 39 at_38 ?_
    refine Wl.istore 41 #[.val (.int i0), .val (.long i1), .second, .val (.long i2), .second, .val (.long i3), .second, .val (.int i4), .val (.int (i0 &&& (3 : Int32))), .val (.ref ks), .val (.int (((i0).toUInt32 >>> ((2 : Int32) &&& 31).toUInt32).toInt32 &&& (3 : Int32))), .unset, .unset, .unset, .unset, .unset, .unset, .unset, .unset, .unset, .unset, .unset] at_39 rfl ?_
    refine Wl.iload_n 42 at_41 rfl ?_
    refine Wl.iconst 43 (4 : Int32) at_42 (by decide) ?_
    refine Wl.iushr 44 at_43 ?_
    refine Wl.iconst 45 (1 : Int32) at_44 (by decide) ?_
    refine Wl.iand 46 at_45 ?_
    by_cases c2 : (((i0).toUInt32 >>> ((4 : Int32) &&& 31).toUInt32).toInt32 &&& (1 : Int32)) = (0 : Int32)
    · refine Wl.ifN 49 at_46 (teq c2).2 ?_
      refine Wl.iload 51 at_49 rfl ?_
      refine Wl.goto 59 at_51 ?_
      refine Wl.istore 61 #[.val (.int i0), .val (.long i1), .second, .val (.long i2), .second, .val (.long i3), .second, .val (.int i4), .val (.int (i0 &&& (3 : Int32))), .val (.ref ks), .val (.int (((i0).toUInt32 >>> ((2 : Int32) &&& 31).toUInt32).toInt32 &&& (3 : Int32))), .val (.int (((i0).toUInt32 >>> ((2 : Int32) &&& 31).toUInt32).toInt32 &&& (3 : Int32))), .unset, .unset, .unset, .unset, .unset, .unset, .unset, .unset, .unset, .unset] at_59 rfl ?_
      refine Wl.lload_n 62 at_61 rfl ?_
      refine Wl.iconst 63 (0 : Int32) at_62 (by decide) ?_
      refine Wl.iload_n 64 at_63 rfl ?_
      refine Wl.bipush 66 (7 : Int32) at_64 (by decide) ?_
      refine Wl.iushr 67 at_66 ?_
      refine Wl.static 70 (argsL := [.long i1, .int (0 : Int32), .int (((i0).toUInt32 >>> ((7 : Int32) &&& 31).toUInt32).toInt32)]) at_67 (w3 hw) (w4 hw) (w5 hw) (w6 hw) (show parseMethodDescriptor "(JII)C" = some ⟨[.long, .int, .int], some .char⟩ by decide +kernel) rfl (text_met hw) (fun _ q => nomatch q) rfl rfl rfl (by decide) ⟨⟨nle rfl, nle rfl⟩, nle rfl, nle rfl⟩ ?_
      intro v3 h4 hq5 _
      obtain ⟨z6, rfl, l7, rfl⟩ := hq5
      show WlO _ _ _ _ _ _ _ _ _ _ _ _ _ _ _ _ _ _ [.int z6]
      refine Wl.istore 72 #[.val (.int i0), .val (.long i1), .second, .val (.long i2), .second, .val (.long i3), .second, .val (.int i4), .val (.int (i0 &&& (3 : Int32))), .val (.ref ks), .val (.int (((i0).toUInt32 >>> ((2 : Int32) &&& 31).toUInt32).toInt32 &&& (3 : Int32))), .val (.int (((i0).toUInt32 >>> ((2 : Int32) &&& 31).toUInt32).toInt32 &&& (3 : Int32))), .val (.int z6), .unset, .unset, .unset, .unset, .unset, .unset, .unset, .unset, .unset] at_70 rfl ?_
      refine Wl.lload_n 73 at_72 rfl ?_
      refine Wl.iconst 74 (1 : Int32) at_73 (by decide) ?_
      refine Wl.iload_n 75 at_74 rfl ?_
      refine Wl.bipush 77 (8 : Int32) at_75 (by decide) ?_
      refine Wl.iushr 78 at_77 ?_
      refine Wl.static 81 (argsL := [.long i1, .int (1 : Int32), .int (((i0).toUInt32 >>> ((8 : Int32) &&& 31).toUInt32).toInt32)]) at_78 (w3 hw) (w4 hw) (w5 hw) (w6 hw) (show parseMethodDescriptor "(JII)C" = some ⟨[.long, .int, .int], some .char⟩ by decide +kernel) rfl (text_met hw) (fun _ q => nomatch q) rfl rfl rfl (by decide) ⟨⟨nle rfl, nle rfl⟩, nle rfl, nle rfl⟩ ?_
      intro v8 h9 hq10 _
      obtain ⟨z11, rfl, l12, rfl⟩ := hq10
      show WlO _ _ _ _ _ _ _ _ _ _ _ _ _ _ _ _ _ _ [.int z11]
      refine Wl.istore 83 #[.val (.int i0), .val (.long i1), .second, .val (.long i2), .second, .val (.long i3), .second, .val (.int i4), .val (.int (i0 &&& (3 : Int32))), .val (.ref ks), .val (.int (((i0).toUInt32 >>> ((2 : Int32) &&& 31).toUInt32).toInt32 &&& (3 : Int32))), .val (.int (((i0).toUInt32 >>> ((2 : Int32) &&& 31).toUInt32).toInt32 &&& (3 : Int32))), .val (.int z6), .val (.int z11), .unset, .unset, .unset, .unset, .unset, .unset, .unset, .unset] at_81 rfl ?_
      refine Wl.lload_n 84 at_83 rfl ?_
      refine Wl.iconst 85 (2 : Int32) at_84 (by decide) ?_
      refine Wl.iload_n 86 at_85 rfl ?_
      refine Wl.bipush 88 (9 : Int32) at_86 (by decide) ?_
      refine Wl.iushr 89 at_88 ?_
      refine Wl.static 92 (argsL := [.long i1, .int (2 : Int32), .int (((i0).toUInt32 >>> ((9 : Int32) &&& 31).toUInt32).toInt32)]) at_89 (w3 hw) (w4 hw) (w5 hw) (w6 hw) (show parseMethodDescriptor "(JII)C" = some ⟨[.long, .int, .int], some .char⟩ by decide +kernel) rfl (text_met hw) (fun _ q => nomatch q) rfl rfl rfl (by decide) ⟨⟨nle rfl, nle rfl⟩, nle rfl, nle rfl⟩ ?_
      intro v13 h14 hq15 _
      obtain ⟨z16, rfl, l17, rfl⟩ := hq15
      show WlO _ _ _ _ _ _ _ _ _ _ _ _ _ _ _ _ _ _ [.int z16]
      refine Wl.istore 94 #[.val (.int i0), .val (.long i1), .second, .val (.long i2), .second, .val (.long i3), .second, .val (.int i4), .val (.int (i0 &&& (3 : Int32))), .val (.ref ks), .val (.int (((i0).toUInt32 >>> ((2 : Int32) &&& 31).toUInt32).toInt32 &&& (3 : Int32))), .val (.int (((i0).toUInt32 >>> ((2 : Int32) &&& 31).toUInt32).toInt32 &&& (3 : Int32))), .val (.int z6), .val (.int z11), .val (.int z16), .unset, .unset, .unset, .unset, .unset, .unset, .unset] at_92 rfl ?_
      refine Wl.iload 96 at_94 rfl ?_
      refine Wl.lload_n 97 at_96 rfl ?_
      refine Wl.iconst 98 (0 : Int32) at_97 (by decide) ?_
      refine Wl.iload_n 99 at_98 rfl ?_
      refine Wl.bipush 101 (10 : Int32) at_99 (by decide) ?_
      refine Wl.iushr 102 at_101 ?_
      refine Wl.static 105 (argsL := [.int z6, .long i2, .int (0 : Int32), .int (((i0).toUInt32 >>> ((10 : Int32) &&& 31).toUInt32).toInt32)]) at_102 (w8 hw) (w9 hw) (w5 hw) (w10 hw) (show parseMethodDescriptor "(CJII)C" = some ⟨[.char, .long, .int, .int], some .char⟩ by decide +kernel) rfl (key_met hw l7) (fun _ q => nomatch q) rfl rfl rfl (by decide) ⟨⟨nle rfl, nle rfl⟩, nle rfl, nle rfl⟩ ?_
      intro v18 h19 hq20 _
      obtain ⟨z21, rfl, l22, w23, rfl⟩ := hq20
      show WlO _ _ _ _ _ _ _ _ _ _ _ _ _ _ _ _ _ _ [.int z21]
      refine Wl.istore 107 #[.val (.int i0), .val (.long i1), .second, .val (.long i2), .second, .val (.long i3), .second, .val (.int i4), .val (.int (i0 &&& (3 : Int32))), .val (.ref ks), .val (.int (((i0).toUInt32 >>> ((2 : Int32) &&& 31).toUInt32).toInt32 &&& (3 : Int32))), .val (.int (((i0).toUInt32 >>> ((2 : Int32) &&& 31).toUInt32).toInt32 &&& (3 : Int32))), .val (.int z6), .val (.int z11), .val (.int z16), .val (.int z21), .unset, .unset, .unset, .unset, .unset, .unset] at_105 rfl ?_
      refine Wl.iload 109 at_107 rfl ?_
      refine Wl.lload_n 110 at_109 rfl ?_
      refine Wl.iconst 111 (1 : Int32) at_110 (by decide) ?_
      refine Wl.iload_n 112 at_111 rfl ?_
      refine Wl.bipush 114 (12 : Int32) at_112 (by decide) ?_
      refine Wl.iushr 115 at_114 ?_
      refine Wl.static 118 (argsL := [.int z11, .long i2, .int (1 : Int32), .int (((i0).toUInt32 >>> ((12 : Int32) &&& 31).toUInt32).toInt32)]) at_115 (w8 hw) (w9 hw) (w5 hw) (w10 hw) (show parseMethodDescriptor "(CJII)C" = some ⟨[.char, .long, .int, .int], some .char⟩ by decide +kernel) rfl (key_met hw l12) (fun _ q => nomatch q) rfl rfl rfl (by decide) ⟨⟨nle rfl, nle rfl⟩, nle rfl, nle rfl⟩ ?_
      intro v24 h25 hq26 _
      obtain ⟨z27, rfl, l28, w29, rfl⟩ := hq26
      show WlO _ _ _ _ _ _ _ _ _ _ _ _ _ _ _ _ _ _ [.int z27]
      refine Wl.istore 120 #[.val (.int i0), .val (.long i1), .second, .val (.long i2), .second, .val (.long i3), .second, .val (.int i4), .val (.int (i0 &&& (3 : Int32))), .val (.ref ks), .val (.int (((i0).toUInt32 >>> ((2 : Int32) &&& 31).toUInt32).toInt32 &&& (3 : Int32))), .val (.int (((i0).toUInt32 >>> ((2 : Int32) &&& 31).toUInt32).toInt32 &&& (3 : Int32))), .val (.int z6), .val (.int z11), .val (.int z16), .val (.int z21), .val (.int z27), .unset, .unset, .unset, .unset, .unset] at_118 rfl ?_
      refine Wl.iload 122 at_120 rfl ?_
      refine Wl.lload_n 123 at_122 rfl ?_
      refine Wl.iconst 124 (2 : Int32) at_123 (by decide) ?_
      refine Wl.iload_n 125 at_124 rfl ?_
      refine Wl.bipush 127 (14 : Int32) at_125 (by decide) ?_
      refine Wl.iushr 128 at_127 ?_
      refine Wl.static 131 (argsL := [.int z16, .long i2, .int (2 : Int32), .int (((i0).toUInt32 >>> ((14 : Int32) &&& 31).toUInt32).toInt32)]) at_128 (w8 hw) (w9 hw) (w5 hw) (w10 hw) (show parseMethodDescriptor "(CJII)C" = some ⟨[.char, .long, .int, .int], some .char⟩ by decide +kernel) rfl (key_met hw l17) (fun _ q => nomatch q) rfl rfl rfl (by decide) ⟨⟨nle rfl, nle rfl⟩, nle rfl, nle rfl⟩ ?_
      intro v30 h31 hq32 _
      obtain ⟨z33, rfl, l34, w35, rfl⟩ := hq32
      show WlO _ _ _ _ _ _ _ _ _ _ _ _ _ _ _ _ _ _ [.int z33]
      refine Wl.istore 133 #[.val (.int i0), .val (.long i1), .second, .val (.long i2), .second, .val (.long i3), .second, .val (.int i4), .val (.int (i0 &&& (3 : Int32))), .val (.ref ks), .val (.int (((i0).toUInt32 >>> ((2 : Int32) &&& 31).toUInt32).toInt32 &&& (3 : Int32))), .val (.int (((i0).toUInt32 >>> ((2 : Int32) &&& 31).toUInt32).toInt32 &&& (3 : Int32))), .val (.int z6), .val (.int z11), .val (.int z16), .val (.int z21), .val (.int z27), .val (.int z33), .unset, .unset, .unset, .unset] at_131 rfl ?_
      rcases and3 (((i0).toUInt32 >>> ((2 : Int32) &&& 31).toUInt32).toInt32) with e | e | e | e <;> rw [e]
      · exact law_o00 hw hcs hfm hu hK hK.2.1 l7 l12 l17 l22 l28 l34 w23 w29 w35
      · exact law_o11 hw hcs hfm hu hK hK.2.1 l7 l12 l17 l22 l28 l34 w23 w29 w35
      · exact law_o22 hw hcs hfm hu hK hK.2.1 l7 l12 l17 l22 l28 l34 w23 w29 w35
      · exact law_o33 hw hcs hfm hu hK hK.2.1 l7 l12 l17 l22 l28 l34 w23 w29 w35
    · refine Wl.ifY 54 at_46 (feq c2).2 ?_
      refine Wl.iload_n 55 at_54 rfl ?_
      refine Wl.iconst 56 (5 : Int32) at_55 (by decide) ?_
      refine Wl.iushr 57 at_56 ?_
      refine Wl.iconst 58 (3 : Int32) at_57 (by decide) ?_
      refine Wl.iand 59 at_58 ?_
      refine Wl.istore 61 #[.val (.int i0), .val (.long i1), .second, .val (.long i2), .second, .val (.long i3), .second, .val (.int i4), .val (.int (i0 &&& (3 : Int32))), .val (.ref ks), .val (.int (((i0).toUInt32 >>> ((2 : Int32) &&& 31).toUInt32).toInt32 &&& (3 : Int32))), .val (.int (((i0).toUInt32 >>> ((5 : Int32) &&& 31).toUInt32).toInt32 &&& (3 : Int32))), .unset, .unset, .unset, .unset, .unset, .unset, .unset, .unset, .unset, .unset] at_59 rfl ?_
      refine Wl.lload_n 62 at_61 rfl ?_
      refine Wl.iconst 63 (0 : Int32) at_62 (by decide) ?_
      refine Wl.iload_n 64 at_63 rfl ?_
      refine Wl.bipush 66 (7 : Int32) at_64 (by decide) ?_
      refine Wl.iushr 67 at_66 ?_
      refine Wl.static 70 (argsL := [.long i1, .int (0 : Int32), .int (((i0).toUInt32 >>> ((7 : Int32) &&& 31).toUInt32).toInt32)]) at_67 (w3 hw) (w4 hw) (w5 hw) (w6 hw) (show parseMethodDescriptor "(JII)C" = some ⟨[.long, .int, .int], some .char⟩ by decide +kernel) rfl (text_met hw) (fun _ q => nomatch q) rfl rfl rfl (by decide) ⟨⟨nle rfl, nle rfl⟩, nle rfl, nle rfl⟩ ?_
      intro v36 h37 hq38 _
      obtain ⟨z39, rfl, l40, rfl⟩ := hq38
      show WlO _ _ _ _ _ _ _ _ _ _ _ _ _ _ _ _ _ _ [.int z39]
      refine Wl.istore 72 #[.val (.int i0), .val (.long i1), .second, .val (.long i2), .second, .val (.long i3), .second, .val (.int i4), .val (.int (i0 &&& (3 : Int32))), .val (.ref ks), .val (.int (((i0).toUInt32 >>> ((2 : Int32) &&& 31).toUInt32).toInt32 &&& (3 : Int32))), .val (.int (((i0).toUInt32 >>> ((5 : Int32) &&& 31).toUInt32).toInt32 &&& (3 : Int32))), .val (.int z39), .unset, .unset, .unset, .unset, .unset, .unset, .unset, .unset, .unset] at_70 rfl ?_
      refine Wl.lload_n 73 at_72 rfl ?_
      refine Wl.iconst 74 (1 : Int32) at_73 (by decide) ?_
      refine Wl.iload_n 75 at_74 rfl ?_
      refine Wl.bipush 77 (8 : Int32) at_75 (by decide) ?_
      refine Wl.iushr 78 at_77 ?_
      refine Wl.static 81 (argsL := [.long i1, .int (1 : Int32), .int (((i0).toUInt32 >>> ((8 : Int32) &&& 31).toUInt32).toInt32)]) at_78 (w3 hw) (w4 hw) (w5 hw) (w6 hw) (show parseMethodDescriptor "(JII)C" = some ⟨[.long, .int, .int], some .char⟩ by decide +kernel) rfl (text_met hw) (fun _ q => nomatch q) rfl rfl rfl (by decide) ⟨⟨nle rfl, nle rfl⟩, nle rfl, nle rfl⟩ ?_
      intro v41 h42 hq43 _
      obtain ⟨z44, rfl, l45, rfl⟩ := hq43
      show WlO _ _ _ _ _ _ _ _ _ _ _ _ _ _ _ _ _ _ [.int z44]
      refine Wl.istore 83 #[.val (.int i0), .val (.long i1), .second, .val (.long i2), .second, .val (.long i3), .second, .val (.int i4), .val (.int (i0 &&& (3 : Int32))), .val (.ref ks), .val (.int (((i0).toUInt32 >>> ((2 : Int32) &&& 31).toUInt32).toInt32 &&& (3 : Int32))), .val (.int (((i0).toUInt32 >>> ((5 : Int32) &&& 31).toUInt32).toInt32 &&& (3 : Int32))), .val (.int z39), .val (.int z44), .unset, .unset, .unset, .unset, .unset, .unset, .unset, .unset] at_81 rfl ?_
      refine Wl.lload_n 84 at_83 rfl ?_
      refine Wl.iconst 85 (2 : Int32) at_84 (by decide) ?_
      refine Wl.iload_n 86 at_85 rfl ?_
      refine Wl.bipush 88 (9 : Int32) at_86 (by decide) ?_
      refine Wl.iushr 89 at_88 ?_
      refine Wl.static 92 (argsL := [.long i1, .int (2 : Int32), .int (((i0).toUInt32 >>> ((9 : Int32) &&& 31).toUInt32).toInt32)]) at_89 (w3 hw) (w4 hw) (w5 hw) (w6 hw) (show parseMethodDescriptor "(JII)C" = some ⟨[.long, .int, .int], some .char⟩ by decide +kernel) rfl (text_met hw) (fun _ q => nomatch q) rfl rfl rfl (by decide) ⟨⟨nle rfl, nle rfl⟩, nle rfl, nle rfl⟩ ?_
      intro v46 h47 hq48 _
      obtain ⟨z49, rfl, l50, rfl⟩ := hq48
      show WlO _ _ _ _ _ _ _ _ _ _ _ _ _ _ _ _ _ _ [.int z49]
      refine Wl.istore 94 #[.val (.int i0), .val (.long i1), .second, .val (.long i2), .second, .val (.long i3), .second, .val (.int i4), .val (.int (i0 &&& (3 : Int32))), .val (.ref ks), .val (.int (((i0).toUInt32 >>> ((2 : Int32) &&& 31).toUInt32).toInt32 &&& (3 : Int32))), .val (.int (((i0).toUInt32 >>> ((5 : Int32) &&& 31).toUInt32).toInt32 &&& (3 : Int32))), .val (.int z39), .val (.int z44), .val (.int z49), .unset, .unset, .unset, .unset, .unset, .unset, .unset] at_92 rfl ?_
      refine Wl.iload 96 at_94 rfl ?_
      refine Wl.lload_n 97 at_96 rfl ?_
      refine Wl.iconst 98 (0 : Int32) at_97 (by decide) ?_
      refine Wl.iload_n 99 at_98 rfl ?_
      refine Wl.bipush 101 (10 : Int32) at_99 (by decide) ?_
      refine Wl.iushr 102 at_101 ?_
      refine Wl.static 105 (argsL := [.int z39, .long i2, .int (0 : Int32), .int (((i0).toUInt32 >>> ((10 : Int32) &&& 31).toUInt32).toInt32)]) at_102 (w8 hw) (w9 hw) (w5 hw) (w10 hw) (show parseMethodDescriptor "(CJII)C" = some ⟨[.char, .long, .int, .int], some .char⟩ by decide +kernel) rfl (key_met hw l40) (fun _ q => nomatch q) rfl rfl rfl (by decide) ⟨⟨nle rfl, nle rfl⟩, nle rfl, nle rfl⟩ ?_
      intro v51 h52 hq53 _
      obtain ⟨z54, rfl, l55, w56, rfl⟩ := hq53
      show WlO _ _ _ _ _ _ _ _ _ _ _ _ _ _ _ _ _ _ [.int z54]
      refine Wl.istore 107 #[.val (.int i0), .val (.long i1), .second, .val (.long i2), .second, .val (.long i3), .second, .val (.int i4), .val (.int (i0 &&& (3 : Int32))), .val (.ref ks), .val (.int (((i0).toUInt32 >>> ((2 : Int32) &&& 31).toUInt32).toInt32 &&& (3 : Int32))), .val (.int (((i0).toUInt32 >>> ((5 : Int32) &&& 31).toUInt32).toInt32 &&& (3 : Int32))), .val (.int z39), .val (.int z44), .val (.int z49), .val (.int z54), .unset, .unset, .unset, .unset, .unset, .unset] at_105 rfl ?_
      refine Wl.iload 109 at_107 rfl ?_
      refine Wl.lload_n 110 at_109 rfl ?_
      refine Wl.iconst 111 (1 : Int32) at_110 (by decide) ?_
      refine Wl.iload_n 112 at_111 rfl ?_
      refine Wl.bipush 114 (12 : Int32) at_112 (by decide) ?_
      refine Wl.iushr 115 at_114 ?_
      refine Wl.static 118 (argsL := [.int z44, .long i2, .int (1 : Int32), .int (((i0).toUInt32 >>> ((12 : Int32) &&& 31).toUInt32).toInt32)]) at_115 (w8 hw) (w9 hw) (w5 hw) (w10 hw) (show parseMethodDescriptor "(CJII)C" = some ⟨[.char, .long, .int, .int], some .char⟩ by decide +kernel) rfl (key_met hw l45) (fun _ q => nomatch q) rfl rfl rfl (by decide) ⟨⟨nle rfl, nle rfl⟩, nle rfl, nle rfl⟩ ?_
      intro v57 h58 hq59 _
      obtain ⟨z60, rfl, l61, w62, rfl⟩ := hq59
      show WlO _ _ _ _ _ _ _ _ _ _ _ _ _ _ _ _ _ _ [.int z60]
      refine Wl.istore 120 #[.val (.int i0), .val (.long i1), .second, .val (.long i2), .second, .val (.long i3), .second, .val (.int i4), .val (.int (i0 &&& (3 : Int32))), .val (.ref ks), .val (.int (((i0).toUInt32 >>> ((2 : Int32) &&& 31).toUInt32).toInt32 &&& (3 : Int32))), .val (.int (((i0).toUInt32 >>> ((5 : Int32) &&& 31).toUInt32).toInt32 &&& (3 : Int32))), .val (.int z39), .val (.int z44), .val (.int z49), .val (.int z54), .val (.int z60), .unset, .unset, .unset, .unset, .unset] at_118 rfl ?_
      refine Wl.iload 122 at_120 rfl ?_
      refine Wl.lload_n 123 at_122 rfl ?_
      refine Wl.iconst 124 (2 : Int32) at_123 (by decide) ?_
      refine Wl.iload_n 125 at_124 rfl ?_
      refine Wl.bipush 127 (14 : Int32) at_125 (by decide) ?_
      refine Wl.iushr 128 at_127 ?_
      refine Wl.static 131 (argsL := [.int z49, .long i2, .int (2 : Int32), .int (((i0).toUInt32 >>> ((14 : Int32) &&& 31).toUInt32).toInt32)]) at_128 (w8 hw) (w9 hw) (w5 hw) (w10 hw) (show parseMethodDescriptor "(CJII)C" = some ⟨[.char, .long, .int, .int], some .char⟩ by decide +kernel) rfl (key_met hw l50) (fun _ q => nomatch q) rfl rfl rfl (by decide) ⟨⟨nle rfl, nle rfl⟩, nle rfl, nle rfl⟩ ?_
      intro v63 h64 hq65 _
      obtain ⟨z66, rfl, l67, w68, rfl⟩ := hq65
      show WlO _ _ _ _ _ _ _ _ _ _ _ _ _ _ _ _ _ _ [.int z66]
      refine Wl.istore 133 #[.val (.int i0), .val (.long i1), .second, .val (.long i2), .second, .val (.long i3), .second, .val (.int i4), .val (.int (i0 &&& (3 : Int32))), .val (.ref ks), .val (.int (((i0).toUInt32 >>> ((2 : Int32) &&& 31).toUInt32).toInt32 &&& (3 : Int32))), .val (.int (((i0).toUInt32 >>> ((5 : Int32) &&& 31).toUInt32).toInt32 &&& (3 : Int32))), .val (.int z39), .val (.int z44), .val (.int z49), .val (.int z54), .val (.int z60), .val (.int z66), .unset, .unset, .unset, .unset] at_131 rfl ?_
      rcases and3 (((i0).toUInt32 >>> ((2 : Int32) &&& 31).toUInt32).toInt32) with e | e | e | e <;> rw [e]
      · rcases and3 (((i0).toUInt32 >>> ((5 : Int32) &&& 31).toUInt32).toInt32) with f | f | f | f <;> rw [f]
        · exact law_o00 hw hcs hfm hu hK hK.2.1 l40 l45 l50 l55 l61 l67 w56 w62 w68
        · exact law_o01 hw hcs hfm hu hK hK.2.1 l40 l45 l50 l55 l61 l67 w56 w62 w68
        · exact law_o02 hw hcs hfm hu hK hK.2.1 l40 l45 l50 l55 l61 l67 w56 w62 w68
        · exact law_o03 hw hcs hfm hu hK hK.2.1 l40 l45 l50 l55 l61 l67 w56 w62 w68
      · rcases and3 (((i0).toUInt32 >>> ((5 : Int32) &&& 31).toUInt32).toInt32) with f | f | f | f <;> rw [f]
        · exact law_o10 hw hcs hfm hu hK hK.2.1 l40 l45 l50 l55 l61 l67 w56 w62 w68
        · exact law_o11 hw hcs hfm hu hK hK.2.1 l40 l45 l50 l55 l61 l67 w56 w62 w68
        · exact law_o12 hw hcs hfm hu hK hK.2.1 l40 l45 l50 l55 l61 l67 w56 w62 w68
        · exact law_o13 hw hcs hfm hu hK hK.2.1 l40 l45 l50 l55 l61 l67 w56 w62 w68
      · rcases and3 (((i0).toUInt32 >>> ((5 : Int32) &&& 31).toUInt32).toInt32) with f | f | f | f <;> rw [f]
        · exact law_o20 hw hcs hfm hu hK hK.2.1 l40 l45 l50 l55 l61 l67 w56 w62 w68
        · exact law_o21 hw hcs hfm hu hK hK.2.1 l40 l45 l50 l55 l61 l67 w56 w62 w68
        · exact law_o22 hw hcs hfm hu hK hK.2.1 l40 l45 l50 l55 l61 l67 w56 w62 w68
        · exact law_o23 hw hcs hfm hu hK hK.2.1 l40 l45 l50 l55 l61 l67 w56 w62 w68
      · rcases and3 (((i0).toUInt32 >>> ((5 : Int32) &&& 31).toUInt32).toInt32) with f | f | f | f <;> rw [f]
        · exact law_o30 hw hcs hfm hu hK hK.2.1 l40 l45 l50 l55 l61 l67 w56 w62 w68
        · exact law_o31 hw hcs hfm hu hK hK.2.1 l40 l45 l50 l55 l61 l67 w56 w62 w68
        · exact law_o32 hw hcs hfm hu hK hK.2.1 l40 l45 l50 l55 l61 l67 w56 w62 w68
        · exact law_o33 hw hcs hfm hu hK hK.2.1 l40 l45 l50 l55 l61 l67 w56 w62 w68
  · refine Wl.icmpY 17 at_8 (feq c1).2 ?_
    refine Wl.iload 19 at_17 rfl ?_
    refine Wl.iconst 20 (2 : Int32) at_19 (by decide) ?_
    by_cases c69 : (i0 &&& (3 : Int32)) = (2 : Int32)
    · refine Wl.icmpN 23 at_20 (teq c69).2 ?_
      refine Wl.getstatic 26 at_23 (w143 hw) hK.1.2.2 ?_
      refine Wl.goto 32 at_26 ?_
      refine Wl.astore 34 #[.val (.int i0), .val (.long i1), .second, .val (.long i2), .second, .val (.long i3), .second, .val (.int i4), .val (.int (i0 &&& (3 : Int32))), .val (.ref ki), .unset, .unset, .unset, .unset, .unset, .unset, .unset, .unset, .unset, .unset, .unset, .unset] at_32 rfl rfl ?_
      refine Wl.iload_n 35 at_34 rfl ?_
      refine Wl.iconst 36 (2 : Int32) at_35 (by decide) ?_
      refine Wl.iushr 37 at_36 ?_
      refine Wl.iconst 38 (3 : Int32) at_37 (by decide) ?_
      refine Wl.iand 39 at_38 ?_
      refine Wl.istore 41 #[.val (.int i0), .val (.long i1), .second, .val (.long i2), .second, .val (.long i3), .second, .val (.int i4), .val (.int (i0 &&& (3 : Int32))), .val (.ref ki), .val (.int (((i0).toUInt32 >>> ((2 : Int32) &&& 31).toUInt32).toInt32 &&& (3 : Int32))), .unset, .unset, .unset, .unset, .unset, .unset, .unset, .unset, .unset, .unset, .unset] at_39 rfl ?_
      refine Wl.iload_n 42 at_41 rfl ?_
      refine Wl.iconst 43 (4 : Int32) at_42 (by decide) ?_
      refine Wl.iushr 44 at_43 ?_
      refine Wl.iconst 45 (1 : Int32) at_44 (by decide) ?_
      refine Wl.iand 46 at_45 ?_
      by_cases c70 : (((i0).toUInt32 >>> ((4 : Int32) &&& 31).toUInt32).toInt32 &&& (1 : Int32)) = (0 : Int32)
      · refine Wl.ifN 49 at_46 (teq c70).2 ?_
        refine Wl.iload 51 at_49 rfl ?_
        refine Wl.goto 59 at_51 ?_
        refine Wl.istore 61 #[.val (.int i0), .val (.long i1), .second, .val (.long i2), .second, .val (.long i3), .second, .val (.int i4), .val (.int (i0 &&& (3 : Int32))), .val (.ref ki), .val (.int (((i0).toUInt32 >>> ((2 : Int32) &&& 31).toUInt32).toInt32 &&& (3 : Int32))), .val (.int (((i0).toUInt32 >>> ((2 : Int32) &&& 31).toUInt32).toInt32 &&& (3 : Int32))), .unset, .unset, .unset, .unset, .unset, .unset, .unset, .unset, .unset, .unset] at_59 rfl ?_
        refine Wl.lload_n 62 at_61 rfl ?_
        refine Wl.iconst 63 (0 : Int32) at_62 (by decide) ?_
        refine Wl.iload_n 64 at_63 rfl ?_
        refine Wl.bipush 66 (7 : Int32) at_64 (by decide) ?_
        refine Wl.iushr 67 at_66 ?_
        refine Wl.static 70 (argsL := [.long i1, .int (0 : Int32), .int (((i0).toUInt32 >>> ((7 : Int32) &&& 31).toUInt32).toInt32)]) at_67 (w3 hw) (w4 hw) (w5 hw) (w6 hw) (show parseMethodDescriptor "(JII)C" = some ⟨[.long, .int, .int], some .char⟩ by decide +kernel) rfl (text_met hw) (fun _ q => nomatch q) rfl rfl rfl (by decide) ⟨⟨nle rfl, nle rfl⟩, nle rfl, nle rfl⟩ ?_
        intro v71 h72 hq73 _
        obtain ⟨z74, rfl, l75, rfl⟩ := hq73
        show WlO _ _ _ _ _ _ _ _ _ _ _ _ _ _ _ _ _ _ [.int z74]
        refine Wl.istore 72 #[.val (.int i0), .val (.long i1), .second, .val (.long i2), .second, .val (.long i3), .second, .val (.int i4), .val (.int (i0 &&& (3 : Int32))), .val (.ref ki), .val (.int (((i0).toUInt32 >>> ((2 : Int32) &&& 31).toUInt32).toInt32 &&& (3 : Int32))), .val (.int (((i0).toUInt32 >>> ((2 : Int32) &&& 31).toUInt32).toInt32 &&& (3 : Int32))), .val (.int z74), .unset, .unset, .unset, .unset, .unset, .unset, .unset, .unset, .unset] at_70 rfl ?_
        refine Wl.lload_n 73 at_72 rfl ?_
        refine Wl.iconst 74 (1 : Int32) at_73 (by decide) ?_
        refine Wl.iload_n 75 at_74 rfl ?_
        refine Wl.bipush 77 (8 : Int32) at_75 (by decide) ?_
        refine Wl.iushr 78 at_77 ?_
        refine Wl.static 81 (argsL := [.long i1, .int (1 : Int32), .int (((i0).toUInt32 >>> ((8 : Int32) &&& 31).toUInt32).toInt32)]) at_78 (w3 hw) (w4 hw) (w5 hw) (w6 hw) (show parseMethodDescriptor "(JII)C" = some ⟨[.long, .int, .int], some .char⟩ by decide +kernel) rfl (text_met hw) (fun _ q => nomatch q) rfl rfl rfl (by decide) ⟨⟨nle rfl, nle rfl⟩, nle rfl, nle rfl⟩ ?_
        intro v76 h77 hq78 _
        obtain ⟨z79, rfl, l80, rfl⟩ := hq78
        show WlO _ _ _ _ _ _ _ _ _ _ _ _ _ _ _ _ _ _ [.int z79]
        refine Wl.istore 83 #[.val (.int i0), .val (.long i1), .second, .val (.long i2), .second, .val (.long i3), .second, .val (.int i4), .val (.int (i0 &&& (3 : Int32))), .val (.ref ki), .val (.int (((i0).toUInt32 >>> ((2 : Int32) &&& 31).toUInt32).toInt32 &&& (3 : Int32))), .val (.int (((i0).toUInt32 >>> ((2 : Int32) &&& 31).toUInt32).toInt32 &&& (3 : Int32))), .val (.int z74), .val (.int z79), .unset, .unset, .unset, .unset, .unset, .unset, .unset, .unset] at_81 rfl ?_
        refine Wl.lload_n 84 at_83 rfl ?_
        refine Wl.iconst 85 (2 : Int32) at_84 (by decide) ?_
        refine Wl.iload_n 86 at_85 rfl ?_
        refine Wl.bipush 88 (9 : Int32) at_86 (by decide) ?_
        refine Wl.iushr 89 at_88 ?_
        refine Wl.static 92 (argsL := [.long i1, .int (2 : Int32), .int (((i0).toUInt32 >>> ((9 : Int32) &&& 31).toUInt32).toInt32)]) at_89 (w3 hw) (w4 hw) (w5 hw) (w6 hw) (show parseMethodDescriptor "(JII)C" = some ⟨[.long, .int, .int], some .char⟩ by decide +kernel) rfl (text_met hw) (fun _ q => nomatch q) rfl rfl rfl (by decide) ⟨⟨nle rfl, nle rfl⟩, nle rfl, nle rfl⟩ ?_
        intro v81 h82 hq83 _
        obtain ⟨z84, rfl, l85, rfl⟩ := hq83
        show WlO _ _ _ _ _ _ _ _ _ _ _ _ _ _ _ _ _ _ [.int z84]
        refine Wl.istore 94 #[.val (.int i0), .val (.long i1), .second, .val (.long i2), .second, .val (.long i3), .second, .val (.int i4), .val (.int (i0 &&& (3 : Int32))), .val (.ref ki), .val (.int (((i0).toUInt32 >>> ((2 : Int32) &&& 31).toUInt32).toInt32 &&& (3 : Int32))), .val (.int (((i0).toUInt32 >>> ((2 : Int32) &&& 31).toUInt32).toInt32 &&& (3 : Int32))), .val (.int z74), .val (.int z79), .val (.int z84), .unset, .unset, .unset, .unset, .unset, .unset, .unset] at_92 rfl ?_
        refine Wl.iload 96 at_94 rfl ?_
        refine Wl.lload_n 97 at_96 rfl ?_
        refine Wl.iconst 98 (0 : Int32) at_97 (by decide) ?_
        refine Wl.iload_n 99 at_98 rfl ?_
        refine Wl.bipush 101 (10 : Int32) at_99 (by decide) ?_
        refine Wl.iushr 102 at_101 ?_
        refine Wl.static 105 (argsL := [.int z74, .long i2, .int (0 : Int32), .int (((i0).toUInt32 >>> ((10 : Int32) &&& 31).toUInt32).toInt32)]) at_102 (w8 hw) (w9 hw) (w5 hw) (w10 hw) (show parseMethodDescriptor "(CJII)C" = some ⟨[.char, .long, .int, .int], some .char⟩ by decide +kernel) rfl (key_met hw l75) (fun _ q => nomatch q) rfl rfl rfl (by decide) ⟨⟨nle rfl, nle rfl⟩, nle rfl, nle rfl⟩ ?_
        intro v86 h87 hq88 _
        obtain ⟨z89, rfl, l90, w91, rfl⟩ := hq88
        show WlO _ _ _ _ _ _ _ _ _ _ _ _ _ _ _ _ _ _ [.int z89]
        refine Wl.istore 107 #[.val (.int i0), .val (.long i1), .second, .val (.long i2), .second, .val (.long i3), .second, .val (.int i4), .val (.int (i0 &&& (3 : Int32))), .val (.ref ki), .val (.int (((i0).toUInt32 >>> ((2 : Int32) &&& 31).toUInt32).toInt32 &&& (3 : Int32))), .val (.int (((i0).toUInt32 >>> ((2 : Int32) &&& 31).toUInt32).toInt32 &&& (3 : Int32))), .val (.int z74), .val (.int z79), .val (.int z84), .val (.int z89), .unset, .unset, .unset, .unset, .unset, .unset] at_105 rfl ?_
        refine Wl.iload 109 at_107 rfl ?_
        refine Wl.lload_n 110 at_109 rfl ?_
        refine Wl.iconst 111 (1 : Int32) at_110 (by decide) ?_
        refine Wl.iload_n 112 at_111 rfl ?_
        refine Wl.bipush 114 (12 : Int32) at_112 (by decide) ?_
        refine Wl.iushr 115 at_114 ?_
        refine Wl.static 118 (argsL := [.int z79, .long i2, .int (1 : Int32), .int (((i0).toUInt32 >>> ((12 : Int32) &&& 31).toUInt32).toInt32)]) at_115 (w8 hw) (w9 hw) (w5 hw) (w10 hw) (show parseMethodDescriptor "(CJII)C" = some ⟨[.char, .long, .int, .int], some .char⟩ by decide +kernel) rfl (key_met hw l80) (fun _ q => nomatch q) rfl rfl rfl (by decide) ⟨⟨nle rfl, nle rfl⟩, nle rfl, nle rfl⟩ ?_
        intro v92 h93 hq94 _
        obtain ⟨z95, rfl, l96, w97, rfl⟩ := hq94
        show WlO _ _ _ _ _ _ _ _ _ _ _ _ _ _ _ _ _ _ [.int z95]
        refine Wl.istore 120 #[.val (.int i0), .val (.long i1), .second, .val (.long i2), .second, .val (.long i3), .second, .val (.int i4), .val (.int (i0 &&& (3 : Int32))), .val (.ref ki), .val (.int (((i0).toUInt32 >>> ((2 : Int32) &&& 31).toUInt32).toInt32 &&& (3 : Int32))), .val (.int (((i0).toUInt32 >>> ((2 : Int32) &&& 31).toUInt32).toInt32 &&& (3 : Int32))), .val (.int z74), .val (.int z79), .val (.int z84), .val (.int z89), .val (.int z95), .unset, .unset, .unset, .unset, .unset] at_118 rfl ?_
        refine Wl.iload 122 at_120 rfl ?_
        refine Wl.lload_n 123 at_122 rfl ?_
        refine Wl.iconst 124 (2 : Int32) at_123 (by decide) ?_
        refine Wl.iload_n 125 at_124 rfl ?_
        refine Wl.bipush 127 (14 : Int32) at_125 (by decide) ?_
        refine Wl.iushr 128 at_127 ?_
        refine Wl.static 131 (argsL := [.int z84, .long i2, .int (2 : Int32), .int (((i0).toUInt32 >>> ((14 : Int32) &&& 31).toUInt32).toInt32)]) at_128 (w8 hw) (w9 hw) (w5 hw) (w10 hw) (show parseMethodDescriptor "(CJII)C" = some ⟨[.char, .long, .int, .int], some .char⟩ by decide +kernel) rfl (key_met hw l85) (fun _ q => nomatch q) rfl rfl rfl (by decide) ⟨⟨nle rfl, nle rfl⟩, nle rfl, nle rfl⟩ ?_
        intro v98 h99 hq100 _
        obtain ⟨z101, rfl, l102, w103, rfl⟩ := hq100
        show WlO _ _ _ _ _ _ _ _ _ _ _ _ _ _ _ _ _ _ [.int z101]
        refine Wl.istore 133 #[.val (.int i0), .val (.long i1), .second, .val (.long i2), .second, .val (.long i3), .second, .val (.int i4), .val (.int (i0 &&& (3 : Int32))), .val (.ref ki), .val (.int (((i0).toUInt32 >>> ((2 : Int32) &&& 31).toUInt32).toInt32 &&& (3 : Int32))), .val (.int (((i0).toUInt32 >>> ((2 : Int32) &&& 31).toUInt32).toInt32 &&& (3 : Int32))), .val (.int z74), .val (.int z79), .val (.int z84), .val (.int z89), .val (.int z95), .val (.int z101), .unset, .unset, .unset, .unset] at_131 rfl ?_
        rcases and3 (((i0).toUInt32 >>> ((2 : Int32) &&& 31).toUInt32).toInt32) with e | e | e | e <;> rw [e]
        · exact law_o00 hw hcs hfm hu hK hK.2.2 l75 l80 l85 l90 l96 l102 w91 w97 w103
        · exact law_o11 hw hcs hfm hu hK hK.2.2 l75 l80 l85 l90 l96 l102 w91 w97 w103
        · exact law_o22 hw hcs hfm hu hK hK.2.2 l75 l80 l85 l90 l96 l102 w91 w97 w103
        · exact law_o33 hw hcs hfm hu hK hK.2.2 l75 l80 l85 l90 l96 l102 w91 w97 w103
      · refine Wl.ifY 54 at_46 (feq c70).2 ?_
        refine Wl.iload_n 55 at_54 rfl ?_
        refine Wl.iconst 56 (5 : Int32) at_55 (by decide) ?_
        refine Wl.iushr 57 at_56 ?_
        refine Wl.iconst 58 (3 : Int32) at_57 (by decide) ?_
        refine Wl.iand 59 at_58 ?_
        refine Wl.istore 61 #[.val (.int i0), .val (.long i1), .second, .val (.long i2), .second, .val (.long i3), .second, .val (.int i4), .val (.int (i0 &&& (3 : Int32))), .val (.ref ki), .val (.int (((i0).toUInt32 >>> ((2 : Int32) &&& 31).toUInt32).toInt32 &&& (3 : Int32))), .val (.int (((i0).toUInt32 >>> ((5 : Int32) &&& 31).toUInt32).toInt32 &&& (3 : Int32))), .unset, .unset, .unset, .unset, .unset, .unset, .unset, .unset, .unset, .unset] at_59 rfl ?_
        refine Wl.lload_n 62 at_61 rfl ?_
        refine Wl.iconst 63 (0 : Int32) at_62 (by decide) ?_
        refine Wl.iload_n 64 at_63 rfl ?_
        refine Wl.bipush 66 (7 : Int32) at_64 (by decide) ?_
        refine Wl.iushr 67 at_66 ?_
        refine Wl.static 70 (argsL := [.long i1, .int (0 : Int32), .int (((i0).toUInt32 >>> ((7 : Int32) &&& 31).toUInt32).toInt32)]) at_67 (w3 hw) (w4 hw) (w5 hw) (w6 hw) (show parseMethodDescriptor "(JII)C" = some ⟨[.long, .int, .int], some .char⟩ by decide +kernel) rfl (text_met hw) (fun _ q => nomatch q) rfl rfl rfl (by decide) ⟨⟨nle rfl, nle rfl⟩, nle rfl, nle rfl⟩ ?_
        intro v104 h105 hq106 _
        obtain ⟨z107, rfl, l108, rfl⟩ := hq106
        show WlO _ _ _ _ _ _ _ _ _ _ _ _ _ _ _ _ _ _ [.int z107]
        refine Wl.istore 72 #[.val (.int i0), .val (.long i1), .second, .val (.long i2), .second, .val (.long i3), .second, .val (.int i4), .val (.int (i0 &&& (3 : Int32))), .val (.ref ki), .val (.int (((i0).toUInt32 >>> ((2 : Int32) &&& 31).toUInt32).toInt32 &&& (3 : Int32))), .val (.int (((i0).toUInt32 >>> ((5 : Int32) &&& 31).toUInt32).toInt32 &&& (3 : Int32))), .val (.int z107), .unset, .unset, .unset, .unset, .unset, .unset, .unset, .unset, .unset] at_70 rfl ?_
        refine Wl.lload_n 73 at_72 rfl ?_
        refine Wl.iconst 74 (1 : Int32) at_73 (by decide) ?_
        refine Wl.iload_n 75 at_74 rfl ?_
        refine Wl.bipush 77 (8 : Int32) at_75 (by decide) ?_
        refine Wl.iushr 78 at_77 ?_
        refine Wl.static 81 (argsL := [.long i1, .int (1 : Int32), .int (((i0).toUInt32 >>> ((8 : Int32) &&& 31).toUInt32).toInt32)]) at_78 (w3 hw) (w4 hw) (w5 hw) (w6 hw) (show parseMethodDescriptor "(JII)C" = some ⟨[.long, .int, .int], some .char⟩ by decide +kernel) rfl (text_met hw) (fun _ q => nomatch q) rfl rfl rfl (by decide) ⟨⟨nle rfl, nle rfl⟩, nle rfl, nle rfl⟩ ?_
        intro v109 h110 hq111 _
        obtain ⟨z112, rfl, l113, rfl⟩ := hq111
        show WlO _ _ _ _ _ _ _ _ _ _ _ _ _ _ _ _ _ _ [.int z112]
        refine Wl.istore 83 #[.val (.int i0), .val (.long i1), .second, .val (.long i2), .second, .val (.long i3), .second, .val (.int i4), .val (.int (i0 &&& (3 : Int32))), .val (.ref ki), .val (.int (((i0).toUInt32 >>> ((2 : Int32) &&& 31).toUInt32).toInt32 &&& (3 : Int32))), .val (.int (((i0).toUInt32 >>> ((5 : Int32) &&& 31).toUInt32).toInt32 &&& (3 : Int32))), .val (.int z107), .val (.int z112), .unset, .unset, .unset, .unset, .unset, .unset, .unset, .unset] at_81 rfl ?_
        refine Wl.lload_n 84 at_83 rfl ?_
        refine Wl.iconst 85 (2 : Int32) at_84 (by decide) ?_
        refine Wl.iload_n 86 at_85 rfl ?_
        refine Wl.bipush 88 (9 : Int32) at_86 (by decide) ?_
        refine Wl.iushr 89 at_88 ?_
        refine Wl.static 92 (argsL := [.long i1, .int (2 : Int32), .int (((i0).toUInt32 >>> ((9 : Int32) &&& 31).toUInt32).toInt32)]) at_89 (w3 hw) (w4 hw) (w5 hw) (w6 hw) (show parseMethodDescriptor "(JII)C" = some ⟨[.long, .int, .int], some .char⟩ by decide +kernel) rfl (text_met hw) (fun _ q => nomatch q) rfl rfl rfl (by decide) ⟨⟨nle rfl, nle rfl⟩, nle rfl, nle rfl⟩ ?_
        intro v114 h115 hq116 _
        obtain ⟨z117, rfl, l118, rfl⟩ := hq116
        show WlO _ _ _ _ _ _ _ _ _ _ _ _ _ _ _ _ _ _ [.int z117]
        refine Wl.istore 94 #[.val (.int i0), .val (.long i1), .second, .val (.long i2), .second, .val (.long i3), .second, .val (.int i4), .val (.int (i0 &&& (3 : Int32))), .val (.ref ki), .val (.int (((i0).toUInt32 >>> ((2 : Int32) &&& 31).toUInt32).toInt32 &&& (3 : Int32))), .val (.int (((i0).toUInt32 >>> ((5 : Int32) &&& 31).toUInt32).toInt32 &&& (3 : Int32))), .val (.int z107), .val (.int z112), .val (.int z117), .unset, .unset, .unset, .unset, .unset, .unset, .unset] at_92 rfl ?_
        refine Wl.iload 96 at_94 rfl ?_
        refine Wl.lload_n 97 at_96 rfl ?_
        refine Wl.iconst 98 (0 : Int32) at_97 (by decide) ?_
        refine Wl.iload_n 99 at_98 rfl ?_
        refine Wl.bipush 101 (10 : Int32) at_99 (by decide) ?_
        refine Wl.iushr 102 at_101 ?_
        refine Wl.static 105 (argsL := [.int z107, .long i2, .int (0 : Int32), .int (((i0).toUInt32 >>> ((10 : Int32) &&& 31).toUInt32).toInt32)]) at_102 (w8 hw) (w9 hw) (w5 hw) (w10 hw) (show parseMethodDescriptor "(CJII)C" = some ⟨[.char, .long, .int, .int], some .char⟩ by decide +kernel) rfl (key_met hw l108) (fun _ q => nomatch q) rfl rfl rfl (by decide) ⟨⟨nle rfl, nle rfl⟩, nle rfl, nle rfl⟩ ?_
        intro v119 h120 hq121 _
        obtain ⟨z122, rfl, l123, w124, rfl⟩ := hq121
        show WlO _ _ _ _ _ _ _ _ _ _ _ _ _ _ _ _ _ _ [.int z122]
        refine Wl.istore 107 #[.val (.int i0), .val (.long i1), .second, .val (.long i2), .second, .val (.long i3), .second, .val (.int i4), .val (.int (i0 &&& (3 : Int32))), .val (.ref ki), .val (.int (((i0).toUInt32 >>> ((2 : Int32) &&& 31).toUInt32).toInt32 &&& (3 : Int32))), .val (.int (((i0).toUInt32 >>> ((5 : Int32) &&& 31).toUInt32).toInt32 &&& (3 : Int32))), .val (.int z107), .val (.int z112), .val (.int z117), .val (.int z122), .unset, .unset, .unset, .unset, .unset, .unset] at_105 rfl ?_
        refine Wl.iload 109 at_107 rfl ?_
        refine Wl.lload_n 110 at_109 rfl ?_
        refine Wl.iconst 111 (1 : Int32) at_110 (by decide) ?_
        refine Wl.iload_n 112 at_111 rfl ?_
        refine Wl.bipush 114 (12 : Int32) at_112 (by decide) ?_
        refine Wl.iushr 115 at_114 ?_
        refine Wl.static 118 (argsL := [.int z112, .long i2, .int (1 : Int32), .int (((i0).toUInt32 >>> ((12 : Int32) &&& 31).toUInt32).toInt32)]) at_115 (w8 hw) (w9 hw) (w5 hw) (w10 hw) (show parseMethodDescriptor "(CJII)C" = some ⟨[.char, .long, .int, .int], some .char⟩ by decide +kernel) rfl (key_met hw l113) (fun _ q => nomatch q) rfl rfl rfl (by decide) ⟨⟨nle rfl, nle rfl⟩, nle rfl, nle rfl⟩ ?_
        intro v125 h126 hq127 _
        obtain ⟨z128, rfl, l129, w130, rfl⟩ := hq127
        show WlO _ _ _ _ _ _ _ _ _ _ _ _ _ _ _ _ _ _ [.int z128]
        refine Wl.istore 120 #[.val (.int i0), .val (.long i1), .second, .val (.long i2), .second, .val (.long i3), .second, .val (.int i4), .val (.int (i0 &&& (3 : Int32))), .val (.ref ki), .val (.int (((i0).toUInt32 >>> ((2 : Int32) &&& 31).toUInt32).toInt32 &&& (3 : Int32))), .val (.int (((i0).toUInt32 >>> ((5 : Int32) &&& 31).toUInt32).toInt32 &&& (3 : Int32))), .val (.int z107), .val (.int z112), .val (.int z117), .val (.int z122), .val (.int z128), .unset, .unset, .unset, .unset, .unset] at_118 rfl ?_
        refine Wl.iload 122 at_120 rfl ?_
        refine Wl.lload_n 123 at_122 rfl ?_
        refine Wl.iconst 124 (2 : Int32) at_123 (by decide) ?_
        refine Wl.iload_n 125 at_124 rfl ?_
        refine Wl.bipush 127 (14 : Int32) at_125 (by decide) ?_
        refine Wl.iushr 128 at_127 ?_
        refine Wl.static 131 (argsL := [.int z117, .long i2, .int (2 : Int32), .int (((i0).toUInt32 >>> ((14 : Int32) &&& 31).toUInt32).toInt32)]) at_128 (w8 hw) (w9 hw) (w5 hw) (w10 hw) (show parseMethodDescriptor "(CJII)C" = some ⟨[.char, .long, .int, .int], some .char⟩ by decide +kernel) rfl (key_met hw l118) (fun _ q => nomatch q) rfl rfl rfl (by decide) ⟨⟨nle rfl, nle rfl⟩, nle rfl, nle rfl⟩ ?_
        intro v131 h132 hq133 _
        obtain ⟨z134, rfl, l135, w136, rfl⟩ := hq133
        show WlO _ _ _ _ _ _ _ _ _ _ _ _ _ _ _ _ _ _ [.int z134]
        refine Wl.istore 133 #[.val (.int i0), .val (.long i1), .second, .val (.long i2), .second, .val (.long i3), .second, .val (.int i4), .val (.int (i0 &&& (3 : Int32))), .val (.ref ki), .val (.int (((i0).toUInt32 >>> ((2 : Int32) &&& 31).toUInt32).toInt32 &&& (3 : Int32))), .val (.int (((i0).toUInt32 >>> ((5 : Int32) &&& 31).toUInt32).toInt32 &&& (3 : Int32))), .val (.int z107), .val (.int z112), .val (.int z117), .val (.int z122), .val (.int z128), .val (.int z134), .unset, .unset, .unset, .unset] at_131 rfl ?_
        rcases and3 (((i0).toUInt32 >>> ((2 : Int32) &&& 31).toUInt32).toInt32) with e | e | e | e <;> rw [e]
        · rcases and3 (((i0).toUInt32 >>> ((5 : Int32) &&& 31).toUInt32).toInt32) with f | f | f | f <;> rw [f]
          · exact law_o00 hw hcs hfm hu hK hK.2.2 l108 l113 l118 l123 l129 l135 w124 w130 w136
          · exact law_o01 hw hcs hfm hu hK hK.2.2 l108 l113 l118 l123 l129 l135 w124 w130 w136
          · exact law_o02 hw hcs hfm hu hK hK.2.2 l108 l113 l118 l123 l129 l135 w124 w130 w136
          · exact law_o03 hw hcs hfm hu hK hK.2.2 l108 l113 l118 l123 l129 l135 w124 w130 w136
        · rcases and3 (((i0).toUInt32 >>> ((5 : Int32) &&& 31).toUInt32).toInt32) with f | f | f | f <;> rw [f]
          · exact law_o10 hw hcs hfm hu hK hK.2.2 l108 l113 l118 l123 l129 l135 w124 w130 w136
          · exact law_o11 hw hcs hfm hu hK hK.2.2 l108 l113 l118 l123 l129 l135 w124 w130 w136
          · exact law_o12 hw hcs hfm hu hK hK.2.2 l108 l113 l118 l123 l129 l135 w124 w130 w136
          · exact law_o13 hw hcs hfm hu hK hK.2.2 l108 l113 l118 l123 l129 l135 w124 w130 w136
        · rcases and3 (((i0).toUInt32 >>> ((5 : Int32) &&& 31).toUInt32).toInt32) with f | f | f | f <;> rw [f]
          · exact law_o20 hw hcs hfm hu hK hK.2.2 l108 l113 l118 l123 l129 l135 w124 w130 w136
          · exact law_o21 hw hcs hfm hu hK hK.2.2 l108 l113 l118 l123 l129 l135 w124 w130 w136
          · exact law_o22 hw hcs hfm hu hK hK.2.2 l108 l113 l118 l123 l129 l135 w124 w130 w136
          · exact law_o23 hw hcs hfm hu hK hK.2.2 l108 l113 l118 l123 l129 l135 w124 w130 w136
        · rcases and3 (((i0).toUInt32 >>> ((5 : Int32) &&& 31).toUInt32).toInt32) with f | f | f | f <;> rw [f]
          · exact law_o30 hw hcs hfm hu hK hK.2.2 l108 l113 l118 l123 l129 l135 w124 w130 w136
          · exact law_o31 hw hcs hfm hu hK hK.2.2 l108 l113 l118 l123 l129 l135 w124 w130 w136
          · exact law_o32 hw hcs hfm hu hK hK.2.2 l108 l113 l118 l123 l129 l135 w124 w130 w136
          · exact law_o33 hw hcs hfm hu hK hK.2.2 l108 l113 l118 l123 l129 l135 w124 w130 w136
    · refine Wl.icmpY 29 at_20 (feq c69).2 ?_
      refine Wl.getstatic 32 at_29 (w0 hw) hK.1.1 ?_
      refine Wl.astore 34 #[.val (.int i0), .val (.long i1), .second, .val (.long i2), .second, .val (.long i3), .second, .val (.int i4), .val (.int (i0 &&& (3 : Int32))), .val (.ref kw), .unset, .unset, .unset, .unset, .unset, .unset, .unset, .unset, .unset, .unset, .unset, .unset] at_32 rfl rfl ?_
      refine Wl.iload_n 35 at_34 rfl ?_
      refine Wl.iconst 36 (2 : Int32) at_35 (by decide) ?_
      refine Wl.iushr 37 at_36 ?_
      refine Wl.iconst 38 (3 : Int32) at_37 (by decide) ?_
      refine Wl.iand 39 at_38 ?_
      refine Wl.istore 41 #[.val (.int i0), .val (.long i1), .second, .val (.long i2), .second, .val (.long i3), .second, .val (.int i4), .val (.int (i0 &&& (3 : Int32))), .val (.ref kw), .val (.int (((i0).toUInt32 >>> ((2 : Int32) &&& 31).toUInt32).toInt32 &&& (3 : Int32))), .unset, .unset, .unset, .unset, .unset, .unset, .unset, .unset, .unset, .unset, .unset] at_39 rfl ?_
      refine Wl.iload_n 42 at_41 rfl ?_
      refine Wl.iconst 43 (4 : Int32) at_42 (by decide) ?_
      refine Wl.iushr 44 at_43 ?_
      refine Wl.iconst 45 (1 : Int32) at_44 (by decide) ?_
      refine Wl.iand 46 at_45 ?_
      by_cases c137 : (((i0).toUInt32 >>> ((4 : Int32) &&& 31).toUInt32).toInt32 &&& (1 : Int32)) = (0 : Int32)
      · refine Wl.ifN 49 at_46 (teq c137).2 ?_
        refine Wl.iload 51 at_49 rfl ?_
        refine Wl.goto 59 at_51 ?_
        refine Wl.istore 61 #[.val (.int i0), .val (.long i1), .second, .val (.long i2), .second, .val (.long i3), .second, .val (.int i4), .val (.int (i0 &&& (3 : Int32))), .val (.ref kw), .val (.int (((i0).toUInt32 >>> ((2 : Int32) &&& 31).toUInt32).toInt32 &&& (3 : Int32))), .val (.int (((i0).toUInt32 >>> ((2 : Int32) &&& 31).toUInt32).toInt32 &&& (3 : Int32))), .unset, .unset, .unset, .unset, .unset, .unset, .unset, .unset, .unset, .unset] at_59 rfl ?_
        refine Wl.lload_n 62 at_61 rfl ?_
        refine Wl.iconst 63 (0 : Int32) at_62 (by decide) ?_
        refine Wl.iload_n 64 at_63 rfl ?_
        refine Wl.bipush 66 (7 : Int32) at_64 (by decide) ?_
        refine Wl.iushr 67 at_66 ?_
        refine Wl.static 70 (argsL := [.long i1, .int (0 : Int32), .int (((i0).toUInt32 >>> ((7 : Int32) &&& 31).toUInt32).toInt32)]) at_67 (w3 hw) (w4 hw) (w5 hw) (w6 hw) (show parseMethodDescriptor "(JII)C" = some ⟨[.long, .int, .int], some .char⟩ by decide +kernel) rfl (text_met hw) (fun _ q => nomatch q) rfl rfl rfl (by decide) ⟨⟨nle rfl, nle rfl⟩, nle rfl, nle rfl⟩ ?_
        intro v138 h139 hq140 _
        obtain ⟨z141, rfl, l142, rfl⟩ := hq140
        show WlO _ _ _ _ _ _ _ _ _ _ _ _ _ _ _ _ _ _ [.int z141]
        refine Wl.istore 72 #[.val (.int i0), .val (.long i1), .second, .val (.long i2), .second, .val (.long i3), .second, .val (.int i4), .val (.int (i0 &&& (3 : Int32))), .val (.ref kw), .val (.int (((i0).toUInt32 >>> ((2 : Int32) &&& 31).toUInt32).toInt32 &&& (3 : Int32))), .val (.int (((i0).toUInt32 >>> ((2 : Int32) &&& 31).toUInt32).toInt32 &&& (3 : Int32))), .val (.int z141), .unset, .unset, .unset, .unset, .unset, .unset, .unset, .unset, .unset] at_70 rfl ?_
        refine Wl.lload_n 73 at_72 rfl ?_
        refine Wl.iconst 74 (1 : Int32) at_73 (by decide) ?_
        refine Wl.iload_n 75 at_74 rfl ?_
        refine Wl.bipush 77 (8 : Int32) at_75 (by decide) ?_
        refine Wl.iushr 78 at_77 ?_
        refine Wl.static 81 (argsL := [.long i1, .int (1 : Int32), .int (((i0).toUInt32 >>> ((8 : Int32) &&& 31).toUInt32).toInt32)]) at_78 (w3 hw) (w4 hw) (w5 hw) (w6 hw) (show parseMethodDescriptor "(JII)C" = some ⟨[.long, .int, .int], some .char⟩ by decide +kernel) rfl (text_met hw) (fun _ q => nomatch q) rfl rfl rfl (by decide) ⟨⟨nle rfl, nle rfl⟩, nle rfl, nle rfl⟩ ?_
        intro v143 h144 hq145 _
        obtain ⟨z146, rfl, l147, rfl⟩ := hq145
        show WlO _ _ _ _ _ _ _ _ _ _ _ _ _ _ _ _ _ _ [.int z146]
        refine Wl.istore 83 #[.val (.int i0), .val (.long i1), .second, .val (.long i2), .second, .val (.long i3), .second, .val (.int i4), .val (.int (i0 &&& (3 : Int32))), .val (.ref kw), .val (.int (((i0).toUInt32 >>> ((2 : Int32) &&& 31).toUInt32).toInt32 &&& (3 : Int32))), .val (.int (((i0).toUInt32 >>> ((2 : Int32) &&& 31).toUInt32).toInt32 &&& (3 : Int32))), .val (.int z141), .val (.int z146), .unset, .unset, .unset, .unset, .unset, .unset, .unset, .unset] at_81 rfl ?_
        refine Wl.lload_n 84 at_83 rfl ?_
        refine Wl.iconst 85 (2 : Int32) at_84 (by decide) ?_
        refine Wl.iload_n 86 at_85 rfl ?_
        refine Wl.bipush 88 (9 : Int32) at_86 (by decide) ?_
        refine Wl.iushr 89 at_88 ?_
        refine Wl.static 92 (argsL := [.long i1, .int (2 : Int32), .int (((i0).toUInt32 >>> ((9 : Int32) &&& 31).toUInt32).toInt32)]) at_89 (w3 hw) (w4 hw) (w5 hw) (w6 hw) (show parseMethodDescriptor "(JII)C" = some ⟨[.long, .int, .int], some .char⟩ by decide +kernel) rfl (text_met hw) (fun _ q => nomatch q) rfl rfl rfl (by decide) ⟨⟨nle rfl, nle rfl⟩, nle rfl, nle rfl⟩ ?_
        intro v148 h149 hq150 _
        obtain ⟨z151, rfl, l152, rfl⟩ := hq150
        show WlO _ _ _ _ _ _ _ _ _ _ _ _ _ _ _ _ _ _ [.int z151]
        refine Wl.istore 94 #[.val (.int i0), .val (.long i1), .second, .val (.long i2), .second, .val (.long i3), .second, .val (.int i4), .val (.int (i0 &&& (3 : Int32))), .val (.ref kw), .val (.int (((i0).toUInt32 >>> ((2 : Int32) &&& 31).toUInt32).toInt32 &&& (3 : Int32))), .val (.int (((i0).toUInt32 >>> ((2 : Int32) &&& 31).toUInt32).toInt32 &&& (3 : Int32))), .val (.int z141), .val (.int z146), .val (.int z151), .unset, .unset, .unset, .unset, .unset, .unset, .unset] at_92 rfl ?_
        refine Wl.iload 96 at_94 rfl ?_
        refine Wl.lload_n 97 at_96 rfl ?_
        refine Wl.iconst 98 (0 : Int32) at_97 (by decide) ?_
        refine Wl.iload_n 99 at_98 rfl ?_
        refine Wl.bipush 101 (10 : Int32) at_99 (by decide) ?_
        refine Wl.iushr 102 at_101 ?_
        refine Wl.static 105 (argsL := [.int z141, .long i2, .int (0 : Int32), .int (((i0).toUInt32 >>> ((10 : Int32) &&& 31).toUInt32).toInt32)]) at_102 (w8 hw) (w9 hw) (w5 hw) (w10 hw) (show parseMethodDescriptor "(CJII)C" = some ⟨[.char, .long, .int, .int], some .char⟩ by decide +kernel) rfl (key_met hw l142) (fun _ q => nomatch q) rfl rfl rfl (by decide) ⟨⟨nle rfl, nle rfl⟩, nle rfl, nle rfl⟩ ?_
        intro v153 h154 hq155 _
        obtain ⟨z156, rfl, l157, w158, rfl⟩ := hq155
        show WlO _ _ _ _ _ _ _ _ _ _ _ _ _ _ _ _ _ _ [.int z156]
        refine Wl.istore 107 #[.val (.int i0), .val (.long i1), .second, .val (.long i2), .second, .val (.long i3), .second, .val (.int i4), .val (.int (i0 &&& (3 : Int32))), .val (.ref kw), .val (.int (((i0).toUInt32 >>> ((2 : Int32) &&& 31).toUInt32).toInt32 &&& (3 : Int32))), .val (.int (((i0).toUInt32 >>> ((2 : Int32) &&& 31).toUInt32).toInt32 &&& (3 : Int32))), .val (.int z141), .val (.int z146), .val (.int z151), .val (.int z156), .unset, .unset, .unset, .unset, .unset, .unset] at_105 rfl ?_
        refine Wl.iload 109 at_107 rfl ?_
        refine Wl.lload_n 110 at_109 rfl ?_
        refine Wl.iconst 111 (1 : Int32) at_110 (by decide) ?_
        refine Wl.iload_n 112 at_111 rfl ?_
        refine Wl.bipush 114 (12 : Int32) at_112 (by decide) ?_
        refine Wl.iushr 115 at_114 ?_
        refine Wl.static 118 (argsL := [.int z146, .long i2, .int (1 : Int32), .int (((i0).toUInt32 >>> ((12 : Int32) &&& 31).toUInt32).toInt32)]) at_115 (w8 hw) (w9 hw) (w5 hw) (w10 hw) (show parseMethodDescriptor "(CJII)C" = some ⟨[.char, .long, .int, .int], some .char⟩ by decide +kernel) rfl (key_met hw l147) (fun _ q => nomatch q) rfl rfl rfl (by decide) ⟨⟨nle rfl, nle rfl⟩, nle rfl, nle rfl⟩ ?_
        intro v159 h160 hq161 _
        obtain ⟨z162, rfl, l163, w164, rfl⟩ := hq161
        show WlO _ _ _ _ _ _ _ _ _ _ _ _ _ _ _ _ _ _ [.int z162]
        refine Wl.istore 120 #[.val (.int i0), .val (.long i1), .second, .val (.long i2), .second, .val (.long i3), .second, .val (.int i4), .val (.int (i0 &&& (3 : Int32))), .val (.ref kw), .val (.int (((i0).toUInt32 >>> ((2 : Int32) &&& 31).toUInt32).toInt32 &&& (3 : Int32))), .val (.int (((i0).toUInt32 >>> ((2 : Int32) &&& 31).toUInt32).toInt32 &&& (3 : Int32))), .val (.int z141), .val (.int z146), .val (.int z151), .val (.int z156), .val (.int z162), .unset, .unset, .unset, .unset, .unset] at_118 rfl ?_
        refine Wl.iload 122 at_120 rfl ?_
        refine Wl.lload_n 123 at_122 rfl ?_
        refine Wl.iconst 124 (2 : Int32) at_123 (by decide) ?_
        refine Wl.iload_n 125 at_124 rfl ?_
        refine Wl.bipush 127 (14 : Int32) at_125 (by decide) ?_
        refine Wl.iushr 128 at_127 ?_
        refine Wl.static 131 (argsL := [.int z151, .long i2, .int (2 : Int32), .int (((i0).toUInt32 >>> ((14 : Int32) &&& 31).toUInt32).toInt32)]) at_128 (w8 hw) (w9 hw) (w5 hw) (w10 hw) (show parseMethodDescriptor "(CJII)C" = some ⟨[.char, .long, .int, .int], some .char⟩ by decide +kernel) rfl (key_met hw l152) (fun _ q => nomatch q) rfl rfl rfl (by decide) ⟨⟨nle rfl, nle rfl⟩, nle rfl, nle rfl⟩ ?_
        intro v165 h166 hq167 _
        obtain ⟨z168, rfl, l169, w170, rfl⟩ := hq167
        show WlO _ _ _ _ _ _ _ _ _ _ _ _ _ _ _ _ _ _ [.int z168]
        refine Wl.istore 133 #[.val (.int i0), .val (.long i1), .second, .val (.long i2), .second, .val (.long i3), .second, .val (.int i4), .val (.int (i0 &&& (3 : Int32))), .val (.ref kw), .val (.int (((i0).toUInt32 >>> ((2 : Int32) &&& 31).toUInt32).toInt32 &&& (3 : Int32))), .val (.int (((i0).toUInt32 >>> ((2 : Int32) &&& 31).toUInt32).toInt32 &&& (3 : Int32))), .val (.int z141), .val (.int z146), .val (.int z151), .val (.int z156), .val (.int z162), .val (.int z168), .unset, .unset, .unset, .unset] at_131 rfl ?_
        rcases and3 (((i0).toUInt32 >>> ((2 : Int32) &&& 31).toUInt32).toInt32) with e | e | e | e <;> rw [e]
        · exact law_w00 hw hcs hfm hu hK l142 l147 l152 l157 l163 l169 w158 w164 w170
        · exact law_w11 hw hcs hfm hu hK l142 l147 l152 l157 l163 l169 w158 w164 w170
        · exact law_w22 hw hcs hfm hu hK l142 l147 l152 l157 l163 l169 w158 w164 w170
        · exact law_w33 hw hcs hfm hu hK l142 l147 l152 l157 l163 l169 w158 w164 w170
      · refine Wl.ifY 54 at_46 (feq c137).2 ?_
        refine Wl.iload_n 55 at_54 rfl ?_
        refine Wl.iconst 56 (5 : Int32) at_55 (by decide) ?_
        refine Wl.iushr 57 at_56 ?_
        refine Wl.iconst 58 (3 : Int32) at_57 (by decide) ?_
        refine Wl.iand 59 at_58 ?_
        refine Wl.istore 61 #[.val (.int i0), .val (.long i1), .second, .val (.long i2), .second, .val (.long i3), .second, .val (.int i4), .val (.int (i0 &&& (3 : Int32))), .val (.ref kw), .val (.int (((i0).toUInt32 >>> ((2 : Int32) &&& 31).toUInt32).toInt32 &&& (3 : Int32))), .val (.int (((i0).toUInt32 >>> ((5 : Int32) &&& 31).toUInt32).toInt32 &&& (3 : Int32))), .unset, .unset, .unset, .unset, .unset, .unset, .unset, .unset, .unset, .unset] at_59 rfl ?_
        refine Wl.lload_n 62 at_61 rfl ?_
        refine Wl.iconst 63 (0 : Int32) at_62 (by decide) ?_
        refine Wl.iload_n 64 at_63 rfl ?_
        refine Wl.bipush 66 (7 : Int32) at_64 (by decide) ?_
        refine Wl.iushr 67 at_66 ?_
        refine Wl.static 70 (argsL := [.long i1, .int (0 : Int32), .int (((i0).toUInt32 >>> ((7 : Int32) &&& 31).toUInt32).toInt32)]) at_67 (w3 hw) (w4 hw) (w5 hw) (w6 hw) (show parseMethodDescriptor "(JII)C" = some ⟨[.long, .int, .int], some .char⟩ by decide +kernel) rfl (text_met hw) (fun _ q => nomatch q) rfl rfl rfl (by decide) ⟨⟨nle rfl, nle rfl⟩, nle rfl, nle rfl⟩ ?_
        intro v171 h172 hq173 _
        obtain ⟨z174, rfl, l175, rfl⟩ := hq173
        show WlO _ _ _ _ _ _ _ _ _ _ _ _ _ _ _ _ _ _ [.int z174]
        refine Wl.istore 72 #[.val (.int i0), .val (.long i1), .second, .val (.long i2), .second, .val (.long i3), .second, .val (.int i4), .val (.int (i0 &&& (3 : Int32))), .val (.ref kw), .val (.int (((i0).toUInt32 >>> ((2 : Int32) &&& 31).toUInt32).toInt32 &&& (3 : Int32))), .val (.int (((i0).toUInt32 >>> ((5 : Int32) &&& 31).toUInt32).toInt32 &&& (3 : Int32))), .val (.int z174), .unset, .unset, .unset, .unset, .unset, .unset, .unset, .unset, .unset] at_70 rfl ?_
        refine Wl.lload_n 73 at_72 rfl ?_
        refine Wl.iconst 74 (1 : Int32) at_73 (by decide) ?_
        refine Wl.iload_n 75 at_74 rfl ?_
        refine Wl.bipush 77 (8 : Int32) at_75 (by decide) ?_
        refine Wl.iushr 78 at_77 ?_
        refine Wl.static 81 (argsL := [.long i1, .int (1 : Int32), .int (((i0).toUInt32 >>> ((8 : Int32) &&& 31).toUInt32).toInt32)]) at_78 (w3 hw) (w4 hw) (w5 hw) (w6 hw) (show parseMethodDescriptor "(JII)C" = some ⟨[.long, .int, .int], some .char⟩ by decide +kernel) rfl (text_met hw) (fun _ q => nomatch q) rfl rfl rfl (by decide) ⟨⟨nle rfl, nle rfl⟩, nle rfl, nle rfl⟩ ?_
        intro v176 h177 hq178 _
        obtain ⟨z179, rfl, l180, rfl⟩ := hq178
        show WlO _ _ _ _ _ _ _ _ _ _ _ _ _ _ _ _ _ _ [.int z179]
        refine Wl.istore 83 #[.val (.int i0), .val (.long i1), .second, .val (.long i2), .second, .val (.long i3), .second, .val (.int i4), .val (.int (i0 &&& (3 : Int32))), .val (.ref kw), .val (.int (((i0).toUInt32 >>> ((2 : Int32) &&& 31).toUInt32).toInt32 &&& (3 : Int32))), .val (.int (((i0).toUInt32 >>> ((5 : Int32) &&& 31).toUInt32).toInt32 &&& (3 : Int32))), .val (.int z174), .val (.int z179), .unset, .unset, .unset, .unset, .unset, .unset, .unset, .unset] at_81 rfl ?_
        refine Wl.lload_n 84 at_83 rfl ?_
        refine Wl.iconst 85 (2 : Int32) at_84 (by decide) ?_
        refine Wl.iload_n 86 at_85 rfl ?_
        refine Wl.bipush 88 (9 : Int32) at_86 (by decide) ?_
        refine Wl.iushr 89 at_88 ?_
        refine Wl.static 92 (argsL := [.long i1, .int (2 : Int32), .int (((i0).toUInt32 >>> ((9 : Int32) &&& 31).toUInt32).toInt32)]) at_89 (w3 hw) (w4 hw) (w5 hw) (w6 hw) (show parseMethodDescriptor "(JII)C" = some ⟨[.long, .int, .int], some .char⟩ by decide +kernel) rfl (text_met hw) (fun _ q => nomatch q) rfl rfl rfl (by decide) ⟨⟨nle rfl, nle rfl⟩, nle rfl, nle rfl⟩ ?_
        intro v181 h182 hq183 _
        obtain ⟨z184, rfl, l185, rfl⟩ := hq183
        show WlO _ _ _ _ _ _ _ _ _ _ _ _ _ _ _ _ _ _ [.int z184]
        refine Wl.istore 94 #[.val (.int i0), .val (.long i1), .second, .val (.long i2), .second, .val (.long i3), .second, .val (.int i4), .val (.int (i0 &&& (3 : Int32))), .val (.ref kw), .val (.int (((i0).toUInt32 >>> ((2 : Int32) &&& 31).toUInt32).toInt32 &&& (3 : Int32))), .val (.int (((i0).toUInt32 >>> ((5 : Int32) &&& 31).toUInt32).toInt32 &&& (3 : Int32))), .val (.int z174), .val (.int z179), .val (.int z184), .unset, .unset, .unset, .unset, .unset, .unset, .unset] at_92 rfl ?_
        refine Wl.iload 96 at_94 rfl ?_
        refine Wl.lload_n 97 at_96 rfl ?_
        refine Wl.iconst 98 (0 : Int32) at_97 (by decide) ?_
        refine Wl.iload_n 99 at_98 rfl ?_
        refine Wl.bipush 101 (10 : Int32) at_99 (by decide) ?_
        refine Wl.iushr 102 at_101 ?_
        refine Wl.static 105 (argsL := [.int z174, .long i2, .int (0 : Int32), .int (((i0).toUInt32 >>> ((10 : Int32) &&& 31).toUInt32).toInt32)]) at_102 (w8 hw) (w9 hw) (w5 hw) (w10 hw) (show parseMethodDescriptor "(CJII)C" = some ⟨[.char, .long, .int, .int], some .char⟩ by decide +kernel) rfl (key_met hw l175) (fun _ q => nomatch q) rfl rfl rfl (by decide) ⟨⟨nle rfl, nle rfl⟩, nle rfl, nle rfl⟩ ?_
        intro v186 h187 hq188 _
        obtain ⟨z189, rfl, l190, w191, rfl⟩ := hq188
        show WlO _ _ _ _ _ _ _ _ _ _ _ _ _ _ _ _ _ _ [.int z189]
        refine Wl.istore 107 #[.val (.int i0), .val (.long i1), .second, .val (.long i2), .second, .val (.long i3), .second, .val (.int i4), .val (.int (i0 &&& (3 : Int32))), .val (.ref kw), .val (.int (((i0).toUInt32 >>> ((2 : Int32) &&& 31).toUInt32).toInt32 &&& (3 : Int32))), .val (.int (((i0).toUInt32 >>> ((5 : Int32) &&& 31).toUInt32).toInt32 &&& (3 : Int32))), .val (.int z174), .val (.int z179), .val (.int z184), .val (.int z189), .unset, .unset, .unset, .unset, .unset, .unset] at_105 rfl ?_
        refine Wl.iload 109 at_107 rfl ?_
        refine Wl.lload_n 110 at_109 rfl ?_
        refine Wl.iconst 111 (1 : Int32) at_110 (by decide) ?_
        refine Wl.iload_n 112 at_111 rfl ?_
        refine Wl.bipush 114 (12 : Int32) at_112 (by decide) ?_
        refine Wl.iushr 115 at_114 ?_
        refine Wl.static 118 (argsL := [.int z179, .long i2, .int (1 : Int32), .int (((i0).toUInt32 >>> ((12 : Int32) &&& 31).toUInt32).toInt32)]) at_115 (w8 hw) (w9 hw) (w5 hw) (w10 hw) (show parseMethodDescriptor "(CJII)C" = some ⟨[.char, .long, .int, .int], some .char⟩ by decide +kernel) rfl (key_met hw l180) (fun _ q => nomatch q) rfl rfl rfl (by decide) ⟨⟨nle rfl, nle rfl⟩, nle rfl, nle rfl⟩ ?_
        intro v192 h193 hq194 _
        obtain ⟨z195, rfl, l196, w197, rfl⟩ := hq194
        show WlO _ _ _ _ _ _ _ _ _ _ _ _ _ _ _ _ _ _ [.int z195]
        refine Wl.istore 120 #[.val (.int i0), .val (.long i1), .second, .val (.long i2), .second, .val (.long i3), .second, .val (.int i4), .val (.int (i0 &&& (3 : Int32))), .val (.ref kw), .val (.int (((i0).toUInt32 >>> ((2 : Int32) &&& 31).toUInt32).toInt32 &&& (3 : Int32))), .val (.int (((i0).toUInt32 >>> ((5 : Int32) &&& 31).toUInt32).toInt32 &&& (3 : Int32))), .val (.int z174), .val (.int z179), .val (.int z184), .val (.int z189), .val (.int z195), .unset, .unset, .unset, .unset, .unset] at_118 rfl ?_
        refine Wl.iload 122 at_120 rfl ?_
        refine Wl.lload_n 123 at_122 rfl ?_
        refine Wl.iconst 124 (2 : Int32) at_123 (by decide) ?_
        refine Wl.iload_n 125 at_124 rfl ?_
        refine Wl.bipush 127 (14 : Int32) at_125 (by decide) ?_
        refine Wl.iushr 128 at_127 ?_
        refine Wl.static 131 (argsL := [.int z184, .long i2, .int (2 : Int32), .int (((i0).toUInt32 >>> ((14 : Int32) &&& 31).toUInt32).toInt32)]) at_128 (w8 hw) (w9 hw) (w5 hw) (w10 hw) (show parseMethodDescriptor "(CJII)C" = some ⟨[.char, .long, .int, .int], some .char⟩ by decide +kernel) rfl (key_met hw l185) (fun _ q => nomatch q) rfl rfl rfl (by decide) ⟨⟨nle rfl, nle rfl⟩, nle rfl, nle rfl⟩ ?_
        intro v198 h199 hq200 _
        obtain ⟨z201, rfl, l202, w203, rfl⟩ := hq200
        show WlO _ _ _ _ _ _ _ _ _ _ _ _ _ _ _ _ _ _ [.int z201]
        refine Wl.istore 133 #[.val (.int i0), .val (.long i1), .second, .val (.long i2), .second, .val (.long i3), .second, .val (.int i4), .val (.int (i0 &&& (3 : Int32))), .val (.ref kw), .val (.int (((i0).toUInt32 >>> ((2 : Int32) &&& 31).toUInt32).toInt32 &&& (3 : Int32))), .val (.int (((i0).toUInt32 >>> ((5 : Int32) &&& 31).toUInt32).toInt32 &&& (3 : Int32))), .val (.int z174), .val (.int z179), .val (.int z184), .val (.int z189), .val (.int z195), .val (.int z201), .unset, .unset, .unset, .unset] at_131 rfl ?_
        rcases and3 (((i0).toUInt32 >>> ((2 : Int32) &&& 31).toUInt32).toInt32) with e | e | e | e <;> rw [e]
        · rcases and3 (((i0).toUInt32 >>> ((5 : Int32) &&& 31).toUInt32).toInt32) with f | f | f | f <;> rw [f]
          · exact law_w00 hw hcs hfm hu hK l175 l180 l185 l190 l196 l202 w191 w197 w203
          · exact law_w01 hw hcs hfm hu hK l175 l180 l185 l190 l196 l202 w191 w197 w203
          · exact law_w02 hw hcs hfm hu hK l175 l180 l185 l190 l196 l202 w191 w197 w203
          · exact law_w03 hw hcs hfm hu hK l175 l180 l185 l190 l196 l202 w191 w197 w203
        · rcases and3 (((i0).toUInt32 >>> ((5 : Int32) &&& 31).toUInt32).toInt32) with f | f | f | f <;> rw [f]
          · exact law_w10 hw hcs hfm hu hK l175 l180 l185 l190 l196 l202 w191 w197 w203
          · exact law_w11 hw hcs hfm hu hK l175 l180 l185 l190 l196 l202 w191 w197 w203
          · exact law_w12 hw hcs hfm hu hK l175 l180 l185 l190 l196 l202 w191 w197 w203
          · exact law_w13 hw hcs hfm hu hK l175 l180 l185 l190 l196 l202 w191 w197 w203
        · rcases and3 (((i0).toUInt32 >>> ((5 : Int32) &&& 31).toUInt32).toInt32) with f | f | f | f <;> rw [f]
          · exact law_w20 hw hcs hfm hu hK l175 l180 l185 l190 l196 l202 w191 w197 w203
          · exact law_w21 hw hcs hfm hu hK l175 l180 l185 l190 l196 l202 w191 w197 w203
          · exact law_w22 hw hcs hfm hu hK l175 l180 l185 l190 l196 l202 w191 w197 w203
          · exact law_w23 hw hcs hfm hu hK l175 l180 l185 l190 l196 l202 w191 w197 w203
        · rcases and3 (((i0).toUInt32 >>> ((5 : Int32) &&& 31).toUInt32).toInt32) with f | f | f | f <;> rw [f]
          · exact law_w30 hw hcs hfm hu hK l175 l180 l185 l190 l196 l202 w191 w197 w203
          · exact law_w31 hw hcs hfm hu hK l175 l180 l185 l190 l196 l202 w191 w197 w203
          · exact law_w32 hw hcs hfm hu hK l175 l180 l185 l190 l196 l202 w191 w197 w203
          · exact law_w33 hw hcs hfm hu hK l175 l180 l185 l190 l196 l202 w191 w197 w203
/-! from the case's words to the law's walk, and the owed theorems -/
set_option maxRecDepth 65536 in
set_option maxHeartbeats 40000000 in
theorem comes_1 {Post : Tables → Env → Array Value → State → Outcome → State → Prop} (hpost : ∀ tb e args s v u, (limb_1_1.after args s (.returned v) u = true ∧ limb_1_2.after args s (.returned v) u = true ∧ True) → ReturnedEndW s (.returned v) u (Jvm.fieldLocs frame_1_writes args s ++ Jvm.arrayLocs frame_1_arrays args s ++ Jvm.staticLocs frame_1_statics s) 32 1216 → Post tb e args s (.returned v) u) :
    ArmFor flags0 classFile x code maxLocals ret World_1 tables_1 room_1 Calls_1 rest_1 Pre_1 Post := by
  intro l hfl _ _ p e ha hc hk s m args below hf hA hF happ hP
  obtain ⟨hcalls, hrest, hpre⟩ := hP
  obtain ⟨-, -, -, hnamed, -, -, -, hat⟩ := (Spec.applies_iff hf).mp happ
  obtain ⟨hg, hn⟩ := and_e (Cond.before_iff.mp (show (Jvm.Cond.and given_1 narrow_1).before args s = true from hpre))
  obtain ⟨g0, r0⟩ := and_e hg
  obtain ⟨g1, r1⟩ := and_e r0
  obtain ⟨g2, r2⟩ := and_e r1
  obtain ⟨g3, r3⟩ := and_e r2
  obtain ⟨g4, r4⟩ := and_e r3
  obtain ⟨w0_, w1_, w2_, w3_, w4_, rfl⟩ : ∃ w0_ w1_ w2_ w3_ w4_ : Value, args = #[w0_, w1_, w2_, w3_, w4_] := by
    have hs : args.size = 5 := by simpa [Cond.value, given_1] using g0
    obtain ⟨L⟩ := args
    match L, hs with
    | [w0_, w1_, w2_, w3_, w4_], _ => exact ⟨w0_, w1_, w2_, w3_, w4_, rfl⟩
  have hw := fun d (hd : d ∈ tables_1) => atoms_spec (ws := Jvm.Cond.code x code maxLocals ret :: tables_1) hat d (List.mem_cons_of_mem _ hd)
  obtain ⟨hsets, hown0⟩ := atoms_of _ (rest_1_c_eq ▸ (show rest_1_c.before _ s = true from hrest))
  obtain ⟨i0, ei0⟩ := is_v g1
  obtain rfl : w0_ = (.int i0) := Option.some.inj ei0
  obtain ⟨i1, ei1⟩ := isL_v g2
  obtain rfl : w1_ = (.long i1) := Option.some.inj ei1
  obtain ⟨i2, ei2⟩ := isL_v g3
  obtain rfl : w2_ = (.long i2) := Option.some.inj ei2
  obtain ⟨i3, ei3⟩ := isL_v g4
  obtain rfl : w3_ = (.long i3) := Option.some.inj ei3
  obtain ⟨i4, ei4⟩ := is_v r4
  obtain rfl : w4_ = (.int i4) := Option.some.inj ei4
  have hcw : Jvm.Lit.compactW.before _ s = true := hsets _ (List.mem_of_getElem? (i := 2) rfl)
  have hcs : CSon s := by
    obtain ⟨cst, ev⟩ := is_v (Cond.before_iff.mp (hsets _ (List.mem_of_getElem? (i := 1) rfl)))
    refine ⟨cst, Sta.start ev (Or.inl (hsets _ (List.mem_of_getElem? (i := 0) rfl))), fun q => ?_⟩
    have h1 := not_v (Cond.before_iff.mp (hsets _ (List.mem_of_getElem? (i := 2) rfl)))
    rw [eq_i ev (Term.int_eval 0) (by rw [q])] at h1
    cases h1
  have hfm : Fmt s := by
    obtain ⟨f, ef, rf⟩ := isR_v (Cond.before_iff.mp (hsets _ (List.mem_of_getElem? (i := 8) rfl)))
    exact ⟨f, Sta.start ef (Or.inl (hsets _ (List.mem_of_getElem? (i := 7) rfl))), rf⟩
  have hu : U16on s := ⟨Sta.start (eqS (Cond.before_iff.mp (hsets _ (List.mem_of_getElem? (i := 12) rfl)))) (Or.inl (hsets _ (List.mem_of_getElem? (i := 11) rfl))), Sta.start (eqS (Cond.before_iff.mp (hsets _ (List.mem_of_getElem? (i := 15) rfl)))) (Or.inl (hsets _ (List.mem_of_getElem? (i := 14) rfl))), Sta.start (eqS (Cond.before_iff.mp (hsets _ (List.mem_of_getElem? (i := 18) rfl)))) (Or.inl (hsets _ (List.mem_of_getElem? (i := 17) rfl)))⟩
  obtain ⟨n0, hn1⟩ := and_e hn
  obtain ⟨n1, hn2⟩ := and_e hn1
  obtain ⟨n2, hn3⟩ := and_e hn2
  obtain ⟨n3, hn4⟩ := and_e hn3
  obtain ⟨n4, n5⟩ := and_e hn4
  obtain ⟨kw, ekw⟩ := exa_v n0
  obtain ⟨ks, eks⟩ := exa_v n1
  obtain ⟨ki, eki⟩ := exa_v n4
  have o1 := eqS n2
  have o0 := eqS n3
  have o2 := eqS n5
  rw [fld_at eks] at o1
  rw [fld_at ekw] at o0
  rw [fld_at eki] at o2
  have hK : Kinds s kw ks ki := ⟨⟨(Sta.start ekw (Or.inr ⟨(w1 hw), (w2 hw)⟩)), (Sta.start eks (Or.inr ⟨(w1 hw), (w112 hw)⟩)), (Sta.start eki (Or.inr ⟨(w1 hw), (w144 hw)⟩))⟩, (fun q => by rw [q, o0] at o1; cases o1), (fun q => by rw [q, o0] at o2; cases o2)⟩
  obtain ⟨n, o, h1, h2, h3, v, L, rfl, ⟨hq, N⟩, -, hE, hH, -⟩ := law_met (l := l) (Z := s) hw hcs hfm hu hK i0 i1 i2 i3 i4  p e ha hc hk s m _ below hf ((Spec.applies_iff_loose hf).mp happ).1 ⟨rfl, State.Warmed39.refl s, rfl, CHv.start (own_hEL hw) (fun q hq => hcalls.1 q hq) hcw (w29 hw) (w15 hw), ext_rfl _, Mine.nil⟩ trivial
  subst hq
  exact ⟨n, _, h1, h2, h3, hpost _ _ _ _ _ _ ⟨Cond.after_iff.mpr rfl, Cond.after_iff.mpr (eq_i res_at (Term.int_eval (1)) rfl), trivial⟩ ⟨hE.1, hE.2.1, hE.2.2.1, (hE.2.2.2.sift fun y hy => Or.inr (N y hy)).mono (by decide) (by decide)⟩⟩
theorem main_1_1 : Claimed_1_1 := comes_1 fun _ _ _ _ _ _ h hF => ⟨h.1, hF⟩
theorem main_1_2 : Claimed_1_2 := comes_1 fun _ _ _ _ _ _ h hF => ⟨h.2.1, hF⟩

end Jvm.Pilot.@@N@@
namespace Jvm.Pilot.@@N@@
open Jvm Jvm.ClassFile Sem Op Lib Jvm.Free Jvm.Stand Jvm.Pilot.@@N@@.Jvm.D
/-! MADE BY PROGRAM (witnessworld.py) out of the Statement's table words and the real class files: 23 classes; the members and pool entries that the words name. The judged class is class 1, her method 1. -/
namespace start1
open Jvm.ClassFile
def u (s : String) : CpInfo := .utf8 (stringToUtf16 s)
/-- a pool by its gaps: so many unusable entries, then the entry; so many at the end -/
def gap : Nat → List CpInfo → List CpInfo
  | 0, r => r
  | n + 1, r => .unusable :: gap n r
def poolList (es : List (Nat × CpInfo)) (last : Nat) : List CpInfo := es.foldr (fun e r => gap e.1 (e.2 :: r)) (gap last [])
def pool (es : List (Nat × CpInfo)) (last : Nat) : Array CpInfo := ⟨poolList es last⟩
def fileOf (pool : Array CpInfo) (this : Nat) (attrs : Array Attribute := #[]) (ms : Array MethodInfo := #[]) (fl : Nat := 33) (sup : Nat := 0) (ifs : Array Nat := #[]) (fds : Array FieldInfo := #[]) : ClassFile where
  minorVersion := 0
  majorVersion := 65
  constantPool := pool
  accessFlags := fl
  thisClass := this
  superClass := sup
  interfaces := ifs
  fields := fds
  methods := ms
  attributes := attrs
def plain (name : String) (sup : Option ClassId) : Class where
  name := name
  kind := .ordinary
  loader := none
  accessFlags := 33
  super := sup
  interfaces := #[]
  cf := none
  fields := #[]
  methods := #[]
  instanceTypes := #[]
  staticTypes := #[]
  resolved := #[]
  callSites := []
  init := .initialized
  statics := none
  mirror := none

def pool0 : Array CpInfo := pool [(5, u "<init>"), (0, u "()V"), (1, .class_ 10), (1, u "java/lang/Object")] 113

def k0c0 : Code := { maxStack := 0, maxLocals := 1, code := object_method_1_code, exceptionTable := #[], attributes := #[] }
def k0m0 : Method := { name := "<init>", desc := "()V", sig := { parameters := [], returnType := none }, accessFlags := 1, code := some k0c0 }
/-- java/lang/Object -/
def k0 : Class := { plain "java/lang/Object" none with
  accessFlags := 33
  interfaces := #[]
  cf := some (fileOf pool0 8 #[] #[{ accessFlags := 1, nameIndex := 5, descriptorIndex := 6, attributes := #[] }] 33 0 #[] #[])
  fields := #[]
  methods := #[k0m0]
  instanceTypes := #[]
  staticTypes := #[]
  resolved := Array.replicate 124 none
  statics := none }

def pool1 : Array CpInfo := pool [(2, .class_ 4), (1, u "java/lang/Object"), (0, u "<init>"), (0, u "()V"), (0, .fieldref 8 9), (0, .class_ 10), (0, .nameAndType 11 12), (0, u "com/example/grantwork/grantwork/Token$Kind"), (0, u "SYMBOL"), (0, u "Lcom/example/grantwork/grantwork/Token$Kind;"), (0, .fieldref 8 14), (0, .nameAndType 15 12), (0, u "INVALID"), (0, .fieldref 8 17), (0, .nameAndType 18 12), (0, u "WORD"), (0, .methodref 20 21), (0, .class_ 22), (0, .nameAndType 23 24), (0, u "com/example/grantwork/grantwork/TokenIsKeywordPinLaw"), (0, u "textChar"), (0, u "(JII)C"), (0, .methodref 20 26), (0, .nameAndType 27 28), (0, u "keyChar"), (0, u "(CJII)C"), (0, .methodref 20 30), (0, .nameAndType 31 32), (0, u "str"), (0, u "(CCCI)Ljava/lang/String;"), (0, .class_ 34), (0, u "com/example/grantwork/grantwork/Token"), (0, .methodref 33 36), (0, .nameAndType 5 37), (0, u "(Lcom/example/grantwork/grantwork/Token$Kind;Ljava/lang/String;JI)V"), (0, .methodref 20 39), (0, .nameAndType 40 41), (0, u "same"), (0, u "(CC)Z"), (0, .methodref 33 43), (0, .nameAndType 44 45), (0, u "isKeyword"), (0, u "(Ljava/lang/String;)Z"), (0, .long 255), (1, .long 65535), (1, .class_ 51), (0, u "java/lang/String"), (0, .methodref 50 53), (0, .nameAndType 5 54), (0, u "([C)V"), (0, .methodref 50 56), (0, .nameAndType 57 58), (0, u "valueOf"), (0, u "(C)Ljava/lang/String;"), (2, u "law"), (0, u "(IJJJI)Z")] 5

def k1m0 : Method := { name := "<init>", desc := "()V", sig := { parameters := [], returnType := none }, accessFlags := 2, code := none }
def k1c1 : Code := { maxStack := 7, maxLocals := 22, code := code, exceptionTable := #[], attributes := #[] }
def k1m1 : Method := { name := "law", desc := "(IJJJI)Z", sig := { parameters := [.int, .long, .long, .long, .int], returnType := some .boolean }, accessFlags := 9, code := some k1c1 }
def k1c2 : Code := { maxStack := 4, maxLocals := 6, code := method_3_code, exceptionTable := #[], attributes := #[] }
def k1m2 : Method := { name := "textChar", desc := "(JII)C", sig := { parameters := [.long, .int, .int], returnType := some .char }, accessFlags := 10, code := some k1c2 }
def k1c3 : Code := { maxStack := 4, maxLocals := 7, code := method_4_code, exceptionTable := #[], attributes := #[] }
def k1m3 : Method := { name := "keyChar", desc := "(CJII)C", sig := { parameters := [.char, .long, .int, .int], returnType := some .char }, accessFlags := 10, code := some k1c3 }
def k1c4 : Code := { maxStack := 3, maxLocals := 2, code := method_5_code, exceptionTable := #[], attributes := #[] }
def k1m4 : Method := { name := "same", desc := "(CC)Z", sig := { parameters := [.char, .char], returnType := some .boolean }, accessFlags := 10, code := some k1c4 }
def k1c5 : Code := { maxStack := 6, maxLocals := 4, code := method_6_code, exceptionTable := #[], attributes := #[] }
def k1m5 : Method := { name := "str", desc := "(CCCI)Ljava/lang/String;", sig := { parameters := [.char, .char, .char, .int], returnType := some (.object "java/lang/String") }, accessFlags := 10, code := some k1c5 }
/-- com/example/grantwork/grantwork/TokenIsKeywordPinLaw -/
def k1 : Class := { plain "com/example/grantwork/grantwork/TokenIsKeywordPinLaw" (some 0) with
  accessFlags := 49
  interfaces := #[]
  cf := some (fileOf pool1 20 #[] #[{ accessFlags := 2, nameIndex := 5, descriptorIndex := 6, attributes := #[] }, { accessFlags := 9, nameIndex := 61, descriptorIndex := 62, attributes := #[] }, { accessFlags := 10, nameIndex := 23, descriptorIndex := 24, attributes := #[] }, { accessFlags := 10, nameIndex := 27, descriptorIndex := 28, attributes := #[] }, { accessFlags := 10, nameIndex := 40, descriptorIndex := 41, attributes := #[] }, { accessFlags := 10, nameIndex := 31, descriptorIndex := 32, attributes := #[] }] 49 2 #[] #[])
  fields := #[]
  methods := #[k1m0, k1m1, k1m2, k1m3, k1m4, k1m5]
  instanceTypes := #[]
  staticTypes := #[]
  resolved := Array.replicate 68 none
  statics := none }

def pool2 : Array CpInfo := pool [(1, .class_ 2), (0, u "java/lang/constant/Constable"), (0, .class_ 4), (0, u "java/lang/Object")] 6

/-- java/lang/constant/Constable -/
def k2 : Class := { plain "java/lang/constant/Constable" (some 0) with
  accessFlags := 1537
  interfaces := #[]
  cf := some (fileOf pool2 1 #[] #[] 1537 3 #[] #[])
  fields := #[]
  methods := #[]
  instanceTypes := #[]
  staticTypes := #[]
  resolved := Array.replicate 11 none
  statics := none }

def pool3 : Array CpInfo := pool [(1, .class_ 2), (0, u "java/lang/Comparable"), (0, .class_ 4), (0, u "java/lang/Object")] 7

/-- java/lang/Comparable -/
def k3 : Class := { plain "java/lang/Comparable" (some 0) with
  accessFlags := 1537
  interfaces := #[]
  cf := some (fileOf pool3 1 #[] #[] 1537 3 #[] #[])
  fields := #[]
  methods := #[]
  instanceTypes := #[]
  staticTypes := #[]
  resolved := Array.replicate 12 none
  statics := none }

def pool4 : Array CpInfo := pool [(1, .class_ 2), (0, u "java/io/Serializable"), (0, .class_ 4), (0, u "java/lang/Object")] 2

/-- java/io/Serializable -/
def k4 : Class := { plain "java/io/Serializable" (some 0) with
  accessFlags := 1537
  interfaces := #[]
  cf := some (fileOf pool4 1 #[] #[] 1537 3 #[] #[])
  fields := #[]
  methods := #[]
  instanceTypes := #[]
  staticTypes := #[]
  resolved := Array.replicate 7 none
  statics := none }

def pool5 : Array CpInfo := pool [(2, .class_ 4), (1, u "java/lang/Enum"), (0, u "name"), (0, u "Ljava/lang/String;"), (2, u "ordinal"), (0, u "I"), (1, .class_ 14), (1, u "java/lang/Object"), (4, u "hash"), (86, .class_ 108), (1, u "java/lang/Enum$EnumDesc"), (2, .class_ 112), (0, u "java/lang/constant/Constable"), (0, .class_ 114), (0, u "java/lang/Comparable"), (0, .class_ 116), (0, u "java/io/Serializable")] 87

/-- java/lang/Enum -/
def k5 : Class := { plain "java/lang/Enum" (some 0) with
  accessFlags := 1057
  interfaces := #[2, 3, 4]
  cf := some (fileOf pool5 2 #[.nestMembers #[106]] #[] 1057 12 #[111, 113, 115] #[{ accessFlags := 18, nameIndex := 5, descriptorIndex := 6, attributes := #[] }, { accessFlags := 18, nameIndex := 9, descriptorIndex := 10, attributes := #[] }, { accessFlags := 2, nameIndex := 19, descriptorIndex := 10, attributes := #[] }])
  fields := #[{ name := "name", type := (.object "java/lang/String"), accessFlags := 18, slot := 0, constantValue := 0 }, { name := "ordinal", type := .int, accessFlags := 18, slot := 1, constantValue := 0 }, { name := "hash", type := .int, accessFlags := 2, slot := 2, constantValue := 0 }]
  methods := #[]
  instanceTypes := #[(.object "java/lang/String"), .int, .int]
  staticTypes := #[]
  resolved := Array.replicate 204 none
  statics := none }

def pool6 : Array CpInfo := pool [(1, .class_ 2), (0, u "com/example/grantwork/grantwork/Token$Kind"), (2, u "WORD"), (0, u "Lcom/example/grantwork/grantwork/Token$Kind;"), (2, u "SYMBOL"), (2, u "INVALID"), (2, u "$VALUES"), (0, u "[Lcom/example/grantwork/grantwork/Token$Kind;"), (6, .class_ 25), (1, u "java/lang/Enum"), (26, .class_ 53), (0, u "com/example/grantwork/grantwork/Token")] 2

/-- com/example/grantwork/grantwork/Token$Kind -/
def k6 : Class := { plain "com/example/grantwork/grantwork/Token$Kind" (some 5) with
  accessFlags := 16432
  interfaces := #[]
  cf := some (fileOf pool6 1 #[.nestHost 52] #[] 16432 23 #[] #[{ accessFlags := 16409, nameIndex := 5, descriptorIndex := 6, attributes := #[] }, { accessFlags := 16409, nameIndex := 9, descriptorIndex := 6, attributes := #[] }, { accessFlags := 16409, nameIndex := 12, descriptorIndex := 6, attributes := #[] }, { accessFlags := 4122, nameIndex := 15, descriptorIndex := 16, attributes := #[] }])
  fields := #[{ name := "WORD", type := (.object "com/example/grantwork/grantwork/Token$Kind"), accessFlags := 16409, slot := 0, constantValue := 0 }, { name := "SYMBOL", type := (.object "com/example/grantwork/grantwork/Token$Kind"), accessFlags := 16409, slot := 1, constantValue := 0 }, { name := "INVALID", type := (.object "com/example/grantwork/grantwork/Token$Kind"), accessFlags := 16409, slot := 2, constantValue := 0 }, { name := "$VALUES", type := (.array (.object "com/example/grantwork/grantwork/Token$Kind")), accessFlags := 4122, slot := 3, constantValue := 0 }]
  methods := #[]
  instanceTypes := #[(.object "java/lang/String"), .int, .int]
  staticTypes := #[(.object "com/example/grantwork/grantwork/Token$Kind"), (.object "com/example/grantwork/grantwork/Token$Kind"), (.object "com/example/grantwork/grantwork/Token$Kind"), (.array (.object "com/example/grantwork/grantwork/Token$Kind"))]
  resolved := Array.replicate 56 none
  statics := some 0 }

def pool7 : Array CpInfo := pool [(2, .class_ 4), (1, u "java/lang/CharSequence"), (42, .class_ 48), (0, u "java/lang/CharSequence$1CodePointIterator"), (10, .class_ 60), (0, u "java/lang/CharSequence$1CharIterator"), (5, .class_ 67), (0, u "java/lang/Object")] 63

/-- java/lang/CharSequence -/
def k7 : Class := { plain "java/lang/CharSequence" (some 0) with
  accessFlags := 1537
  interfaces := #[]
  cf := some (fileOf pool7 2 #[.nestMembers #[47, 59]] #[] 1537 66 #[] #[])
  fields := #[]
  methods := #[]
  instanceTypes := #[]
  staticTypes := #[]
  resolved := Array.replicate 131 none
  statics := none }

def pool8 : Array CpInfo := pool [(1, .class_ 2), (0, u "java/lang/constant/ConstantDesc"), (0, .class_ 4), (0, u "java/lang/Object")] 32

/-- java/lang/constant/ConstantDesc -/
def k8 : Class := { plain "java/lang/constant/ConstantDesc" (some 0) with
  accessFlags := 1537
  interfaces := #[]
  cf := some (fileOf pool8 1 #[] #[] 1537 3 #[] #[])
  fields := #[]
  methods := #[]
  instanceTypes := #[]
  staticTypes := #[]
  resolved := Array.replicate 37 none
  statics := none }

def pool9 : Array CpInfo := pool [(1, .methodref 2 3), (0, .class_ 4), (0, .nameAndType 5 6), (0, u "java/lang/Object"), (0, u "<init>"), (0, u "()V"), (0, .string 8), (0, u ""), (0, .fieldref 10 11), (0, .class_ 12), (0, .nameAndType 13 14), (0, u "java/lang/String"), (0, u "value"), (0, u "[B"), (0, .fieldref 10 16), (0, .nameAndType 17 18), (0, u "coder"), (0, u "B"), (2, u "hash"), (0, u "I"), (2, u "hashIsZero"), (0, u "Z"), (0, .methodref 10 28), (0, .nameAndType 5 29), (0, u "([CIILjava/lang/Void;)V"), (8, .fieldref 10 39), (0, .nameAndType 40 26), (0, u "COMPACT_STRINGS"), (1, .class_ 44), (1, u "java/lang/StringUTF16"), (0, u "compress"), (1, .methodref 42 48), (0, .nameAndType 49 50), (0, u "coderFromArrayLen"), (0, u "([BI)B"), (2, u "toBytes"), (53, .class_ 109), (1, u "java/lang/StringLatin1"), (32, u "()Z"), (34, .methodref 42 178), (0, .nameAndType 45 179), (0, u "([CII)[B"), (29, .methodref 10 210), (0, .nameAndType 5 211), (0, u "([BB)V"), (122, u "()I"), (0, .methodref 10 336), (0, .nameAndType 17 337), (0, u "()B"), (25, u "([BI)C"), (5, u "(C)Z"), (21, u "(II)V"), (35, u "(I)C"), (64, .methodref 10 493), (0, .nameAndType 494 142), (0, u "isLatin1"), (0, .methodref 107 496), (0, .nameAndType 497 363), (0, u "charAt"), (0, .methodref 42 496), (2, u "checkIndex"), (5, u "length"), (67, .class_ 576), (0, u "java/lang/CharSequence"), (22, u "CASE_INSENSITIVE_ORDER"), (0, u "Ljava/util/Comparator;"), (181, u "valueOf"), (0, u "(C)Ljava/lang/String;"), (226, u "([C)V"), (4, .methodref 107 1016), (0, .nameAndType 1017 369), (0, u "canEncode"), (0, .methodref 107 1019), (0, .nameAndType 53 1020), (0, u "(C)[B"), (0, .methodref 42 1019), (31, .fieldref 1054 1055), (0, .class_ 1056), (0, .nameAndType 1057 1058), (0, u "jdk/internal/util/Preconditions"), (0, u "SIOOBE_FORMATTER"), (0, u "Ljava/util/function/BiFunction;"), (0, .methodref 1054 1060), (0, .nameAndType 501 1061), (0, u "(IILjava/util/function/BiFunction;)I"), (39, u "serialPersistentFields"), (0, u "[Ljava/io/ObjectStreamField;"), (0, .class_ 1104), (0, u "java/lang/String$CaseInsensitiveComparator"), (1, .class_ 1107), (0, u "java/io/Serializable"), (0, .class_ 1109), (0, u "java/lang/Comparable"), (0, .class_ 1111), (0, u "java/lang/constant/Constable"), (0, .class_ 1113), (0, u "java/lang/constant/ConstantDesc"), (2, u "serialVersionUID"), (0, u "J"), (3, u "REPL"), (0, u "C"), (2, u "LATIN1"), (1, u "UTF16")] 323

def k9m0 : Method := { name := "<init>", desc := "()V", sig := { parameters := [], returnType := none }, accessFlags := 1, code := none }
def k9c1 : Code := { maxStack := 5, maxLocals := 2, code := jdk_42_method_3_code, exceptionTable := #[], attributes := #[] }
def k9m1 : Method := { name := "<init>", desc := "([C)V", sig := { parameters := [(.array .char)], returnType := none }, accessFlags := 1, code := some k9c1 }
def k9c2 : Code := { maxStack := 2, maxLocals := 1, code := jdk_42_method_54_code, exceptionTable := #[], attributes := #[] }
def k9m2 : Method := { name := "length", desc := "()I", sig := { parameters := [], returnType := some .int }, accessFlags := 1, code := some k9c2 }
def k9c3 : Code := { maxStack := 2, maxLocals := 2, code := jdk_42_method_56_code, exceptionTable := #[], attributes := #[] }
def k9m3 : Method := { name := "charAt", desc := "(I)C", sig := { parameters := [.int], returnType := some .char }, accessFlags := 1, code := some k9c3 }
def k9c4 : Code := { maxStack := 4, maxLocals := 1, code := jdk_42_method_139_code, exceptionTable := #[], attributes := #[] }
def k9m4 : Method := { name := "valueOf", desc := "(C)Ljava/lang/String;", sig := { parameters := [.char], returnType := some (.object "java/lang/String") }, accessFlags := 9, code := some k9c4 }
def k9c5 : Code := { maxStack := 4, maxLocals := 6, code := jdk_42_method_149_code, exceptionTable := #[], attributes := #[] }
def k9m5 : Method := { name := "<init>", desc := "([CIILjava/lang/Void;)V", sig := { parameters := [(.array .char), .int, .int, (.object "java/lang/Void")], returnType := none }, accessFlags := 2, code := some k9c5 }
def k9c6 : Code := { maxStack := 2, maxLocals := 3, code := jdk_42_method_151_code, exceptionTable := #[], attributes := #[] }
def k9m6 : Method := { name := "<init>", desc := "([BB)V", sig := { parameters := [(.array .byte), .byte], returnType := none }, accessFlags := 0, code := some k9c6 }
def k9c7 : Code := { maxStack := 1, maxLocals := 1, code := jdk_42_method_152_code, exceptionTable := #[], attributes := #[] }
def k9m7 : Method := { name := "coder", desc := "()B", sig := { parameters := [], returnType := some .byte }, accessFlags := 0, code := some k9c7 }
def k9c8 : Code := { maxStack := 1, maxLocals := 1, code := jdk_42_method_154_code, exceptionTable := #[], attributes := #[] }
def k9m8 : Method := { name := "isLatin1", desc := "()Z", sig := { parameters := [], returnType := some .boolean }, accessFlags := 0, code := some k9c8 }
def k9c9 : Code := { maxStack := 3, maxLocals := 2, code := jdk_42_method_155_code, exceptionTable := #[], attributes := #[] }
def k9m9 : Method := { name := "checkIndex", desc := "(II)V", sig := { parameters := [.int, .int], returnType := none }, accessFlags := 8, code := some k9c9 }
/-- java/lang/String -/
def k9 : Class := { plain "java/lang/String" (some 0) with
  accessFlags := 49
  interfaces := #[4, 3, 7, 2, 8]
  cf := some (fileOf pool9 10 #[.nestMembers #[1103]] #[{ accessFlags := 1, nameIndex := 5, descriptorIndex := 6, attributes := #[] }, { accessFlags := 1, nameIndex := 5, descriptorIndex := 1010, attributes := #[] }, { accessFlags := 1, nameIndex := 507, descriptorIndex := 334, attributes := #[] }, { accessFlags := 1, nameIndex := 497, descriptorIndex := 427, attributes := #[] }, { accessFlags := 9, nameIndex := 782, descriptorIndex := 783, attributes := #[] }, { accessFlags := 2, nameIndex := 5, descriptorIndex := 29, attributes := #[] }, { accessFlags := 0, nameIndex := 5, descriptorIndex := 211, attributes := #[] }, { accessFlags := 0, nameIndex := 17, descriptorIndex := 337, attributes := #[] }, { accessFlags := 0, nameIndex := 494, descriptorIndex := 142, attributes := #[] }, { accessFlags := 8, nameIndex := 501, descriptorIndex := 391, attributes := #[] }] 49 2 #[1106, 1108, 575, 1110, 1112] #[{ accessFlags := 18, nameIndex := 13, descriptorIndex := 14, attributes := #[] }, { accessFlags := 18, nameIndex := 17, descriptorIndex := 18, attributes := #[] }, { accessFlags := 2, nameIndex := 21, descriptorIndex := 22, attributes := #[] }, { accessFlags := 2, nameIndex := 25, descriptorIndex := 26, attributes := #[] }, { accessFlags := 26, nameIndex := 1116, descriptorIndex := 1117, attributes := #[] }, { accessFlags := 24, nameIndex := 40, descriptorIndex := 26, attributes := #[] }, { accessFlags := 26, nameIndex := 1101, descriptorIndex := 1102, attributes := #[] }, { accessFlags := 26, nameIndex := 1121, descriptorIndex := 1122, attributes := #[] }, { accessFlags := 25, nameIndex := 599, descriptorIndex := 600, attributes := #[] }, { accessFlags := 24, nameIndex := 1125, descriptorIndex := 18, attributes := #[] }, { accessFlags := 24, nameIndex := 1127, descriptorIndex := 18, attributes := #[] }])
  fields := #[{ name := "value", type := (.array .byte), accessFlags := 18, slot := 0, constantValue := 0 }, { name := "coder", type := .byte, accessFlags := 18, slot := 1, constantValue := 0 }, { name := "hash", type := .int, accessFlags := 2, slot := 2, constantValue := 0 }, { name := "hashIsZero", type := .boolean, accessFlags := 2, slot := 3, constantValue := 0 }, { name := "serialVersionUID", type := .long, accessFlags := 26, slot := 0, constantValue := 0 }, { name := "COMPACT_STRINGS", type := .boolean, accessFlags := 24, slot := 1, constantValue := 0 }, { name := "serialPersistentFields", type := (.array (.object "java/io/ObjectStreamField")), accessFlags := 26, slot := 2, constantValue := 0 }, { name := "REPL", type := .char, accessFlags := 26, slot := 3, constantValue := 0 }, { name := "CASE_INSENSITIVE_ORDER", type := (.object "java/util/Comparator"), accessFlags := 25, slot := 4, constantValue := 0 }, { name := "LATIN1", type := .byte, accessFlags := 24, slot := 5, constantValue := 0 }, { name := "UTF16", type := .byte, accessFlags := 24, slot := 6, constantValue := 0 }]
  methods := #[k9m0, k9m1, k9m2, k9m3, k9m4, k9m5, k9m6, k9m7, k9m8, k9m9]
  instanceTypes := #[(.array .byte), .byte, .int, .boolean]
  staticTypes := #[.long, .boolean, (.array (.object "java/io/ObjectStreamField")), .char, (.object "java/util/Comparator"), .byte, .byte]
  resolved := Array.replicate 1451 none
  statics := some 1 }

def pool10 : Array CpInfo := pool [(1, .methodref 2 3), (0, .class_ 4), (0, .nameAndType 5 6), (0, u "java/lang/Object"), (0, u "<init>"), (0, u "()V"), (0, .class_ 8), (0, u "java/lang/Record")] 13

def k10c0 : Code := { maxStack := 1, maxLocals := 1, code := jdk_30_method_1_code, exceptionTable := #[], attributes := #[] }
def k10m0 : Method := { name := "<init>", desc := "()V", sig := { parameters := [], returnType := none }, accessFlags := 4, code := some k10c0 }
/-- java/lang/Record -/
def k10 : Class := { plain "java/lang/Record" (some 0) with
  accessFlags := 1057
  interfaces := #[]
  cf := some (fileOf pool10 7 #[] #[{ accessFlags := 4, nameIndex := 5, descriptorIndex := 6, attributes := #[] }] 1057 2 #[] #[])
  fields := #[]
  methods := #[k10m0]
  instanceTypes := #[]
  staticTypes := #[]
  resolved := Array.replicate 22 none
  statics := none }

def pool11 : Array CpInfo := pool [(1, .methodref 2 3), (0, .class_ 4), (0, .nameAndType 5 6), (0, u "java/lang/Record"), (0, u "<init>"), (0, u "()V"), (0, .fieldref 8 9), (0, .class_ 10), (0, .nameAndType 11 12), (0, u "com/example/grantwork/grantwork/Token"), (0, u "kind"), (0, u "Lcom/example/grantwork/grantwork/Token$Kind;"), (0, .fieldref 8 14), (0, .nameAndType 15 16), (0, u "text"), (0, u "Ljava/lang/String;"), (0, .fieldref 8 18), (0, .nameAndType 19 20), (0, u "length"), (0, u "J"), (0, .fieldref 8 22), (0, .nameAndType 23 24), (0, u "line"), (0, u "I"), (1, .class_ 28), (1, u "com/example/grantwork/grantwork/Token$Kind"), (2, .class_ 33), (1, u "java/lang/String"), (2, .fieldref 26 37), (0, .nameAndType 38 12), (0, u "WORD"), (0, .methodref 31 40), (0, .nameAndType 19 41), (0, u "()I"), (0, .methodref 31 43), (0, .nameAndType 44 45), (0, u "charAt"), (0, u "(I)C"), (38, u "(Lcom/example/grantwork/grantwork/Token$Kind;Ljava/lang/String;JI)V"), (4, u "(Ljava/lang/String;)Z"), (1, u "isKeyword")] 29

def k11c0 : Code := { maxStack := 3, maxLocals := 6, code := prog_70_method_1_code, exceptionTable := #[], attributes := #[] }
def k11m0 : Method := { name := "<init>", desc := "(Lcom/example/grantwork/grantwork/Token$Kind;Ljava/lang/String;JI)V", sig := { parameters := [(.object "com/example/grantwork/grantwork/Token$Kind"), (.object "java/lang/String"), .long, .int], returnType := none }, accessFlags := 0, code := some k11c0 }
def k11c1 : Code := { maxStack := 3, maxLocals := 5, code := prog_70_method_3_code, exceptionTable := #[], attributes := #[] }
def k11m1 : Method := { name := "isKeyword", desc := "(Ljava/lang/String;)Z", sig := { parameters := [(.object "java/lang/String")], returnType := some .boolean }, accessFlags := 0, code := some k11c1 }
/-- com/example/grantwork/grantwork/Token -/
def k11 : Class := { plain "com/example/grantwork/grantwork/Token" (some 10) with
  accessFlags := 48
  interfaces := #[]
  cf := some (fileOf pool11 8 #[.nestMembers #[26]] #[{ accessFlags := 0, nameIndex := 5, descriptorIndex := 84, attributes := #[] }, { accessFlags := 0, nameIndex := 91, descriptorIndex := 89, attributes := #[] }] 48 2 #[] #[{ accessFlags := 18, nameIndex := 11, descriptorIndex := 12, attributes := #[] }, { accessFlags := 18, nameIndex := 15, descriptorIndex := 16, attributes := #[] }, { accessFlags := 18, nameIndex := 19, descriptorIndex := 20, attributes := #[] }, { accessFlags := 18, nameIndex := 23, descriptorIndex := 24, attributes := #[] }])
  fields := #[{ name := "kind", type := (.object "com/example/grantwork/grantwork/Token$Kind"), accessFlags := 18, slot := 0, constantValue := 0 }, { name := "text", type := (.object "java/lang/String"), accessFlags := 18, slot := 1, constantValue := 0 }, { name := "length", type := .long, accessFlags := 18, slot := 2, constantValue := 0 }, { name := "line", type := .int, accessFlags := 18, slot := 3, constantValue := 0 }]
  methods := #[k11m0, k11m1]
  instanceTypes := #[(.object "com/example/grantwork/grantwork/Token$Kind"), (.object "java/lang/String"), .long, .int]
  staticTypes := #[]
  resolved := Array.replicate 121 none
  statics := none }

def pool12 : Array CpInfo := pool [(1, .class_ 2), (0, u "java/lang/String"), (1, .class_ 6), (1, u "java/lang/Object"), (0, u "<init>"), (0, u "()V"), (0, .methodref 1 10), (0, .nameAndType 11 12), (0, u "checkIndex"), (0, u "(II)V"), (1, .class_ 16), (1, u "java/lang/StringLatin1"), (36, u "([BI)C"), (36, u "canEncode"), (14, u "(C)Z"), (15, u "$assertionsDisabled"), (0, u "Z"), (98, .class_ 223), (1, u "java/lang/StringLatin1$LinesSpliterator"), (28, u "charAt"), (127, u "toBytes"), (1, u "(C)[B"), (7, .class_ 391), (0, u "java/lang/StringLatin1$CharsSpliterator")] 3

def k12m0 : Method := { name := "<init>", desc := "()V", sig := { parameters := [], returnType := none }, accessFlags := 0, code := none }
def k12c1 : Code := { maxStack := 2, maxLocals := 2, code := jdk_43_method_2_code, exceptionTable := #[], attributes := #[] }
def k12m1 : Method := { name := "charAt", desc := "([BI)C", sig := { parameters := [(.array .byte), .int], returnType := some .char }, accessFlags := 9, code := some k12c1 }
def k12c2 : Code := { maxStack := 2, maxLocals := 1, code := jdk_43_method_3_code, exceptionTable := #[], attributes := #[] }
def k12m2 : Method := { name := "canEncode", desc := "(C)Z", sig := { parameters := [.char], returnType := some .boolean }, accessFlags := 9, code := some k12c2 }
def k12c3 : Code := { maxStack := 4, maxLocals := 1, code := jdk_43_method_46_code, exceptionTable := #[], attributes := #[] }
def k12m3 : Method := { name := "toBytes", desc := "(C)[B", sig := { parameters := [.char], returnType := some (.array .byte) }, accessFlags := 9, code := some k12c3 }
/-- java/lang/StringLatin1 -/
def k12 : Class := { plain "java/lang/StringLatin1" (some 0) with
  accessFlags := 48
  interfaces := #[]
  cf := some (fileOf pool12 14 #[.nestMembers #[390, 221]] #[{ accessFlags := 0, nameIndex := 7, descriptorIndex := 8, attributes := #[] }, { accessFlags := 9, nameIndex := 252, descriptorIndex := 53, attributes := #[] }, { accessFlags := 9, nameIndex := 90, descriptorIndex := 105, attributes := #[] }, { accessFlags := 9, nameIndex := 380, descriptorIndex := 382, attributes := #[] }] 48 4 #[] #[{ accessFlags := 4120, nameIndex := 121, descriptorIndex := 122, attributes := #[] }])
  fields := #[{ name := "$assertionsDisabled", type := .boolean, accessFlags := 4120, slot := 0, constantValue := 0 }]
  methods := #[k12m0, k12m1, k12m2, k12m3]
  instanceTypes := #[]
  staticTypes := #[.boolean]
  resolved := Array.replicate 395 none
  statics := none }

def pool13 : Array CpInfo := pool [(2, .class_ 4), (1, u "java/lang/Object"), (0, u "<init>"), (0, u "()V"), (17, .class_ 26), (1, u "jdk/internal/util/Preconditions"), (6, u "checkIndex"), (21, .class_ 56), (0, u "jdk/internal/util/Preconditions$4"), (57, .class_ 115), (0, u "jdk/internal/util/Preconditions$1"), (7, u "SIOOBE_FORMATTER"), (0, u "Ljava/util/function/BiFunction;"), (0, .class_ 126), (0, u "jdk/internal/util/Preconditions$2"), (3, u "AIOOBE_FORMATTER"), (0, .class_ 132), (0, u "jdk/internal/util/Preconditions$3"), (3, u "IOOBE_FORMATTER"), (41, u "(IILjava/util/function/BiFunction;)I")] 15

def k13m0 : Method := { name := "<init>", desc := "()V", sig := { parameters := [], returnType := none }, accessFlags := 1, code := none }
def k13c1 : Code := { maxStack := 3, maxLocals := 3, code := jdk_41_method_11_code, exceptionTable := #[], attributes := #[] }
def k13m1 : Method := { name := "checkIndex", desc := "(IILjava/util/function/BiFunction;)I", sig := { parameters := [.int, .int, (.object "java/util/function/BiFunction")], returnType := some .int }, accessFlags := 9, code := some k13c1 }
/-- jdk/internal/util/Preconditions -/
def k13 : Class := { plain "jdk/internal/util/Preconditions" (some 0) with
  accessFlags := 33
  interfaces := #[]
  cf := some (fileOf pool13 24 #[.nestMembers #[55, 131, 125, 114]] #[{ accessFlags := 1, nameIndex := 5, descriptorIndex := 6, attributes := #[] }, { accessFlags := 9, nameIndex := 33, descriptorIndex := 178, attributes := #[] }] 33 2 #[] #[{ accessFlags := 25, nameIndex := 123, descriptorIndex := 124, attributes := #[] }, { accessFlags := 25, nameIndex := 130, descriptorIndex := 124, attributes := #[] }, { accessFlags := 25, nameIndex := 136, descriptorIndex := 124, attributes := #[] }])
  fields := #[{ name := "SIOOBE_FORMATTER", type := (.object "java/util/function/BiFunction"), accessFlags := 25, slot := 0, constantValue := 0 }, { name := "AIOOBE_FORMATTER", type := (.object "java/util/function/BiFunction"), accessFlags := 25, slot := 1, constantValue := 0 }, { name := "IOOBE_FORMATTER", type := (.object "java/util/function/BiFunction"), accessFlags := 25, slot := 2, constantValue := 0 }]
  methods := #[k13m0, k13m1]
  instanceTypes := #[]
  staticTypes := #[(.object "java/util/function/BiFunction"), (.object "java/util/function/BiFunction"), (.object "java/util/function/BiFunction")]
  resolved := Array.replicate 194 none
  statics := some 2 }

def pool14 : Array CpInfo := pool [(3, .class_ 4), (0, u "java/lang/String"), (1, .class_ 8), (1, u "java/lang/Object"), (0, u "<init>"), (0, u "()V"), (0, .methodref 12 13), (0, .class_ 14), (0, .nameAndType 15 16), (0, u "java/lang/StringUTF16"), (0, u "newBytesLength"), (0, u "(I)I"), (3, .integer 1073741823), (23, .fieldref 12 45), (0, .nameAndType 46 47), (0, u "$assertionsDisabled"), (0, u "Z"), (0, .methodref 12 49), (0, .nameAndType 50 51), (0, u "length"), (0, u "([B)I"), (7, .fieldref 12 60), (0, .nameAndType 61 62), (0, u "HI_BYTE_SHIFT"), (0, u "I"), (0, .fieldref 12 64), (0, .nameAndType 65 62), (0, u "LO_BYTE_SHIFT"), (1, .methodref 12 68), (0, .nameAndType 69 70), (0, u "checkIndex"), (0, u "(I[B)V"), (0, .methodref 12 72), (0, .nameAndType 73 74), (0, u "getChar"), (0, u "([BI)C"), (32, .methodref 12 108), (0, .nameAndType 109 110), (0, u "newBytesFor"), (0, u "(I)[B"), (0, .methodref 12 112), (0, .nameAndType 113 114), (0, u "putChar"), (0, u "([BII)V"), (0, .methodref 12 116), (0, .nameAndType 117 118), (0, u "compress"), (0, u "([CI[BII)I"), (0, .methodref 12 120), (0, .nameAndType 121 122), (0, u "toBytes"), (0, u "([CII)[B"), (138, u "coderFromArrayLen"), (0, u "([BI)B"), (106, .class_ 371), (1, u "java/lang/StringUTF16$LinesSpliterator"), (20, u "charAt"), (21, .methodref 3 415), (0, .nameAndType 69 416), (0, u "(II)V"), (13, u "MAX_LENGTH"), (44, u "(C)[B"), (151, .class_ 628), (0, u "java/lang/StringUTF16$CodePointsSpliterator"), (0, .class_ 630), (0, u "java/lang/StringUTF16$CharsSpliterator")] 4

def k14m0 : Method := { name := "<init>", desc := "()V", sig := { parameters := [], returnType := none }, accessFlags := 0, code := none }
def k14c1 : Code := { maxStack := 1, maxLocals := 1, code := jdk_52_method_2_code, exceptionTable := #[], attributes := #[] }
def k14m1 : Method := { name := "newBytesFor", desc := "(I)[B", sig := { parameters := [.int], returnType := some (.array .byte) }, accessFlags := 9, code := some k14c1 }
def k14c2 : Code := { maxStack := 4, maxLocals := 1, code := jdk_52_method_3_code, exceptionTable := #[], attributes := #[] }
def k14m2 : Method := { name := "newBytesLength", desc := "(I)I", sig := { parameters := [.int], returnType := some .int }, accessFlags := 9, code := some k14c2 }
def k14c3 : Code := { maxStack := 4, maxLocals := 3, code := jdk_52_method_4_code, exceptionTable := #[], attributes := #[] }
def k14m3 : Method := { name := "putChar", desc := "([BII)V", sig := { parameters := [(.array .byte), .int, .int], returnType := none }, accessFlags := 8, code := some k14c3 }
def k14c4 : Code := { maxStack := 3, maxLocals := 2, code := jdk_52_method_5_code, exceptionTable := #[], attributes := #[] }
def k14m4 : Method := { name := "getChar", desc := "([BI)C", sig := { parameters := [(.array .byte), .int], returnType := some .char }, accessFlags := 8, code := some k14c4 }
def k14c5 : Code := { maxStack := 2, maxLocals := 1, code := jdk_52_method_6_code, exceptionTable := #[], attributes := #[] }
def k14m5 : Method := { name := "length", desc := "([B)I", sig := { parameters := [(.array .byte)], returnType := some .int }, accessFlags := 9, code := some k14c5 }
def k14c6 : Code := { maxStack := 4, maxLocals := 5, code := jdk_52_method_14_code, exceptionTable := #[], attributes := #[] }
def k14m6 : Method := { name := "toBytes", desc := "([CII)[B", sig := { parameters := [(.array .char), .int, .int], returnType := some (.array .byte) }, accessFlags := 9, code := some k14c6 }
def k14c7 : Code := { maxStack := 2, maxLocals := 2, code := jdk_52_method_15_code, exceptionTable := #[], attributes := #[] }
def k14m7 : Method := { name := "coderFromArrayLen", desc := "([BI)B", sig := { parameters := [(.array .byte), .int], returnType := some .byte }, accessFlags := 8, code := some k14c7 }
def k14c8 : Code := { maxStack := 5, maxLocals := 6, code := jdk_52_method_16_code, exceptionTable := #[], attributes := #[] }
def k14m8 : Method := { name := "compress", desc := "([CII)[B", sig := { parameters := [(.array .char), .int, .int], returnType := some (.array .byte) }, accessFlags := 9, code := some k14c8 }
def k14c9 : Code := { maxStack := 3, maxLocals := 7, code := jdk_52_method_21_code, exceptionTable := #[], attributes := #[] }
def k14m9 : Method := { name := "compress", desc := "([CI[BII)I", sig := { parameters := [(.array .char), .int, (.array .byte), .int, .int], returnType := some .int }, accessFlags := 9, code := some k14c9 }
def k14c10 : Code := { maxStack := 3, maxLocals := 2, code := jdk_52_method_24_code, exceptionTable := #[], attributes := #[] }
def k14m10 : Method := { name := "toBytes", desc := "(C)[B", sig := { parameters := [.char], returnType := some (.array .byte) }, accessFlags := 9, code := some k14c10 }
def k14c11 : Code := { maxStack := 2, maxLocals := 2, code := jdk_52_method_83_code, exceptionTable := #[], attributes := #[] }
def k14m11 : Method := { name := "charAt", desc := "([BI)C", sig := { parameters := [(.array .byte), .int], returnType := some .char }, accessFlags := 9, code := some k14c11 }
def k14c12 : Code := { maxStack := 2, maxLocals := 2, code := jdk_52_method_91_code, exceptionTable := #[], attributes := #[] }
def k14m12 : Method := { name := "checkIndex", desc := "(I[B)V", sig := { parameters := [.int, (.array .byte)], returnType := none }, accessFlags := 9, code := some k14c12 }
/-- java/lang/StringUTF16 -/
def k14 : Class := { plain "java/lang/StringUTF16" (some 0) with
  accessFlags := 48
  interfaces := #[]
  cf := some (fileOf pool14 12 #[.nestMembers #[627, 629, 369]] #[{ accessFlags := 0, nameIndex := 9, descriptorIndex := 10, attributes := #[] }, { accessFlags := 9, nameIndex := 109, descriptorIndex := 110, attributes := #[] }, { accessFlags := 9, nameIndex := 15, descriptorIndex := 16, attributes := #[] }, { accessFlags := 8, nameIndex := 113, descriptorIndex := 114, attributes := #[] }, { accessFlags := 8, nameIndex := 73, descriptorIndex := 74, attributes := #[] }, { accessFlags := 9, nameIndex := 50, descriptorIndex := 51, attributes := #[] }, { accessFlags := 9, nameIndex := 121, descriptorIndex := 122, attributes := #[] }, { accessFlags := 8, nameIndex := 261, descriptorIndex := 262, attributes := #[] }, { accessFlags := 9, nameIndex := 117, descriptorIndex := 122, attributes := #[] }, { accessFlags := 9, nameIndex := 117, descriptorIndex := 118, attributes := #[] }, { accessFlags := 9, nameIndex := 121, descriptorIndex := 475, attributes := #[] }, { accessFlags := 9, nameIndex := 392, descriptorIndex := 74, attributes := #[] }, { accessFlags := 9, nameIndex := 69, descriptorIndex := 70, attributes := #[] }] 48 6 #[] #[{ accessFlags := 26, nameIndex := 61, descriptorIndex := 62, attributes := #[] }, { accessFlags := 26, nameIndex := 65, descriptorIndex := 62, attributes := #[] }, { accessFlags := 24, nameIndex := 430, descriptorIndex := 62, attributes := #[] }, { accessFlags := 4120, nameIndex := 46, descriptorIndex := 47, attributes := #[] }])
  fields := #[{ name := "HI_BYTE_SHIFT", type := .int, accessFlags := 26, slot := 0, constantValue := 0 }, { name := "LO_BYTE_SHIFT", type := .int, accessFlags := 26, slot := 1, constantValue := 0 }, { name := "MAX_LENGTH", type := .int, accessFlags := 24, slot := 2, constantValue := 0 }, { name := "$assertionsDisabled", type := .boolean, accessFlags := 4120, slot := 3, constantValue := 0 }]
  methods := #[k14m0, k14m1, k14m2, k14m3, k14m4, k14m5, k14m6, k14m7, k14m8, k14m9, k14m10, k14m11, k14m12]
  instanceTypes := #[]
  staticTypes := #[.int, .int, .int, .boolean]
  resolved := Array.replicate 635 none
  statics := some 3 }

def pool15 : Array CpInfo := pool [(9, u "<init>"), (6, .class_ 18), (1, u "java/lang/Object"), (0, u "()V"), (1, .class_ 23), (1, u "jdk/internal/util/ArraysSupport"), (0, u "LOG2_ARRAY_LONG_INDEX_SCALE"), (0, u "I"), (2, u "U"), (0, u "Ljdk/internal/misc/Unsafe;"), (8, u "BIG_ENDIAN"), (0, u "Z"), (8, u "LOG2_BYTE_BIT_SIZE"), (4, u "LOG2_ARRAY_INT_INDEX_SCALE"), (54, u "JLA"), (0, u "Ljdk/internal/access/JavaLangAccess;"), (11, u "LOG2_ARRAY_BOOLEAN_INDEX_SCALE"), (9, u "LOG2_ARRAY_BYTE_INDEX_SCALE"), (5, u "LOG2_ARRAY_CHAR_INDEX_SCALE"), (5, u "LOG2_ARRAY_SHORT_INDEX_SCALE"), (18, u "LOG2_ARRAY_FLOAT_INDEX_SCALE"), (24, u "LOG2_ARRAY_DOUBLE_INDEX_SCALE"), (89, u "T_BOOLEAN"), (2, u "T_CHAR"), (1, u "T_FLOAT"), (1, u "T_DOUBLE"), (1, u "T_BYTE"), (1, u "T_SHORT"), (1, u "T_INT"), (1, u "T_LONG"), (1, u "SOFT_MAX_ARRAY_LENGTH")] 83

def k15m0 : Method := { name := "<init>", desc := "()V", sig := { parameters := [], returnType := none }, accessFlags := 2, code := none }
/-- jdk/internal/util/ArraysSupport -/
def k15 : Class := { plain "jdk/internal/util/ArraysSupport" (some 0) with
  accessFlags := 33
  interfaces := #[]
  cf := some (fileOf pool15 21 #[] #[{ accessFlags := 2, nameIndex := 9, descriptorIndex := 19, attributes := #[] }] 33 16 #[] #[{ accessFlags := 24, nameIndex := 28, descriptorIndex := 29, attributes := #[] }, { accessFlags := 26, nameIndex := 38, descriptorIndex := 39, attributes := #[] }, { accessFlags := 25, nameIndex := 121, descriptorIndex := 25, attributes := #[] }, { accessFlags := 25, nameIndex := 131, descriptorIndex := 25, attributes := #[] }, { accessFlags := 25, nameIndex := 137, descriptorIndex := 25, attributes := #[] }, { accessFlags := 25, nameIndex := 143, descriptorIndex := 25, attributes := #[] }, { accessFlags := 25, nameIndex := 53, descriptorIndex := 25, attributes := #[] }, { accessFlags := 25, nameIndex := 24, descriptorIndex := 25, attributes := #[] }, { accessFlags := 25, nameIndex := 162, descriptorIndex := 25, attributes := #[] }, { accessFlags := 25, nameIndex := 187, descriptorIndex := 25, attributes := #[] }, { accessFlags := 26, nameIndex := 48, descriptorIndex := 25, attributes := #[] }, { accessFlags := 25, nameIndex := 277, descriptorIndex := 25, attributes := #[] }, { accessFlags := 25, nameIndex := 280, descriptorIndex := 25, attributes := #[] }, { accessFlags := 25, nameIndex := 282, descriptorIndex := 25, attributes := #[] }, { accessFlags := 25, nameIndex := 284, descriptorIndex := 25, attributes := #[] }, { accessFlags := 25, nameIndex := 286, descriptorIndex := 25, attributes := #[] }, { accessFlags := 25, nameIndex := 288, descriptorIndex := 25, attributes := #[] }, { accessFlags := 25, nameIndex := 290, descriptorIndex := 25, attributes := #[] }, { accessFlags := 25, nameIndex := 292, descriptorIndex := 25, attributes := #[] }, { accessFlags := 26, nameIndex := 108, descriptorIndex := 109, attributes := #[] }, { accessFlags := 25, nameIndex := 294, descriptorIndex := 25, attributes := #[] }])
  fields := #[{ name := "U", type := (.object "jdk/internal/misc/Unsafe"), accessFlags := 24, slot := 0, constantValue := 0 }, { name := "BIG_ENDIAN", type := .boolean, accessFlags := 26, slot := 1, constantValue := 0 }, { name := "LOG2_ARRAY_BOOLEAN_INDEX_SCALE", type := .int, accessFlags := 25, slot := 2, constantValue := 0 }, { name := "LOG2_ARRAY_BYTE_INDEX_SCALE", type := .int, accessFlags := 25, slot := 3, constantValue := 0 }, { name := "LOG2_ARRAY_CHAR_INDEX_SCALE", type := .int, accessFlags := 25, slot := 4, constantValue := 0 }, { name := "LOG2_ARRAY_SHORT_INDEX_SCALE", type := .int, accessFlags := 25, slot := 5, constantValue := 0 }, { name := "LOG2_ARRAY_INT_INDEX_SCALE", type := .int, accessFlags := 25, slot := 6, constantValue := 0 }, { name := "LOG2_ARRAY_LONG_INDEX_SCALE", type := .int, accessFlags := 25, slot := 7, constantValue := 0 }, { name := "LOG2_ARRAY_FLOAT_INDEX_SCALE", type := .int, accessFlags := 25, slot := 8, constantValue := 0 }, { name := "LOG2_ARRAY_DOUBLE_INDEX_SCALE", type := .int, accessFlags := 25, slot := 9, constantValue := 0 }, { name := "LOG2_BYTE_BIT_SIZE", type := .int, accessFlags := 26, slot := 10, constantValue := 0 }, { name := "T_BOOLEAN", type := .int, accessFlags := 25, slot := 11, constantValue := 0 }, { name := "T_CHAR", type := .int, accessFlags := 25, slot := 12, constantValue := 0 }, { name := "T_FLOAT", type := .int, accessFlags := 25, slot := 13, constantValue := 0 }, { name := "T_DOUBLE", type := .int, accessFlags := 25, slot := 14, constantValue := 0 }, { name := "T_BYTE", type := .int, accessFlags := 25, slot := 15, constantValue := 0 }, { name := "T_SHORT", type := .int, accessFlags := 25, slot := 16, constantValue := 0 }, { name := "T_INT", type := .int, accessFlags := 25, slot := 17, constantValue := 0 }, { name := "T_LONG", type := .int, accessFlags := 25, slot := 18, constantValue := 0 }, { name := "JLA", type := (.object "jdk/internal/access/JavaLangAccess"), accessFlags := 26, slot := 19, constantValue := 0 }, { name := "SOFT_MAX_ARRAY_LENGTH", type := .int, accessFlags := 25, slot := 20, constantValue := 0 }]
  methods := #[k15m0]
  instanceTypes := #[]
  staticTypes := #[(.object "jdk/internal/misc/Unsafe"), .boolean, .int, .int, .int, .int, .int, .int, .int, .int, .int, .int, .int, .int, .int, .int, .int, .int, .int, (.object "jdk/internal/access/JavaLangAccess"), .int]
  resolved := Array.replicate 378 none
  statics := none }

def pool16 : Array CpInfo := pool [(1, u "java/lang/Cloneable"), (0, .class_ 1), (0, u "java/lang/Object"), (0, .class_ 3)] 3

/-- java/lang/Cloneable -/
def k16 : Class := { plain "java/lang/Cloneable" (some 0) with
  accessFlags := 1537
  interfaces := #[]
  cf := some (fileOf pool16 2 #[] #[] 1537 4 #[] #[])
  fields := #[]
  methods := #[]
  instanceTypes := #[]
  staticTypes := #[]
  resolved := Array.replicate 8 none
  statics := none }

/-- the primitive byte -/
def k17 : Class := { plain "byte" none with kind := .primitive 'B', accessFlags := 0x411 }
/-- [B -/
def k18 : Class := { plain "[B" (some 0) with kind := .array 17 .byte, interfaces := #[16, 4], accessFlags := 1041 }

/-- the primitive char -/
def k19 : Class := { plain "char" none with kind := .primitive 'C', accessFlags := 0x411 }
/-- [C -/
def k20 : Class := { plain "[C" (some 0) with kind := .array 19 .char, interfaces := #[16, 4], accessFlags := 1041 }

/-- the primitive int -/
def k21 : Class := { plain "int" none with kind := .primitive 'I', accessFlags := 0x411 }
/-- [I -/
def k22 : Class := { plain "[I" (some 0) with kind := .array 21 .int, interfaces := #[16, 4], accessFlags := 1041 }

def heap : Heap := #[{ cls := 6, slots := #[.ref 4, .ref 5, .ref 6, .null], vm := .statics 6 },
  { cls := 9, slots := #[.long 0, .int 1, .null, .int 0, .null, .int 0, .int 0], vm := .statics 9 },
  { cls := 13, slots := #[.null, .null, .null], vm := .statics 13 },
  { cls := 14, slots := #[.int 0, .int 8, .int 0, .int 1], vm := .statics 14 },
  { cls := 6, slots := #[.null, .int 0, .int 0], vm := .none },
  { cls := 6, slots := #[.null, .int 1, .int 0], vm := .none },
  { cls := 6, slots := #[.null, .int 2, .int 0], vm := .none }]
def classes : Array Class := #[k0, k1, k2, k3, k4, k5, k6, k7, k8, k9, k10, k11, k12, k13, k14, k15, k16, k17, k18, k19, k20, k21, k22]
def interned : List (Array UInt16 × Addr) := []
def slotsUsed : Nat := 27
def theMethod : MethodId := ⟨1, 1⟩
def args0 : Array Value := #[.int 5, .long 5, .long 5, .long 5, .int 5]
def aboutOver (below : List Frame) : State where
  vm := { classes := classes, interned := interned.toArray }
  heap := heap
  slotsUsed := slotsUsed
  threads := #[{ frames := .invoking theMethod args0 :: below }]
def below0 : List Frame := [.native { method := ⟨0, 0⟩, args := #[] }]
def about1 : State := aboutOver below0
def p0 : Program := .bare "" "" ""
def e0 : Env := launch0.env 0 0 0
theorem w_frames : about1.frames = Frame.invoking theMethod args0 :: below0 := rfl
set_option maxRecDepth 65536 in
theorem w_args : argsFit about1.vm theMethod args0 = true := by decide +kernel
set_option maxRecDepth 65536 in
theorem w_heap : heapFits about1 = true := by decide +kernel
set_option maxRecDepth 65536 in
theorem w_runnable : about1.curStatus? = some .runnable := by decide +kernel
set_option maxRecDepth 65536 in
theorem w_alone : about1.alone = true := by decide +kernel
set_option maxRecDepth 65536 in
theorem w_named : about1.methodNamed? x = some theMethod := by decide +kernel
set_option maxRecDepth 65536 in
theorem w_hears : about1.hears theMethod below0 = true := by decide +kernel
set_option maxRecDepth 65536 in
theorem w_ripe : about1.ripe theMethod args0 below0 = true := by decide +kernel
theorem w_running : about1.status = .running := rfl
set_option maxRecDepth 65536 in
theorem w_room : about1.hasRoom e0.platform room_1 = true :=
  launch0.hasRoom_least _ room_1 (by decide +kernel) (by decide +kernel) (by decide +kernel) (by decide +kernel) (by decide +kernel) (by decide +kernel)
theorem allAtoms_all (ts : List Jvm.Cond) (a : Array Jvm.Value) (st : Jvm.State) : (allAtoms ts).before a st = ts.all (fun c => c.before a st) := by
  induction ts with
  | nil => rfl
  | cons c t ih =>
    show (Jvm.Cond.and c (allAtoms t)).before a st = _
    rw [Jvm.Cond.before_and, ih, List.all_cons]
def words1 : List Jvm.Cond := Jvm.Cond.code x code maxLocals ret :: tables_1
/-- a 'code' word, met by the world's own term for the bytes: nothing is compared byte by byte -/
theorem code_word {y : MethodName} {bytes : ByteArray} {mx : Nat} {rt : Option FieldType} {a : Array Value} {s : State} {m : MethodId} {meth : Method} {c : Code} (h1 : s.methodNamed? y = some m) (h2 : s.vm.method? m = some meth) (h3 : meth.code = some c) (h4 : c.code = bytes)
    (h5 : (c.maxLocals == mx && c.exceptionTable.isEmpty && decide (c.maxStack ≤ mostOperands) && decide (meth.sig.returnType = rt) && !meth.locks && decide (parseMethodDescriptor y.desc = some meth.sig)) = true) : (Jvm.Cond.code y bytes mx rt).before a s = true := by
  simp only [Bool.and_eq_true, beq_iff_eq, Bool.not_eq_true', decide_eq_true_eq] at h5
  obtain ⟨⟨⟨⟨⟨g1, g2⟩, g3⟩, g4⟩, g5⟩, g6⟩ := h5
  simp [Cond.before, Cond.holds, Cond.value, h1, h2, h3, h4, g1, g2, g3, g4, g5, g6]
def isCode : Jvm.Cond → Bool
  | .code _ _ _ _ => true
  | _ => false
theorem all_split {L : List Jvm.Cond} {P : Jvm.Cond → Bool} (h1 : L.all (fun c => isCode c || P c) = true) (h2 : ∀ c ∈ L.filter isCode, P c = true) : L.all P = true := by
  refine List.all_eq_true.mpr fun c hc => ?_
  have h := List.all_eq_true.mp h1 c hc
  rcases Bool.eq_false_or_eq_true (isCode c) with hi | hi
  · exact h2 c (List.mem_filter.mpr ⟨hc, hi⟩)
  · simpa [hi] using h
set_option maxRecDepth 65536 in
theorem w_c0 : (Jvm.Cond.code x code maxLocals ret).before args0 about1 = true := code_word (m := ⟨1, 1⟩) (meth := k1m1) (c := k1c1) (by decide +kernel) rfl rfl rfl (by decide +kernel)
set_option maxRecDepth 65536 in
theorem w_c1 : (Jvm.Cond.code ({ cls := "com/example/grantwork/grantwork/TokenIsKeywordPinLaw", name := "textChar", desc := "(JII)C" } : Jvm.MethodName) method_3_code (6 : Nat) (Option.some Jvm.ClassFile.FieldType.char)).before args0 about1 = true := code_word (m := ⟨1, 2⟩) (meth := k1m2) (c := k1c2) (by decide +kernel) rfl rfl rfl (by decide +kernel)
set_option maxRecDepth 65536 in
theorem w_c2 : (Jvm.Cond.code ({ cls := "com/example/grantwork/grantwork/TokenIsKeywordPinLaw", name := "keyChar", desc := "(CJII)C" } : Jvm.MethodName) method_4_code (7 : Nat) (Option.some Jvm.ClassFile.FieldType.char)).before args0 about1 = true := code_word (m := ⟨1, 3⟩) (meth := k1m3) (c := k1c3) (by decide +kernel) rfl rfl rfl (by decide +kernel)
set_option maxRecDepth 65536 in
theorem w_c3 : (Jvm.Cond.code ({ cls := "com/example/grantwork/grantwork/TokenIsKeywordPinLaw", name := "str", desc := "(CCCI)Ljava/lang/String;" } : Jvm.MethodName) method_6_code (4 : Nat) (Option.some (Jvm.ClassFile.FieldType.object "java/lang/String"))).before args0 about1 = true := code_word (m := ⟨1, 5⟩) (meth := k1m5) (c := k1c5) (by decide +kernel) rfl rfl rfl (by decide +kernel)
set_option maxRecDepth 65536 in
theorem w_c4 : (Jvm.Cond.code ({ cls := "java/lang/String", name := "<init>", desc := "([C)V" } : Jvm.MethodName) jdk_42_method_3_code (2 : Nat) (Option.none : Option Jvm.ClassFile.FieldType)).before args0 about1 = true := code_word (m := ⟨9, 1⟩) (meth := k9m1) (c := k9c1) (by decide +kernel) rfl rfl rfl (by decide +kernel)
set_option maxRecDepth 65536 in
theorem w_c5 : (Jvm.Cond.code ({ cls := "java/lang/String", name := "<init>", desc := "([CIILjava/lang/Void;)V" } : Jvm.MethodName) jdk_42_method_149_code (6 : Nat) (Option.none : Option Jvm.ClassFile.FieldType)).before args0 about1 = true := code_word (m := ⟨9, 5⟩) (meth := k9m5) (c := k9c5) (by decide +kernel) rfl rfl rfl (by decide +kernel)
set_option maxRecDepth 65536 in
theorem w_c6 : (Jvm.Cond.code ({ cls := "java/lang/Object", name := "<init>", desc := "()V" } : Jvm.MethodName) object_method_1_code (1 : Nat) (Option.none : Option Jvm.ClassFile.FieldType)).before args0 about1 = true := code_word (m := ⟨0, 0⟩) (meth := k0m0) (c := k0c0) (by decide +kernel) rfl rfl rfl (by decide +kernel)
set_option maxRecDepth 65536 in
theorem w_c7 : (Jvm.Cond.code ({ cls := "com/example/grantwork/grantwork/Token", name := "<init>", desc := "(Lcom/example/grantwork/grantwork/Token$Kind;Ljava/lang/String;JI)V" } : Jvm.MethodName) prog_70_method_1_code (6 : Nat) (Option.none : Option Jvm.ClassFile.FieldType)).before args0 about1 = true := code_word (m := ⟨11, 0⟩) (meth := k11m0) (c := k11c0) (by decide +kernel) rfl rfl rfl (by decide +kernel)
set_option maxRecDepth 65536 in
theorem w_c8 : (Jvm.Cond.code ({ cls := "java/lang/Record", name := "<init>", desc := "()V" } : Jvm.MethodName) jdk_30_method_1_code (1 : Nat) (Option.none : Option Jvm.ClassFile.FieldType)).before args0 about1 = true := code_word (m := ⟨10, 0⟩) (meth := k10m0) (c := k10c0) (by decide +kernel) rfl rfl rfl (by decide +kernel)
set_option maxRecDepth 65536 in
theorem w_c9 : (Jvm.Cond.code ({ cls := "com/example/grantwork/grantwork/Token", name := "isKeyword", desc := "(Ljava/lang/String;)Z" } : Jvm.MethodName) prog_70_method_3_code (5 : Nat) (Option.some Jvm.ClassFile.FieldType.boolean)).before args0 about1 = true := code_word (m := ⟨11, 1⟩) (meth := k11m1) (c := k11c1) (by decide +kernel) rfl rfl rfl (by decide +kernel)
set_option maxRecDepth 65536 in
theorem w_c10 : (Jvm.Cond.code ({ cls := "java/lang/String", name := "length", desc := "()I" } : Jvm.MethodName) jdk_42_method_54_code (1 : Nat) (Option.some Jvm.ClassFile.FieldType.int)).before args0 about1 = true := code_word (m := ⟨9, 2⟩) (meth := k9m2) (c := k9c2) (by decide +kernel) rfl rfl rfl (by decide +kernel)
set_option maxRecDepth 65536 in
theorem w_c11 : (Jvm.Cond.code ({ cls := "java/lang/String", name := "coder", desc := "()B" } : Jvm.MethodName) jdk_42_method_152_code (1 : Nat) (Option.some Jvm.ClassFile.FieldType.byte)).before args0 about1 = true := code_word (m := ⟨9, 7⟩) (meth := k9m7) (c := k9c7) (by decide +kernel) rfl rfl rfl (by decide +kernel)
set_option maxRecDepth 65536 in
theorem w_c12 : (Jvm.Cond.code ({ cls := "java/lang/String", name := "valueOf", desc := "(C)Ljava/lang/String;" } : Jvm.MethodName) jdk_42_method_139_code (1 : Nat) (Option.some (Jvm.ClassFile.FieldType.object "java/lang/String"))).before args0 about1 = true := code_word (m := ⟨9, 4⟩) (meth := k9m4) (c := k9c4) (by decide +kernel) rfl rfl rfl (by decide +kernel)
set_option maxRecDepth 65536 in
theorem w_c13 : (Jvm.Cond.code ({ cls := "java/lang/StringLatin1", name := "canEncode", desc := "(C)Z" } : Jvm.MethodName) jdk_43_method_3_code (1 : Nat) (Option.some Jvm.ClassFile.FieldType.boolean)).before args0 about1 = true := code_word (m := ⟨12, 2⟩) (meth := k12m2) (c := k12c2) (by decide +kernel) rfl rfl rfl (by decide +kernel)
set_option maxRecDepth 65536 in
theorem w_c14 : (Jvm.Cond.code ({ cls := "java/lang/StringLatin1", name := "toBytes", desc := "(C)[B" } : Jvm.MethodName) jdk_43_method_46_code (1 : Nat) (Option.some (Jvm.ClassFile.FieldType.array Jvm.ClassFile.FieldType.byte))).before args0 about1 = true := code_word (m := ⟨12, 3⟩) (meth := k12m3) (c := k12c3) (by decide +kernel) rfl rfl rfl (by decide +kernel)
set_option maxRecDepth 65536 in
theorem w_c15 : (Jvm.Cond.code ({ cls := "java/lang/String", name := "<init>", desc := "([BB)V" } : Jvm.MethodName) jdk_42_method_151_code (3 : Nat) (Option.none : Option Jvm.ClassFile.FieldType)).before args0 about1 = true := code_word (m := ⟨9, 6⟩) (meth := k9m6) (c := k9c6) (by decide +kernel) rfl rfl rfl (by decide +kernel)
set_option maxRecDepth 65536 in
theorem w_c16 : (Jvm.Cond.code ({ cls := "com/example/grantwork/grantwork/TokenIsKeywordPinLaw", name := "same", desc := "(CC)Z" } : Jvm.MethodName) method_5_code (2 : Nat) (Option.some Jvm.ClassFile.FieldType.boolean)).before args0 about1 = true := code_word (m := ⟨1, 4⟩) (meth := k1m4) (c := k1c4) (by decide +kernel) rfl rfl rfl (by decide +kernel)
set_option maxRecDepth 65536 in
theorem w_c17 : (Jvm.Cond.code ({ cls := "java/lang/String", name := "charAt", desc := "(I)C" } : Jvm.MethodName) jdk_42_method_56_code (2 : Nat) (Option.some Jvm.ClassFile.FieldType.char)).before args0 about1 = true := code_word (m := ⟨9, 3⟩) (meth := k9m3) (c := k9c3) (by decide +kernel) rfl rfl rfl (by decide +kernel)
set_option maxRecDepth 65536 in
theorem w_c18 : (Jvm.Cond.code ({ cls := "java/lang/String", name := "isLatin1", desc := "()Z" } : Jvm.MethodName) jdk_42_method_154_code (1 : Nat) (Option.some Jvm.ClassFile.FieldType.boolean)).before args0 about1 = true := code_word (m := ⟨9, 8⟩) (meth := k9m8) (c := k9c8) (by decide +kernel) rfl rfl rfl (by decide +kernel)
set_option maxRecDepth 65536 in
theorem w_c19 : (Jvm.Cond.code ({ cls := "java/lang/StringLatin1", name := "charAt", desc := "([BI)C" } : Jvm.MethodName) jdk_43_method_2_code (2 : Nat) (Option.some Jvm.ClassFile.FieldType.char)).before args0 about1 = true := code_word (m := ⟨12, 1⟩) (meth := k12m1) (c := k12c1) (by decide +kernel) rfl rfl rfl (by decide +kernel)
set_option maxRecDepth 65536 in
theorem w_c20 : (Jvm.Cond.code ({ cls := "java/lang/String", name := "checkIndex", desc := "(II)V" } : Jvm.MethodName) jdk_42_method_155_code (2 : Nat) (Option.none : Option Jvm.ClassFile.FieldType)).before args0 about1 = true := code_word (m := ⟨9, 9⟩) (meth := k9m9) (c := k9c9) (by decide +kernel) rfl rfl rfl (by decide +kernel)
set_option maxRecDepth 65536 in
theorem w_c21 : (Jvm.Cond.code ({ cls := "jdk/internal/util/Preconditions", name := "checkIndex", desc := "(IILjava/util/function/BiFunction;)I" } : Jvm.MethodName) jdk_41_method_11_code (3 : Nat) (Option.some Jvm.ClassFile.FieldType.int)).before args0 about1 = true := code_word (m := ⟨13, 1⟩) (meth := k13m1) (c := k13c1) (by decide +kernel) rfl rfl rfl (by decide +kernel)
set_option maxRecDepth 65536 in
theorem w_c22 : (Jvm.Cond.code ({ cls := "java/lang/StringUTF16", name := "compress", desc := "([CII)[B" } : Jvm.MethodName) jdk_52_method_16_code (6 : Nat) (Option.some (Jvm.ClassFile.FieldType.array Jvm.ClassFile.FieldType.byte))).before args0 about1 = true := code_word (m := ⟨14, 8⟩) (meth := k14m8) (c := k14c8) (by decide +kernel) rfl rfl rfl (by decide +kernel)
set_option maxRecDepth 65536 in
theorem w_c23 : (Jvm.Cond.code ({ cls := "java/lang/StringUTF16", name := "compress", desc := "([CI[BII)I" } : Jvm.MethodName) jdk_52_method_21_code (7 : Nat) (Option.some Jvm.ClassFile.FieldType.int)).before args0 about1 = true := code_word (m := ⟨14, 9⟩) (meth := k14m9) (c := k14c9) (by decide +kernel) rfl rfl rfl (by decide +kernel)
set_option maxRecDepth 65536 in
theorem w_c24 : (Jvm.Cond.code ({ cls := "java/lang/StringUTF16", name := "toBytes", desc := "([CII)[B" } : Jvm.MethodName) jdk_52_method_14_code (5 : Nat) (Option.some (Jvm.ClassFile.FieldType.array Jvm.ClassFile.FieldType.byte))).before args0 about1 = true := code_word (m := ⟨14, 6⟩) (meth := k14m6) (c := k14c6) (by decide +kernel) rfl rfl rfl (by decide +kernel)
set_option maxRecDepth 65536 in
theorem w_c25 : (Jvm.Cond.code ({ cls := "java/lang/StringUTF16", name := "newBytesFor", desc := "(I)[B" } : Jvm.MethodName) jdk_52_method_2_code (1 : Nat) (Option.some (Jvm.ClassFile.FieldType.array Jvm.ClassFile.FieldType.byte))).before args0 about1 = true := code_word (m := ⟨14, 1⟩) (meth := k14m1) (c := k14c1) (by decide +kernel) rfl rfl rfl (by decide +kernel)
set_option maxRecDepth 65536 in
theorem w_c26 : (Jvm.Cond.code ({ cls := "java/lang/StringUTF16", name := "newBytesLength", desc := "(I)I" } : Jvm.MethodName) jdk_52_method_3_code (1 : Nat) (Option.some Jvm.ClassFile.FieldType.int)).before args0 about1 = true := code_word (m := ⟨14, 2⟩) (meth := k14m2) (c := k14c2) (by decide +kernel) rfl rfl rfl (by decide +kernel)
set_option maxRecDepth 65536 in
theorem w_c27 : (Jvm.Cond.code ({ cls := "java/lang/StringUTF16", name := "putChar", desc := "([BII)V" } : Jvm.MethodName) jdk_52_method_4_code (3 : Nat) (Option.none : Option Jvm.ClassFile.FieldType)).before args0 about1 = true := code_word (m := ⟨14, 3⟩) (meth := k14m3) (c := k14c3) (by decide +kernel) rfl rfl rfl (by decide +kernel)
set_option maxRecDepth 65536 in
theorem w_c28 : (Jvm.Cond.code ({ cls := "java/lang/StringUTF16", name := "getChar", desc := "([BI)C" } : Jvm.MethodName) jdk_52_method_5_code (2 : Nat) (Option.some Jvm.ClassFile.FieldType.char)).before args0 about1 = true := code_word (m := ⟨14, 4⟩) (meth := k14m4) (c := k14c4) (by decide +kernel) rfl rfl rfl (by decide +kernel)
set_option maxRecDepth 65536 in
theorem w_c29 : (Jvm.Cond.code ({ cls := "java/lang/StringUTF16", name := "coderFromArrayLen", desc := "([BI)B" } : Jvm.MethodName) jdk_52_method_15_code (2 : Nat) (Option.some Jvm.ClassFile.FieldType.byte)).before args0 about1 = true := code_word (m := ⟨14, 7⟩) (meth := k14m7) (c := k14c7) (by decide +kernel) rfl rfl rfl (by decide +kernel)
set_option maxRecDepth 65536 in
theorem w_c30 : (Jvm.Cond.code ({ cls := "java/lang/StringUTF16", name := "toBytes", desc := "(C)[B" } : Jvm.MethodName) jdk_52_method_24_code (2 : Nat) (Option.some (Jvm.ClassFile.FieldType.array Jvm.ClassFile.FieldType.byte))).before args0 about1 = true := code_word (m := ⟨14, 10⟩) (meth := k14m10) (c := k14c10) (by decide +kernel) rfl rfl rfl (by decide +kernel)
set_option maxRecDepth 65536 in
theorem w_c31 : (Jvm.Cond.code ({ cls := "java/lang/StringUTF16", name := "charAt", desc := "([BI)C" } : Jvm.MethodName) jdk_52_method_83_code (2 : Nat) (Option.some Jvm.ClassFile.FieldType.char)).before args0 about1 = true := code_word (m := ⟨14, 11⟩) (meth := k14m11) (c := k14c11) (by decide +kernel) rfl rfl rfl (by decide +kernel)
set_option maxRecDepth 65536 in
theorem w_c32 : (Jvm.Cond.code ({ cls := "java/lang/StringUTF16", name := "checkIndex", desc := "(I[B)V" } : Jvm.MethodName) jdk_52_method_91_code (2 : Nat) (Option.none : Option Jvm.ClassFile.FieldType)).before args0 about1 = true := code_word (m := ⟨14, 12⟩) (meth := k14m12) (c := k14c12) (by decide +kernel) rfl rfl rfl (by decide +kernel)
set_option maxRecDepth 65536 in
theorem w_c33 : (Jvm.Cond.code ({ cls := "java/lang/StringUTF16", name := "length", desc := "([B)I" } : Jvm.MethodName) jdk_52_method_6_code (1 : Nat) (Option.some Jvm.ClassFile.FieldType.int)).before args0 about1 = true := code_word (m := ⟨14, 5⟩) (meth := k14m5) (c := k14c5) (by decide +kernel) rfl rfl rfl (by decide +kernel)
def codes1 : List Jvm.Cond := [Jvm.Cond.code x code maxLocals ret, Jvm.Cond.code ({ cls := "com/example/grantwork/grantwork/TokenIsKeywordPinLaw", name := "textChar", desc := "(JII)C" } : Jvm.MethodName) method_3_code (6 : Nat) (Option.some Jvm.ClassFile.FieldType.char), Jvm.Cond.code ({ cls := "com/example/grantwork/grantwork/TokenIsKeywordPinLaw", name := "keyChar", desc := "(CJII)C" } : Jvm.MethodName) method_4_code (7 : Nat) (Option.some Jvm.ClassFile.FieldType.char), Jvm.Cond.code ({ cls := "com/example/grantwork/grantwork/TokenIsKeywordPinLaw", name := "str", desc := "(CCCI)Ljava/lang/String;" } : Jvm.MethodName) method_6_code (4 : Nat) (Option.some (Jvm.ClassFile.FieldType.object "java/lang/String")), Jvm.Cond.code ({ cls := "java/lang/String", name := "<init>", desc := "([C)V" } : Jvm.MethodName) jdk_42_method_3_code (2 : Nat) (Option.none : Option Jvm.ClassFile.FieldType), Jvm.Cond.code ({ cls := "java/lang/String", name := "<init>", desc := "([CIILjava/lang/Void;)V" } : Jvm.MethodName) jdk_42_method_149_code (6 : Nat) (Option.none : Option Jvm.ClassFile.FieldType), Jvm.Cond.code ({ cls := "java/lang/Object", name := "<init>", desc := "()V" } : Jvm.MethodName) object_method_1_code (1 : Nat) (Option.none : Option Jvm.ClassFile.FieldType), Jvm.Cond.code ({ cls := "com/example/grantwork/grantwork/Token", name := "<init>", desc := "(Lcom/example/grantwork/grantwork/Token$Kind;Ljava/lang/String;JI)V" } : Jvm.MethodName) prog_70_method_1_code (6 : Nat) (Option.none : Option Jvm.ClassFile.FieldType), Jvm.Cond.code ({ cls := "java/lang/Record", name := "<init>", desc := "()V" } : Jvm.MethodName) jdk_30_method_1_code (1 : Nat) (Option.none : Option Jvm.ClassFile.FieldType), Jvm.Cond.code ({ cls := "com/example/grantwork/grantwork/Token", name := "isKeyword", desc := "(Ljava/lang/String;)Z" } : Jvm.MethodName) prog_70_method_3_code (5 : Nat) (Option.some Jvm.ClassFile.FieldType.boolean), Jvm.Cond.code ({ cls := "java/lang/String", name := "length", desc := "()I" } : Jvm.MethodName) jdk_42_method_54_code (1 : Nat) (Option.some Jvm.ClassFile.FieldType.int), Jvm.Cond.code ({ cls := "java/lang/String", name := "coder", desc := "()B" } : Jvm.MethodName) jdk_42_method_152_code (1 : Nat) (Option.some Jvm.ClassFile.FieldType.byte), Jvm.Cond.code ({ cls := "java/lang/String", name := "valueOf", desc := "(C)Ljava/lang/String;" } : Jvm.MethodName) jdk_42_method_139_code (1 : Nat) (Option.some (Jvm.ClassFile.FieldType.object "java/lang/String")), Jvm.Cond.code ({ cls := "java/lang/StringLatin1", name := "canEncode", desc := "(C)Z" } : Jvm.MethodName) jdk_43_method_3_code (1 : Nat) (Option.some Jvm.ClassFile.FieldType.boolean), Jvm.Cond.code ({ cls := "java/lang/StringLatin1", name := "toBytes", desc := "(C)[B" } : Jvm.MethodName) jdk_43_method_46_code (1 : Nat) (Option.some (Jvm.ClassFile.FieldType.array Jvm.ClassFile.FieldType.byte)), Jvm.Cond.code ({ cls := "java/lang/String", name := "<init>", desc := "([BB)V" } : Jvm.MethodName) jdk_42_method_151_code (3 : Nat) (Option.none : Option Jvm.ClassFile.FieldType), Jvm.Cond.code ({ cls := "com/example/grantwork/grantwork/TokenIsKeywordPinLaw", name := "same", desc := "(CC)Z" } : Jvm.MethodName) method_5_code (2 : Nat) (Option.some Jvm.ClassFile.FieldType.boolean), Jvm.Cond.code ({ cls := "java/lang/String", name := "charAt", desc := "(I)C" } : Jvm.MethodName) jdk_42_method_56_code (2 : Nat) (Option.some Jvm.ClassFile.FieldType.char), Jvm.Cond.code ({ cls := "java/lang/String", name := "isLatin1", desc := "()Z" } : Jvm.MethodName) jdk_42_method_154_code (1 : Nat) (Option.some Jvm.ClassFile.FieldType.boolean), Jvm.Cond.code ({ cls := "java/lang/StringLatin1", name := "charAt", desc := "([BI)C" } : Jvm.MethodName) jdk_43_method_2_code (2 : Nat) (Option.some Jvm.ClassFile.FieldType.char), Jvm.Cond.code ({ cls := "java/lang/String", name := "checkIndex", desc := "(II)V" } : Jvm.MethodName) jdk_42_method_155_code (2 : Nat) (Option.none : Option Jvm.ClassFile.FieldType), Jvm.Cond.code ({ cls := "jdk/internal/util/Preconditions", name := "checkIndex", desc := "(IILjava/util/function/BiFunction;)I" } : Jvm.MethodName) jdk_41_method_11_code (3 : Nat) (Option.some Jvm.ClassFile.FieldType.int), Jvm.Cond.code ({ cls := "java/lang/StringUTF16", name := "compress", desc := "([CII)[B" } : Jvm.MethodName) jdk_52_method_16_code (6 : Nat) (Option.some (Jvm.ClassFile.FieldType.array Jvm.ClassFile.FieldType.byte)), Jvm.Cond.code ({ cls := "java/lang/StringUTF16", name := "compress", desc := "([CI[BII)I" } : Jvm.MethodName) jdk_52_method_21_code (7 : Nat) (Option.some Jvm.ClassFile.FieldType.int), Jvm.Cond.code ({ cls := "java/lang/StringUTF16", name := "toBytes", desc := "([CII)[B" } : Jvm.MethodName) jdk_52_method_14_code (5 : Nat) (Option.some (Jvm.ClassFile.FieldType.array Jvm.ClassFile.FieldType.byte)), Jvm.Cond.code ({ cls := "java/lang/StringUTF16", name := "newBytesFor", desc := "(I)[B" } : Jvm.MethodName) jdk_52_method_2_code (1 : Nat) (Option.some (Jvm.ClassFile.FieldType.array Jvm.ClassFile.FieldType.byte)), Jvm.Cond.code ({ cls := "java/lang/StringUTF16", name := "newBytesLength", desc := "(I)I" } : Jvm.MethodName) jdk_52_method_3_code (1 : Nat) (Option.some Jvm.ClassFile.FieldType.int), Jvm.Cond.code ({ cls := "java/lang/StringUTF16", name := "putChar", desc := "([BII)V" } : Jvm.MethodName) jdk_52_method_4_code (3 : Nat) (Option.none : Option Jvm.ClassFile.FieldType), Jvm.Cond.code ({ cls := "java/lang/StringUTF16", name := "getChar", desc := "([BI)C" } : Jvm.MethodName) jdk_52_method_5_code (2 : Nat) (Option.some Jvm.ClassFile.FieldType.char), Jvm.Cond.code ({ cls := "java/lang/StringUTF16", name := "coderFromArrayLen", desc := "([BI)B" } : Jvm.MethodName) jdk_52_method_15_code (2 : Nat) (Option.some Jvm.ClassFile.FieldType.byte), Jvm.Cond.code ({ cls := "java/lang/StringUTF16", name := "toBytes", desc := "(C)[B" } : Jvm.MethodName) jdk_52_method_24_code (2 : Nat) (Option.some (Jvm.ClassFile.FieldType.array Jvm.ClassFile.FieldType.byte)), Jvm.Cond.code ({ cls := "java/lang/StringUTF16", name := "charAt", desc := "([BI)C" } : Jvm.MethodName) jdk_52_method_83_code (2 : Nat) (Option.some Jvm.ClassFile.FieldType.char), Jvm.Cond.code ({ cls := "java/lang/StringUTF16", name := "checkIndex", desc := "(I[B)V" } : Jvm.MethodName) jdk_52_method_91_code (2 : Nat) (Option.none : Option Jvm.ClassFile.FieldType), Jvm.Cond.code ({ cls := "java/lang/StringUTF16", name := "length", desc := "([B)I" } : Jvm.MethodName) jdk_52_method_6_code (1 : Nat) (Option.some Jvm.ClassFile.FieldType.int)]
set_option maxRecDepth 65536 in
theorem codes_eq : words1.filter isCode = codes1 := rfl
theorem w_codes : ∀ c ∈ words1.filter isCode, c.before args0 about1 = true := by
  rw [codes_eq]
  intro c hc
  simp only [codes1, List.mem_cons, List.not_mem_nil, or_false] at hc
  rcases hc with rfl | rfl | rfl | rfl | rfl | rfl | rfl | rfl | rfl | rfl | rfl | rfl | rfl | rfl | rfl | rfl | rfl | rfl | rfl | rfl | rfl | rfl | rfl | rfl | rfl | rfl | rfl | rfl | rfl | rfl | rfl | rfl | rfl | rfl
  · exact w_c0
  · exact w_c1
  · exact w_c2
  · exact w_c3
  · exact w_c4
  · exact w_c5
  · exact w_c6
  · exact w_c7
  · exact w_c8
  · exact w_c9
  · exact w_c10
  · exact w_c11
  · exact w_c12
  · exact w_c13
  · exact w_c14
  · exact w_c15
  · exact w_c16
  · exact w_c17
  · exact w_c18
  · exact w_c19
  · exact w_c20
  · exact w_c21
  · exact w_c22
  · exact w_c23
  · exact w_c24
  · exact w_c25
  · exact w_c26
  · exact w_c27
  · exact w_c28
  · exact w_c29
  · exact w_c30
  · exact w_c31
  · exact w_c32
  · exact w_c33
set_option maxRecDepth 65536 in
theorem w_t1 : (words1.take 24).all (fun c => isCode c || c.before args0 about1) = true := by decide +kernel
set_option maxRecDepth 65536 in
theorem w_t2 : ((words1.drop 24).take 24).all (fun c => isCode c || c.before args0 about1) = true := by decide +kernel
set_option maxRecDepth 65536 in
theorem w_t3 : (((words1.drop 24).drop 24).take 24).all (fun c => isCode c || c.before args0 about1) = true := by decide +kernel
set_option maxRecDepth 65536 in
theorem w_t4 : ((((words1.drop 24).drop 24).drop 24).take 24).all (fun c => isCode c || c.before args0 about1) = true := by decide +kernel
set_option maxRecDepth 65536 in
theorem w_t5 : (((((words1.drop 24).drop 24).drop 24).drop 24).take 24).all (fun c => isCode c || c.before args0 about1) = true := by decide +kernel
set_option maxRecDepth 65536 in
theorem w_t6 : ((((((words1.drop 24).drop 24).drop 24).drop 24).drop 24).take 24).all (fun c => isCode c || c.before args0 about1) = true := by decide +kernel
set_option maxRecDepth 65536 in
theorem w_t7 : ((((((words1.drop 24).drop 24).drop 24).drop 24).drop 24).drop 24).all (fun c => isCode c || c.before args0 about1) = true := by decide +kernel
theorem w_tables : (allAtoms (Jvm.Cond.code x code maxLocals ret :: tables_1)).before args0 about1 = true := by
  rw [allAtoms_all]
  show words1.all (fun c => c.before args0 about1) = true
  refine all_split ?_ w_codes
  rw [← List.take_append_drop 24 words1, List.all_append, w_t1, ← List.take_append_drop 24 (words1.drop 24), List.all_append, w_t2, ← List.take_append_drop 24 ((words1.drop 24).drop 24), List.all_append, w_t3, ← List.take_append_drop 24 (((words1.drop 24).drop 24).drop 24), List.all_append, w_t4, ← List.take_append_drop 24 ((((words1.drop 24).drop 24).drop 24).drop 24), List.all_append, w_t5, ← List.take_append_drop 24 (((((words1.drop 24).drop 24).drop 24).drop 24).drop 24), List.all_append, w_t6, w_t7]
  rfl
set_option maxRecDepth 65536 in
theorem w_rest : rest_1_c.before args0 about1 = true := by decide +kernel
set_option maxRecDepth 65536 in
theorem w_case : (Jvm.Cond.and given_1 narrow_1).before args0 about1 = true := by decide +kernel
set_option maxRecDepth 65536 in
theorem w_consts : constsHeld consts_1 about1 := Jvm.Lit.constsHeldB_iff.mp (by decide +kernel)
theorem w_applies : (headSpec (Jvm.Cond.code x code maxLocals ret :: tables_1) room_1).applies x e0.platform about1 = true :=
  (Spec.applies_iff w_frames).mpr ⟨w_running, w_runnable, w_alone, w_named, w_hears, w_ripe, w_room, w_tables⟩
theorem atStart : AtStart classFile x code maxLocals ret World_1 tables_1 room_1 Calls_1 rest_1 Pre_1 launch0 p0 e0 about1 theMethod args0 below0 :=
  ⟨lists_1, trivial, launch0.admits_env _ _ _, launch0.least_env, fairChoices_fair.cas, fairChoices_fair.clock, w_frames, w_args, w_heap, w_applies, ⟨w_consts, trivial⟩, w_rest, w_case⟩
end start1
theorem witness_1 : WitnessClaimed_1 := ⟨start1.p0, start1.e0, start1.about1, start1.theMethod, start1.args0, start1.below0, start1.atStart⟩
end Jvm.Pilot.@@N@@
