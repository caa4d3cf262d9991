import JvmDerived
import JvmDerived.Pilot.@@N@@Statement
import JvmDerived.Pilot.@@N@@Code
set_option linter.unusedVariables false
set_option linter.unusedSimpArgs false
namespace Jvm.Pilot.@@N@@
open Jvm Jvm.ClassFile Sem Op Lib Jvm.Free Jvm.Stand Jvm.LawKit Jvm.RoadKit Bundle Jvm.Pilot.@@N@@.Jvm.D
/-! OWN KIT: a walk as a judgement on (heap, frame) alone. Wl says: from every state that stands at this pc, with these locals and this stack over the heap h, the body runs to its return and Q holds there. -/
/-- own objects: no literal's cells, made since the law began, and there -/
def Mine (Z : State) (EL : List (String × Nat)) (vm : Vm) (h : Heap) (sf : List Addr) : Prop := ∀ x ∈ sf, Safe Z EL vm h x ∧ Z.heap.size ≤ x ∧ x < h.size
def Wk (l : Launch) (Z : State) (a0 : Array Value) (EL : List (String × Nat)) (y : MethodName) (bs : ByteArray) (ml : Nat) (rt : Option FieldType) (R : Room) (as : Array Value)
    (p : Program) (e : Env) (s : State) (m : MethodId) (below : List Frame) (meth : Method) (c : Code) (sf : List Addr) (T : State) (h : Heap) (k n : Nat) : Prop :=
  (p.tables.exec = Jvm.exec ∧ c.code = bs ∧ c.maxLocals = ml ∧ meth.sig.returnType = rt ∧ meth.locks = false ∧ meth.name = y.name ∧ s.vm.findClass y.cls = some m.cls ∧ EW Z a0 EL ∧ Ext Z.heap s.heap) ∧
  ∃ (vm0 : Vm) (locs : List Loc) (k0 : Nat), Stand p l e R (s.setVm vm0) m as below meth c T locs k n ∧ T.heap = h ∧ s.Since vm0 k0 ∧ k0 ≤ h.size ∧ Fr Z.heap.size locs ∧ Z.Warmed39 vm0 ∧ CHr Z EL s.vm s.heap vm0 h ∧ Mine Z EL vm0 h sf ∧ (EL = [] → s.WarmedH vm0)
def Go (Z : State) (EL : List (String × Nat)) (out : List Addr) (p : Program) (e : Env) (s : State) (below : List Frame) (C S : Nat) (Q : Option Value → Heap → Prop) (U : State) : Prop :=
  ∃ s₂ o, Steps p.tables e below U s₂ ∧ s₂.status = .running ∧ Ended s₂ below o ∧ ∃ v L, o = .returned v ∧ (Q v s₂.heap ∧ Fr Z.heap.size L) ∧ CHr Z EL s.vm s.heap s₂.vm s₂.heap ∧ ReturnedEndW s o s₂ L C S ∧ (EL = [] → s.WarmedH s₂.vm) ∧ Mine Z EL s₂.vm s₂.heap out
def WlO (l : Launch) (Z : State) (a0 : Array Value) (EL : List (String × Nat)) (y : MethodName) (bs : ByteArray) (ml : Nat) (rt : Option FieldType) (R : Room) (as : Array Value) (out : List Addr) (Q : Option Value → Heap → Prop)
    (sf : List Addr) (h : Heap) (k n : Nat) (pc : Nat) (Ls : Array Slot) (st : List Value) : Prop :=
  ∀ (p : Program) (e : Env) (s : State) (m : MethodId) (below : List Frame) (meth : Method) (c : Code) (T : State), Wk l Z a0 EL y bs ml rt R as p e s m below meth c sf T h k n → Go Z EL out p e s below R.cells R.slots Q (T.setTop (mkF m pc Ls st))
abbrev Wl (l : Launch) (Z : State) (a0 : Array Value) (EL : List (String × Nat)) (y : MethodName) (bs : ByteArray) (ml : Nat) (rt : Option FieldType) (R : Room) (as : Array Value) (Q : Option Value → Heap → Prop)
    (sf : List Addr) (h : Heap) (k n : Nat) (pc : Nat) (Ls : Array Slot) (st : List Value) : Prop := WlO l Z a0 EL y bs ml rt R as [] Q sf h k n pc Ls st
/-- the contract of a body at given arguments and a given heap -/
def MetO (l : Launch) (Z : State) (EL : List (String × Nat)) (y : MethodName) (bs : ByteArray) (ml : Nat) (rt : Option FieldType) (ws : List Jvm.Cond) (rm : Room) (as : Array Value) (h : Heap) (sf out : List Addr) (Q : Option Value → Heap → Prop) : Prop :=
  MetFree l y (head1 (Jvm.Cond.code y bs ml rt :: ws) rm) (fun a U => a = as ∧ Z.Warmed39 U.vm ∧ U.heap = h ∧ CHv Z EL U.vm h ∧ Ext Z.heap h ∧ Mine Z EL U.vm h sf) (fun _ _ _ _ _ => True)
    (fun _ U o U' => ∃ v L, o = .returned v ∧ (Q v U'.heap ∧ Fr Z.heap.size L) ∧ CHr Z EL U.vm U.heap U'.vm U'.heap ∧ ReturnedEndW U o U' L rm.cells rm.slots ∧ (EL = [] → U.WarmedH U'.vm) ∧ Mine Z EL U'.vm U'.heap out)
abbrev Met (l : Launch) (Z : State) (EL : List (String × Nat)) (y : MethodName) (bs : ByteArray) (ml : Nat) (rt : Option FieldType) (ws : List Jvm.Cond) (rm : Room) (as : Array Value) (h : Heap) (sf : List Addr) (Q : Option Value → Heap → Prop) : Prop := MetO l Z EL y bs ml rt ws rm as h sf [] Q
section OwnKit
variable {l : Launch} {Z : State} {a0 : Array Value} {EL : List (String × Nat)} {y : MethodName} {bs : ByteArray} {ml : Nat} {rt : Option FieldType} {R : Room} {as : Array Value} {Q : Option Value → Heap → Prop}
variable {p : Program} {e : Env} {s : State} {m : MethodId} {below : List Frame} {meth : Method} {c : Code} {T : State} {sf out : List Addr} {h h' : Heap} {k n pc : Nat} {Ls : Array Slot} {st : List Value} {C S : Nat}
theorem Go.of {U U' : State} (f : ∀ t, Steps p.tables e below U' t → Steps p.tables e below U t) (g : Go Z EL out p e s below C S Q U') : Go Z EL out p e s below C S Q U := by
  obtain ⟨s₂, o, h1, r⟩ := g
  exact ⟨s₂, o, f _ h1, r⟩
theorem Mine.nil {vm : Vm} : Mine Z EL vm h [] := fun _ q => nomatch q
theorem Mine.sub {vm : Vm} {sf' : List Addr} (M : Mine Z EL vm h sf) (q : ∀ x ∈ sf', x ∈ sf) : Mine Z EL vm h sf' := fun x hx => M x (q x hx)
theorem Mine.chr {vm vm1 : Vm} (M : Mine Z EL vm h sf) (A : CHr Z EL vm h vm1 h') : Mine Z EL vm1 h' sf := fun x hx => ⟨A.safe (M x hx).2.2 (M x hx).1, (M x hx).2.1, Nat.lt_of_lt_of_le (M x hx).2.2 A.2.1⟩
theorem Mine.cons {vm : Vm} {x : Addr} (M : Mine Z EL vm h sf) (q : Safe Z EL vm h x ∧ Z.heap.size ≤ x ∧ x < h.size) : Mine Z EL vm h (x :: sf) := fun z hz => (List.mem_cons.mp hz).elim (fun u => u ▸ q) (M z)
/-- the cells that stood when the law began stand -/
theorem Wk.old (W : Wk l Z a0 EL y bs ml rt R as p e s m below meth c sf T h k n) : Ext Z.heap h := by
  obtain ⟨⟨-, -, -, -, -, -, -, -, hO⟩, vm0, locs, k0, X, eT, -, -, hF, -, hC, -, -⟩ := W
  refine ⟨Nat.le_trans hO.1 hC.2.1, fun b cl hb => ?_⟩
  have hs := hO.2 b cl hb
  obtain ⟨c', h1, h2, -, h4⟩ := X.same.2.2.2.2.2 b cl hs
  have hlt := (Array.getElem?_eq_some_iff.mp hb).1
  have hsl : c'.slots = cl.slots := Array.ext_getElem? fun i => h4 i fun hm => absurd (hF _ hm) (Nat.not_le.mpr hlt)
  have hcc : c' = cl := by rw [h2, hsl]
  rw [← hcc, ← eT]; exact h1
theorem Wl.old (f : Ext Z.heap h → WlO l Z a0 EL y bs ml rt R as out Q sf h k n pc Ls st) : WlO l Z a0 EL y bs ml rt R as out Q sf h k n pc Ls st :=
  fun p e s m below meth c T W => f W.old p e s m below meth c T W
theorem Wl.mine {x : Addr} (hx : x ∈ sf) (f : Z.heap.size ≤ x → x < h.size → WlO l Z a0 EL y bs ml rt R as out Q sf h k n pc Ls st) : WlO l Z a0 EL y bs ml rt R as out Q sf h k n pc Ls st :=
  fun p e s m below meth c T W => by
    have W' := W
    obtain ⟨-, vm0, locs, k0, -, -, -, -, -, -, -, M, -⟩ := W'
    exact f (M x hx).2.1 (M x hx).2.2 p e s m below meth c T W
/-- fewer own objects, more room used -/
theorem Wl.weak {sf' : List Addr} {k' n' : Nat} (q : ∀ x ∈ sf', x ∈ sf) (hk : k ≤ k') (hn : n ≤ n') (hr : WlO l Z a0 EL y bs ml rt R as out Q sf' h k' n' pc Ls st) : WlO l Z a0 EL y bs ml rt R as out Q sf h k n pc Ls st :=
  fun p e s m below meth c T W => by
    obtain ⟨A, vm0, locs, k0, X, eT, hS, hk0, hF, hZ, hC, hM, hH⟩ := W
    exact hr p e s m below meth c T ⟨A, vm0, locs, k0, X.mono hk hn, eT, hS, hk0, hF, hZ, hC, hM.sub q, hH⟩
/-- a step that leaves the heap and writes nothing -/
theorem Wl.same {pc' : Nat} {Ls' : Array Slot} {st' : List Value}
    (f : ∀ (p : Program) (e : Env) (s : State) (m : MethodId) (below : List Frame) (meth : Method) (c : Code) (T : State) (vm0 : Vm) (locs : List Loc),
      p.tables.exec = Jvm.exec → c.code = bs → c.maxLocals = ml → vm0.findClass y.cls = some m.cls → Z.Warmed39 vm0 → Stand p l e R (s.setVm vm0) m as below meth c T locs k n → T.heap = h → Ext Z.heap h →
      ∃ T', Stand p l e R (s.setVm vm0) m as below meth c T' locs k n ∧ T'.heap = h ∧ ∀ t, Steps p.tables e below (T'.setTop (mkF m pc' Ls' st')) t → Steps p.tables e below (T.setTop (mkF m pc Ls st)) t)
    (hr : WlO l Z a0 EL y bs ml rt R as out Q sf h k n pc' Ls' st') : WlO l Z a0 EL y bs ml rt R as out Q sf h k n pc Ls st := by
  intro p e s m below meth c T W
  have hO := W.old
  obtain ⟨A, vm0, locs, k0, X, eT, hS, hk, hF, hZ, hC, hM, hH⟩ := W
  obtain ⟨T', X', e', stp⟩ := f p e s m below meth c T vm0 locs A.1 A.2.1 A.2.2.1 (by rw [hS.1.alike.findClass]; exact A.2.2.2.2.2.2.1) hZ X eT hO
  exact Go.of stp (hr p e s m below meth c T' ⟨A, vm0, locs, k0, X', e', hS, hk, hF, hZ, hC, hM, hH⟩)
theorem Wl.plain {pc' : Nat} {Ls' : Array Slot} {st' : List Value}
    (f : ∀ (p : Program) (e : Env) (m : MethodId) (below : List Frame) (c : Code) (T : State), p.tables.exec = Jvm.exec → c.code = bs → At T m c below → ∀ t, Steps p.tables e below (T.setTop (mkF m pc' Ls' st')) t → Steps p.tables e below (T.setTop (mkF m pc Ls st)) t)
    (hr : WlO l Z a0 EL y bs ml rt R as out Q sf h k n pc' Ls' st') : WlO l Z a0 EL y bs ml rt R as out Q sf h k n pc Ls st :=
  Wl.same (fun p e s m below meth c T vm0 locs hx hby _ _ _ X eT _ => ⟨T, X, eT, f p e m below c T hx hby X.here⟩) hr
/-- a step that makes one cell -/
theorem Wl.grow {pc' : Nat} {Ls' : Array Slot} {st' : Addr → List Value} {dk dn : Nat} {F : Heap → Addr → Prop}
    (f : ∀ (p : Program) (e : Env) (s : State) (m : MethodId) (below : List Frame) (meth : Method) (c : Code) (T : State) (vm0 : Vm) (locs : List Loc),
      p.tables.exec = Jvm.exec → c.code = bs → c.maxLocals = ml → vm0.findClass y.cls = some m.cls → Z.Warmed39 vm0 → Stand p l e R (s.setVm vm0) m as below meth c T locs k n → T.heap = h → Ext Z.heap h →
      ∃ T' h', Stand p l e R (s.setVm vm0) m as below meth c T' locs (k + dk) (n + dn) ∧ T'.heap = h' ∧ Ext h h' ∧ h.size < h'.size ∧ F h' h.size ∧ ∀ t, Steps p.tables e below (T'.setTop (mkF m pc' Ls' (st' h.size))) t → Steps p.tables e below (T.setTop (mkF m pc Ls st)) t)
    (hr : ∀ (a : Addr) (h' : Heap), a = h.size → Ext h h' → F h' a → WlO l Z a0 EL y bs ml rt R as out Q (a :: sf) h' (k + dk) (n + dn) pc' Ls' (st' a)) : WlO l Z a0 EL y bs ml rt R as out Q sf h k n pc Ls st := by
  intro p e s m below meth c T W
  have hO := W.old
  obtain ⟨A, vm0, locs, k0, X, eT, hS, hk, hF, hZ, hC, hM, hH⟩ := W
  obtain ⟨T', h', X', e', E, hlt, G, stp⟩ := f p e s m below meth c T vm0 locs A.1 A.2.1 A.2.2.1 (by rw [hS.1.alike.findClass]; exact A.2.2.2.2.2.2.1) hZ X eT hO
  have B := CHr.ext (Z := Z) (EL := EL) (vm := vm0) E hC.1
  exact Go.of stp (hr h.size h' rfl E G p e s m below meth c T' ⟨A, vm0, locs, k0, X', e', hS, Nat.le_trans hk E.1, hF, hZ, hC.trans B, (hM.chr B).cons ⟨Safe.ext E hC.1 (Safe.new (Nat.le_refl _)), hO.1, hlt⟩, hH⟩)
/-- a step that writes one place of an own object -/
theorem Wl.write {pc' : Nat} {Ls' : Array Slot} {st' : List Value} {a : Addr} {sl : Nat} {v : Value} (ha : a ∈ sf)
    (f : ∀ (p : Program) (e : Env) (s : State) (m : MethodId) (below : List Frame) (meth : Method) (c : Code) (T : State) (vm0 : Vm) (locs : List Loc),
      p.tables.exec = Jvm.exec → c.code = bs → meth.name = y.name → vm0.findClass y.cls = some m.cls → Z.Warmed39 vm0 → Stand p l e R (s.setVm vm0) m as below meth c T locs k n → T.heap = h →
      ∃ T' h', Stand p l e R (s.setVm vm0) m as below meth c T' (locs ++ [⟨a, sl⟩]) k n ∧ T'.heap = h' ∧ Wr h h' a sl v ∧ ∀ t, Steps p.tables e below (T'.setTop (mkF m pc' Ls' st')) t → Steps p.tables e below (T.setTop (mkF m pc Ls st)) t)
    (hr : ∀ h', Wr h h' a sl v → WlO l Z a0 EL y bs ml rt R as out Q sf h' k n pc' Ls' st') : WlO l Z a0 EL y bs ml rt R as out Q sf h k n pc Ls st := by
  intro p e s m below meth c T W
  obtain ⟨A, vm0, locs, k0, X, eT, hS, hk, hF, hZ, hC, hM, hH⟩ := W
  obtain ⟨T', h', X', e', Wv, stp⟩ := f p e s m below meth c T vm0 locs A.1 A.2.1 A.2.2.2.2.2.1 (by rw [hS.1.alike.findClass]; exact A.2.2.2.2.2.2.1) hZ X eT
  have B := CHr.wr (Z := Z) (EL := EL) (vm := vm0) Wv (hM a ha).1 hC.1
  exact Go.of stp (hr h' Wv p e s m below meth c T' ⟨A, vm0, locs ++ [⟨a, sl⟩], k0, X', e', hS, by rw [Wv.size]; exact hk, Fr.snoc X' hF (hM a ha).2.1, hZ, hC.trans B, hM.chr B, hH⟩)
/-! plain steps -/
theorem Wl.aload_n (pc' : Nat) {i : Fin 4} {v : Value} (hd : decode bs pc = .ok (.aload_n i, 1)) (hl : Ls[i.val]? = some (.val v)) (hv : v.isRef = true) (hr : WlO l Z a0 EL y bs ml rt R as out Q sf h k n pc' Ls (v :: st)) (hp : pc + 1 = pc' := by rfl) : WlO l Z a0 EL y bs ml rt R as out Q sf h k n pc Ls st := by
  subst hp; exact Wl.plain (fun p e m below c T hx hby A t kk => XS.aloadN A hx rfl (hb hby hd) hl hv kk) hr
theorem Wl.aload (pc' : Nat) {i : Nat} {v : Value} (hd : decode bs pc = .ok (.aload i, 2)) (hl : Ls[i]? = some (.val v)) (hv : v.isRef = true) (hr : WlO l Z a0 EL y bs ml rt R as out Q sf h k n pc' Ls (v :: st)) (hp : pc + 2 = pc' := by rfl) : WlO l Z a0 EL y bs ml rt R as out Q sf h k n pc Ls st := by
  subst hp; exact Wl.plain (fun p e m below c T hx hby A t kk => XS.aload A hx rfl (hb hby hd) hl hv kk) hr
theorem Wl.iload_n (pc' : Nat) {i : Fin 4} {v : Int32} (hd : decode bs pc = .ok (.iload_n i, 1)) (hl : Ls[i.val]? = some (.val (.int v))) (hr : WlO l Z a0 EL y bs ml rt R as out Q sf h k n pc' Ls (.int v :: st)) (hp : pc + 1 = pc' := by rfl) : WlO l Z a0 EL y bs ml rt R as out Q sf h k n pc Ls st := by
  subst hp; exact Wl.plain (fun p e m below c T hx hby A t kk => XS.iloadN A hx rfl (hb hby hd) hl kk) hr
theorem Wl.iload (pc' : Nat) {i : Nat} {v : Int32} (hd : decode bs pc = .ok (.iload i, 2)) (hl : Ls[i]? = some (.val (.int v))) (hr : WlO l Z a0 EL y bs ml rt R as out Q sf h k n pc' Ls (.int v :: st)) (hp : pc + 2 = pc' := by rfl) : WlO l Z a0 EL y bs ml rt R as out Q sf h k n pc Ls st := by
  subst hp; exact Wl.plain (fun p e m below c T hx hby A t kk => XS.iload A hx rfl (hb hby hd) hl kk) hr
theorem Wl.lload_n (pc' : Nat) {i : Fin 4} {v : Int64} (hd : decode bs pc = .ok (.lload_n i, 1)) (hl : Ls[i.val]? = some (.val (.long v))) (hr : WlO l Z a0 EL y bs ml rt R as out Q sf h k n pc' Ls (.long v :: st)) (hp : pc + 1 = pc' := by rfl) : WlO l Z a0 EL y bs ml rt R as out Q sf h k n pc Ls st := by
  subst hp; exact Wl.plain (fun p e m below c T hx hby A t kk => XS.lloadN A hx rfl (hb hby hd) hl kk) hr
theorem Wl.lload (pc' : Nat) {i : Nat} {v : Int64} (hd : decode bs pc = .ok (.lload i, 2)) (hl : Ls[i]? = some (.val (.long v))) (hr : WlO l Z a0 EL y bs ml rt R as out Q sf h k n pc' Ls (.long v :: st)) (hp : pc + 2 = pc' := by rfl) : WlO l Z a0 EL y bs ml rt R as out Q sf h k n pc Ls st := by
  subst hp; exact Wl.plain (fun p e m below c T hx hby A t kk => XS.lload A hx rfl (hb hby hd) hl kk) hr
theorem Wl.istore_n (pc' : Nat) (Ls' : Array Slot) {i : Fin 4} {v : Int32} (hd : decode bs pc = .ok (.istore_n i, 1)) (hl : storeLocals Ls i.val (.int v) = some Ls') (hr : WlO l Z a0 EL y bs ml rt R as out Q sf h k n pc' Ls' st) (hp : pc + 1 = pc' := by rfl) : WlO l Z a0 EL y bs ml rt R as out Q sf h k n pc Ls (.int v :: st) := by
  subst hp; exact Wl.plain (fun p e m below c T hx hby A t kk => XS.istoreN A hx rfl (hb hby hd) rfl hl kk) hr
theorem Wl.istore (pc' : Nat) (Ls' : Array Slot) {i : Nat} {v : Int32} (hd : decode bs pc = .ok (.istore i, 2)) (hl : storeLocals Ls i (.int v) = some Ls') (hr : WlO l Z a0 EL y bs ml rt R as out Q sf h k n pc' Ls' st) (hp : pc + 2 = pc' := by rfl) : WlO l Z a0 EL y bs ml rt R as out Q sf h k n pc Ls (.int v :: st) := by
  subst hp; exact Wl.plain (fun p e m below c T hx hby A t kk => XS.istore A hx rfl (hb hby hd) rfl hl kk) hr
theorem Wl.lstore (pc' : Nat) (Ls' : Array Slot) {i : Nat} {v : Int64} (hd : decode bs pc = .ok (.lstore i, 2)) (hl : storeLocals Ls i (.long v) = some Ls') (hr : WlO l Z a0 EL y bs ml rt R as out Q sf h k n pc' Ls' st) (hp : pc + 2 = pc' := by rfl) : WlO l Z a0 EL y bs ml rt R as out Q sf h k n pc Ls (.long v :: st) := by
  subst hp; exact Wl.plain (fun p e m below c T hx hby A t kk => XS.lstore A hx rfl (hb hby hd) rfl hl kk) hr
theorem Wl.astore_n (pc' : Nat) (Ls' : Array Slot) {i : Fin 4} {v : Value} (hd : decode bs pc = .ok (.astore_n i, 1)) (hv : v.isRef = true) (hl : storeLocals Ls i.val v = some Ls') (hr : WlO l Z a0 EL y bs ml rt R as out Q sf h k n pc' Ls' st) (hp : pc + 1 = pc' := by rfl) : WlO l Z a0 EL y bs ml rt R as out Q sf h k n pc Ls (v :: st) := by
  subst hp; exact Wl.plain (fun p e m below c T hx hby A t kk => XS.astoreN A hx rfl (hb hby hd) rfl hv hl kk) hr
theorem Wl.astore (pc' : Nat) (Ls' : Array Slot) {i : Nat} {v : Value} (hd : decode bs pc = .ok (.astore i, 2)) (hv : v.isRef = true) (hl : storeLocals Ls i v = some Ls') (hr : WlO l Z a0 EL y bs ml rt R as out Q sf h k n pc' Ls' st) (hp : pc + 2 = pc' := by rfl) : WlO l Z a0 EL y bs ml rt R as out Q sf h k n pc Ls (v :: st) := by
  subst hp; exact Wl.plain (fun p e m below c T hx hby A t kk => XS.astore A hx rfl (hb hby hd) rfl hv hl kk) hr
theorem Wl.iinc (pc' : Nat) (Ls' : Array Slot) {i : Nat} {cst : Int} {x : Int32} (v : Int32) (hd : decode bs pc = .ok (.iinc i cst, 3)) (hv : Int32.ofInt cst = v) (hl : Ls[i]? = some (.val (.int x))) (hl' : storeLocals Ls i (.int (x + v)) = some Ls') (hr : WlO l Z a0 EL y bs ml rt R as out Q sf h k n pc' Ls' st) (hp : pc + 3 = pc' := by rfl) : WlO l Z a0 EL y bs ml rt R as out Q sf h k n pc Ls st := by
  subst hp hv; exact Wl.plain (fun p e m below c T hx hby A t kk => XS.iinc A hx rfl (hb hby hd) hl hl' kk) hr
theorem Wl.iconst (pc' : Nat) (v : Int32) {i : Int} (hd : decode bs pc = .ok (.iconst i, 1)) (hv : Int32.ofInt i = v) (hr : WlO l Z a0 EL y bs ml rt R as out Q sf h k n pc' Ls (.int v :: st)) (hp : pc + 1 = pc' := by rfl) : WlO l Z a0 EL y bs ml rt R as out Q sf h k n pc Ls st := by
  subst hp hv; exact Wl.plain (fun p e m below c T hx hby A t kk => XS.iconst A hx rfl (hb hby hd) kk) hr
theorem Wl.bipush (pc' : Nat) (v : Int32) {i : Int} (hd : decode bs pc = .ok (.bipush i, 2)) (hv : (Int8.ofInt i).toInt32 = v) (hr : WlO l Z a0 EL y bs ml rt R as out Q sf h k n pc' Ls (.int v :: st)) (hp : pc + 2 = pc' := by rfl) : WlO l Z a0 EL y bs ml rt R as out Q sf h k n pc Ls st := by
  subst hp hv; exact Wl.plain (fun p e m below c T hx hby A t kk => XS.bipush A hx rfl (hb hby hd) kk) hr
theorem Wl.sipush (pc' : Nat) (v : Int32) {i : Int} (hd : decode bs pc = .ok (.sipush i, 3)) (hv : (Int16.ofInt i).toInt32 = v) (hr : WlO l Z a0 EL y bs ml rt R as out Q sf h k n pc' Ls (.int v :: st)) (hp : pc + 3 = pc' := by rfl) : WlO l Z a0 EL y bs ml rt R as out Q sf h k n pc Ls st := by
  subst hp hv; exact Wl.plain (fun p e m below c T hx hby A t kk => XS.sipush A hx rfl (hb hby hd) kk) hr
theorem Wl.aconst_null (pc' : Nat) (hd : decode bs pc = .ok (.aconst_null, 1)) (hr : WlO l Z a0 EL y bs ml rt R as out Q sf h k n pc' Ls (.null :: st)) (hp : pc + 1 = pc' := by rfl) : WlO l Z a0 EL y bs ml rt R as out Q sf h k n pc Ls st := by
  subst hp; exact Wl.plain (fun p e m below c T hx hby A t kk => XS.aconstNull A hx rfl (hb hby hd) kk) hr
theorem Wl.iadd (pc' : Nat) {x z : Int32} (hd : decode bs pc = .ok (.iadd, 1)) (hr : WlO l Z a0 EL y bs ml rt R as out Q sf h k n pc' Ls (.int (x + z) :: st)) (hp : pc + 1 = pc' := by rfl) : WlO l Z a0 EL y bs ml rt R as out Q sf h k n pc Ls (.int z :: .int x :: st) := by
  subst hp; exact Wl.plain (fun p e m below c T hx hby A t kk => XS.iadd A hx rfl (hb hby hd) rfl kk) hr
theorem Wl.isub (pc' : Nat) {x z : Int32} (hd : decode bs pc = .ok (.isub, 1)) (hr : WlO l Z a0 EL y bs ml rt R as out Q sf h k n pc' Ls (.int (x - z) :: st)) (hp : pc + 1 = pc' := by rfl) : WlO l Z a0 EL y bs ml rt R as out Q sf h k n pc Ls (.int z :: .int x :: st) := by
  subst hp; exact Wl.plain (fun p e m below c T hx hby A t kk => XS.isub A hx rfl (hb hby hd) rfl kk) hr
theorem Wl.imul (pc' : Nat) {x z : Int32} (hd : decode bs pc = .ok (.imul, 1)) (hr : WlO l Z a0 EL y bs ml rt R as out Q sf h k n pc' Ls (.int (x * z) :: st)) (hp : pc + 1 = pc' := by rfl) : WlO l Z a0 EL y bs ml rt R as out Q sf h k n pc Ls (.int z :: .int x :: st) := by
  subst hp; exact Wl.plain (fun p e m below c T hx hby A t kk => XS.imul A hx rfl (hb hby hd) rfl kk) hr
theorem Wl.irem (pc' : Nat) {x z : Int32} (hd : decode bs pc = .ok (.irem, 1)) (hz : z ≠ 0) (hr : WlO l Z a0 EL y bs ml rt R as out Q sf h k n pc' Ls (.int (x % z) :: st)) (hp : pc + 1 = pc' := by rfl) : WlO l Z a0 EL y bs ml rt R as out Q sf h k n pc Ls (.int z :: .int x :: st) := by
  subst hp; exact Wl.same (fun p e s m below meth c T vm0 locs hx hby _ _ _ X eT _ => ⟨T, X, eT, fun t kk => iremM X hx rfl (hb hby hd) rfl hz kk⟩) hr
theorem Wl.iand (pc' : Nat) {x z : Int32} (hd : decode bs pc = .ok (.iand, 1)) (hr : WlO l Z a0 EL y bs ml rt R as out Q sf h k n pc' Ls (.int (x &&& z) :: st)) (hp : pc + 1 = pc' := by rfl) : WlO l Z a0 EL y bs ml rt R as out Q sf h k n pc Ls (.int z :: .int x :: st) := by
  subst hp; exact Wl.plain (fun p e m below c T hx hby A t kk => XS.iand A hx rfl (hb hby hd) rfl kk) hr
theorem Wl.ior (pc' : Nat) {x z : Int32} (hd : decode bs pc = .ok (.ior, 1)) (hr : WlO l Z a0 EL y bs ml rt R as out Q sf h k n pc' Ls (.int (x ||| z) :: st)) (hp : pc + 1 = pc' := by rfl) : WlO l Z a0 EL y bs ml rt R as out Q sf h k n pc Ls (.int z :: .int x :: st) := by
  subst hp; exact Wl.plain (fun p e m below c T hx hby A t kk => XT.ior A hx rfl (hb hby hd) rfl kk) hr
theorem Wl.ixor (pc' : Nat) {x z : Int32} (hd : decode bs pc = .ok (.ixor, 1)) (hr : WlO l Z a0 EL y bs ml rt R as out Q sf h k n pc' Ls (.int (x ^^^ z) :: st)) (hp : pc + 1 = pc' := by rfl) : WlO l Z a0 EL y bs ml rt R as out Q sf h k n pc Ls (.int z :: .int x :: st) := by
  subst hp; exact Wl.plain (fun p e m below c T hx hby A t kk => XT.ixor A hx rfl (hb hby hd) rfl kk) hr
theorem Wl.ishl (pc' : Nat) {x z : Int32} (hd : decode bs pc = .ok (.ishl, 1)) (hr : WlO l Z a0 EL y bs ml rt R as out Q sf h k n pc' Ls (.int (x <<< (z &&& 31)) :: st)) (hp : pc + 1 = pc' := by rfl) : WlO l Z a0 EL y bs ml rt R as out Q sf h k n pc Ls (.int z :: .int x :: st) := by
  subst hp; exact Wl.plain (fun p e m below c T hx hby A t kk => XT.ishl A hx rfl (hb hby hd) rfl kk) hr
theorem Wl.ishr (pc' : Nat) {x z : Int32} (hd : decode bs pc = .ok (.ishr, 1)) (hr : WlO l Z a0 EL y bs ml rt R as out Q sf h k n pc' Ls (.int (x >>> (z &&& 31)) :: st)) (hp : pc + 1 = pc' := by rfl) : WlO l Z a0 EL y bs ml rt R as out Q sf h k n pc Ls (.int z :: .int x :: st) := by
  subst hp; exact Wl.plain (fun p e m below c T hx hby A t kk => XT.ishr A hx rfl (hb hby hd) rfl kk) hr
theorem Wl.iushr (pc' : Nat) {x z : Int32} (hd : decode bs pc = .ok (.iushr, 1)) (hr : WlO l Z a0 EL y bs ml rt R as out Q sf h k n pc' Ls (.int ((x.toUInt32 >>> (z &&& 31).toUInt32).toInt32) :: st)) (hp : pc + 1 = pc' := by rfl) : WlO l Z a0 EL y bs ml rt R as out Q sf h k n pc Ls (.int z :: .int x :: st) := by
  subst hp; exact Wl.plain (fun p e m below c T hx hby A t kk => XT.iushr A hx rfl (hb hby hd) rfl kk) hr
theorem Wl.ladd (pc' : Nat) {x z : Int64} (hd : decode bs pc = .ok (.ladd, 1)) (hr : WlO l Z a0 EL y bs ml rt R as out Q sf h k n pc' Ls (.long (x + z) :: st)) (hp : pc + 1 = pc' := by rfl) : WlO l Z a0 EL y bs ml rt R as out Q sf h k n pc Ls (.long z :: .long x :: st) := by
  subst hp; exact Wl.plain (fun p e m below c T hx hby A t kk => XT.ladd A hx rfl (hb hby hd) rfl kk) hr
theorem Wl.land (pc' : Nat) {x z : Int64} (hd : decode bs pc = .ok (.land, 1)) (hr : WlO l Z a0 EL y bs ml rt R as out Q sf h k n pc' Ls (.long (x &&& z) :: st)) (hp : pc + 1 = pc' := by rfl) : WlO l Z a0 EL y bs ml rt R as out Q sf h k n pc Ls (.long z :: .long x :: st) := by
  subst hp; exact Wl.plain (fun p e m below c T hx hby A t kk => XT.land A hx rfl (hb hby hd) rfl kk) hr
theorem Wl.lushr (pc' : Nat) {x : Int64} {z : Int32} (hd : decode bs pc = .ok (.lushr, 1)) (hr : WlO l Z a0 EL y bs ml rt R as out Q sf h k n pc' Ls (.long (Jvm.Free.XT.ushrL x z) :: st)) (hp : pc + 1 = pc' := by rfl) : WlO l Z a0 EL y bs ml rt R as out Q sf h k n pc Ls (.int z :: .long x :: st) := by
  subst hp; exact Wl.plain (fun p e m below c T hx hby A t kk => XT.lushr A hx rfl (hb hby hd) rfl kk) hr
theorem Wl.lcmp (pc' : Nat) {x z : Int64} (hd : decode bs pc = .ok (.lcmp, 1)) (hr : WlO l Z a0 EL y bs ml rt R as out Q sf h k n pc' Ls (.int (lcmpW x z) :: st)) (hp : pc + 1 = pc' := by rfl) : WlO l Z a0 EL y bs ml rt R as out Q sf h k n pc Ls (.long z :: .long x :: st) := by
  subst hp; exact Wl.plain (fun p e m below c T hx hby A t kk => XT.lcmp A hx rfl (hb hby hd) rfl kk) hr
theorem Wl.i2l (pc' : Nat) {x : Int32} (hd : decode bs pc = .ok (.i2l, 1)) (hr : WlO l Z a0 EL y bs ml rt R as out Q sf h k n pc' Ls (.long x.toInt64 :: st)) (hp : pc + 1 = pc' := by rfl) : WlO l Z a0 EL y bs ml rt R as out Q sf h k n pc Ls (.int x :: st) := by
  subst hp; exact Wl.plain (fun p e m below c T hx hby A t kk => XT.i2l A hx rfl (hb hby hd) rfl kk) hr
theorem Wl.l2i (pc' : Nat) {x : Int64} (hd : decode bs pc = .ok (.l2i, 1)) (hr : WlO l Z a0 EL y bs ml rt R as out Q sf h k n pc' Ls (.int x.toInt32 :: st)) (hp : pc + 1 = pc' := by rfl) : WlO l Z a0 EL y bs ml rt R as out Q sf h k n pc Ls (.long x :: st) := by
  subst hp; exact Wl.plain (fun p e m below c T hx hby A t kk => XT.l2i A hx rfl (hb hby hd) rfl kk) hr
theorem Wl.i2b (pc' : Nat) {x : Int32} (hd : decode bs pc = .ok (.i2b, 1)) (hr : WlO l Z a0 EL y bs ml rt R as out Q sf h k n pc' Ls (.int x.toInt8.toInt32 :: st)) (hp : pc + 1 = pc' := by rfl) : WlO l Z a0 EL y bs ml rt R as out Q sf h k n pc Ls (.int x :: st) := by
  subst hp; exact Wl.plain (fun p e m below c T hx hby A t kk => XT.i2b A hx rfl (hb hby hd) rfl kk) hr
theorem Wl.i2c (pc' : Nat) {x : Int32} (hd : decode bs pc = .ok (.i2c, 1)) (hr : WlO l Z a0 EL y bs ml rt R as out Q sf h k n pc' Ls (.int x.toUInt32.toUInt16.toUInt32.toInt32 :: st)) (hp : pc + 1 = pc' := by rfl) : WlO l Z a0 EL y bs ml rt R as out Q sf h k n pc Ls (.int x :: st) := by
  subst hp; exact Wl.plain (fun p e m below c T hx hby A t kk => XT.i2c A hx rfl (hb hby hd) rfl kk) hr
theorem Wl.dup (pc' : Nat) {v : Value} (hd : decode bs pc = .ok (.dup, 1)) (hc : v.category = 1) (hr : WlO l Z a0 EL y bs ml rt R as out Q sf h k n pc' Ls (v :: v :: st)) (hp : pc + 1 = pc' := by rfl) : WlO l Z a0 EL y bs ml rt R as out Q sf h k n pc Ls (v :: st) := by
  subst hp; exact Wl.plain (fun p e m below c T hx hby A t kk => XS.dup A hx rfl (hb hby hd) rfl hc kk) hr
theorem Wl.pop (pc' : Nat) {v : Value} (hd : decode bs pc = .ok (.pop, 1)) (hc : v.category = 1) (hr : WlO l Z a0 EL y bs ml rt R as out Q sf h k n pc' Ls st) (hp : pc + 1 = pc' := by rfl) : WlO l Z a0 EL y bs ml rt R as out Q sf h k n pc Ls (v :: st) := by
  subst hp; exact Wl.plain (fun p e m below c T hx hby A t kk => XT.pop A hx rfl (hb hby hd) rfl hc kk) hr
theorem Wl.goto (pc' : Nat) {o : Int} (hd : decode bs pc = .ok (.goto o, 3)) (hr : WlO l Z a0 EL y bs ml rt R as out Q sf h k n pc' Ls st) (ho : 0 ≤ (pc : Int) + o := by decide) (hp : ((pc : Int) + o).toNat = pc' := by decide) : WlO l Z a0 EL y bs ml rt R as out Q sf h k n pc Ls st :=
  Wl.plain (fun p e m below c T hx hby A t kk => XS.goto A hx rfl rfl (hb hby hd) ho hp kk) hr
theorem Wl.ifY (pc' : Nat) {cd : ClassFile.Cond} {o : Int} {x : Int32} (hd : decode bs pc = .ok (.ifCond cd o, 3)) (hc : if_icmp.holds cd x 0 = true) (hr : WlO l Z a0 EL y bs ml rt R as out Q sf h k n pc' Ls st) (ho : 0 ≤ (pc : Int) + o := by decide) (hp : ((pc : Int) + o).toNat = pc' := by decide) : WlO l Z a0 EL y bs ml rt R as out Q sf h k n pc Ls (.int x :: st) :=
  Wl.plain (fun p e m below c T hx hby A t kk => XS.ifYes A hx rfl rfl (hb hby hd) rfl ((if0 _ _).trans hc) ho hp kk) hr
theorem Wl.ifN (pc' : Nat) {cd : ClassFile.Cond} {o : Int} {x : Int32} (hd : decode bs pc = .ok (.ifCond cd o, 3)) (hc : if_icmp.holds cd x 0 = false) (hr : WlO l Z a0 EL y bs ml rt R as out Q sf h k n pc' Ls st) (hp : pc + 3 = pc' := by rfl) : WlO l Z a0 EL y bs ml rt R as out Q sf h k n pc Ls (.int x :: st) := by
  subst hp; exact Wl.plain (fun p e m below c T hx hby A t kk => XS.ifNo A hx rfl (hb hby hd) rfl ((if0 _ _).trans hc) kk) hr
theorem Wl.icmpY (pc' : Nat) {cd : ClassFile.Cond} {o : Int} {x z : Int32} (hd : decode bs pc = .ok (.if_icmp cd o, 3)) (hc : if_icmp.holds cd x z = true) (hr : WlO l Z a0 EL y bs ml rt R as out Q sf h k n pc' Ls st) (ho : 0 ≤ (pc : Int) + o := by decide) (hp : ((pc : Int) + o).toNat = pc' := by decide) : WlO l Z a0 EL y bs ml rt R as out Q sf h k n pc Ls (.int z :: .int x :: st) :=
  Wl.plain (fun p e m below c T hx hby A t kk => XS.icmpYes A hx rfl rfl (hb hby hd) rfl hc ho hp kk) hr
theorem Wl.icmpN (pc' : Nat) {cd : ClassFile.Cond} {o : Int} {x z : Int32} (hd : decode bs pc = .ok (.if_icmp cd o, 3)) (hc : if_icmp.holds cd x z = false) (hr : WlO l Z a0 EL y bs ml rt R as out Q sf h k n pc' Ls st) (hp : pc + 3 = pc' := by rfl) : WlO l Z a0 EL y bs ml rt R as out Q sf h k n pc Ls (.int z :: .int x :: st) := by
  subst hp; exact Wl.plain (fun p e m below c T hx hby A t kk => XS.icmpNo A hx rfl (hb hby hd) rfl hc kk) hr
theorem Wl.ifnullY (pc' : Nat) {o : Int} (hd : decode bs pc = .ok (.ifnull o, 3)) (hr : WlO l Z a0 EL y bs ml rt R as out Q sf h k n pc' Ls st) (ho : 0 ≤ (pc : Int) + o := by decide) (hp : ((pc : Int) + o).toNat = pc' := by decide) : WlO l Z a0 EL y bs ml rt R as out Q sf h k n pc Ls (.null :: st) :=
  Wl.plain (fun p e m below c T hx hby A t kk => XS.ifnullYes A hx rfl rfl (hb hby hd) rfl ho hp kk) hr
theorem Wl.ifnullN (pc' : Nat) {o : Int} {b : Addr} (hd : decode bs pc = .ok (.ifnull o, 3)) (hr : WlO l Z a0 EL y bs ml rt R as out Q sf h k n pc' Ls st) (hp : pc + 3 = pc' := by rfl) : WlO l Z a0 EL y bs ml rt R as out Q sf h k n pc Ls (.ref b :: st) := by
  subst hp; exact Wl.plain (fun p e m below c T hx hby A t kk => XS.ifnullNo A hx rfl (hb hby hd) rfl kk) hr
theorem Wl.ifnonnullY (pc' : Nat) {o : Int} {b : Addr} (hd : decode bs pc = .ok (.ifnonnull o, 3)) (hr : WlO l Z a0 EL y bs ml rt R as out Q sf h k n pc' Ls st) (ho : 0 ≤ (pc : Int) + o := by decide) (hp : ((pc : Int) + o).toNat = pc' := by decide) : WlO l Z a0 EL y bs ml rt R as out Q sf h k n pc Ls (.ref b :: st) :=
  Wl.plain (fun p e m below c T hx hby A t kk => XT.ifnonnullYes A hx rfl rfl (hb hby hd) rfl ho hp kk) hr
theorem Wl.ifnonnullN (pc' : Nat) {o : Int} (hd : decode bs pc = .ok (.ifnonnull o, 3)) (hr : WlO l Z a0 EL y bs ml rt R as out Q sf h k n pc' Ls st) (hp : pc + 3 = pc' := by rfl) : WlO l Z a0 EL y bs ml rt R as out Q sf h k n pc Ls (.null :: st) := by
  subst hp; exact Wl.plain (fun p e m below c T hx hby A t kk => XT.ifnonnullNo A hx rfl (hb hby hd) rfl kk) hr
theorem Wl.acmp (pc' : Nat) {cd : ACond} {o : Int} {v w : Value} (same : Bool) (hd : decode bs pc = .ok (.if_acmp cd o, 3)) (h1 : v.isRef = true) (h2 : w.isRef = true) (hq : decide (v = w) = same) (hr : WlO l Z a0 EL y bs ml rt R as out Q sf h k n pc' Ls st) (ho : 0 ≤ (pc : Int) + o := by decide) (hp : pc' = if acV cd same = true then ((pc : Int) + o).toNat else pc + 3 := by decide) : WlO l Z a0 EL y bs ml rt R as out Q sf h k n pc Ls (w :: v :: st) :=
  Wl.same (fun p e s m below meth c T vm0 locs hx hby _ _ _ X eT _ => ⟨T, X, eT, fun t kk => Jvm.RoadKit.acmp (g := mkF m pc Ls (w :: v :: st)) X hx rfl h1 h2 rfl (hb hby hd) rfl hq ho hp kk⟩) hr
/-! constants of the pool -/
theorem Wl.ldcI (pc' : Nat) {i : Nat} {v : Int32} (hd : decode bs pc = .ok (.ldc i, 2)) (w : (Jvm.Cond.constant y.cls i v).before a0 Z = true) (hr : WlO l Z a0 EL y bs ml rt R as out Q sf h k n pc' Ls (.int v :: st)) (hp : pc + 2 = pc' := by rfl) : WlO l Z a0 EL y bs ml rt R as out Q sf h k n pc Ls st := by
  subst hp; exact Wl.same (fun p e s m below meth c T vm0 locs hx hby _ hown hZ X eT _ => ⟨T, X, eT, fun t kk => Jvm.Stand.ldcI X hx (s := s.setVm vm0) hown (mv hZ w) rfl (hb hby hd) kk⟩) hr
theorem Wl.ldc_wI (pc' : Nat) {i : Nat} {v : Int32} (hd : decode bs pc = .ok (.ldc_w i, 3)) (w : (Jvm.Cond.constant y.cls i v).before a0 Z = true) (hr : WlO l Z a0 EL y bs ml rt R as out Q sf h k n pc' Ls (.int v :: st)) (hp : pc + 3 = pc' := by rfl) : WlO l Z a0 EL y bs ml rt R as out Q sf h k n pc Ls st := by
  subst hp; exact Wl.same (fun p e s m below meth c T vm0 locs hx hby _ hown hZ X eT _ => ⟨T, X, eT, fun t kk => Jvm.Stand.ldcWI X hx (s := s.setVm vm0) hown (mv hZ w) rfl (hb hby hd) kk⟩) hr
theorem Wl.ldc2J (pc' : Nat) {i : Nat} {v : Int64} (hd : decode bs pc = .ok (.ldc2_w i, 3)) (w : (Jvm.Cond.constantLong y.cls i v).before a0 Z = true) (hr : WlO l Z a0 EL y bs ml rt R as out Q sf h k n pc' Ls (.long v :: st)) (hp : pc + 3 = pc' := by rfl) : WlO l Z a0 EL y bs ml rt R as out Q sf h k n pc Ls st := by
  subst hp; exact Wl.same (fun p e s m below meth c T vm0 locs hx hby _ hown hZ X eT _ => ⟨T, X, eT, fun t kk => Jvm.Stand.ldc2J X hx (s := s.setVm vm0) hown (mv hZ w) rfl (hb hby hd) kk⟩) hr
/-! fields -/
theorem Wl.getfield (pc' : Nat) {i : Nat} {O fn d : String} {a : Addr} {v : Value} (hd : decode bs pc = .ok (.getfield i, 3)) (w : (Jvm.Cond.fieldLink y.cls i O fn d).before a0 Z = true) (F : Fld Z h a O fn d v) (hr : WlO l Z a0 EL y bs ml rt R as out Q sf h k n pc' Ls (v :: st)) (hp : pc + 3 = pc' := by rfl) : WlO l Z a0 EL y bs ml rt R as out Q sf h k n pc Ls (.ref a :: st) := by
  subst hp; exact Wl.same (fun p e s m below meth c T vm0 locs hx hby _ hown hZ X eT _ => getF X hx (s := s.setVm vm0) hZ hown (host := "") (Or.inl w) Via.refl eT F (g := mkF m pc Ls (.ref a :: st)) rfl rfl (hb hby hd)) hr
theorem Wl.getstatic (pc' : Nat) {i : Nat} {O fn d : String} {v : Value} (hd : decode bs pc = .ok (.getstatic i, 3)) (w : (Jvm.Cond.fieldLink y.cls i O fn d).before a0 Z = true) (F : Sta Z Z.heap O fn d v) (hr : WlO l Z a0 EL y bs ml rt R as out Q sf h k n pc' Ls (v :: st)) (hp : pc + 3 = pc' := by rfl) : WlO l Z a0 EL y bs ml rt R as out Q sf h k n pc Ls st := by
  subst hp; exact Wl.same (fun p e s m below meth c T vm0 locs hx hby _ hown hZ X eT hO => getS (host := "") X hx (s := s.setVm vm0) hZ hown w Via.refl eT (F.ext hO) (g := mkF m pc Ls st) rfl (hb hby hd)) hr
theorem Wl.getstaticN (pc' : Nat) {i : Nat} {O fn d host : String} {v : Value} (hd : decode bs pc = .ok (.getstatic i, 3)) (w : (Jvm.Cond.fieldLinkNest y.cls i O fn d host).before a0 Z = true) (F : Sta Z Z.heap O fn d v) (hr : WlO l Z a0 EL y bs ml rt R as out Q sf h k n pc' Ls (v :: st)) (hp : pc + 3 = pc' := by rfl) : WlO l Z a0 EL y bs ml rt R as out Q sf h k n pc Ls st := by
  subst hp; exact Wl.same (fun p e s m below meth c T vm0 locs hx hby _ hown hZ X eT hO => getS2 X hx (s := s.setVm vm0) hZ hown (Or.inr w) Via.refl eT (F.ext hO) (g := mkF m pc Ls st) rfl (hb hby hd)) hr
theorem Wl.putfield (pc' : Nat) {i kk : Nat} {O fn d K : String} {ty : FieldType} {a : Addr} {v old : Value} (hd : decode bs pc = .ok (.putfield i, 3)) (w : (Jvm.Cond.fieldLink y.cls i O fn d).before a0 Z = true) (F : Fld Z h a O fn d old) (E : Exa Z h a K)
    (L : (Jvm.Cond.lays K O fn d).before a0 Z = true ∨ ((Jvm.Cond.laysFinal K O fn d).before a0 Z = true ∧ y.cls = O ∧ y.name = "<init>")) (wi : (Jvm.Cond.instantiable K kk).before a0 Z = true) (hty : parseFieldDescriptor d = some ty) (hn : narrow ty v = v) (hf : fits ty v = true) (ha : a ∈ sf)
    (hr : ∀ h', Wr h h' a (Jvm.RoadKit.slotOf Z O fn d) v → WlO l Z a0 EL y bs ml rt R as out Q sf h' k n pc' Ls st) (hp : pc + 3 = pc' := by rfl) : WlO l Z a0 EL y bs ml rt R as out Q sf h k n pc Ls (v :: .ref a :: st) := by
  subst hp; exact Wl.write ha (fun p e s m below meth c T vm0 locs hx hby hnm hown hZ X eT => putF X hx (s := s.setVm vm0) hZ hown (host := "") (Or.inl w) Via.refl eT F E (L.imp id fun q => ⟨q.1, q.2.1, hnm.trans q.2.2⟩) wi hty hn hf (g := mkF m pc Ls (v :: .ref a :: st)) rfl rfl (hb hby hd)) hr
/-! new things -/
theorem Wl.new (pc' : Nat) {i cnt : Nat} {K : String} (hd : decode bs pc = .ok (.new i, 3)) (w : (Jvm.Cond.classLink y.cls i K).before a0 Z = true) (wi : (Jvm.Cond.instantiable K cnt).before a0 Z = true) (wz : (Jvm.Cond.initialized K).before a0 Z = true) (hc : k + 1 ≤ R.cells) (hl : n + cnt ≤ R.slots)
    (hr : ∀ (a : Addr) (h' : Heap), a = h.size → Ext h h' → Exa Z h' a K → (∀ {O nm d : String} {ty : FieldType}, Laid Z a0 K O nm d → parseFieldDescriptor d = some ty → Fld Z h' a O nm d (defaultValue ty)) → WlO l Z a0 EL y bs ml rt R as out Q (a :: sf) h' (k + 1) (n + cnt) pc' Ls (.ref a :: st)) (hp : pc + 3 = pc' := by rfl) : WlO l Z a0 EL y bs ml rt R as out Q sf h k n pc Ls st := by
  subst hp
  refine Wl.grow (st' := fun a => .ref a :: st) (F := fun h' a => Exa Z h' a K ∧ ∀ {O nm d : String} {ty : FieldType}, Laid Z a0 K O nm d → parseFieldDescriptor d = some ty → Fld Z h' a O nm d (defaultValue ty)) (fun p e s m below meth c T vm0 locs hx hby _ hown hZ X eT _ => ?_) (fun a h' ea E G => hr a h' ea E G.1 G.2)
  obtain ⟨T', h', X', e', E, G, D, -, stp⟩ := newO X hx (s := s.setVm vm0) hZ hown w wi wz eT (g := mkF m pc Ls st) rfl (hb hby hd) hc hl
  exact ⟨T', h', X', e', E, G.lt, ⟨G, D⟩, stp⟩
theorem Wl.newarray (pc' : Nat) {aty : ArrayType} {z : Int32} (cap : Nat) (hd : decode bs pc = .ok (.newarray aty, 2)) (w : (Jvm.Cond.arrayClass (newarray.typeOf aty)).before a0 Z = true) (hz : ¬ z < 0) (hcap : z.toNatClampNeg ≤ cap) (hb8 : cap * 8 ≤ 536870912) (hc : k + 1 ≤ R.cells) (hl : n + cap ≤ R.slots)
    (hr : ∀ (a : Addr) (h' : Heap) (cA : ClassId), a = h.size → Ext h h' → Arv Z h' a cA (newarray.typeOf aty) z (List.replicate z.toNatClampNeg (defaultValue (newarray.typeOf aty))) (defaultValue (newarray.typeOf aty)) → WlO l Z a0 EL y bs ml rt R as out Q (a :: sf) h' (k + 1) (n + cap) pc' Ls (.ref a :: st)) (hp : pc + 2 = pc' := by rfl) : WlO l Z a0 EL y bs ml rt R as out Q sf h k n pc Ls (.int z :: st) := by
  subst hp
  refine Wl.grow (st' := fun a => .ref a :: st) (F := fun h' a => ∃ cA, Arv Z h' a cA (newarray.typeOf aty) z (List.replicate z.toNatClampNeg (defaultValue (newarray.typeOf aty))) (defaultValue (newarray.typeOf aty))) (fun p e s m below meth c T vm0 locs hx hby _ hown hZ X eT _ => ?_) (fun a h' ea E G => by obtain ⟨cA, G⟩ := G; exact hr a h' cA ea E G)
  obtain ⟨T', h', cA, X', e', E, G, stp⟩ := newP X hx (s := s.setVm vm0) hZ w eT (g := mkF m pc Ls (.int z :: st)) rfl (hb hby hd) rfl hz hcap hb8 hc hl
  exact ⟨T', h', X', e', E, G.lt, ⟨cA, (Arv.new G hz).pad fun i => by simpa using pad_rep [] (defaultValue (newarray.typeOf aty)) z.toNatClampNeg i⟩, stp⟩
/-! arrays -/
theorem Wl.arraylength (pc' : Nat) {a : Addr} {kc : ClassId} {ty : FieldType} {z : Int32} {vs : List Value} {dv : Value} (hd : decode bs pc = .ok (.arraylength, 1)) (F : Arv Z h a kc ty z vs dv) (hr : WlO l Z a0 EL y bs ml rt R as out Q sf h k n pc' Ls (.int z :: st)) (hp : pc + 1 = pc' := by rfl) : WlO l Z a0 EL y bs ml rt R as out Q sf h k n pc Ls (.ref a :: st) := by
  subst hp
  refine Wl.same (fun p e s m below meth c T vm0 locs hx hby _ hown hZ X eT _ => ⟨T, X, eT, fun t kk => ?_⟩) hr
  obtain ⟨cl, A, q1, q2, q3, -⟩ := F
  refine X.arraylength hx (by rw [eT]; exact A.1) (State.isArrayOf_alike (T := s.setVm vm0) hZ.alike A.2.1) (g := mkF m pc Ls (.ref a :: st)) rfl rfl (hb hby hd) t ?_
  rw [len_of q2 q3]; exact kk
theorem inb {cl : Cell} {z j : Int32} {i : Nat} (S : cl.slots.size = z.toNatClampNeg) (hj : ¬ j < 0) (e : j.toNatClampNeg = i) (hi : i < z.toNatClampNeg) : ¬ (j < 0 ∨ cl.slots.size ≤ j.toNatClampNeg) := fun q => by
  rcases q with q | q
  · exact hj q
  · rw [S, e] at q; omega
theorem Wl.caload (pc' : Nat) {a : Addr} {kc : ClassId} {z j : Int32} {vs : List Value} {dv v : Value} (i : Nat) (hd : decode bs pc = .ok (.caload, 1)) (F : Arv Z h a kc .char z vs dv) (hj : ¬ j < 0) (ej : j.toNatClampNeg = i) (hi : i < z.toNatClampNeg) (hv : vs.getD i dv = v) (hr : WlO l Z a0 EL y bs ml rt R as out Q sf h k n pc' Ls (v :: st)) (hp : pc + 1 = pc' := by rfl) : WlO l Z a0 EL y bs ml rt R as out Q sf h k n pc Ls (.int j :: .ref a :: st) := by
  subst hp
  refine Wl.same (fun p e s m below meth c T vm0 locs hx hby _ hown hZ X eT _ => ⟨T, X, eT, fun t kk => ?_⟩) hr
  obtain ⟨cl, A, q1, q2, q3, H, -⟩ := F
  exact X.caload hx (by rw [eT]; exact A.1) (State.isArrayOf_alike (T := s.setVm vm0) hZ.alike A.2.1) A.2.2 (inb q2 hj ej hi) (H.at (inb q2 hj ej hi) (by rw [ej]; exact hv)) (g := mkF m pc Ls (.int j :: .ref a :: st)) rfl rfl (hb hby hd) t kk
theorem Wl.baload (pc' : Nat) {a : Addr} {kc : ClassId} {z j : Int32} {vs : List Value} {dv v : Value} (i : Nat) (hd : decode bs pc = .ok (.baload, 1)) (F : Arv Z h a kc .byte z vs dv) (hj : ¬ j < 0) (ej : j.toNatClampNeg = i) (hi : i < z.toNatClampNeg) (hv : vs.getD i dv = v) (hr : WlO l Z a0 EL y bs ml rt R as out Q sf h k n pc' Ls (v :: st)) (hp : pc + 1 = pc' := by rfl) : WlO l Z a0 EL y bs ml rt R as out Q sf h k n pc Ls (.int j :: .ref a :: st) := by
  subst hp
  refine Wl.same (fun p e s m below meth c T vm0 locs hx hby _ hown hZ X eT _ => ⟨T, X, eT, fun t kk => ?_⟩) hr
  obtain ⟨cl, A, q1, q2, q3, H, -⟩ := F
  exact X.baloadBytes hx (by rw [eT]; exact A.1) (State.isArrayOf_alike (T := s.setVm vm0) hZ.alike A.2.1) A.2.2 (inb q2 hj ej hi) (H.at (inb q2 hj ej hi) (by rw [ej]; exact hv)) (g := mkF m pc Ls (.int j :: .ref a :: st)) rfl rfl (hb hby hd) t kk
theorem Wl.castore (pc' : Nat) {a : Addr} {kc : ClassId} {z j x : Int32} {vs : List Value} {dv : Value} (i : Nat) (hd : decode bs pc = .ok (.castore, 1)) (F : Arv Z h a kc .char z vs dv) (ha : a ∈ sf) (hj : ¬ j < 0) (ej : j.toNatClampNeg = i) (hi : i < z.toNatClampNeg) (hi' : i < vs.length)
    (hr : ∀ h', Wr h h' a i (.int (nar .char x)) → Arv Z h' a kc .char z (vs.set i (.int (nar .char x))) dv → WlO l Z a0 EL y bs ml rt R as out Q sf h' k n pc' Ls st) (hp : pc + 1 = pc' := by rfl) : WlO l Z a0 EL y bs ml rt R as out Q sf h k n pc Ls (.int x :: .int j :: .ref a :: st) := by
  subst hp
  obtain ⟨cl, A, q1, q2, q3, H, G⟩ := F
  refine Wl.write (sl := i) (v := .int (nar .char x)) ha (fun p e s m below meth c T vm0 locs hx hby _ hown hZ X eT => ?_) (fun h' Wv => hr h' Wv (Arv.set A q1 q2 q3 H G (fits_nar_char x) (ej ▸ Wv) i ej hi'))
  subst ej
  exact stC X hx (s := s.setVm vm0) hZ eT A (inb q2 hj rfl hi) (g := mkF m pc Ls (.int x :: .int j :: .ref a :: st)) rfl rfl (hb hby hd)
theorem Wl.bastore (pc' : Nat) {a : Addr} {kc : ClassId} {z j x : Int32} {vs : List Value} {dv : Value} (i : Nat) (hd : decode bs pc = .ok (.bastore, 1)) (F : Arv Z h a kc .byte z vs dv) (ha : a ∈ sf) (hj : ¬ j < 0) (ej : j.toNatClampNeg = i) (hi : i < z.toNatClampNeg) (hi' : i < vs.length)
    (hr : ∀ h', Wr h h' a i (.int (nar .byte x)) → Arv Z h' a kc .byte z (vs.set i (.int (nar .byte x))) dv → WlO l Z a0 EL y bs ml rt R as out Q sf h' k n pc' Ls st) (hp : pc + 1 = pc' := by rfl) : WlO l Z a0 EL y bs ml rt R as out Q sf h k n pc Ls (.int x :: .int j :: .ref a :: st) := by
  subst hp
  obtain ⟨cl, A, q1, q2, q3, H, G⟩ := F
  refine Wl.write (sl := i) (v := .int (nar .byte x)) ha (fun p e s m below meth c T vm0 locs hx hby _ hown hZ X eT => ?_) (fun h' Wv => hr h' Wv (Arv.set A q1 q2 q3 H G (fits_nar_byte x) (ej ▸ Wv) i ej hi'))
  subst ej
  exact stB X hx (s := s.setVm vm0) hZ eT A (inb q2 hj rfl hi) (g := mkF m pc Ls (.int x :: .int j :: .ref a :: st)) rfl rfl (hb hby hd)
/-- System.arraycopy between arrays of one primitive kind, into an own array -/
theorem Wl.arraycopy (pc' : Nat) {i : Nat} {a b : Addr} {kc kc' : ClassId} {ty : FieldType} {z z' sp dp nn : Int32} {vs vd : List Value} {dv dd : Value} (hd : decode bs pc = .ok (.invokestatic i, 3))
    (w1 : (Jvm.Cond.methodLink y.cls i Jvm.Stand.acN).before a0 Z = true) (w2 : (Jvm.Cond.native Jvm.Stand.acN).before a0 Z = true) (w3 : (Jvm.Cond.static Jvm.Stand.acN).before a0 Z = true) (w4 : (Jvm.Cond.initialized "java/lang/System").before a0 Z = true)
    (A : Arv Z h a kc ty z vs dv) (B : Arv Z h b kc' ty z' vd dd) (hty : refKind ty = false) (h1 : ¬ sp < 0) (h2 : ¬ dp < 0) (h3 : ¬ nn < 0) (h4 : sp.toNatClampNeg + nn.toNatClampNeg ≤ z.toNatClampNeg) (h5 : dp.toNatClampNeg + nn.toNatClampNeg ≤ z'.toNatClampNeg) (hl : dp.toNatClampNeg + nn.toNatClampNeg ≤ vd.length) (hbs : b ∈ sf) (hsz : Ls.size = ml) (hf : 1 ≤ R.frames) (hlo : (st.map fun v => v.category).sum + (nativeFrameWords "java/lang/System" "arraycopy" 5 + 11) ≤ R.locals)
    (hr : ∀ h', Keep h h' [b] → Arv Z h' b kc' ty z' (vd.take dp.toNatClampNeg ++ ((List.range nn.toNatClampNeg).map fun i => vs.getD (sp.toNatClampNeg + i) dv) ++ vd.drop (dp.toNatClampNeg + nn.toNatClampNeg)) dd → WlO l Z a0 EL y bs ml rt R as out Q sf h' k n pc' Ls st) (hp : pc + 3 = pc' := by rfl) : WlO l Z a0 EL y bs ml rt R as out Q sf h k n pc Ls (.int nn :: .int dp :: .ref b :: .int sp :: .ref a :: st) := by
  subst hp
  intro p e s m below meth c T W
  obtain ⟨A0, vm0, locs, k0, X, eT, hS, hk, hF, hZ, hC, hM, hH⟩ := W
  obtain ⟨T', h', L', X', e', hF', K, G, stp⟩ := cpA X A0.1 (s := s.setVm vm0) hZ (by show vm0.findClass y.cls = _; rw [hS.1.alike.findClass]; exact A0.2.2.2.2.2.2.1) w1 w2 w3 w4 eT A B (Or.inl ⟨rfl, hty⟩) h1 h2 h3 h4 h5 rfl hl hF (hM b hbs).2.1 (g := mkF m pc Ls (.int nn :: .int dp :: .ref b :: .int sp :: .ref a :: st)) rfl (by rw [A0.2.2.1]; exact hsz) rfl (hb A0.2.1 hd) hf (W := (st.map fun v => v.category).sum) (by show 2 * 0 + _ ≤ _; omega) hlo
  have Bc := CHr.keep (Z := Z) (EL := EL) (vm := vm0) K (fun x hx => by cases List.mem_singleton.mp hx; exact (hM b hbs).1) hC.1
  exact Go.of stp (hr h' K G p e s m below meth c T' ⟨A0, vm0, L', k0, X', e', hS, Nat.le_trans hk K.1, hF', hZ, hC.trans Bc, hM.chr Bc, hH⟩)
/-! Object.<init>, classes -/
theorem Wl.initO (pc' : Nat) {i : Nat} {a : Addr} (hd : decode bs pc = .ok (.invokespecial i, 3)) (w1 : (Jvm.Cond.methodLink y.cls i Lib.objectInit).before a0 Z = true) (w2 : (Jvm.Cond.instanceMethod Lib.objectInit).before a0 Z = true) (w3 : (Jvm.Cond.code Lib.objectInit ⟨#[0xb1]⟩ 1 none).before a0 Z = true) (hsz : Ls.size = ml) (hf : 1 ≤ R.frames) (hl : (st.map fun v => v.category).sum + 12 ≤ R.locals)
    (hr : WlO l Z a0 EL y bs ml rt R as out Q sf h k n pc' Ls st) (hp : pc + 3 = pc' := by rfl) : WlO l Z a0 EL y bs ml rt R as out Q sf h k n pc Ls (.ref a :: st) := by
  subst hp; exact Wl.same (fun p e s m below meth c T vm0 locs hx hby hml hown hZ X eT _ => Jvm.RoadKit.initO X hx (s := s.setVm vm0) hZ hown w1 w2 w3 eT (g := mkF m pc Ls (.ref a :: st)) rfl (by rw [hml]; exact hsz) rfl (hb hby hd) hf (W := (st.map fun v => v.category).sum) (by show 2 * 0 + _ ≤ _; omega) hl) hr
theorem Wl.checkcast (pc' : Nat) {i : Nat} {K : String} {a : Addr} (hd : decode bs pc = .ok (.checkcast i, 3)) (w : (Jvm.Cond.classLink y.cls i K).before a0 Z = true) (F : Ins Z h a K true) (hr : WlO l Z a0 EL y bs ml rt R as out Q sf h k n pc' Ls (.ref a :: st)) (hp : pc + 3 = pc' := by rfl) : WlO l Z a0 EL y bs ml rt R as out Q sf h k n pc Ls (.ref a :: st) := by
  subst hp; exact Wl.same (fun p e s m below meth c T vm0 locs hx hby hml hown hZ X eT _ => castY X hx (s := s.setVm vm0) hZ hown w eT F (g := mkF m pc Ls (.ref a :: st)) rfl rfl (hb hby hd)) hr
theorem Wl.instY (pc' : Nat) {i : Nat} {K : String} {a : Addr} (hd : decode bs pc = .ok (.instanceof i, 3)) (w : (Jvm.Cond.classLink y.cls i K).before a0 Z = true) (F : Ins Z h a K true) (hr : WlO l Z a0 EL y bs ml rt R as out Q sf h k n pc' Ls (.int 1 :: st)) (hp : pc + 3 = pc' := by rfl) : WlO l Z a0 EL y bs ml rt R as out Q sf h k n pc Ls (.ref a :: st) := by
  subst hp; exact Wl.same (fun p e s m below meth c T vm0 locs hx hby hml hown hZ X eT _ => Jvm.RoadKit.instY X hx (s := s.setVm vm0) hZ hown w eT F (g := mkF m pc Ls (.ref a :: st)) rfl rfl (hb hby hd)) hr
theorem Wl.instN (pc' : Nat) {i : Nat} {K K' : String} {a : Addr} (hd : decode bs pc = .ok (.instanceof i, 3)) (w : (Jvm.Cond.classLink y.cls i K).before a0 Z = true) (E : Exa Z h a K') (F : ∃ c t, Z.vm.findClass K' = some c ∧ Z.vm.findClass K = some t ∧ Z.vm.assignable c t = false) (hr : WlO l Z a0 EL y bs ml rt R as out Q sf h k n pc' Ls (.int 0 :: st)) (hp : pc + 3 = pc' := by rfl) : WlO l Z a0 EL y bs ml rt R as out Q sf h k n pc Ls (.ref a :: st) := by
  subst hp; exact Wl.same (fun p e s m below meth c T vm0 locs hx hby hml hown hZ X eT _ => instNo X hx (s := s.setVm vm0) hZ hown w eT E F (g := mkF m pc Ls (.ref a :: st)) rfl rfl (hb hby hd)) hr
theorem Wl.instNull (pc' : Nat) {i : Nat} (hd : decode bs pc = .ok (.instanceof i, 3)) (hr : WlO l Z a0 EL y bs ml rt R as out Q sf h k n pc' Ls (.int 0 :: st)) (hp : pc + 3 = pc' := by rfl) : WlO l Z a0 EL y bs ml rt R as out Q sf h k n pc Ls (.null :: st) := by
  subst hp; exact Wl.same (fun p e s m below meth c T vm0 locs hx hby hml hown hZ X eT _ => ⟨T, X, eT, X.instanceofNull hx (g := mkF m pc Ls (.null :: st)) rfl rfl (hb hby hd)⟩) hr
/-- C's only superclass is S, who has none; K is another plain class -/
theorem notInst {K' S K : String} {cnt : Nat} (w : (Jvm.Cond.superclass K' S).before a0 Z = true) (wo : (Jvm.Cond.noSuperclass S).before a0 Z = true) (wi : (Jvm.Cond.instantiable K cnt).before a0 Z = true) (h1 : S ≠ K) (h2 : K' ≠ K) : ∃ c t, Z.vm.findClass K' = some c ∧ Z.vm.findClass K = some t ∧ Z.vm.assignable c t = false := by
  obtain ⟨t, kt, g0, g2, g5, g7, -⟩ := Cond.instantiable_spec wi
  obtain ⟨c', k', s1, s2, s3, -, -⟩ := Cond.noSuperclass_spec wo
  obtain ⟨c, h0⟩ := found_sup w
  obtain ⟨p, k, kp, q1, q2, q3, q4, q5, -, q7⟩ := Cond.superclass_spec h0 w
  cases s1.symm.trans q1
  have ne := ids_ne h0 g0 h2
  have ne' := ids_ne s1 g0 h1
  have hi : kt.isInterface = false := by
    cases hq : kt.isInterface with
    | false => rfl
    | true => rw [hq] at g7; simp at g7
  have n3 : ∀ fuel, Z.vm.isSubclassAux fuel c t = false := fun fuel => by
    cases fuel with
    | zero => rfl
    | succ f =>
      have m3 : Z.vm.isSubclassAux f c' t = false := by
        cases f with
        | zero => rfl
        | succ f => simp [Vm.isSubclassAux, ne', s2, s3]
      simp [Vm.isSubclassAux, ne, q2, q4, m3]
  refine ⟨c, t, h0, g0, ?_⟩
  show Z.vm.assignableAux (255 + 1) c t = false
  simp [Vm.assignableAux, ne, q2, g2, q5, g5, hi, Vm.isSubclass, n3]
/-! returns -/
theorem Wl.ret {v : Option Value} (hv : rt = none → v = none) (hk : k ≤ R.cells) (hn : n ≤ R.slots)
    (f : ∀ (p : Program) (e : Env) (s : State) (m : MethodId) (below : List Frame) (meth : Method) (c : Code) (T : State) (vm0 : Vm) (locs : List Loc) (fs : List Frame), p.tables.exec = Jvm.exec → c.code = bs → meth.sig.returnType = rt → Stand p l e R (s.setVm vm0) m as below meth c T locs k n →
      (∀ (f : JFrame) (acts : List Action), f.method = m → f.locked = none → f.entered = [] → (doReturn e (T.setTop f) acts v).1 = T.setFrames fs) → Steps p.tables e below (T.setTop (mkF m pc Ls st)) (T.setFrames fs))
    (hq : Q v h) (ho : ∀ x ∈ out, x ∈ sf) : WlO l Z a0 EL y bs ml rt R as out Q sf h k n pc Ls st := by
  intro p e s m below meth c T W
  obtain ⟨⟨hx, hby, hml, hrt, hlk, hnm, hown, hEL, hO⟩, vm0, locs, k0, X, eT, hS, hk0, hF, hZ, hC, hM, hH⟩ := W
  obtain ⟨fs, hr, hrun, hend, hE⟩ := X.leaveW hS (by rw [eT]; exact hk0) (v := v) (fun q => hv (hrt ▸ q)) hlk
  refine ⟨_, _, f p e s m below meth c T vm0 locs fs hx hby hrt X hr, hrun, hend, v, locs, rfl, ⟨by show Q v T.heap; rw [eT]; exact hq, hF⟩, ?_, ⟨hE.1, hE.2.1, hE.2.2.1, hE.2.2.2.mono hk hn⟩, fun q => State.WarmedH.trans (t := s.setVm vm0) (hH q) X.warmed, ?_⟩
  · show CHr Z EL s.vm s.heap T.vm T.heap
    rw [eT]
    exact hC.trans (CHv.at X hZ hEL hC.1)
  · show Mine Z EL T.vm T.heap out
    rw [eT]
    exact (hM.chr (CHv.at X hZ hEL hC.1)).sub ho
theorem Wl.return_ (hd : decode bs pc = .ok (.return_, 1)) (hrt : rt = none) (hk : k ≤ R.cells) (hn : n ≤ R.slots) (hq : Q none h) (ho : ∀ x ∈ out, x ∈ sf := by exact fun _ q => nomatch q) : WlO l Z a0 EL y bs ml rt R as out Q sf h k n pc Ls [] :=
  Wl.ret (fun _ => rfl) hk hn (fun p e s m below meth c T vm0 locs fs hx hby hr X hl => X.returnOut hx (hr.trans hrt) (hb hby hd) hl) hq ho
theorem Wl.areturn {v : Value} {t : FieldType} (hd : decode bs pc = .ok (.areturn, 1)) (hrt : rt = some t) (ht : t.isReference = true) (hv : v.isRef = true) (hk : k ≤ R.cells) (hn : n ≤ R.slots) (hq : Q (some v) h) (ho : ∀ x ∈ out, x ∈ sf := by exact fun _ q => nomatch q) : WlO l Z a0 EL y bs ml rt R as out Q sf h k n pc Ls [v] :=
  Wl.ret (fun q => by rw [hrt] at q; cases q) hk hn (fun p e s m below meth c T vm0 locs fs hx hby hr X hl => X.areturnOut hx hv (hr.trans hrt) ht (hb hby hd) hl) hq ho
theorem Wl.ireturn {x : Int32} {t : FieldType} (hd : decode bs pc = .ok (.ireturn, 1)) (hrt : rt = some t) (hn1 : narrow t (.int x) = .int x) (ht : t = .int ∨ t = .boolean ∨ t = .byte ∨ t = .char ∨ t = .short) (hk : k ≤ R.cells) (hn : n ≤ R.slots) (hq : Q (some (.int x)) h) (ho : ∀ x ∈ out, x ∈ sf := by exact fun _ q => nomatch q) : WlO l Z a0 EL y bs ml rt R as out Q sf h k n pc Ls [.int x] :=
  Wl.ret (fun q => by rw [hrt] at q; cases q) hk hn (fun p e s m below meth c T vm0 locs fs hx hby hr X hl => X.ireturnOut hx (hr.trans hrt) hn1 ht (hb hby hd) hl) hq ho
/-! a body's walk is its contract; a contract pays a call -/
theorem Met.of_walk {ws : List Jvm.Cond} (hpn : plainFor y = true) (hEL : EW Z a0 EL) (hE : argsToLocals as ml = Ls) (hw : WlO l Z a0 EL y bs ml rt R as out Q sf h 0 0 0 Ls []) : MetO l Z EL y bs ml rt ws R as h sf out Q := by
  refine MetFree.of_bodySF hpn hisR ?_
  intro p e s m args below meth c s₁ Bd hml0 hP hK
  obtain ⟨rfl, hZ, hh, hC, hO, hM⟩ := hP
  have X0 : Stand p l e R s m args below meth c s₁ [] 0 0 := Stand.of_body Bd
  have e0 : s₁.heap = h := by rw [← hh, Bd.state]; rfl
  have hown : s.vm.findClass y.cls = some m.cls := findClass_of_methodNamed Bd.named
  have g := hw p e s m below meth c s₁ ⟨⟨Bd.exec, Bd.bytes, hml0, Bd.returns, Bd.notSynchronized, (name_of_methodNamed Bd.named Bd.method).1, hown, hEL, by rw [hh]; exact hO⟩, s.vm, [], h.size, X0, e0, (State.WarmedH.refl s).since _, Nat.le_refl _, Fr.nil _, hZ, by rw [hh]; exact CHr.refl hC, hM, fun _ => State.WarmedH.refl s⟩
  obtain ⟨s₂, o, g1, g2, g3, g4⟩ := g
  refine ⟨s₂, o, ?_, g2, g3, g4⟩
  have q : entryFrame m args ml = mkF m 0 Ls [] := by rw [← hE]; rfl
  exact castTop q g1
theorem Met.back {y2 : MethodName} {bs2 : ByteArray} {ml2 : Nat} {rt2 : Option FieldType} {rm : Room} {as2 : Array Value} {sf2 out2 : List Addr} {Q2 : Option Value → Heap → Prop} {len W : Nat} {vm0 : Vm} {args : Array Value}
    (hM : MetO l Z EL y2 bs2 ml2 rt2 [] rm as2 h sf2 out2 Q2) (hZ : Z.Warmed39 vm0) (wc : (Jvm.Cond.code y2 bs2 ml2 rt2).before a0 Z = true) (wz : (Jvm.Cond.initialized y2.cls).before a0 Z = true) (hf : rm.frames + 1 ≤ R.frames) (hl : W + (ml2 + 11) + rm.locals ≤ R.locals) (hEL : EW Z a0 EL) (H : CHv Z EL vm0 h) (hO : Ext Z.heap h) (hS : Mine Z EL vm0 h sf2) :
    BackS l R p e below (s.setVm vm0) args y2 len W (fun A a => a = as2 ∧ A.U.heap = h ∧ A.cells + rm.cells ≤ R.cells ∧ A.slots + rm.slots ≤ R.slots)
      (fun A _ v B => ∃ L, (Q2 v B.U.heap ∧ Fr Z.heap.size L) ∧ B.locs = A.locs ++ L ∧ B.cells = A.cells + rm.cells ∧ B.slots = A.slots + rm.slots ∧ CHr Z EL vm0 h B.U.vm B.U.heap ∧ (EL = [] → (s.setVm vm0).WarmedH B.U.vm) ∧ Mine Z EL B.U.vm B.U.heap out2) :=
  BackS.of_freeW (bytes := bs2) (maxL := ml2) (ret := rt2) (E := fun _ first o t L k n => k = rm.cells ∧ n = rm.slots ∧ (∃ v, o = .returned v ∧ (Q2 v t.heap ∧ Fr Z.heap.size L)) ∧ CHr Z EL first.vm first.heap t.vm t.heap ∧ (EL = [] → first.WarmedH t.vm) ∧ Mine Z EL t.vm t.heap out2) hM hf hl
    (fun m meth c A a Y hp => have hU : Z.Warmed39 A.U.vm := wtrans (s := s.setVm vm0) hZ Y.warmed
      ⟨by show (Jvm.Cond.and _ .tt).before a A.U = true; rw [Cond.before_and, mv hU wc]; rfl, mv hU wc, mv hU wz, hp.2.2.1, hp.2.2.2⟩)
    (fun m meth c A a g mk Y hp => ⟨hp.1, wtrans (s := s.setVm vm0) hZ Y.warmed, hp.2.1, (show CHv Z EL A.U.vm h from (CHv.at Y hZ hEL H).1), hO, (show Mine Z EL A.U.vm h sf2 from hS.chr (CHv.at Y hZ hEL H))⟩) (fun _ _ _ _ _ _ _ _ _ => trivial)
    (fun _ _ _ _ ⟨v, L, h1, h2, h3, h4, h5⟩ => ⟨L, _, _, h4, rfl, rfl, ⟨v, h1, h2⟩, h3, h5⟩)
    (fun m meth c A a g mk v t L k n Y hp _ _ ⟨e1, e2, ⟨v', e3, e4⟩, e5, e6, e7⟩ => by
      cases e3; subst e1 e2
      refine ⟨L, e4, rfl, rfl, rfl, (CHv.at Y hZ hEL H).trans ?_, fun q => State.WarmedH.trans (t := A.U.calling g mk a) Y.warmed (e6 q), e7⟩
      rw [← hp.2.1]; exact e5)
/-- a call: what the three kinds share -/
theorem Wl.call {st0 : List Value} {y2 : MethodName} {bs2 : ByteArray} {ml2 : Nat} {rt2 : Option FieldType} {rm : Room} {as2 : Array Value} {sf2 out2 sf' : List Addr} {Q2 : Option Value → Heap → Prop} {len pc' : Nat}
    (hM : MetO l Z EL y2 bs2 ml2 rt2 [] rm as2 h sf2 out2 Q2) (wc : (Jvm.Cond.code y2 bs2 ml2 rt2).before a0 Z = true) (wz : (Jvm.Cond.initialized y2.cls).before a0 Z = true) (hsub : ∀ x ∈ sf2, x ∈ sf) (hf : rm.frames + 1 ≤ R.frames) (hl : (st.map fun v => v.category).sum + (ml2 + 11) + rm.locals ≤ R.locals) (hc : k + rm.cells ≤ R.cells) (hs : n + rm.slots ≤ R.slots)
    (f : ∀ (p : Program) (e : Env) (s : State) (m : MethodId) (below : List Frame) (meth : Method) (c : Code) (T : State) (vm0 : Vm) (locs : List Loc),
      p.tables.exec = Jvm.exec → c.code = bs → c.maxLocals = ml → vm0.findClass y.cls = some m.cls → Z.Warmed39 vm0 → Stand p l e R (s.setVm vm0) m as below meth c T locs k n → T.heap = h →
      ∀ {Post : Pt → Array Value → Option Value → Pt → Prop}, BackS l R p e below (s.setVm vm0) as y2 len (st.map fun v => v.category).sum (fun A a => a = as2 ∧ A.U.heap = h ∧ A.cells + rm.cells ≤ R.cells ∧ A.slots + rm.slots ≤ R.slots) Post →
      ∃ (v : Option Value) (vm₁ : Vm) (B : Pt), (s.setVm vm0).WarmedH vm₁ ∧ Stand p l e R ((s.setVm vm0).setVm B.U.vm) m as below meth c B.U B.locs B.cells B.slots ∧ (s.setVm vm0).Since B.U.vm B.U.heap.size ∧ T.heap.size ≤ B.U.heap.size ∧ Post ⟨T.setVm vm₁, locs, k, n⟩ as2 v B ∧
        Steps p.tables e below (T.setTop (mkF m pc Ls st0)) (B.U.setTop (mkF m pc' Ls (v.toList ++ st))))
    (hsf' : ∀ x ∈ sf', x ∈ out2 ∨ x ∈ sf) (hr : ∀ v h', Q2 v h' → h.size ≤ h'.size → WlO l Z a0 EL y bs ml rt R as out Q sf' h' (k + rm.cells) (n + rm.slots) pc' Ls (v.toList ++ st)) : WlO l Z a0 EL y bs ml rt R as out Q sf h k n pc Ls st0 := by
  intro p e s m below meth c T W
  have hO := W.old
  obtain ⟨A, vm0, locs, k0, X, eT, hS, hk, hF, hZ, hC, hMi, hH⟩ := W
  obtain ⟨v, vm₁, ⟨T', L', k', n'⟩, -, X', hS', hg, ⟨Lc, ⟨hq, hFc⟩, l1, l2, l3, hC', hH', hMo⟩, stp⟩ := f p e s m below meth c T vm0 locs A.1 A.2.1 A.2.2.1 (by rw [hS.1.alike.findClass]; exact A.2.2.2.2.2.2.1) hZ X eT (Met.back (W := (st.map fun v => v.category).sum) (R := R) (a0 := a0) hM hZ wc wz hf hl A.2.2.2.2.2.2.2.1 hC.1 hO (hMi.sub hsub))
  dsimp only [Pt.U, Pt.locs, Pt.cells, Pt.slots] at X' hS' hg hq l1 l2 l3 hC' hH' hMo stp
  subst l1 l2 l3
  have hS2 := hS.trans hS' (Nat.le_trans hk (by rw [← eT]; exact hg))
  refine Go.of (fun t kk => stp.trans kk) (hr v T'.heap hq hC'.2.1 p e s m below meth c T' ⟨A, T'.vm, locs ++ Lc, T'.heap.size, X', rfl, hS2, Nat.le_refl _, Fr.app hF hFc, State.Warmed39.trans (t := s.setVm vm0) hZ hS'.1, hC.trans hC', fun x hx => (hsf' x hx).elim (hMo x) ((hMi.chr hC') x), fun q => State.WarmedH.trans (s := s) (t := s.setVm vm0) (hH q) (hH' q)⟩)
theorem Wl.static (pc' : Nat) {st0 : List Value} {i : Nat} {y2 : MethodName} {bs2 : ByteArray} {ml2 : Nat} {rt2 : Option FieldType} {rm : Room} {argsL : List Value} {sf2 out2 : List Addr} {Q2 : Option Value → Heap → Prop} {ps : List FieldType} {r : Option FieldType}
    (hd : decode bs pc = .ok (.invokestatic i, 3)) (w1 : (Jvm.Cond.methodLink y.cls i y2).before a0 Z = true) (w2 : (Jvm.Cond.static y2).before a0 Z = true) (wz : (Jvm.Cond.initialized y2.cls).before a0 Z = true) (wc : (Jvm.Cond.code y2 bs2 ml2 rt2).before a0 Z = true)
    (hsig : parseMethodDescriptor y2.desc = some ⟨ps, r⟩) (hlen : argsL.length = ps.length) (hM : MetO l Z EL y2 bs2 ml2 rt2 [] rm argsL.toArray h sf2 out2 Q2) (hsub : ∀ x ∈ sf2, x ∈ sf) (hst : st0 = argsL.reverse ++ st) (hsz : Ls.size = ml) (hp : pc + 3 = pc') (hy : y2.cls ≠ "java/lang/invoke/MethodHandle" ∧ y2.cls ≠ "java/lang/invoke/VarHandle")
    (hroom : (rm.frames + 1 ≤ R.frames ∧ (st.map fun v => v.category).sum + (ml2 + 11) + rm.locals ≤ R.locals) ∧ k + rm.cells ≤ R.cells ∧ n + rm.slots ≤ R.slots)
    (hr : ∀ v h', Q2 v h' → h.size ≤ h'.size → WlO l Z a0 EL y bs ml rt R as out Q sf h' (k + rm.cells) (n + rm.slots) pc' Ls (v.toList ++ st)) : WlO l Z a0 EL y bs ml rt R as out Q sf h k n pc Ls st0 := by
  subst hp
  exact Wl.call (len := 3) hM wc wz hsub hroom.1.1 hroom.1.2 hroom.2.1 hroom.2.2 (fun p e s m below meth c T vm0 locs hx hby hml hown hZ X eT {Post} hK =>
    callSS X hx (s := s.setVm vm0) hown (mvT hZ w1) (mvT hZ w2) (mvT hZ wz) (mvT hZ wc) hy hK (g := mkF m pc Ls st0) rfl (by rw [hml]; exact hsz) (argsL := argsL) (rest := st) (lenOf hsig hlen) hst (by show 2 * 0 + _ ≤ _; omega) (hb hby hd) (fun _ _ => ⟨rfl, eT, hroom.2.1, hroom.2.2⟩)) (fun _ q => Or.inr q) hr
theorem Wl.staticO (pc' : Nat) {st0 : List Value} {i : Nat} {y2 : MethodName} {bs2 : ByteArray} {ml2 : Nat} {rt2 : Option FieldType} {rm : Room} {argsL : List Value} {sf2 : List Addr} {d : Addr} {Q2 : Option Value → Heap → Prop} {ps : List FieldType} {r : Option FieldType}
    (hd : decode bs pc = .ok (.invokestatic i, 3)) (w1 : (Jvm.Cond.methodLink y.cls i y2).before a0 Z = true) (w2 : (Jvm.Cond.static y2).before a0 Z = true) (wz : (Jvm.Cond.initialized y2.cls).before a0 Z = true) (wc : (Jvm.Cond.code y2 bs2 ml2 rt2).before a0 Z = true)
    (hsig : parseMethodDescriptor y2.desc = some ⟨ps, r⟩) (hlen : argsL.length = ps.length) (hM : MetO l Z EL y2 bs2 ml2 rt2 [] rm argsL.toArray h sf2 [d] Q2) (hsub : ∀ x ∈ sf2, x ∈ sf) (hst : st0 = argsL.reverse ++ st) (hsz : Ls.size = ml) (hp : pc + 3 = pc') (hy : y2.cls ≠ "java/lang/invoke/MethodHandle" ∧ y2.cls ≠ "java/lang/invoke/VarHandle")
    (hroom : (rm.frames + 1 ≤ R.frames ∧ (st.map fun v => v.category).sum + (ml2 + 11) + rm.locals ≤ R.locals) ∧ k + rm.cells ≤ R.cells ∧ n + rm.slots ≤ R.slots)
    (hr : ∀ v h', Q2 v h' → h.size ≤ h'.size → WlO l Z a0 EL y bs ml rt R as out Q (d :: sf) h' (k + rm.cells) (n + rm.slots) pc' Ls (v.toList ++ st)) : WlO l Z a0 EL y bs ml rt R as out Q sf h k n pc Ls st0 := by
  subst hp
  exact Wl.call (len := 3) hM wc wz hsub hroom.1.1 hroom.1.2 hroom.2.1 hroom.2.2 (fun p e s m below meth c T vm0 locs hx hby hml hown hZ X eT {Post} hK =>
    callSS X hx (s := s.setVm vm0) hown (mvT hZ w1) (mvT hZ w2) (mvT hZ wz) (mvT hZ wc) hy hK (g := mkF m pc Ls st0) rfl (by rw [hml]; exact hsz) (argsL := argsL) (rest := st) (lenOf hsig hlen) hst (by show 2 * 0 + _ ≤ _; omega) (hb hby hd) (fun _ _ => ⟨rfl, eT, hroom.2.1, hroom.2.2⟩)) (fun x q => (List.mem_cons.mp q).elim (fun e => Or.inl (e ▸ List.mem_singleton.mpr rfl)) Or.inr) hr
theorem Wl.special (pc' : Nat) {st0 : List Value} {i : Nat} {y2 : MethodName} {bs2 : ByteArray} {ml2 : Nat} {rm : Room} {a : Addr} {argsL : List Value} {sf2 out2 : List Addr} {Q2 : Option Value → Heap → Prop} {ps : List FieldType} {r : Option FieldType}
    (hd : decode bs pc = .ok (.invokespecial i, 3)) (w1 : (Jvm.Cond.methodLink y.cls i y2).before a0 Z = true) (w2 : (Jvm.Cond.instanceMethod y2).before a0 Z = true) (wz : (Jvm.Cond.initialized y2.cls).before a0 Z = true) (wc : (Jvm.Cond.code y2 bs2 ml2 none).before a0 Z = true)
    (hsig : parseMethodDescriptor y2.desc = some ⟨ps, r⟩) (hlen : argsL.length = ps.length) (hM : MetO l Z EL y2 bs2 ml2 none [] rm (.ref a :: argsL).toArray h sf2 out2 Q2) (hsub : ∀ x ∈ sf2, x ∈ sf) (hst : st0 = argsL.reverse ++ .ref a :: st) (hsz : Ls.size = ml) (hp : pc + 3 = pc') (hni : y2.name = "<init>") (hy : y2.cls ≠ "java/lang/invoke/MethodHandle" ∧ y2.cls ≠ "java/lang/invoke/VarHandle")
    (hroom : (rm.frames + 1 ≤ R.frames ∧ (st.map fun v => v.category).sum + (ml2 + 11) + rm.locals ≤ R.locals) ∧ k + rm.cells ≤ R.cells ∧ n + rm.slots ≤ R.slots)
    (hr : ∀ v h', Q2 v h' → h.size ≤ h'.size → WlO l Z a0 EL y bs ml rt R as out Q sf h' (k + rm.cells) (n + rm.slots) pc' Ls (v.toList ++ st)) : WlO l Z a0 EL y bs ml rt R as out Q sf h k n pc Ls st0 := by
  subst hp
  exact Wl.call (len := 3) hM wc wz hsub hroom.1.1 hroom.1.2 hroom.2.1 hroom.2.2 (fun p e s m below meth c T vm0 locs hx hby hml hown hZ X eT {Post} hK =>
    X.specialBackS hx (s := s.setVm vm0) hni hown (mvT hZ w1) (mvT hZ w2) (mvT hZ wc) hy hK (g := mkF m pc Ls st0) rfl (by rw [hml]; exact hsz) (Steps.refl _) (a := a) (argsL := argsL) (rest := st) (lenOf hsig hlen) hst (by show 2 * 0 + _ ≤ _; omega) (hb hby hd) (fun _ _ => ⟨rfl, eT, hroom.2.1, hroom.2.2⟩)) (fun _ q => Or.inr q) hr
theorem Wl.specialO (pc' : Nat) {st0 : List Value} {i : Nat} {y2 : MethodName} {bs2 : ByteArray} {ml2 : Nat} {rm : Room} {a : Addr} {argsL : List Value} {sf2 : List Addr} {d : Addr} {Q2 : Option Value → Heap → Prop} {ps : List FieldType} {r : Option FieldType}
    (hd : decode bs pc = .ok (.invokespecial i, 3)) (w1 : (Jvm.Cond.methodLink y.cls i y2).before a0 Z = true) (w2 : (Jvm.Cond.instanceMethod y2).before a0 Z = true) (wz : (Jvm.Cond.initialized y2.cls).before a0 Z = true) (wc : (Jvm.Cond.code y2 bs2 ml2 none).before a0 Z = true)
    (hsig : parseMethodDescriptor y2.desc = some ⟨ps, r⟩) (hlen : argsL.length = ps.length) (hM : MetO l Z EL y2 bs2 ml2 none [] rm (.ref a :: argsL).toArray h sf2 [d] Q2) (hsub : ∀ x ∈ sf2, x ∈ sf) (hst : st0 = argsL.reverse ++ .ref a :: st) (hsz : Ls.size = ml) (hp : pc + 3 = pc') (hni : y2.name = "<init>") (hy : y2.cls ≠ "java/lang/invoke/MethodHandle" ∧ y2.cls ≠ "java/lang/invoke/VarHandle")
    (hroom : (rm.frames + 1 ≤ R.frames ∧ (st.map fun v => v.category).sum + (ml2 + 11) + rm.locals ≤ R.locals) ∧ k + rm.cells ≤ R.cells ∧ n + rm.slots ≤ R.slots)
    (hr : ∀ v h', Q2 v h' → h.size ≤ h'.size → WlO l Z a0 EL y bs ml rt R as out Q (d :: sf) h' (k + rm.cells) (n + rm.slots) pc' Ls (v.toList ++ st)) : WlO l Z a0 EL y bs ml rt R as out Q sf h k n pc Ls st0 := by
  subst hp
  exact Wl.call (len := 3) hM wc wz hsub hroom.1.1 hroom.1.2 hroom.2.1 hroom.2.2 (fun p e s m below meth c T vm0 locs hx hby hml hown hZ X eT {Post} hK =>
    X.specialBackS hx (s := s.setVm vm0) hni hown (mvT hZ w1) (mvT hZ w2) (mvT hZ wc) hy hK (g := mkF m pc Ls st0) rfl (by rw [hml]; exact hsz) (Steps.refl _) (a := a) (argsL := argsL) (rest := st) (lenOf hsig hlen) hst (by show 2 * 0 + _ ≤ _; omega) (hb hby hd) (fun _ _ => ⟨rfl, eT, hroom.2.1, hroom.2.2⟩)) (fun x q => (List.mem_cons.mp q).elim (fun e => Or.inl (e ▸ List.mem_singleton.mpr rfl)) Or.inr) hr
theorem Wl.virtual (pc' : Nat) {st0 : List Value} {i : Nat} {y1 y2 : MethodName} {K : String} {bs2 : ByteArray} {ml2 : Nat} {rt2 : Option FieldType} {rm : Room} {a : Addr} {argsL : List Value} {sf2 out2 : List Addr} {Q2 : Option Value → Heap → Prop} {ps : List FieldType} {r : Option FieldType}
    (hd : decode bs pc = .ok (.invokevirtual i, 3)) (w1 : (Jvm.Cond.methodLink y.cls i y1).before a0 Z = true) (w2 : (Jvm.Cond.declares y1).before a0 Z = true) (w3 : (Jvm.Cond.selects K y1 y2).before a0 Z = true) (w4 : (Jvm.Cond.instanceMethod y2).before a0 Z = true) (wz : (Jvm.Cond.initialized y2.cls).before a0 Z = true) (wc : (Jvm.Cond.code y2 bs2 ml2 rt2).before a0 Z = true) (hnf : ∀ {vm0 : Vm} {s : State}, Z.Warmed39 vm0 → NotFace (s.setVm vm0) y1)
    (hE : Exa Z h a K) (hsig : parseMethodDescriptor y1.desc = some ⟨ps, r⟩) (hlen : argsL.length = ps.length) (hM : MetO l Z EL y2 bs2 ml2 rt2 [] rm (.ref a :: argsL).toArray h sf2 out2 Q2) (hsub : ∀ x ∈ sf2, x ∈ sf) (hst : st0 = argsL.reverse ++ .ref a :: st) (hsz : Ls.size = ml) (hp : pc + 3 = pc') (hy : y1.cls ≠ "java/lang/invoke/MethodHandle" ∧ y1.cls ≠ "java/lang/invoke/VarHandle")
    (hroom : (rm.frames + 1 ≤ R.frames ∧ (st.map fun v => v.category).sum + (ml2 + 11) + rm.locals ≤ R.locals) ∧ k + rm.cells ≤ R.cells ∧ n + rm.slots ≤ R.slots)
    (hr : ∀ v h', Q2 v h' → h.size ≤ h'.size → WlO l Z a0 EL y bs ml rt R as out Q sf h' (k + rm.cells) (n + rm.slots) pc' Ls (v.toList ++ st)) : WlO l Z a0 EL y bs ml rt R as out Q sf h k n pc Ls st0 := by
  subst hp
  refine Wl.call (len := 3) hM wc wz hsub hroom.1.1 hroom.1.2 hroom.2.1 hroom.2.2 (fun p e s m below meth c T vm0 locs hx hby hml hown hZ X eT {Post} hK => ?_) (fun _ q => Or.inr q) hr
  obtain ⟨cB, kB, i1, i2, i3⟩ := isOf (s := s.setVm vm0) hZ eT hE
  exact X.virtualBackS hx (s := s.setVm vm0) hown (mvT hZ w1) (mvT hZ w2) (hnf hZ) (mvT hZ w3) (mvT hZ w4) hy hK i1 i3 (g := mkF m pc Ls st0) rfl (by rw [hml]; exact hsz) (Steps.refl _) (argsL := argsL) (rest := st) (lenOf hsig hlen) hst (by show 2 * 0 + _ ≤ _; omega) (hb hby hd) (fun _ _ => ⟨rfl, eT, hroom.2.1, hroom.2.2⟩)
theorem Wl.virtualO (pc' : Nat) {st0 : List Value} {i : Nat} {y1 y2 : MethodName} {K : String} {bs2 : ByteArray} {ml2 : Nat} {rt2 : Option FieldType} {rm : Room} {a : Addr} {argsL : List Value} {sf2 : List Addr} {d : Addr} {Q2 : Option Value → Heap → Prop} {ps : List FieldType} {r : Option FieldType}
    (hd : decode bs pc = .ok (.invokevirtual i, 3)) (w1 : (Jvm.Cond.methodLink y.cls i y1).before a0 Z = true) (w2 : (Jvm.Cond.declares y1).before a0 Z = true) (w3 : (Jvm.Cond.selects K y1 y2).before a0 Z = true) (w4 : (Jvm.Cond.instanceMethod y2).before a0 Z = true) (wz : (Jvm.Cond.initialized y2.cls).before a0 Z = true) (wc : (Jvm.Cond.code y2 bs2 ml2 rt2).before a0 Z = true) (hnf : ∀ {vm0 : Vm} {s : State}, Z.Warmed39 vm0 → NotFace (s.setVm vm0) y1)
    (hE : Exa Z h a K) (hsig : parseMethodDescriptor y1.desc = some ⟨ps, r⟩) (hlen : argsL.length = ps.length) (hM : MetO l Z EL y2 bs2 ml2 rt2 [] rm (.ref a :: argsL).toArray h sf2 [d] Q2) (hsub : ∀ x ∈ sf2, x ∈ sf) (hst : st0 = argsL.reverse ++ .ref a :: st) (hsz : Ls.size = ml) (hp : pc + 3 = pc') (hy : y1.cls ≠ "java/lang/invoke/MethodHandle" ∧ y1.cls ≠ "java/lang/invoke/VarHandle")
    (hroom : (rm.frames + 1 ≤ R.frames ∧ (st.map fun v => v.category).sum + (ml2 + 11) + rm.locals ≤ R.locals) ∧ k + rm.cells ≤ R.cells ∧ n + rm.slots ≤ R.slots)
    (hr : ∀ v h', Q2 v h' → h.size ≤ h'.size → WlO l Z a0 EL y bs ml rt R as out Q (d :: sf) h' (k + rm.cells) (n + rm.slots) pc' Ls (v.toList ++ st)) : WlO l Z a0 EL y bs ml rt R as out Q sf h k n pc Ls st0 := by
  subst hp
  refine Wl.call (len := 3) hM wc wz hsub hroom.1.1 hroom.1.2 hroom.2.1 hroom.2.2 (fun p e s m below meth c T vm0 locs hx hby hml hown hZ X eT {Post} hK => ?_) (fun x q => (List.mem_cons.mp q).elim (fun e => Or.inl (e ▸ List.mem_singleton.mpr rfl)) Or.inr) hr
  obtain ⟨cB, kB, i1, i2, i3⟩ := isOf (s := s.setVm vm0) hZ eT hE
  exact X.virtualBackS hx (s := s.setVm vm0) hown (mvT hZ w1) (mvT hZ w2) (hnf hZ) (mvT hZ w3) (mvT hZ w4) hy hK i1 i3 (g := mkF m pc Ls st0) rfl (by rw [hml]; exact hsz) (Steps.refl _) (argsL := argsL) (rest := st) (lenOf hsig hlen) hst (by show 2 * 0 + _ ≤ _; omega) (hb hby hd) (fun _ _ => ⟨rfl, eT, hroom.2.1, hroom.2.2⟩)
theorem nf_sel {K : String} {y1 y2 : MethodName} (w : (Jvm.Cond.selects K y1 y2).before a0 Z = true) (e : y1 = y2) : ∀ {vm0 : Vm} {s : State}, Z.Warmed39 vm0 → NotFace (s.setVm vm0) y1 := fun {vm0 s} hZ => by
  subst e; exact notFace_of_selects (args := #[]) (mvT (s := s.setVm vm0) hZ w)
theorem Wl.interface (pc' : Nat) {st0 : List Value} {i cnt : Nat} {y1 y2 : MethodName} {K : String} {bs2 : ByteArray} {ml2 : Nat} {rt2 : Option FieldType} {rm : Room} {a : Addr} {argsL : List Value} {sf2 out2 : List Addr} {Q2 : Option Value → Heap → Prop} {ps : List FieldType} {r : Option FieldType}
    (hd : decode bs pc = .ok (.invokeinterface i cnt, 5)) (w1 : (Jvm.Cond.methodLink y.cls i y1).before a0 Z = true) (w2 : (Jvm.Cond.declares y1).before a0 Z = true) (w3 : ∀ {vm0 : Vm} {s : State}, Z.Warmed39 vm0 → (Jvm.Cond.interfaceMethod y1.cls y1.cls y1.name y1.desc).before as (s.setVm vm0) = true) (w4 : (Jvm.Cond.selects K y1 y2).before a0 Z = true) (w5 : (Jvm.Cond.instanceMethod y2).before a0 Z = true) (w6 : (Jvm.Cond.publicMethod y2).before a0 Z = true) (w7 : (Jvm.Cond.unhidden K y1.name y1.desc).before a0 Z = true) (w8 : (Jvm.Cond.castable K y1.cls).before a0 Z = true) (wz : (Jvm.Cond.initialized y2.cls).before a0 Z = true) (wc : (Jvm.Cond.code y2 bs2 ml2 rt2).before a0 Z = true)
    (hE : Exa Z h a K) (hsig : parseMethodDescriptor y1.desc = some ⟨ps, r⟩) (hlen : argsL.length = ps.length) (hM : MetO l Z EL y2 bs2 ml2 rt2 [] rm (.ref a :: argsL).toArray h sf2 out2 Q2) (hsub : ∀ x ∈ sf2, x ∈ sf) (hst : st0 = argsL.reverse ++ .ref a :: st) (hsz : Ls.size = ml) (hp : pc + 5 = pc') (hy : y1.cls ≠ "java/lang/invoke/MethodHandle" ∧ y1.cls ≠ "java/lang/invoke/VarHandle")
    (hroom : (rm.frames + 1 ≤ R.frames ∧ (st.map fun v => v.category).sum + (ml2 + 11) + rm.locals ≤ R.locals) ∧ k + rm.cells ≤ R.cells ∧ n + rm.slots ≤ R.slots)
    (hr : ∀ v h', Q2 v h' → h.size ≤ h'.size → WlO l Z a0 EL y bs ml rt R as out Q sf h' (k + rm.cells) (n + rm.slots) pc' Ls (v.toList ++ st)) : WlO l Z a0 EL y bs ml rt R as out Q sf h k n pc Ls st0 := by
  subst hp
  refine Wl.call (len := 5) hM wc wz hsub hroom.1.1 hroom.1.2 hroom.2.1 hroom.2.2 (fun p e s m below meth c T vm0 locs hx hby hml hown hZ X eT {Post} hK => ?_) (fun _ q => Or.inr q) hr
  obtain ⟨cB, kB, i1, i2, i3⟩ := isOf (s := s.setVm vm0) hZ eT hE
  exact X.interfaceBackS hx (s := s.setVm vm0) hown (mvT hZ w1) (mvT hZ w2) (w3 hZ) (mvT hZ w4) (mvT hZ w5) (mvT hZ w6) (mvT hZ w7) (mvT hZ w8) hy hK i1 i2 i3 (g := mkF m pc Ls st0) rfl (by rw [hml]; exact hsz) (Steps.refl _) (argsL := argsL) (rest := st) (lenOf hsig hlen) hst (by show 2 * 0 + _ ≤ _; omega) (hb hby hd) (fun _ _ => ⟨rfl, eT, hroom.2.1, hroom.2.2⟩)
theorem Wl.interfaceO (pc' : Nat) {st0 : List Value} {i cnt : Nat} {y1 y2 : MethodName} {K : String} {bs2 : ByteArray} {ml2 : Nat} {rt2 : Option FieldType} {rm : Room} {a : Addr} {argsL : List Value} {sf2 : List Addr} {d : Addr} {Q2 : Option Value → Heap → Prop} {ps : List FieldType} {r : Option FieldType}
    (hd : decode bs pc = .ok (.invokeinterface i cnt, 5)) (w1 : (Jvm.Cond.methodLink y.cls i y1).before a0 Z = true) (w2 : (Jvm.Cond.declares y1).before a0 Z = true) (w3 : ∀ {vm0 : Vm} {s : State}, Z.Warmed39 vm0 → (Jvm.Cond.interfaceMethod y1.cls y1.cls y1.name y1.desc).before as (s.setVm vm0) = true) (w4 : (Jvm.Cond.selects K y1 y2).before a0 Z = true) (w5 : (Jvm.Cond.instanceMethod y2).before a0 Z = true) (w6 : (Jvm.Cond.publicMethod y2).before a0 Z = true) (w7 : (Jvm.Cond.unhidden K y1.name y1.desc).before a0 Z = true) (w8 : (Jvm.Cond.castable K y1.cls).before a0 Z = true) (wz : (Jvm.Cond.initialized y2.cls).before a0 Z = true) (wc : (Jvm.Cond.code y2 bs2 ml2 rt2).before a0 Z = true)
    (hE : Exa Z h a K) (hsig : parseMethodDescriptor y1.desc = some ⟨ps, r⟩) (hlen : argsL.length = ps.length) (hM : MetO l Z EL y2 bs2 ml2 rt2 [] rm (.ref a :: argsL).toArray h sf2 [d] Q2) (hsub : ∀ x ∈ sf2, x ∈ sf) (hst : st0 = argsL.reverse ++ .ref a :: st) (hsz : Ls.size = ml) (hp : pc + 5 = pc') (hy : y1.cls ≠ "java/lang/invoke/MethodHandle" ∧ y1.cls ≠ "java/lang/invoke/VarHandle")
    (hroom : (rm.frames + 1 ≤ R.frames ∧ (st.map fun v => v.category).sum + (ml2 + 11) + rm.locals ≤ R.locals) ∧ k + rm.cells ≤ R.cells ∧ n + rm.slots ≤ R.slots)
    (hr : ∀ v h', Q2 v h' → h.size ≤ h'.size → WlO l Z a0 EL y bs ml rt R as out Q (d :: sf) h' (k + rm.cells) (n + rm.slots) pc' Ls (v.toList ++ st)) : WlO l Z a0 EL y bs ml rt R as out Q sf h k n pc Ls st0 := by
  subst hp
  refine Wl.call (len := 5) hM wc wz hsub hroom.1.1 hroom.1.2 hroom.2.1 hroom.2.2 (fun p e s m below meth c T vm0 locs hx hby hml hown hZ X eT {Post} hK => ?_) (fun x q => (List.mem_cons.mp q).elim (fun e => Or.inl (e ▸ List.mem_singleton.mpr rfl)) Or.inr) hr
  obtain ⟨cB, kB, i1, i2, i3⟩ := isOf (s := s.setVm vm0) hZ eT hE
  exact X.interfaceBackS hx (s := s.setVm vm0) hown (mvT hZ w1) (mvT hZ w2) (w3 hZ) (mvT hZ w4) (mvT hZ w5) (mvT hZ w6) (mvT hZ w7) (mvT hZ w8) hy hK i1 i2 i3 (g := mkF m pc Ls st0) rfl (by rw [hml]; exact hsz) (Steps.refl _) (argsL := argsL) (rest := st) (lenOf hsig hlen) hst (by show 2 * 0 + _ ≤ _; omega) (hb hby hd) (fun _ _ => ⟨rfl, eT, hroom.2.1, hroom.2.2⟩)
/-- invokevirtual of a private method -/
theorem Wl.priv (pc' : Nat) {st0 : List Value} {i : Nat} {y2 : MethodName} {K : String} {bs2 : ByteArray} {ml2 : Nat} {rt2 : Option FieldType} {rm : Room} {a : Addr} {argsL : List Value} {sf2 out2 : List Addr} {Q2 : Option Value → Heap → Prop} {ps : List FieldType} {r : Option FieldType}
    (hd : decode bs pc = .ok (.invokevirtual i, 3)) (w1 : (Jvm.Cond.methodLink y.cls i y2).before a0 Z = true) (w2 : (Jvm.Cond.privateMethod y2).before a0 Z = true) (w3 : (Jvm.Cond.selects K y2 y2).before a0 Z = true) (w4 : (Jvm.Cond.instanceMethod y2).before a0 Z = true) (wz : (Jvm.Cond.initialized y2.cls).before a0 Z = true) (wc : (Jvm.Cond.code y2 bs2 ml2 rt2).before a0 Z = true)
    (hE : Exa Z h a K) (hsig : parseMethodDescriptor y2.desc = some ⟨ps, r⟩) (hlen : argsL.length = ps.length) (hM : MetO l Z EL y2 bs2 ml2 rt2 [] rm (.ref a :: argsL).toArray h sf2 out2 Q2) (hsub : ∀ x ∈ sf2, x ∈ sf) (hst : st0 = argsL.reverse ++ .ref a :: st) (hsz : Ls.size = ml) (hp : pc + 3 = pc') (hy : y2.cls ≠ "java/lang/invoke/MethodHandle" ∧ y2.cls ≠ "java/lang/invoke/VarHandle")
    (hroom : (rm.frames + 1 ≤ R.frames ∧ (st.map fun v => v.category).sum + (ml2 + 11) + rm.locals ≤ R.locals) ∧ k + rm.cells ≤ R.cells ∧ n + rm.slots ≤ R.slots)
    (hr : ∀ v h', Q2 v h' → h.size ≤ h'.size → WlO l Z a0 EL y bs ml rt R as out Q sf h' (k + rm.cells) (n + rm.slots) pc' Ls (v.toList ++ st)) : WlO l Z a0 EL y bs ml rt R as out Q sf h k n pc Ls st0 := by
  subst hp
  refine Wl.call (len := 3) hM wc wz hsub hroom.1.1 hroom.1.2 hroom.2.1 hroom.2.2 (fun p e s m below meth c T vm0 locs hx hby hml hown hZ X eT {Post} hK => ?_) (fun _ q => Or.inr q) hr
  obtain ⟨cB, kB, i1, i2, cell, i3, i4, i5⟩ := isOf (s := s.setVm vm0) hZ eT hE
  obtain ⟨mk, methM, hnamed, hmethM, hstM, habM⟩ := Cond.instanceMethod_spec (mvT (s := s.setVm vm0) (args := as) hZ w4)
  obtain ⟨methM', cM, hmethM', -, -, -, -, -, -, hsigM⟩ := Cond.code_spec hnamed (mvT (s := s.setVm vm0) (args := as) hZ wc)
  cases hmethM.symm.trans hmethM'
  obtain ⟨c2, r2, m2, -, -, q3, -, kP, hkP, hkPi⟩ := Cond.selects_spec (mvT (s := s.setVm vm0) (args := as) hZ w3)
  cases hnamed.symm.trans q3
  have hselP : selectMethod e.platform (s.setVm vm0).vm cell.cls mk = .method mk := selectMethod_private hmethM (Cond.privateMethod_at (mvP (s := s.setVm vm0) (args := as) hZ w2) mk methM hnamed hmethM)
  obtain ⟨vm₁, X₁, hstep₁⟩ := X.invokevirtual hx hown (mvT hZ w1) hnamed hmethM hstM hkP hkPi hy (a := a) (cell := cell) i3 (fun z h => by rw [h] at i5; cases i5) hselP hmethM habM hkP hkPi (g := mkF m pc Ls st0) rfl (argsL := argsL) (rest := st) (lenOf hsig hlen _ hsigM) hst (hb hby hd)
  obtain ⟨v, B, X', hS, hgr, hpost, hsteps⟩ := hK m meth c ⟨T.setVm vm₁, locs, k, n⟩ { mkF m pc Ls st0 with stack := st } (.invokevirtual i) mk (.ref a :: argsL).toArray X₁ rfl (by show Ls.size = c.maxLocals; rw [hml]; exact hsz) (hb hby hd) (by show 2 * 0 + (st.map fun v => v.category).sum ≤ (st.map fun v => v.category).sum; omega) (X₁.named hnamed) ⟨rfl, eT, hroom.2.1, hroom.2.2⟩
  exact ⟨v, vm₁, B, X₁.warmed, X', hS, hgr, hpost, (hstep₁ _ fun acts => by rw [doInvoke_state]; exact Steps.refl _).trans hsteps⟩
/-- invokespecial of the superclass's method -/
theorem Wl.up (pc' : Nat) {st0 : List Value} {i : Nat} {y2 : MethodName} {K : String} {bs2 : ByteArray} {ml2 : Nat} {rt2 : Option FieldType} {rm : Room} {a : Addr} {argsL : List Value} {sf2 out2 : List Addr} {Q2 : Option Value → Heap → Prop} {ps : List FieldType} {r : Option FieldType}
    (hd : decode bs pc = .ok (.invokespecial i, 3)) (w1 : (Jvm.Cond.methodLink y.cls i y2).before a0 Z = true) (w2 : (Jvm.Cond.sameMethod y2.cls y2.cls y2.name y2.desc).before a0 Z = true) (w3 : (Jvm.Cond.instanceMethod y2).before a0 Z = true) (w4 : (Jvm.Cond.superclass y.cls y2.cls).before a0 Z = true) (wz : (Jvm.Cond.initialized y2.cls).before a0 Z = true) (wc : (Jvm.Cond.code y2 bs2 ml2 rt2).before a0 Z = true)
    (hE : Exa Z h a K) (hsig : parseMethodDescriptor y2.desc = some ⟨ps, r⟩) (hlen : argsL.length = ps.length) (hM : MetO l Z EL y2 bs2 ml2 rt2 [] rm (.ref a :: argsL).toArray h sf2 out2 Q2) (hsub : ∀ x ∈ sf2, x ∈ sf) (hst : st0 = argsL.reverse ++ .ref a :: st) (hsz : Ls.size = ml) (hp : pc + 3 = pc') (hni : y2.name ≠ "<init>")
    (hroom : (rm.frames + 1 ≤ R.frames ∧ (st.map fun v => v.category).sum + (ml2 + 11) + rm.locals ≤ R.locals) ∧ k + rm.cells ≤ R.cells ∧ n + rm.slots ≤ R.slots)
    (hr : ∀ v h', Q2 v h' → h.size ≤ h'.size → WlO l Z a0 EL y bs ml rt R as out Q sf h' (k + rm.cells) (n + rm.slots) pc' Ls (v.toList ++ st)) : WlO l Z a0 EL y bs ml rt R as out Q sf h k n pc Ls st0 := by
  subst hp
  refine Wl.call (len := 3) hM wc wz hsub hroom.1.1 hroom.1.2 hroom.2.1 hroom.2.2 (fun p e s m below meth c T vm0 locs hx hby hml hown hZ X eT {Post} hK => ?_) (fun _ q => Or.inr q) hr
  exact superBackS X hx (s := s.setVm vm0) hZ hown w1 w2 w3 w4 hni hK eT (Ins.self hE) (g := mkF m pc Ls st0) rfl (by rw [hml]; exact hsz) wc (argsL := argsL) (rest := st) (lenOf hsig hlen) hst (by show 2 * 0 + _ ≤ _; omega) (hb hby hd) (fun _ _ => ⟨rfl, eT, hroom.2.1, hroom.2.2⟩)
/-- a class that declares y and is seen as no interface elsewhere -/
theorem nf_cls {K : String} {y1 y2 : MethodName} (wd : (Jvm.Cond.declares y1).before a0 Z = true) (w : (Jvm.Cond.selects K y2 y2).before a0 Z = true) (e : y2.cls = y1.cls) : ∀ {vm0 : Vm} {s : State}, Z.Warmed39 vm0 → NotFace (s.setVm vm0) y1 := fun {vm0 s} hZ r0 h0 => by
  obtain ⟨c2, r2, m2, q1, q2, q3, q4, kP, hkP, hkPi⟩ := Cond.selects_spec (mvT (s := s.setVm vm0) (args := #[]) hZ w)
  have hc0 := findClass_of_methodNamed h0
  have hc1 := findClass_of_methodNamed q3
  rw [e] at hc1
  have q := Option.some.inj (hc0.symm.trans hc1)
  exact ⟨kP, by rw [q]; exact hkP, hkPi⟩
/-- a String constant of the pool, read -/
theorem Wl.ldcS (pc' : Nat) {i : Nat} {text : String} {vs : List Value} {z : Int32} (cap : Nat) (hd : decode bs pc = .ok (.ldc i, 2)) (w : (Jvm.Cond.stringLink y.cls i text).before a0 Z = true) (wS : ∀ a ∈ Bundle.stringAtoms, a.before a0 Z = true) (hmem : (y.cls, i) ∈ EL)
    (ht : (∀ c ∈ text.toList, c.toNat < 256) ∧ text.toList.map (fun c => Value.int (Jvm.Lit.byteI c.toNat.toUInt16)) = vs) (hz : ¬ z < 0) (hl : z.toNatClampNeg = vs.length) (hn : 4 * text.toList.length ≤ cap) (hbig : cap ≤ 536870912) (hc : k + 2 ≤ R.cells) (hl' : n + (cap + 4) ≤ R.slots)
    (hr : ∀ (a : Addr) (h' : Heap) (b : Addr) (kc : ClassId), Ext h h' → Exa Z h' a "java/lang/String" → Fld Z h' a "java/lang/String" "coder" "B" (.int 0) → Fld Z h' a "java/lang/String" "value" "[B" (.ref b) → Arv Z h' b kc .byte z vs (.int 0) → (∀ x ∈ sf, x ≠ a ∧ x ≠ b) → WlO l Z a0 EL y bs ml rt R as out Q sf h' (k + 2) (n + (cap + 4)) pc' Ls (.ref a :: st)) (hp : pc + 2 = pc' := by rfl) : WlO l Z a0 EL y bs ml rt R as out Q sf h k n pc Ls st := by
  subst hp
  intro p e s m below meth c T W
  obtain ⟨A, vm0, locs, k0, X, eT, hS, hk, hF, hZ, hC, hM, hH⟩ := W
  obtain ⟨a, T', h', k1, b, kc, X', e', E, hS', hk', hZ', hown', r1, r2, r3, r4, r5, r6, hC', r7, r8, stp⟩ := ldcCH X A.1 hZ (by rw [hS.1.alike.findClass]; exact A.2.2.2.2.2.2.1) w wS eT hS hk A.2.2.2.2.2.2.2.1 hmem hC.1 ht hz hl (g := mkF m pc Ls st) rfl (hb A.2.1 hd) hn hbig hc hl'
  exact Go.of stp (hr a h' b kc E r1 r2 r3 r4 (fun x hx => r8 x ((hM.chr hC') x hx).1) p e s m below meth c T' ⟨A, T'.vm, locs, k1, X', e', hS', hk', hF, hZ', hC.trans hC', hM.chr hC', fun q => by rw [q] at hmem; cases hmem⟩)
end OwnKit

/-! own small facts on ints, chars, lists and heaps -/
section OwnNums
theorem extTr {h h1 h2 : Heap} (A : Ext h h1) (B : Ext h1 h2) : Ext h h2 := ⟨Nat.le_trans A.1 B.1, fun a c q => B.2 a c (A.2 a c q)⟩
theorem ext_rfl (h : Heap) : Ext h h := ⟨Nat.le_refl _, fun _ _ q => q⟩
theorem extKeep {h h1 h2 : Heap} {ws : List Addr} (A : Ext h h1) (K : Keep h1 h2 ws) (q : ∀ x ∈ ws, h.size ≤ x) : Ext h h2 :=
  ⟨Nat.le_trans A.1 K.1, fun a c r => K.2.1 a c (A.2 a c r) fun z => absurd (Array.getElem?_eq_some_iff.mp r).1 (Nat.not_lt.mpr (q a z))⟩
theorem extWr {h h1 h2 : Heap} {a : Addr} {sl : Nat} {v : Value} (A : Ext h h1) (W : Wr h1 h2 a sl v) (q : h.size ≤ a) : Ext h h2 := extKeep A (Keep.of_wr W) (allS q all0)
/-- a char; a char below 256 -/
abbrev Ch (x : Int32) : Prop := 0 ≤ x.toInt ∧ x.toInt < 65536
abbrev Lat (x : Int32) : Prop := 0 ≤ x.toInt ∧ x.toInt < 256
theorem Lat.ch {x : Int32} (q : Lat x) : Ch x := ⟨q.1, by have := q.2; omega⟩
theorem i2c_ch (x : Int32) : Ch x.toUInt32.toUInt16.toUInt32.toInt32 := (c_i2c x).2
theorem i2c_id {x : Int32} (q : Ch x) : x.toUInt32.toUInt16.toUInt32.toInt32 = x := by
  have h := c_i2c x
  apply Int32.toInt_inj.mp
  have := q.1; have := q.2
  omega
theorem nar_ch {x : Int32} (q : Ch x) : nar .char x = x := i2c_id q
theorem mask_lat (x : Int32) : Lat (x &&& 255) := by
  have h := c_and x 255 (by decide)
  have e : (255 : Int32).toInt = 255 := by decide
  exact ⟨h.1, by have := h.2; omega⟩
theorem i2c_mask_lat (x : Int32) : Lat ((x &&& 255).toUInt32.toUInt16.toUInt32.toInt32) := by rw [i2c_id (mask_lat x).ch]; exact mask_lat x
theorem i2b_id (x : Int32) : x.toInt8.toInt32.toInt8.toInt32 = x.toInt8.toInt32 := by simp
/-- small nats as ints -/
theorem nI {i : Nat} (hi : i < 2147483648) : (Int32.ofNat i).toInt = i := Int32.toInt_ofNat_small hi
theorem nCl {i : Nat} (hi : i < 2147483648) : (Int32.ofNat i).toNatClampNeg = i := by rw [Int32.toNatClampNeg, nI hi]; simp
theorem nNn {i : Nat} (hi : i < 2147483648) : ¬ Int32.ofNat i < 0 := by rw [Int32.lt_iff_toInt_lt, nI hi]; simp
theorem nLt {i j : Nat} (hi : i < 2147483648) (hj : j < 2147483648) : Int32.ofNat i < Int32.ofNat j ↔ i < j := by rw [Int32.lt_iff_toInt_lt, nI hi, nI hj]; omega
theorem nEq {i j : Nat} (hi : i < 2147483648) (hj : j < 2147483648) : Int32.ofNat i = Int32.ofNat j ↔ i = j := by rw [← Int32.toInt_inj, nI hi, nI hj]; omega
theorem nS (i : Nat) : Int32.ofNat i + 1 = Int32.ofNat (i + 1) := by simp [Int32.ofNat_add]
theorem nAdd (i j : Nat) : Int32.ofNat i + Int32.ofNat j = Int32.ofNat (i + j) := by simp [Int32.ofNat_add]
theorem nSub {i j : Nat} (hj : j ≤ i) (hi : i < 2147483648) : Int32.ofNat i - Int32.ofNat j = Int32.ofNat (i - j) := by
  apply Int32.toInt_inj.mp
  have h := c_isub (Int32.ofNat i) (Int32.ofNat j)
  have r := rng32 (Int32.ofNat i - Int32.ofNat j)
  rw [nI hi, nI (by omega)] at h
  rw [nI (by omega)]
  omega
/-- a byte read back -/
theorem lo8 {c : Int32} (q : Lat c) : c.toInt8.toInt32 &&& 255 = c := by
  apply Int32.toInt_inj.mp
  have h1 := c_mask c.toInt8.toInt32 255 8 (by decide) (by decide)
  have h2 := c_i2b c
  have := q.1; have := q.2
  omega
theorem lat_le {c : Int32} (q : Lat c) : ¬ (255 : Int32) < c := by
  rw [Int32.lt_iff_toInt_lt]
  have e : (255 : Int32).toInt = 255 := by decide
  have := q.2; omega
def byV (c : Int32) : Value := .int c.toInt8.toInt32
/-- a list filled from the left -/
def fil {α : Type} (xs : List α) (z : α) (i : Nat) : List α := xs.take i ++ List.replicate (xs.length - i) z
theorem fil_len {α : Type} (xs : List α) (z : α) (i : Nat) (hi : i ≤ xs.length) : (fil xs z i).length = xs.length := by simp [fil]; omega
theorem fil_zero {α : Type} (xs : List α) (z : α) : fil xs z 0 = List.replicate xs.length z := by simp [fil]
theorem fil_all {α : Type} (xs : List α) (z : α) : fil xs z xs.length = xs := by simp [fil]
theorem fil_set {α : Type} (xs : List α) (z v : α) (i : Nat) (hi : i < xs.length) (hv : xs[i] = v) : (fil xs z i).set i v = fil xs z (i + 1) := by
  subst hv
  apply List.ext_getElem?
  intro j
  simp only [fil, List.getElem?_set, List.getElem?_append, List.length_take, List.getElem?_take, List.getElem?_replicate, List.length_append, List.length_replicate]
  rw [show min i xs.length = i by omega, show min (i + 1) xs.length = i + 1 by omega]
  by_cases h1 : i = j
  · subst h1
    rw [if_pos rfl, if_pos (by omega), if_pos (by omega), if_pos (by omega)]
    exact (List.getElem?_eq_getElem hi).symm
  · rw [if_neg h1]
    by_cases h2 : j < i
    · rw [if_pos h2, if_pos h2, if_pos (by omega), if_pos (by omega)]
    · rw [if_neg h2, if_neg (show ¬ j < i + 1 by omega)]
      by_cases h3 : j - i < xs.length - i
      · rw [if_pos h3, if_pos (by omega)]
      · rw [if_neg h3, if_neg (by omega)]
theorem narC {x : Int32} (q : Ch x) : narrow .char (.int x) = .int x := by have := Jvm.Free.XT.narrow_c x; rwa [i2c_id q] at this
theorem ref_cat {v : Value} (r : v.isRef = true) : v.category = 1 := by cases v <;> first | rfl | (simp [Value.isRef] at r)
theorem latNn {c : Int32} (q : Lat c) : ¬ c < 0 := by
  rw [Int32.lt_iff_toInt_lt, show (0 : Int32).toInt = 0 by decide]
  have := q.1
  omega
theorem small30 {n : Nat} (h : n < 1048576) : Int32.ofNat n < 1073741823 := by
  rw [Int32.lt_iff_toInt_lt, nI (by omega), show (1073741823 : Int32).toInt = 1073741823 by decide]
  omega
end OwnNums
/-! a Latin-1 String: its chars -/
def Stl (Z : State) (h : Heap) (a : Addr) (cs : List Int32) : Prop :=
  ∃ (b : Addr) (kb : ClassId), Exa Z h a "java/lang/String" ∧ Fld Z h a "java/lang/String" "coder" "B" (.int 0) ∧ Fld Z h a "java/lang/String" "value" "[B" (.ref b) ∧ Arv Z h b kb .byte (Int32.ofNat cs.length) (cs.map byV) (.int 0) ∧ (∀ c ∈ cs, Lat c) ∧ cs.length < 65536
theorem Stl.ext {Z : State} {h h' : Heap} {a : Addr} {cs : List Int32} (S : Stl Z h a cs) (E : Ext h h') : Stl Z h' a cs := by
  obtain ⟨b, kb, h1, h2, h3, h4, r⟩ := S
  exact ⟨b, kb, h1.ext E, h2.ext E, h3.ext E, h4.ext E, r⟩
theorem Stl.exa {Z : State} {h : Heap} {a : Addr} {cs : List Int32} (S : Stl Z h a cs) : Exa Z h a "java/lang/String" := by obtain ⟨b, kb, h1, -⟩ := S; exact h1
/-- a char[] that holds cs -/
def Cha (Z : State) (h : Heap) (b : Addr) (cs : List Int32) : Prop := ∃ kb, Arv Z h b kb .char (Int32.ofNat cs.length) (cs.map Value.int) (.int 0)
theorem Cha.ext {Z : State} {h h' : Heap} {a : Addr} {cs : List Int32} (S : Cha Z h a cs) (E : Ext h h') : Cha Z h' a cs := by obtain ⟨k, A⟩ := S; exact ⟨k, A.ext E⟩
/-- compact strings are on -/
def CSon (Z : State) : Prop := ∃ c : Int32, Sta Z Z.heap "java/lang/String" "COMPACT_STRINGS" "Z" (.int c) ∧ c ≠ 0
theorem nle {n m : Nat} (h : Nat.ble n m = true) : n ≤ m := Nat.le_of_ble_eq_true h
theorem narO {v : Value} {s : String} (r : v.isRef = true) : narrow (.object s) v = v := by cases v <;> first | rfl | (simp [Value.isRef] at r)
theorem fitO {v : Value} {s : String} (r : v.isRef = true) : fits (.object s) v = true := by cases v <;> first | rfl | (simp [Value.isRef] at r)
theorem latN : ∀ c ∈ ([] : List Int32), Lat c := fun _ q => nomatch q
theorem latC {x : Int32} {xs : List Int32} (p : Lat x) (r : ∀ c ∈ xs, Lat c) : ∀ c ∈ x :: xs, Lat c := fun c q => (List.mem_cons.mp q).elim (fun e => e ▸ p) (r c)

theorem pn_str : plainName "java/lang/String" = true := by first | (simp [plainName, overriddenIn]; done) | decide +kernel
section Words
variable {Z : State} {a0 : Array Value}
theorem w0 (hw : ∀ d ∈ tables_1, d.before a0 Z = true) : (Jvm.Cond.methodLink "com/example/portunus/portunus/LockKeysLockKeyPinLaw" (28 : Nat) ({ cls := "com/example/portunus/portunus/LockKeysLockKeyPinLaw", name := "pc", desc := "(I)C" } : Jvm.MethodName)).before a0 Z = true := hw _ (List.mem_of_getElem? (i := 0) rfl)
theorem w1 (hw : ∀ d ∈ tables_1, d.before a0 Z = true) : (Jvm.Cond.static ({ cls := "com/example/portunus/portunus/LockKeysLockKeyPinLaw", name := "pc", desc := "(I)C" } : Jvm.MethodName)).before a0 Z = true := hw _ (List.mem_of_getElem? (i := 1) rfl)
theorem w2 (hw : ∀ d ∈ tables_1, d.before a0 Z = true) : (Jvm.Cond.initialized "com/example/portunus/portunus/LockKeysLockKeyPinLaw").before a0 Z = true := hw _ (List.mem_of_getElem? (i := 2) rfl)
theorem w3 (hw : ∀ d ∈ tables_1, d.before a0 Z = true) : (Jvm.Cond.code ({ cls := "com/example/portunus/portunus/LockKeysLockKeyPinLaw", name := "pc", desc := "(I)C" } : Jvm.MethodName) method_2_code (2 : Nat) (Option.some Jvm.ClassFile.FieldType.char)).before a0 Z = true := hw _ (List.mem_of_getElem? (i := 3) rfl)
theorem w4 (hw : ∀ d ∈ tables_1, d.before a0 Z = true) : (Jvm.Cond.methodLink "com/example/portunus/portunus/LockKeysLockKeyPinLaw" (31 : Nat) ({ cls := "com/example/portunus/portunus/LockKeysLockKeyPinLaw", name := "mk", desc := "(ICCC)Ljava/lang/String;" } : Jvm.MethodName)).before a0 Z = true := hw _ (List.mem_of_getElem? (i := 4) rfl)
theorem w5 (hw : ∀ d ∈ tables_1, d.before a0 Z = true) : (Jvm.Cond.static ({ cls := "com/example/portunus/portunus/LockKeysLockKeyPinLaw", name := "mk", desc := "(ICCC)Ljava/lang/String;" } : Jvm.MethodName)).before a0 Z = true := hw _ (List.mem_of_getElem? (i := 5) rfl)
theorem w6 (hw : ∀ d ∈ tables_1, d.before a0 Z = true) : (Jvm.Cond.code ({ cls := "com/example/portunus/portunus/LockKeysLockKeyPinLaw", name := "mk", desc := "(ICCC)Ljava/lang/String;" } : Jvm.MethodName) method_3_code (4 : Nat) (Option.some (Jvm.ClassFile.FieldType.object "java/lang/String"))).before a0 Z = true := hw _ (List.mem_of_getElem? (i := 6) rfl)
theorem w7 (hw : ∀ d ∈ tables_1, d.before a0 Z = true) : (Jvm.Cond.classLink "com/example/portunus/portunus/LockKeysLockKeyPinLaw" (7 : Nat) "java/lang/String").before a0 Z = true := hw _ (List.mem_of_getElem? (i := 7) rfl)
theorem w8 (hw : ∀ d ∈ tables_1, d.before a0 Z = true) : (Jvm.Cond.instantiable "java/lang/String" (4 : Nat)).before a0 Z = true := hw _ (List.mem_of_getElem? (i := 8) rfl)
theorem w9 (hw : ∀ d ∈ tables_1, d.before a0 Z = true) : (Jvm.Cond.initialized "java/lang/String").before a0 Z = true := hw _ (List.mem_of_getElem? (i := 9) rfl)
theorem w10 (hw : ∀ d ∈ tables_1, d.before a0 Z = true) : (Jvm.Cond.arrayClass Jvm.ClassFile.FieldType.char).before a0 Z = true := hw _ (List.mem_of_getElem? (i := 10) rfl)
theorem w11 (hw : ∀ d ∈ tables_1, d.before a0 Z = true) : (Jvm.Cond.methodLink "com/example/portunus/portunus/LockKeysLockKeyPinLaw" (9 : Nat) ({ cls := "java/lang/String", name := "<init>", desc := "([C)V" } : Jvm.MethodName)).before a0 Z = true := hw _ (List.mem_of_getElem? (i := 11) rfl)
theorem w12 (hw : ∀ d ∈ tables_1, d.before a0 Z = true) : (Jvm.Cond.instanceMethod ({ cls := "java/lang/String", name := "<init>", desc := "([C)V" } : Jvm.MethodName)).before a0 Z = true := hw _ (List.mem_of_getElem? (i := 12) rfl)
theorem w13 (hw : ∀ d ∈ tables_1, d.before a0 Z = true) : (Jvm.Cond.code ({ cls := "java/lang/String", name := "<init>", desc := "([C)V" } : Jvm.MethodName) jdk_42_method_3_code (2 : Nat) (Option.none : Option Jvm.ClassFile.FieldType)).before a0 Z = true := hw _ (List.mem_of_getElem? (i := 13) rfl)
theorem w14 (hw : ∀ d ∈ tables_1, d.before a0 Z = true) : (Jvm.Cond.methodLink "java/lang/String" (27 : Nat) ({ cls := "java/lang/String", name := "<init>", desc := "([CIILjava/lang/Void;)V" } : Jvm.MethodName)).before a0 Z = true := hw _ (List.mem_of_getElem? (i := 14) rfl)
theorem w15 (hw : ∀ d ∈ tables_1, d.before a0 Z = true) : (Jvm.Cond.instanceMethod ({ cls := "java/lang/String", name := "<init>", desc := "([CIILjava/lang/Void;)V" } : Jvm.MethodName)).before a0 Z = true := hw _ (List.mem_of_getElem? (i := 15) rfl)
theorem w17 (hw : ∀ d ∈ tables_1, d.before a0 Z = true) : (Jvm.Cond.code ({ cls := "java/lang/String", name := "<init>", desc := "([CIILjava/lang/Void;)V" } : Jvm.MethodName) jdk_42_method_149_code (6 : Nat) (Option.none : Option Jvm.ClassFile.FieldType)).before a0 Z = true := hw _ (List.mem_of_getElem? (i := 17) rfl)
theorem w18 (hw : ∀ d ∈ tables_1, d.before a0 Z = true) : (Jvm.Cond.methodLink "java/lang/String" (1 : Nat) ({ cls := "java/lang/Object", name := "<init>", desc := "()V" } : Jvm.MethodName)).before a0 Z = true := hw _ (List.mem_of_getElem? (i := 18) rfl)
theorem w19 (hw : ∀ d ∈ tables_1, d.before a0 Z = true) : (Jvm.Cond.instanceMethod ({ cls := "java/lang/Object", name := "<init>", desc := "()V" } : Jvm.MethodName)).before a0 Z = true := hw _ (List.mem_of_getElem? (i := 19) rfl)
theorem w20 (hw : ∀ d ∈ tables_1, d.before a0 Z = true) : (Jvm.Cond.code ({ cls := "java/lang/Object", name := "<init>", desc := "()V" } : Jvm.MethodName) object_method_1_code (1 : Nat) (Option.none : Option Jvm.ClassFile.FieldType)).before a0 Z = true := hw _ (List.mem_of_getElem? (i := 20) rfl)
theorem w21 (hw : ∀ d ∈ tables_1, d.before a0 Z = true) : (Jvm.Cond.fieldLink "java/lang/String" (38 : Nat) "java/lang/String" "COMPACT_STRINGS" "Z").before a0 Z = true := hw _ (List.mem_of_getElem? (i := 21) rfl)
theorem w22 (hw : ∀ d ∈ tables_1, d.before a0 Z = true) : (Jvm.Cond.methodLink "java/lang/String" (177 : Nat) ({ cls := "java/lang/StringUTF16", name := "compress", desc := "([CII)[B" } : Jvm.MethodName)).before a0 Z = true := hw _ (List.mem_of_getElem? (i := 22) rfl)
theorem w23 (hw : ∀ d ∈ tables_1, d.before a0 Z = true) : (Jvm.Cond.static ({ cls := "java/lang/StringUTF16", name := "compress", desc := "([CII)[B" } : Jvm.MethodName)).before a0 Z = true := hw _ (List.mem_of_getElem? (i := 23) rfl)
theorem w24 (hw : ∀ d ∈ tables_1, d.before a0 Z = true) : (Jvm.Cond.initialized "java/lang/StringUTF16").before a0 Z = true := hw _ (List.mem_of_getElem? (i := 24) rfl)
theorem w25 (hw : ∀ d ∈ tables_1, d.before a0 Z = true) : (Jvm.Cond.code ({ cls := "java/lang/StringUTF16", name := "compress", desc := "([CII)[B" } : Jvm.MethodName) jdk_52_method_16_code (6 : Nat) (Option.some (Jvm.ClassFile.FieldType.array Jvm.ClassFile.FieldType.byte))).before a0 Z = true := hw _ (List.mem_of_getElem? (i := 25) rfl)
theorem w26 (hw : ∀ d ∈ tables_1, d.before a0 Z = true) : (Jvm.Cond.arrayClass Jvm.ClassFile.FieldType.byte).before a0 Z = true := hw _ (List.mem_of_getElem? (i := 26) rfl)
theorem w27 (hw : ∀ d ∈ tables_1, d.before a0 Z = true) : (Jvm.Cond.methodLink "java/lang/StringUTF16" (115 : Nat) ({ cls := "java/lang/StringUTF16", name := "compress", desc := "([CI[BII)I" } : Jvm.MethodName)).before a0 Z = true := hw _ (List.mem_of_getElem? (i := 27) rfl)
theorem w28 (hw : ∀ d ∈ tables_1, d.before a0 Z = true) : (Jvm.Cond.static ({ cls := "java/lang/StringUTF16", name := "compress", desc := "([CI[BII)I" } : Jvm.MethodName)).before a0 Z = true := hw _ (List.mem_of_getElem? (i := 28) rfl)
theorem w29 (hw : ∀ d ∈ tables_1, d.before a0 Z = true) : (Jvm.Cond.code ({ cls := "java/lang/StringUTF16", name := "compress", desc := "([CI[BII)I" } : Jvm.MethodName) jdk_52_method_21_code (7 : Nat) (Option.some Jvm.ClassFile.FieldType.int)).before a0 Z = true := hw _ (List.mem_of_getElem? (i := 29) rfl)
theorem w30 (hw : ∀ d ∈ tables_1, d.before a0 Z = true) : (Jvm.Cond.methodLink "java/lang/String" (47 : Nat) ({ cls := "java/lang/StringUTF16", name := "coderFromArrayLen", desc := "([BI)B" } : Jvm.MethodName)).before a0 Z = true := hw _ (List.mem_of_getElem? (i := 30) rfl)
theorem w31 (hw : ∀ d ∈ tables_1, d.before a0 Z = true) : (Jvm.Cond.static ({ cls := "java/lang/StringUTF16", name := "coderFromArrayLen", desc := "([BI)B" } : Jvm.MethodName)).before a0 Z = true := hw _ (List.mem_of_getElem? (i := 31) rfl)
theorem w32 (hw : ∀ d ∈ tables_1, d.before a0 Z = true) : (Jvm.Cond.code ({ cls := "java/lang/StringUTF16", name := "coderFromArrayLen", desc := "([BI)B" } : Jvm.MethodName) jdk_52_method_15_code (2 : Nat) (Option.some Jvm.ClassFile.FieldType.byte)).before a0 Z = true := hw _ (List.mem_of_getElem? (i := 32) rfl)
theorem w33 (hw : ∀ d ∈ tables_1, d.before a0 Z = true) : (Jvm.Cond.fieldLink "java/lang/String" (15 : Nat) "java/lang/String" "coder" "B").before a0 Z = true := hw _ (List.mem_of_getElem? (i := 33) rfl)
theorem w34 (hw : ∀ d ∈ tables_1, d.before a0 Z = true) : (Jvm.Cond.laysFinal "java/lang/String" "java/lang/String" "coder" "B").before a0 Z = true := hw _ (List.mem_of_getElem? (i := 34) rfl)
theorem w35 (hw : ∀ d ∈ tables_1, d.before a0 Z = true) : (Jvm.Cond.fieldLink "java/lang/String" (9 : Nat) "java/lang/String" "value" "[B").before a0 Z = true := hw _ (List.mem_of_getElem? (i := 35) rfl)
theorem w36 (hw : ∀ d ∈ tables_1, d.before a0 Z = true) : (Jvm.Cond.laysFinal "java/lang/String" "java/lang/String" "value" "[B").before a0 Z = true := hw _ (List.mem_of_getElem? (i := 36) rfl)
theorem w37 (hw : ∀ d ∈ tables_1, d.before a0 Z = true) : (Jvm.Cond.methodLink "com/example/portunus/portunus/LockKeysLockKeyPinLaw" (12 : Nat) ({ cls := "java/lang/String", name := "valueOf", desc := "(C)Ljava/lang/String;" } : Jvm.MethodName)).before a0 Z = true := hw _ (List.mem_of_getElem? (i := 37) rfl)
theorem w38 (hw : ∀ d ∈ tables_1, d.before a0 Z = true) : (Jvm.Cond.static ({ cls := "java/lang/String", name := "valueOf", desc := "(C)Ljava/lang/String;" } : Jvm.MethodName)).before a0 Z = true := hw _ (List.mem_of_getElem? (i := 38) rfl)
theorem w39 (hw : ∀ d ∈ tables_1, d.before a0 Z = true) : (Jvm.Cond.code ({ cls := "java/lang/String", name := "valueOf", desc := "(C)Ljava/lang/String;" } : Jvm.MethodName) jdk_42_method_139_code (1 : Nat) (Option.some (Jvm.ClassFile.FieldType.object "java/lang/String"))).before a0 Z = true := hw _ (List.mem_of_getElem? (i := 39) rfl)
theorem w40 (hw : ∀ d ∈ tables_1, d.before a0 Z = true) : (Jvm.Cond.methodLink "java/lang/String" (1015 : Nat) ({ cls := "java/lang/StringLatin1", name := "canEncode", desc := "(C)Z" } : Jvm.MethodName)).before a0 Z = true := hw _ (List.mem_of_getElem? (i := 40) rfl)
theorem w41 (hw : ∀ d ∈ tables_1, d.before a0 Z = true) : (Jvm.Cond.static ({ cls := "java/lang/StringLatin1", name := "canEncode", desc := "(C)Z" } : Jvm.MethodName)).before a0 Z = true := hw _ (List.mem_of_getElem? (i := 41) rfl)
theorem w42 (hw : ∀ d ∈ tables_1, d.before a0 Z = true) : (Jvm.Cond.initialized "java/lang/StringLatin1").before a0 Z = true := hw _ (List.mem_of_getElem? (i := 42) rfl)
theorem w43 (hw : ∀ d ∈ tables_1, d.before a0 Z = true) : (Jvm.Cond.code ({ cls := "java/lang/StringLatin1", name := "canEncode", desc := "(C)Z" } : Jvm.MethodName) jdk_43_method_3_code (1 : Nat) (Option.some Jvm.ClassFile.FieldType.boolean)).before a0 Z = true := hw _ (List.mem_of_getElem? (i := 43) rfl)
theorem w44 (hw : ∀ d ∈ tables_1, d.before a0 Z = true) : (Jvm.Cond.classLink "java/lang/String" (10 : Nat) "java/lang/String").before a0 Z = true := hw _ (List.mem_of_getElem? (i := 44) rfl)
theorem w45 (hw : ∀ d ∈ tables_1, d.before a0 Z = true) : (Jvm.Cond.methodLink "java/lang/String" (1018 : Nat) ({ cls := "java/lang/StringLatin1", name := "toBytes", desc := "(C)[B" } : Jvm.MethodName)).before a0 Z = true := hw _ (List.mem_of_getElem? (i := 45) rfl)
theorem w46 (hw : ∀ d ∈ tables_1, d.before a0 Z = true) : (Jvm.Cond.static ({ cls := "java/lang/StringLatin1", name := "toBytes", desc := "(C)[B" } : Jvm.MethodName)).before a0 Z = true := hw _ (List.mem_of_getElem? (i := 46) rfl)
theorem w47 (hw : ∀ d ∈ tables_1, d.before a0 Z = true) : (Jvm.Cond.code ({ cls := "java/lang/StringLatin1", name := "toBytes", desc := "(C)[B" } : Jvm.MethodName) jdk_43_method_46_code (1 : Nat) (Option.some (Jvm.ClassFile.FieldType.array Jvm.ClassFile.FieldType.byte))).before a0 Z = true := hw _ (List.mem_of_getElem? (i := 47) rfl)
theorem w48 (hw : ∀ d ∈ tables_1, d.before a0 Z = true) : (Jvm.Cond.methodLink "java/lang/String" (209 : Nat) ({ cls := "java/lang/String", name := "<init>", desc := "([BB)V" } : Jvm.MethodName)).before a0 Z = true := hw _ (List.mem_of_getElem? (i := 48) rfl)
theorem w49 (hw : ∀ d ∈ tables_1, d.before a0 Z = true) : (Jvm.Cond.instanceMethod ({ cls := "java/lang/String", name := "<init>", desc := "([BB)V" } : Jvm.MethodName)).before a0 Z = true := hw _ (List.mem_of_getElem? (i := 49) rfl)
theorem w50 (hw : ∀ d ∈ tables_1, d.before a0 Z = true) : (Jvm.Cond.code ({ cls := "java/lang/String", name := "<init>", desc := "([BB)V" } : Jvm.MethodName) jdk_42_method_151_code (3 : Nat) (Option.none : Option Jvm.ClassFile.FieldType)).before a0 Z = true := hw _ (List.mem_of_getElem? (i := 50) rfl)
theorem w51 (hw : ∀ d ∈ tables_1, d.before a0 Z = true) : (Jvm.Cond.classLink "com/example/portunus/portunus/LockKeysLockKeyPinLaw" (35 : Nat) "com/example/portunus/portunus/LockKeys").before a0 Z = true := hw _ (List.mem_of_getElem? (i := 51) rfl)
theorem w52 (hw : ∀ d ∈ tables_1, d.before a0 Z = true) : (Jvm.Cond.instantiable "com/example/portunus/portunus/LockKeys" (1 : Nat)).before a0 Z = true := hw _ (List.mem_of_getElem? (i := 52) rfl)
theorem w53 (hw : ∀ d ∈ tables_1, d.before a0 Z = true) : (Jvm.Cond.initialized "com/example/portunus/portunus/LockKeys").before a0 Z = true := hw _ (List.mem_of_getElem? (i := 53) rfl)
theorem w54 (hw : ∀ d ∈ tables_1, d.before a0 Z = true) : (Jvm.Cond.methodLink "com/example/portunus/portunus/LockKeysLockKeyPinLaw" (37 : Nat) ({ cls := "com/example/portunus/portunus/LockKeys", name := "<init>", desc := "(Ljava/lang/String;)V" } : Jvm.MethodName)).before a0 Z = true := hw _ (List.mem_of_getElem? (i := 54) rfl)
theorem w55 (hw : ∀ d ∈ tables_1, d.before a0 Z = true) : (Jvm.Cond.instanceMethod ({ cls := "com/example/portunus/portunus/LockKeys", name := "<init>", desc := "(Ljava/lang/String;)V" } : Jvm.MethodName)).before a0 Z = true := hw _ (List.mem_of_getElem? (i := 55) rfl)
theorem w56 (hw : ∀ d ∈ tables_1, d.before a0 Z = true) : (Jvm.Cond.code ({ cls := "com/example/portunus/portunus/LockKeys", name := "<init>", desc := "(Ljava/lang/String;)V" } : Jvm.MethodName) prog_6_method_1_code (2 : Nat) (Option.none : Option Jvm.ClassFile.FieldType)).before a0 Z = true := hw _ (List.mem_of_getElem? (i := 56) rfl)
theorem w57 (hw : ∀ d ∈ tables_1, d.before a0 Z = true) : (Jvm.Cond.methodLink "com/example/portunus/portunus/LockKeys" (1 : Nat) ({ cls := "java/lang/Object", name := "<init>", desc := "()V" } : Jvm.MethodName)).before a0 Z = true := hw _ (List.mem_of_getElem? (i := 57) rfl)
theorem w58 (hw : ∀ d ∈ tables_1, d.before a0 Z = true) : (Jvm.Cond.stringLink "com/example/portunus/portunus/LockKeys" (7 : Nat) "prefix").before a0 Z = true := hw _ (List.mem_of_getElem? (i := 58) rfl)
theorem w59 (hw : ∀ d ∈ tables_1, d.before a0 Z = true) : (Jvm.Cond.soleField "java/lang/String" "value").before a0 Z = true := hw _ (List.mem_of_getElem? (i := 59) rfl)
theorem w60 (hw : ∀ d ∈ tables_1, d.before a0 Z = true) : (Jvm.Cond.soleField "java/lang/String" "coder").before a0 Z = true := hw _ (List.mem_of_getElem? (i := 60) rfl)
theorem w61 (hw : ∀ d ∈ tables_1, d.before a0 Z = true) : (Jvm.Cond.methodLink "com/example/portunus/portunus/LockKeys" (9 : Nat) ({ cls := "java/util/Objects", name := "requireNonNull", desc := "(Ljava/lang/Object;Ljava/lang/String;)Ljava/lang/Object;" } : Jvm.MethodName)).before a0 Z = true := hw _ (List.mem_of_getElem? (i := 61) rfl)
theorem w62 (hw : ∀ d ∈ tables_1, d.before a0 Z = true) : (Jvm.Cond.static ({ cls := "java/util/Objects", name := "requireNonNull", desc := "(Ljava/lang/Object;Ljava/lang/String;)Ljava/lang/Object;" } : Jvm.MethodName)).before a0 Z = true := hw _ (List.mem_of_getElem? (i := 62) rfl)
theorem w63 (hw : ∀ d ∈ tables_1, d.before a0 Z = true) : (Jvm.Cond.initialized "java/util/Objects").before a0 Z = true := hw _ (List.mem_of_getElem? (i := 63) rfl)
theorem w64 (hw : ∀ d ∈ tables_1, d.before a0 Z = true) : (Jvm.Cond.code ({ cls := "java/util/Objects", name := "requireNonNull", desc := "(Ljava/lang/Object;Ljava/lang/String;)Ljava/lang/Object;" } : Jvm.MethodName) jdk_31_method_11_code (2 : Nat) (Option.some (Jvm.ClassFile.FieldType.object "java/lang/Object"))).before a0 Z = true := hw _ (List.mem_of_getElem? (i := 64) rfl)
theorem w65 (hw : ∀ d ∈ tables_1, d.before a0 Z = true) : (Jvm.Cond.methodLink "com/example/portunus/portunus/LockKeys" (15 : Nat) ({ cls := "java/lang/String", name := "indexOf", desc := "(I)I" } : Jvm.MethodName)).before a0 Z = true := hw _ (List.mem_of_getElem? (i := 65) rfl)
theorem w66 (hw : ∀ d ∈ tables_1, d.before a0 Z = true) : (Jvm.Cond.declares ({ cls := "java/lang/String", name := "indexOf", desc := "(I)I" } : Jvm.MethodName)).before a0 Z = true := hw _ (List.mem_of_getElem? (i := 66) rfl)
theorem w67 (hw : ∀ d ∈ tables_1, d.before a0 Z = true) : (Jvm.Cond.instanceMethod ({ cls := "java/lang/String", name := "indexOf", desc := "(I)I" } : Jvm.MethodName)).before a0 Z = true := hw _ (List.mem_of_getElem? (i := 67) rfl)
theorem w68 (hw : ∀ d ∈ tables_1, d.before a0 Z = true) : (Jvm.Cond.selects "java/lang/String" ({ cls := "java/lang/String", name := "indexOf", desc := "(I)I" } : Jvm.MethodName) ({ cls := "java/lang/String", name := "indexOf", desc := "(I)I" } : Jvm.MethodName)).before a0 Z = true := hw _ (List.mem_of_getElem? (i := 68) rfl)
theorem w69 (hw : ∀ d ∈ tables_1, d.before a0 Z = true) : (Jvm.Cond.code ({ cls := "java/lang/String", name := "indexOf", desc := "(I)I" } : Jvm.MethodName) jdk_42_method_79_code (2 : Nat) (Option.some Jvm.ClassFile.FieldType.int)).before a0 Z = true := hw _ (List.mem_of_getElem? (i := 69) rfl)
theorem w70 (hw : ∀ d ∈ tables_1, d.before a0 Z = true) : (Jvm.Cond.methodLink "java/lang/String" (633 : Nat) ({ cls := "java/lang/String", name := "indexOf", desc := "(II)I" } : Jvm.MethodName)).before a0 Z = true := hw _ (List.mem_of_getElem? (i := 70) rfl)
theorem w71 (hw : ∀ d ∈ tables_1, d.before a0 Z = true) : (Jvm.Cond.declares ({ cls := "java/lang/String", name := "indexOf", desc := "(II)I" } : Jvm.MethodName)).before a0 Z = true := hw _ (List.mem_of_getElem? (i := 71) rfl)
theorem w72 (hw : ∀ d ∈ tables_1, d.before a0 Z = true) : (Jvm.Cond.instanceMethod ({ cls := "java/lang/String", name := "indexOf", desc := "(II)I" } : Jvm.MethodName)).before a0 Z = true := hw _ (List.mem_of_getElem? (i := 72) rfl)
theorem w73 (hw : ∀ d ∈ tables_1, d.before a0 Z = true) : (Jvm.Cond.selects "java/lang/String" ({ cls := "java/lang/String", name := "indexOf", desc := "(II)I" } : Jvm.MethodName) ({ cls := "java/lang/String", name := "indexOf", desc := "(II)I" } : Jvm.MethodName)).before a0 Z = true := hw _ (List.mem_of_getElem? (i := 73) rfl)
theorem w74 (hw : ∀ d ∈ tables_1, d.before a0 Z = true) : (Jvm.Cond.code ({ cls := "java/lang/String", name := "indexOf", desc := "(II)I" } : Jvm.MethodName) jdk_42_method_80_code (3 : Nat) (Option.some Jvm.ClassFile.FieldType.int)).before a0 Z = true := hw _ (List.mem_of_getElem? (i := 74) rfl)
theorem w75 (hw : ∀ d ∈ tables_1, d.before a0 Z = true) : (Jvm.Cond.methodLink "java/lang/String" (492 : Nat) ({ cls := "java/lang/String", name := "isLatin1", desc := "()Z" } : Jvm.MethodName)).before a0 Z = true := hw _ (List.mem_of_getElem? (i := 75) rfl)
theorem w76 (hw : ∀ d ∈ tables_1, d.before a0 Z = true) : (Jvm.Cond.declares ({ cls := "java/lang/String", name := "isLatin1", desc := "()Z" } : Jvm.MethodName)).before a0 Z = true := hw _ (List.mem_of_getElem? (i := 76) rfl)
theorem w77 (hw : ∀ d ∈ tables_1, d.before a0 Z = true) : (Jvm.Cond.instanceMethod ({ cls := "java/lang/String", name := "isLatin1", desc := "()Z" } : Jvm.MethodName)).before a0 Z = true := hw _ (List.mem_of_getElem? (i := 77) rfl)
theorem w78 (hw : ∀ d ∈ tables_1, d.before a0 Z = true) : (Jvm.Cond.selects "java/lang/String" ({ cls := "java/lang/String", name := "isLatin1", desc := "()Z" } : Jvm.MethodName) ({ cls := "java/lang/String", name := "isLatin1", desc := "()Z" } : Jvm.MethodName)).before a0 Z = true := hw _ (List.mem_of_getElem? (i := 78) rfl)
theorem w79 (hw : ∀ d ∈ tables_1, d.before a0 Z = true) : (Jvm.Cond.code ({ cls := "java/lang/String", name := "isLatin1", desc := "()Z" } : Jvm.MethodName) jdk_42_method_154_code (1 : Nat) (Option.some Jvm.ClassFile.FieldType.boolean)).before a0 Z = true := hw _ (List.mem_of_getElem? (i := 79) rfl)
theorem w80 (hw : ∀ d ∈ tables_1, d.before a0 Z = true) : (Jvm.Cond.methodLink "java/lang/String" (505 : Nat) ({ cls := "java/lang/String", name := "length", desc := "()I" } : Jvm.MethodName)).before a0 Z = true := hw _ (List.mem_of_getElem? (i := 80) rfl)
theorem w81 (hw : ∀ d ∈ tables_1, d.before a0 Z = true) : (Jvm.Cond.declares ({ cls := "java/lang/String", name := "length", desc := "()I" } : Jvm.MethodName)).before a0 Z = true := hw _ (List.mem_of_getElem? (i := 81) rfl)
theorem w82 (hw : ∀ d ∈ tables_1, d.before a0 Z = true) : (Jvm.Cond.instanceMethod ({ cls := "java/lang/String", name := "length", desc := "()I" } : Jvm.MethodName)).before a0 Z = true := hw _ (List.mem_of_getElem? (i := 82) rfl)
theorem w83 (hw : ∀ d ∈ tables_1, d.before a0 Z = true) : (Jvm.Cond.selects "java/lang/String" ({ cls := "java/lang/String", name := "length", desc := "()I" } : Jvm.MethodName) ({ cls := "java/lang/String", name := "length", desc := "()I" } : Jvm.MethodName)).before a0 Z = true := hw _ (List.mem_of_getElem? (i := 83) rfl)
theorem w84 (hw : ∀ d ∈ tables_1, d.before a0 Z = true) : (Jvm.Cond.code ({ cls := "java/lang/String", name := "length", desc := "()I" } : Jvm.MethodName) jdk_42_method_54_code (1 : Nat) (Option.some Jvm.ClassFile.FieldType.int)).before a0 Z = true := hw _ (List.mem_of_getElem? (i := 84) rfl)
theorem w85 (hw : ∀ d ∈ tables_1, d.before a0 Z = true) : (Jvm.Cond.methodLink "java/lang/String" (335 : Nat) ({ cls := "java/lang/String", name := "coder", desc := "()B" } : Jvm.MethodName)).before a0 Z = true := hw _ (List.mem_of_getElem? (i := 85) rfl)
theorem w86 (hw : ∀ d ∈ tables_1, d.before a0 Z = true) : (Jvm.Cond.declares ({ cls := "java/lang/String", name := "coder", desc := "()B" } : Jvm.MethodName)).before a0 Z = true := hw _ (List.mem_of_getElem? (i := 86) rfl)
theorem w87 (hw : ∀ d ∈ tables_1, d.before a0 Z = true) : (Jvm.Cond.instanceMethod ({ cls := "java/lang/String", name := "coder", desc := "()B" } : Jvm.MethodName)).before a0 Z = true := hw _ (List.mem_of_getElem? (i := 87) rfl)
theorem w88 (hw : ∀ d ∈ tables_1, d.before a0 Z = true) : (Jvm.Cond.selects "java/lang/String" ({ cls := "java/lang/String", name := "coder", desc := "()B" } : Jvm.MethodName) ({ cls := "java/lang/String", name := "coder", desc := "()B" } : Jvm.MethodName)).before a0 Z = true := hw _ (List.mem_of_getElem? (i := 88) rfl)
theorem w89 (hw : ∀ d ∈ tables_1, d.before a0 Z = true) : (Jvm.Cond.code ({ cls := "java/lang/String", name := "coder", desc := "()B" } : Jvm.MethodName) jdk_42_method_152_code (1 : Nat) (Option.some Jvm.ClassFile.FieldType.byte)).before a0 Z = true := hw _ (List.mem_of_getElem? (i := 89) rfl)
theorem w90 (hw : ∀ d ∈ tables_1, d.before a0 Z = true) : (Jvm.Cond.methodLink "java/lang/String" (637 : Nat) ({ cls := "java/lang/StringLatin1", name := "indexOf", desc := "([BIII)I" } : Jvm.MethodName)).before a0 Z = true := hw _ (List.mem_of_getElem? (i := 90) rfl)
theorem w91 (hw : ∀ d ∈ tables_1, d.before a0 Z = true) : (Jvm.Cond.static ({ cls := "java/lang/StringLatin1", name := "indexOf", desc := "([BIII)I" } : Jvm.MethodName)).before a0 Z = true := hw _ (List.mem_of_getElem? (i := 91) rfl)
theorem w92 (hw : ∀ d ∈ tables_1, d.before a0 Z = true) : (Jvm.Cond.code ({ cls := "java/lang/StringLatin1", name := "indexOf", desc := "([BIII)I" } : Jvm.MethodName) jdk_43_method_22_code (4 : Nat) (Option.some Jvm.ClassFile.FieldType.int)).before a0 Z = true := hw _ (List.mem_of_getElem? (i := 92) rfl)
theorem w93 (hw : ∀ d ∈ tables_1, d.before a0 Z = true) : (Jvm.Cond.methodLink "java/lang/StringLatin1" (88 : Nat) ({ cls := "java/lang/StringLatin1", name := "canEncode", desc := "(I)Z" } : Jvm.MethodName)).before a0 Z = true := hw _ (List.mem_of_getElem? (i := 93) rfl)
theorem w94 (hw : ∀ d ∈ tables_1, d.before a0 Z = true) : (Jvm.Cond.static ({ cls := "java/lang/StringLatin1", name := "canEncode", desc := "(I)Z" } : Jvm.MethodName)).before a0 Z = true := hw _ (List.mem_of_getElem? (i := 94) rfl)
theorem w95 (hw : ∀ d ∈ tables_1, d.before a0 Z = true) : (Jvm.Cond.code ({ cls := "java/lang/StringLatin1", name := "canEncode", desc := "(I)Z" } : Jvm.MethodName) jdk_43_method_4_code (1 : Nat) (Option.some Jvm.ClassFile.FieldType.boolean)).before a0 Z = true := hw _ (List.mem_of_getElem? (i := 95) rfl)
theorem w96 (hw : ∀ d ∈ tables_1, d.before a0 Z = true) : (Jvm.Cond.methodLink "java/lang/StringLatin1" (92 : Nat) ({ cls := "java/lang/Math", name := "max", desc := "(II)I" } : Jvm.MethodName)).before a0 Z = true := hw _ (List.mem_of_getElem? (i := 96) rfl)
theorem w97 (hw : ∀ d ∈ tables_1, d.before a0 Z = true) : (Jvm.Cond.static ({ cls := "java/lang/Math", name := "max", desc := "(II)I" } : Jvm.MethodName)).before a0 Z = true := hw _ (List.mem_of_getElem? (i := 97) rfl)
theorem w98 (hw : ∀ d ∈ tables_1, d.before a0 Z = true) : (Jvm.Cond.initialized "java/lang/Math").before a0 Z = true := hw _ (List.mem_of_getElem? (i := 98) rfl)
theorem w99 (hw : ∀ d ∈ tables_1, d.before a0 Z = true) : (Jvm.Cond.code ({ cls := "java/lang/Math", name := "max", desc := "(II)I" } : Jvm.MethodName) jdk_29_method_65_code (2 : Nat) (Option.some Jvm.ClassFile.FieldType.int)).before a0 Z = true := hw _ (List.mem_of_getElem? (i := 99) rfl)
theorem w100 (hw : ∀ d ∈ tables_1, d.before a0 Z = true) : (Jvm.Cond.methodLink "java/lang/StringLatin1" (38 : Nat) ({ cls := "java/lang/Math", name := "min", desc := "(II)I" } : Jvm.MethodName)).before a0 Z = true := hw _ (List.mem_of_getElem? (i := 100) rfl)
theorem w101 (hw : ∀ d ∈ tables_1, d.before a0 Z = true) : (Jvm.Cond.static ({ cls := "java/lang/Math", name := "min", desc := "(II)I" } : Jvm.MethodName)).before a0 Z = true := hw _ (List.mem_of_getElem? (i := 101) rfl)
theorem w102 (hw : ∀ d ∈ tables_1, d.before a0 Z = true) : (Jvm.Cond.code ({ cls := "java/lang/Math", name := "min", desc := "(II)I" } : Jvm.MethodName) jdk_29_method_69_code (2 : Nat) (Option.some Jvm.ClassFile.FieldType.int)).before a0 Z = true := hw _ (List.mem_of_getElem? (i := 102) rfl)
theorem w103 (hw : ∀ d ∈ tables_1, d.before a0 Z = true) : (Jvm.Cond.methodLink "java/lang/StringLatin1" (95 : Nat) ({ cls := "java/lang/StringLatin1", name := "indexOfChar", desc := "([BIII)I" } : Jvm.MethodName)).before a0 Z = true := hw _ (List.mem_of_getElem? (i := 103) rfl)
theorem w104 (hw : ∀ d ∈ tables_1, d.before a0 Z = true) : (Jvm.Cond.static ({ cls := "java/lang/StringLatin1", name := "indexOfChar", desc := "([BIII)I" } : Jvm.MethodName)).before a0 Z = true := hw _ (List.mem_of_getElem? (i := 104) rfl)
theorem w105 (hw : ∀ d ∈ tables_1, d.before a0 Z = true) : (Jvm.Cond.code ({ cls := "java/lang/StringLatin1", name := "indexOfChar", desc := "([BIII)I" } : Jvm.MethodName) jdk_43_method_23_code (6 : Nat) (Option.some Jvm.ClassFile.FieldType.int)).before a0 Z = true := hw _ (List.mem_of_getElem? (i := 105) rfl)
theorem w106 (hw : ∀ d ∈ tables_1, d.before a0 Z = true) : (Jvm.Cond.fieldLink "com/example/portunus/portunus/LockKeys" (39 : Nat) "com/example/portunus/portunus/LockKeys" "prefix" "Ljava/lang/String;").before a0 Z = true := hw _ (List.mem_of_getElem? (i := 106) rfl)
theorem w107 (hw : ∀ d ∈ tables_1, d.before a0 Z = true) : (Jvm.Cond.laysFinal "com/example/portunus/portunus/LockKeys" "com/example/portunus/portunus/LockKeys" "prefix" "Ljava/lang/String;").before a0 Z = true := hw _ (List.mem_of_getElem? (i := 107) rfl)
theorem w108 (hw : ∀ d ∈ tables_1, d.before a0 Z = true) : (Jvm.Cond.methodLink "com/example/portunus/portunus/LockKeysLockKeyPinLaw" (40 : Nat) ({ cls := "com/example/portunus/portunus/LockKeys", name := "lockKey", desc := "(Ljava/lang/String;)Ljava/lang/String;" } : Jvm.MethodName)).before a0 Z = true := hw _ (List.mem_of_getElem? (i := 108) rfl)
theorem w109 (hw : ∀ d ∈ tables_1, d.before a0 Z = true) : (Jvm.Cond.declares ({ cls := "com/example/portunus/portunus/LockKeys", name := "lockKey", desc := "(Ljava/lang/String;)Ljava/lang/String;" } : Jvm.MethodName)).before a0 Z = true := hw _ (List.mem_of_getElem? (i := 109) rfl)
theorem w110 (hw : ∀ d ∈ tables_1, d.before a0 Z = true) : (Jvm.Cond.instanceMethod ({ cls := "com/example/portunus/portunus/LockKeys", name := "lockKey", desc := "(Ljava/lang/String;)Ljava/lang/String;" } : Jvm.MethodName)).before a0 Z = true := hw _ (List.mem_of_getElem? (i := 110) rfl)
theorem w111 (hw : ∀ d ∈ tables_1, d.before a0 Z = true) : (Jvm.Cond.selects "com/example/portunus/portunus/LockKeys" ({ cls := "com/example/portunus/portunus/LockKeys", name := "lockKey", desc := "(Ljava/lang/String;)Ljava/lang/String;" } : Jvm.MethodName) ({ cls := "com/example/portunus/portunus/LockKeys", name := "lockKey", desc := "(Ljava/lang/String;)Ljava/lang/String;" } : Jvm.MethodName)).before a0 Z = true := hw _ (List.mem_of_getElem? (i := 111) rfl)
theorem w112 (hw : ∀ d ∈ tables_1, d.before a0 Z = true) : (Jvm.Cond.code ({ cls := "com/example/portunus/portunus/LockKeys", name := "lockKey", desc := "(Ljava/lang/String;)Ljava/lang/String;" } : Jvm.MethodName) prog_6_method_2_code (2 : Nat) (Option.some (Jvm.ClassFile.FieldType.object "java/lang/String"))).before a0 Z = true := hw _ (List.mem_of_getElem? (i := 112) rfl)
theorem w113 (hw : ∀ d ∈ tables_1, d.before a0 Z = true) : (Jvm.Cond.classLink "com/example/portunus/portunus/LockKeys" (23 : Nat) "java/lang/StringBuilder").before a0 Z = true := hw _ (List.mem_of_getElem? (i := 113) rfl)
theorem w114 (hw : ∀ d ∈ tables_1, d.before a0 Z = true) : (Jvm.Cond.instantiable "java/lang/StringBuilder" (4 : Nat)).before a0 Z = true := hw _ (List.mem_of_getElem? (i := 114) rfl)
theorem w115 (hw : ∀ d ∈ tables_1, d.before a0 Z = true) : (Jvm.Cond.initialized "java/lang/StringBuilder").before a0 Z = true := hw _ (List.mem_of_getElem? (i := 115) rfl)
theorem w116 (hw : ∀ d ∈ tables_1, d.before a0 Z = true) : (Jvm.Cond.methodLink "com/example/portunus/portunus/LockKeys" (25 : Nat) ({ cls := "java/lang/StringBuilder", name := "<init>", desc := "()V" } : Jvm.MethodName)).before a0 Z = true := hw _ (List.mem_of_getElem? (i := 116) rfl)
theorem w117 (hw : ∀ d ∈ tables_1, d.before a0 Z = true) : (Jvm.Cond.instanceMethod ({ cls := "java/lang/StringBuilder", name := "<init>", desc := "()V" } : Jvm.MethodName)).before a0 Z = true := hw _ (List.mem_of_getElem? (i := 117) rfl)
theorem w118 (hw : ∀ d ∈ tables_1, d.before a0 Z = true) : (Jvm.Cond.code ({ cls := "java/lang/StringBuilder", name := "<init>", desc := "()V" } : Jvm.MethodName) jdk_67_method_1_code (1 : Nat) (Option.none : Option Jvm.ClassFile.FieldType)).before a0 Z = true := hw _ (List.mem_of_getElem? (i := 118) rfl)
theorem w119 (hw : ∀ d ∈ tables_1, d.before a0 Z = true) : (Jvm.Cond.methodLink "java/lang/StringBuilder" (1 : Nat) ({ cls := "java/lang/AbstractStringBuilder", name := "<init>", desc := "(I)V" } : Jvm.MethodName)).before a0 Z = true := hw _ (List.mem_of_getElem? (i := 119) rfl)
theorem w120 (hw : ∀ d ∈ tables_1, d.before a0 Z = true) : (Jvm.Cond.instanceMethod ({ cls := "java/lang/AbstractStringBuilder", name := "<init>", desc := "(I)V" } : Jvm.MethodName)).before a0 Z = true := hw _ (List.mem_of_getElem? (i := 120) rfl)
theorem w123 (hw : ∀ d ∈ tables_1, d.before a0 Z = true) : (Jvm.Cond.initialized "java/lang/AbstractStringBuilder").before a0 Z = true := hw _ (List.mem_of_getElem? (i := 123) rfl)
theorem w124 (hw : ∀ d ∈ tables_1, d.before a0 Z = true) : (Jvm.Cond.code ({ cls := "java/lang/AbstractStringBuilder", name := "<init>", desc := "(I)V" } : Jvm.MethodName) jdk_68_method_2_code (2 : Nat) (Option.none : Option Jvm.ClassFile.FieldType)).before a0 Z = true := hw _ (List.mem_of_getElem? (i := 124) rfl)
theorem w125 (hw : ∀ d ∈ tables_1, d.before a0 Z = true) : (Jvm.Cond.methodLink "java/lang/AbstractStringBuilder" (3 : Nat) ({ cls := "java/lang/Object", name := "<init>", desc := "()V" } : Jvm.MethodName)).before a0 Z = true := hw _ (List.mem_of_getElem? (i := 125) rfl)
theorem w126 (hw : ∀ d ∈ tables_1, d.before a0 Z = true) : (Jvm.Cond.fieldLink "java/lang/AbstractStringBuilder" (18 : Nat) "java/lang/String" "COMPACT_STRINGS" "Z").before a0 Z = true := hw _ (List.mem_of_getElem? (i := 126) rfl)
theorem w127 (hw : ∀ d ∈ tables_1, d.before a0 Z = true) : (Jvm.Cond.fieldLink "java/lang/AbstractStringBuilder" (15 : Nat) "java/lang/AbstractStringBuilder" "value" "[B").before a0 Z = true := hw _ (List.mem_of_getElem? (i := 127) rfl)
theorem w128 (hw : ∀ d ∈ tables_1, d.before a0 Z = true) : (Jvm.Cond.lays "java/lang/StringBuilder" "java/lang/AbstractStringBuilder" "value" "[B").before a0 Z = true := hw _ (List.mem_of_getElem? (i := 128) rfl)
theorem w129 (hw : ∀ d ∈ tables_1, d.before a0 Z = true) : (Jvm.Cond.fieldLink "java/lang/AbstractStringBuilder" (22 : Nat) "java/lang/AbstractStringBuilder" "coder" "B").before a0 Z = true := hw _ (List.mem_of_getElem? (i := 129) rfl)
theorem w130 (hw : ∀ d ∈ tables_1, d.before a0 Z = true) : (Jvm.Cond.lays "java/lang/StringBuilder" "java/lang/AbstractStringBuilder" "coder" "B").before a0 Z = true := hw _ (List.mem_of_getElem? (i := 130) rfl)
theorem w131 (hw : ∀ d ∈ tables_1, d.before a0 Z = true) : (Jvm.Cond.methodLink "com/example/portunus/portunus/LockKeys" (28 : Nat) ({ cls := "java/lang/StringBuilder", name := "append", desc := "(Ljava/lang/String;)Ljava/lang/StringBuilder;" } : Jvm.MethodName)).before a0 Z = true := hw _ (List.mem_of_getElem? (i := 131) rfl)
theorem w132 (hw : ∀ d ∈ tables_1, d.before a0 Z = true) : (Jvm.Cond.declares ({ cls := "java/lang/StringBuilder", name := "append", desc := "(Ljava/lang/String;)Ljava/lang/StringBuilder;" } : Jvm.MethodName)).before a0 Z = true := hw _ (List.mem_of_getElem? (i := 132) rfl)
theorem w133 (hw : ∀ d ∈ tables_1, d.before a0 Z = true) : (Jvm.Cond.instanceMethod ({ cls := "java/lang/StringBuilder", name := "append", desc := "(Ljava/lang/String;)Ljava/lang/StringBuilder;" } : Jvm.MethodName)).before a0 Z = true := hw _ (List.mem_of_getElem? (i := 133) rfl)
theorem w134 (hw : ∀ d ∈ tables_1, d.before a0 Z = true) : (Jvm.Cond.selects "java/lang/StringBuilder" ({ cls := "java/lang/StringBuilder", name := "append", desc := "(Ljava/lang/String;)Ljava/lang/StringBuilder;" } : Jvm.MethodName) ({ cls := "java/lang/StringBuilder", name := "append", desc := "(Ljava/lang/String;)Ljava/lang/StringBuilder;" } : Jvm.MethodName)).before a0 Z = true := hw _ (List.mem_of_getElem? (i := 134) rfl)
theorem w135 (hw : ∀ d ∈ tables_1, d.before a0 Z = true) : (Jvm.Cond.code ({ cls := "java/lang/StringBuilder", name := "append", desc := "(Ljava/lang/String;)Ljava/lang/StringBuilder;" } : Jvm.MethodName) jdk_67_method_7_code (2 : Nat) (Option.some (Jvm.ClassFile.FieldType.object "java/lang/StringBuilder"))).before a0 Z = true := hw _ (List.mem_of_getElem? (i := 135) rfl)
theorem w136 (hw : ∀ d ∈ tables_1, d.before a0 Z = true) : (Jvm.Cond.methodLink "java/lang/StringBuilder" (29 : Nat) ({ cls := "java/lang/AbstractStringBuilder", name := "append", desc := "(Ljava/lang/String;)Ljava/lang/AbstractStringBuilder;" } : Jvm.MethodName)).before a0 Z = true := hw _ (List.mem_of_getElem? (i := 136) rfl)
theorem w137 (hw : ∀ d ∈ tables_1, d.before a0 Z = true) : (Jvm.Cond.instanceMethod ({ cls := "java/lang/AbstractStringBuilder", name := "append", desc := "(Ljava/lang/String;)Ljava/lang/AbstractStringBuilder;" } : Jvm.MethodName)).before a0 Z = true := hw _ (List.mem_of_getElem? (i := 137) rfl)
theorem w138 (hw : ∀ d ∈ tables_1, d.before a0 Z = true) : (Jvm.Cond.superclass "java/lang/StringBuilder" "java/lang/AbstractStringBuilder").before a0 Z = true := hw _ (List.mem_of_getElem? (i := 138) rfl)
theorem w139 (hw : ∀ d ∈ tables_1, d.before a0 Z = true) : (Jvm.Cond.declares ({ cls := "java/lang/AbstractStringBuilder", name := "append", desc := "(Ljava/lang/String;)Ljava/lang/AbstractStringBuilder;" } : Jvm.MethodName)).before a0 Z = true := hw _ (List.mem_of_getElem? (i := 139) rfl)
theorem w140 (hw : ∀ d ∈ tables_1, d.before a0 Z = true) : (Jvm.Cond.code ({ cls := "java/lang/AbstractStringBuilder", name := "append", desc := "(Ljava/lang/String;)Ljava/lang/AbstractStringBuilder;" } : Jvm.MethodName) jdk_68_method_22_code (3 : Nat) (Option.some (Jvm.ClassFile.FieldType.object "java/lang/AbstractStringBuilder"))).before a0 Z = true := hw _ (List.mem_of_getElem? (i := 140) rfl)
theorem w141 (hw : ∀ d ∈ tables_1, d.before a0 Z = true) : (Jvm.Cond.methodLink "java/lang/AbstractStringBuilder" (32 : Nat) ({ cls := "java/lang/String", name := "length", desc := "()I" } : Jvm.MethodName)).before a0 Z = true := hw _ (List.mem_of_getElem? (i := 141) rfl)
theorem w142 (hw : ∀ d ∈ tables_1, d.before a0 Z = true) : (Jvm.Cond.fieldLink "java/lang/AbstractStringBuilder" (79 : Nat) "java/lang/AbstractStringBuilder" "count" "I").before a0 Z = true := hw _ (List.mem_of_getElem? (i := 142) rfl)
theorem w143 (hw : ∀ d ∈ tables_1, d.before a0 Z = true) : (Jvm.Cond.lays "java/lang/StringBuilder" "java/lang/AbstractStringBuilder" "count" "I").before a0 Z = true := hw _ (List.mem_of_getElem? (i := 143) rfl)
theorem w144 (hw : ∀ d ∈ tables_1, d.before a0 Z = true) : (Jvm.Cond.methodLink "java/lang/AbstractStringBuilder" (100 : Nat) ({ cls := "java/lang/AbstractStringBuilder", name := "ensureCapacityInternal", desc := "(I)V" } : Jvm.MethodName)).before a0 Z = true := hw _ (List.mem_of_getElem? (i := 144) rfl)
theorem w145 (hw : ∀ d ∈ tables_1, d.before a0 Z = true) : (Jvm.Cond.instanceMethod ({ cls := "java/lang/AbstractStringBuilder", name := "ensureCapacityInternal", desc := "(I)V" } : Jvm.MethodName)).before a0 Z = true := hw _ (List.mem_of_getElem? (i := 145) rfl)
theorem w146 (hw : ∀ d ∈ tables_1, d.before a0 Z = true) : (Jvm.Cond.privateMethod ({ cls := "java/lang/AbstractStringBuilder", name := "ensureCapacityInternal", desc := "(I)V" } : Jvm.MethodName)).before a0 Z = true := hw _ (List.mem_of_getElem? (i := 146) rfl)
theorem w147 (hw : ∀ d ∈ tables_1, d.before a0 Z = true) : (Jvm.Cond.selects "java/lang/StringBuilder" ({ cls := "java/lang/AbstractStringBuilder", name := "ensureCapacityInternal", desc := "(I)V" } : Jvm.MethodName) ({ cls := "java/lang/AbstractStringBuilder", name := "ensureCapacityInternal", desc := "(I)V" } : Jvm.MethodName)).before a0 Z = true := hw _ (List.mem_of_getElem? (i := 147) rfl)
theorem w148 (hw : ∀ d ∈ tables_1, d.before a0 Z = true) : (Jvm.Cond.code ({ cls := "java/lang/AbstractStringBuilder", name := "ensureCapacityInternal", desc := "(I)V" } : Jvm.MethodName) jdk_68_method_9_code (3 : Nat) (Option.none : Option Jvm.ClassFile.FieldType)).before a0 Z = true := hw _ (List.mem_of_getElem? (i := 148) rfl)
theorem w149 (hw : ∀ d ∈ tables_1, d.before a0 Z = true) : (Jvm.Cond.methodLink "java/lang/AbstractStringBuilder" (208 : Nat) ({ cls := "java/lang/AbstractStringBuilder", name := "putStringAt", desc := "(ILjava/lang/String;)V" } : Jvm.MethodName)).before a0 Z = true := hw _ (List.mem_of_getElem? (i := 149) rfl)
theorem w150 (hw : ∀ d ∈ tables_1, d.before a0 Z = true) : (Jvm.Cond.instanceMethod ({ cls := "java/lang/AbstractStringBuilder", name := "putStringAt", desc := "(ILjava/lang/String;)V" } : Jvm.MethodName)).before a0 Z = true := hw _ (List.mem_of_getElem? (i := 150) rfl)
theorem w151 (hw : ∀ d ∈ tables_1, d.before a0 Z = true) : (Jvm.Cond.privateMethod ({ cls := "java/lang/AbstractStringBuilder", name := "putStringAt", desc := "(ILjava/lang/String;)V" } : Jvm.MethodName)).before a0 Z = true := hw _ (List.mem_of_getElem? (i := 151) rfl)
theorem w152 (hw : ∀ d ∈ tables_1, d.before a0 Z = true) : (Jvm.Cond.selects "java/lang/StringBuilder" ({ cls := "java/lang/AbstractStringBuilder", name := "putStringAt", desc := "(ILjava/lang/String;)V" } : Jvm.MethodName) ({ cls := "java/lang/AbstractStringBuilder", name := "putStringAt", desc := "(ILjava/lang/String;)V" } : Jvm.MethodName)).before a0 Z = true := hw _ (List.mem_of_getElem? (i := 152) rfl)
theorem w153 (hw : ∀ d ∈ tables_1, d.before a0 Z = true) : (Jvm.Cond.code ({ cls := "java/lang/AbstractStringBuilder", name := "putStringAt", desc := "(ILjava/lang/String;)V" } : Jvm.MethodName) jdk_68_method_73_code (3 : Nat) (Option.none : Option Jvm.ClassFile.FieldType)).before a0 Z = true := hw _ (List.mem_of_getElem? (i := 153) rfl)
theorem w154 (hw : ∀ d ∈ tables_1, d.before a0 Z = true) : (Jvm.Cond.methodLink "java/lang/AbstractStringBuilder" (397 : Nat) ({ cls := "java/lang/AbstractStringBuilder", name := "inflateIfNeededFor", desc := "(Ljava/lang/String;)V" } : Jvm.MethodName)).before a0 Z = true := hw _ (List.mem_of_getElem? (i := 154) rfl)
theorem w155 (hw : ∀ d ∈ tables_1, d.before a0 Z = true) : (Jvm.Cond.instanceMethod ({ cls := "java/lang/AbstractStringBuilder", name := "inflateIfNeededFor", desc := "(Ljava/lang/String;)V" } : Jvm.MethodName)).before a0 Z = true := hw _ (List.mem_of_getElem? (i := 155) rfl)
theorem w156 (hw : ∀ d ∈ tables_1, d.before a0 Z = true) : (Jvm.Cond.privateMethod ({ cls := "java/lang/AbstractStringBuilder", name := "inflateIfNeededFor", desc := "(Ljava/lang/String;)V" } : Jvm.MethodName)).before a0 Z = true := hw _ (List.mem_of_getElem? (i := 156) rfl)
theorem w157 (hw : ∀ d ∈ tables_1, d.before a0 Z = true) : (Jvm.Cond.selects "java/lang/StringBuilder" ({ cls := "java/lang/AbstractStringBuilder", name := "inflateIfNeededFor", desc := "(Ljava/lang/String;)V" } : Jvm.MethodName) ({ cls := "java/lang/AbstractStringBuilder", name := "inflateIfNeededFor", desc := "(Ljava/lang/String;)V" } : Jvm.MethodName)).before a0 Z = true := hw _ (List.mem_of_getElem? (i := 157) rfl)
theorem w158 (hw : ∀ d ∈ tables_1, d.before a0 Z = true) : (Jvm.Cond.code ({ cls := "java/lang/AbstractStringBuilder", name := "inflateIfNeededFor", desc := "(Ljava/lang/String;)V" } : Jvm.MethodName) jdk_68_method_71_code (2 : Nat) (Option.none : Option Jvm.ClassFile.FieldType)).before a0 Z = true := hw _ (List.mem_of_getElem? (i := 158) rfl)
theorem w159 (hw : ∀ d ∈ tables_1, d.before a0 Z = true) : (Jvm.Cond.methodLink "java/lang/AbstractStringBuilder" (40 : Nat) ({ cls := "java/lang/String", name := "coder", desc := "()B" } : Jvm.MethodName)).before a0 Z = true := hw _ (List.mem_of_getElem? (i := 159) rfl)
theorem w160 (hw : ∀ d ∈ tables_1, d.before a0 Z = true) : (Jvm.Cond.methodLink "java/lang/AbstractStringBuilder" (399 : Nat) ({ cls := "java/lang/String", name := "getBytes", desc := "([BIB)V" } : Jvm.MethodName)).before a0 Z = true := hw _ (List.mem_of_getElem? (i := 160) rfl)
theorem w161 (hw : ∀ d ∈ tables_1, d.before a0 Z = true) : (Jvm.Cond.declares ({ cls := "java/lang/String", name := "getBytes", desc := "([BIB)V" } : Jvm.MethodName)).before a0 Z = true := hw _ (List.mem_of_getElem? (i := 161) rfl)
theorem w162 (hw : ∀ d ∈ tables_1, d.before a0 Z = true) : (Jvm.Cond.instanceMethod ({ cls := "java/lang/String", name := "getBytes", desc := "([BIB)V" } : Jvm.MethodName)).before a0 Z = true := hw _ (List.mem_of_getElem? (i := 162) rfl)
theorem w163 (hw : ∀ d ∈ tables_1, d.before a0 Z = true) : (Jvm.Cond.selects "java/lang/String" ({ cls := "java/lang/String", name := "getBytes", desc := "([BIB)V" } : Jvm.MethodName) ({ cls := "java/lang/String", name := "getBytes", desc := "([BIB)V" } : Jvm.MethodName)).before a0 Z = true := hw _ (List.mem_of_getElem? (i := 163) rfl)
theorem w164 (hw : ∀ d ∈ tables_1, d.before a0 Z = true) : (Jvm.Cond.code ({ cls := "java/lang/String", name := "getBytes", desc := "([BIB)V" } : Jvm.MethodName) jdk_42_method_147_code (4 : Nat) (Option.none : Option Jvm.ClassFile.FieldType)).before a0 Z = true := hw _ (List.mem_of_getElem? (i := 164) rfl)
theorem w165 (hw : ∀ d ∈ tables_1, d.before a0 Z = true) : (Jvm.Cond.methodLink "java/lang/String" (212 : Nat) ({ cls := "java/lang/System", name := "arraycopy", desc := "(Ljava/lang/Object;ILjava/lang/Object;II)V" } : Jvm.MethodName)).before a0 Z = true := hw _ (List.mem_of_getElem? (i := 165) rfl)
theorem w166 (hw : ∀ d ∈ tables_1, d.before a0 Z = true) : (Jvm.Cond.static ({ cls := "java/lang/System", name := "arraycopy", desc := "(Ljava/lang/Object;ILjava/lang/Object;II)V" } : Jvm.MethodName)).before a0 Z = true := hw _ (List.mem_of_getElem? (i := 166) rfl)
theorem w167 (hw : ∀ d ∈ tables_1, d.before a0 Z = true) : (Jvm.Cond.initialized "java/lang/System").before a0 Z = true := hw _ (List.mem_of_getElem? (i := 167) rfl)
theorem w168 (hw : ∀ d ∈ tables_1, d.before a0 Z = true) : (Jvm.Cond.native ({ cls := "java/lang/System", name := "arraycopy", desc := "(Ljava/lang/Object;ILjava/lang/Object;II)V" } : Jvm.MethodName)).before a0 Z = true := hw _ (List.mem_of_getElem? (i := 168) rfl)
theorem w169 (hw : ∀ d ∈ tables_1, d.before a0 Z = true) : (Jvm.Cond.stringLink "com/example/portunus/portunus/LockKeys" (44 : Nat) "lock:").before a0 Z = true := hw _ (List.mem_of_getElem? (i := 169) rfl)
theorem w170 (hw : ∀ d ∈ tables_1, d.before a0 Z = true) : (Jvm.Cond.methodLink "com/example/portunus/portunus/LockKeys" (46 : Nat) ({ cls := "com/example/portunus/portunus/LockKeys", name := "braced", desc := "(Ljava/lang/String;)Ljava/lang/String;" } : Jvm.MethodName)).before a0 Z = true := hw _ (List.mem_of_getElem? (i := 170) rfl)
theorem w171 (hw : ∀ d ∈ tables_1, d.before a0 Z = true) : (Jvm.Cond.static ({ cls := "com/example/portunus/portunus/LockKeys", name := "braced", desc := "(Ljava/lang/String;)Ljava/lang/String;" } : Jvm.MethodName)).before a0 Z = true := hw _ (List.mem_of_getElem? (i := 171) rfl)
theorem w172 (hw : ∀ d ∈ tables_1, d.before a0 Z = true) : (Jvm.Cond.code ({ cls := "com/example/portunus/portunus/LockKeys", name := "braced", desc := "(Ljava/lang/String;)Ljava/lang/String;" } : Jvm.MethodName) prog_6_method_8_code (1 : Nat) (Option.some (Jvm.ClassFile.FieldType.object "java/lang/String"))).before a0 Z = true := hw _ (List.mem_of_getElem? (i := 172) rfl)
theorem w173 (hw : ∀ d ∈ tables_1, d.before a0 Z = true) : (Jvm.Cond.stringLink "com/example/portunus/portunus/LockKeys" (60 : Nat) "name").before a0 Z = true := hw _ (List.mem_of_getElem? (i := 173) rfl)
theorem w174 (hw : ∀ d ∈ tables_1, d.before a0 Z = true) : (Jvm.Cond.methodLink "com/example/portunus/portunus/LockKeys" (62 : Nat) ({ cls := "java/lang/String", name := "isEmpty", desc := "()Z" } : Jvm.MethodName)).before a0 Z = true := hw _ (List.mem_of_getElem? (i := 174) rfl)
theorem w175 (hw : ∀ d ∈ tables_1, d.before a0 Z = true) : (Jvm.Cond.declares ({ cls := "java/lang/String", name := "isEmpty", desc := "()Z" } : Jvm.MethodName)).before a0 Z = true := hw _ (List.mem_of_getElem? (i := 175) rfl)
theorem w176 (hw : ∀ d ∈ tables_1, d.before a0 Z = true) : (Jvm.Cond.instanceMethod ({ cls := "java/lang/String", name := "isEmpty", desc := "()Z" } : Jvm.MethodName)).before a0 Z = true := hw _ (List.mem_of_getElem? (i := 176) rfl)
theorem w177 (hw : ∀ d ∈ tables_1, d.before a0 Z = true) : (Jvm.Cond.selects "java/lang/String" ({ cls := "java/lang/String", name := "isEmpty", desc := "()Z" } : Jvm.MethodName) ({ cls := "java/lang/String", name := "isEmpty", desc := "()Z" } : Jvm.MethodName)).before a0 Z = true := hw _ (List.mem_of_getElem? (i := 177) rfl)
theorem w178 (hw : ∀ d ∈ tables_1, d.before a0 Z = true) : (Jvm.Cond.code ({ cls := "java/lang/String", name := "isEmpty", desc := "()Z" } : Jvm.MethodName) jdk_42_method_55_code (1 : Nat) (Option.some Jvm.ClassFile.FieldType.boolean)).before a0 Z = true := hw _ (List.mem_of_getElem? (i := 178) rfl)
theorem w179 (hw : ∀ d ∈ tables_1, d.before a0 Z = true) : (Jvm.Cond.methodLink "com/example/portunus/portunus/LockKeys" (66 : Nat) ({ cls := "java/lang/String", name := "charAt", desc := "(I)C" } : Jvm.MethodName)).before a0 Z = true := hw _ (List.mem_of_getElem? (i := 179) rfl)
theorem w180 (hw : ∀ d ∈ tables_1, d.before a0 Z = true) : (Jvm.Cond.declares ({ cls := "java/lang/String", name := "charAt", desc := "(I)C" } : Jvm.MethodName)).before a0 Z = true := hw _ (List.mem_of_getElem? (i := 180) rfl)
theorem w181 (hw : ∀ d ∈ tables_1, d.before a0 Z = true) : (Jvm.Cond.instanceMethod ({ cls := "java/lang/String", name := "charAt", desc := "(I)C" } : Jvm.MethodName)).before a0 Z = true := hw _ (List.mem_of_getElem? (i := 181) rfl)
theorem w182 (hw : ∀ d ∈ tables_1, d.before a0 Z = true) : (Jvm.Cond.selects "java/lang/String" ({ cls := "java/lang/String", name := "charAt", desc := "(I)C" } : Jvm.MethodName) ({ cls := "java/lang/String", name := "charAt", desc := "(I)C" } : Jvm.MethodName)).before a0 Z = true := hw _ (List.mem_of_getElem? (i := 182) rfl)
theorem w183 (hw : ∀ d ∈ tables_1, d.before a0 Z = true) : (Jvm.Cond.code ({ cls := "java/lang/String", name := "charAt", desc := "(I)C" } : Jvm.MethodName) jdk_42_method_56_code (2 : Nat) (Option.some Jvm.ClassFile.FieldType.char)).before a0 Z = true := hw _ (List.mem_of_getElem? (i := 183) rfl)
theorem w184 (hw : ∀ d ∈ tables_1, d.before a0 Z = true) : (Jvm.Cond.methodLink "java/lang/String" (495 : Nat) ({ cls := "java/lang/StringLatin1", name := "charAt", desc := "([BI)C" } : Jvm.MethodName)).before a0 Z = true := hw _ (List.mem_of_getElem? (i := 184) rfl)
theorem w185 (hw : ∀ d ∈ tables_1, d.before a0 Z = true) : (Jvm.Cond.static ({ cls := "java/lang/StringLatin1", name := "charAt", desc := "([BI)C" } : Jvm.MethodName)).before a0 Z = true := hw _ (List.mem_of_getElem? (i := 185) rfl)
theorem w186 (hw : ∀ d ∈ tables_1, d.before a0 Z = true) : (Jvm.Cond.code ({ cls := "java/lang/StringLatin1", name := "charAt", desc := "([BI)C" } : Jvm.MethodName) jdk_43_method_2_code (2 : Nat) (Option.some Jvm.ClassFile.FieldType.char)).before a0 Z = true := hw _ (List.mem_of_getElem? (i := 186) rfl)
theorem w187 (hw : ∀ d ∈ tables_1, d.before a0 Z = true) : (Jvm.Cond.methodLink "java/lang/StringLatin1" (9 : Nat) ({ cls := "java/lang/String", name := "checkIndex", desc := "(II)V" } : Jvm.MethodName)).before a0 Z = true := hw _ (List.mem_of_getElem? (i := 187) rfl)
theorem w188 (hw : ∀ d ∈ tables_1, d.before a0 Z = true) : (Jvm.Cond.static ({ cls := "java/lang/String", name := "checkIndex", desc := "(II)V" } : Jvm.MethodName)).before a0 Z = true := hw _ (List.mem_of_getElem? (i := 188) rfl)
theorem w189 (hw : ∀ d ∈ tables_1, d.before a0 Z = true) : (Jvm.Cond.code ({ cls := "java/lang/String", name := "checkIndex", desc := "(II)V" } : Jvm.MethodName) jdk_42_method_155_code (2 : Nat) (Option.none : Option Jvm.ClassFile.FieldType)).before a0 Z = true := hw _ (List.mem_of_getElem? (i := 189) rfl)
theorem w190 (hw : ∀ d ∈ tables_1, d.before a0 Z = true) : (Jvm.Cond.fieldLink "java/lang/String" (1053 : Nat) "jdk/internal/util/Preconditions" "SIOOBE_FORMATTER" "Ljava/util/function/BiFunction;").before a0 Z = true := hw _ (List.mem_of_getElem? (i := 190) rfl)
theorem w191 (hw : ∀ d ∈ tables_1, d.before a0 Z = true) : (Jvm.Cond.initialized "jdk/internal/util/Preconditions").before a0 Z = true := hw _ (List.mem_of_getElem? (i := 191) rfl)
theorem w192 (hw : ∀ d ∈ tables_1, d.before a0 Z = true) : (Jvm.Cond.methodLink "java/lang/String" (1059 : Nat) ({ cls := "jdk/internal/util/Preconditions", name := "checkIndex", desc := "(IILjava/util/function/BiFunction;)I" } : Jvm.MethodName)).before a0 Z = true := hw _ (List.mem_of_getElem? (i := 192) rfl)
theorem w193 (hw : ∀ d ∈ tables_1, d.before a0 Z = true) : (Jvm.Cond.static ({ cls := "jdk/internal/util/Preconditions", name := "checkIndex", desc := "(IILjava/util/function/BiFunction;)I" } : Jvm.MethodName)).before a0 Z = true := hw _ (List.mem_of_getElem? (i := 193) rfl)
theorem w194 (hw : ∀ d ∈ tables_1, d.before a0 Z = true) : (Jvm.Cond.code ({ cls := "jdk/internal/util/Preconditions", name := "checkIndex", desc := "(IILjava/util/function/BiFunction;)I" } : Jvm.MethodName) jdk_41_method_11_code (3 : Nat) (Option.some Jvm.ClassFile.FieldType.int)).before a0 Z = true := hw _ (List.mem_of_getElem? (i := 194) rfl)
theorem w195 (hw : ∀ d ∈ tables_1, d.before a0 Z = true) : (Jvm.Cond.stringLink "com/example/portunus/portunus/LockKeys" (72 : Nat) "{").before a0 Z = true := hw _ (List.mem_of_getElem? (i := 195) rfl)
theorem w196 (hw : ∀ d ∈ tables_1, d.before a0 Z = true) : (Jvm.Cond.stringLink "com/example/portunus/portunus/LockKeys" (74 : Nat) "}").before a0 Z = true := hw _ (List.mem_of_getElem? (i := 196) rfl)
theorem w197 (hw : ∀ d ∈ tables_1, d.before a0 Z = true) : (Jvm.Cond.methodLink "com/example/portunus/portunus/LockKeys" (32 : Nat) ({ cls := "java/lang/StringBuilder", name := "toString", desc := "()Ljava/lang/String;" } : Jvm.MethodName)).before a0 Z = true := hw _ (List.mem_of_getElem? (i := 197) rfl)
theorem w198 (hw : ∀ d ∈ tables_1, d.before a0 Z = true) : (Jvm.Cond.declares ({ cls := "java/lang/StringBuilder", name := "toString", desc := "()Ljava/lang/String;" } : Jvm.MethodName)).before a0 Z = true := hw _ (List.mem_of_getElem? (i := 198) rfl)
theorem w199 (hw : ∀ d ∈ tables_1, d.before a0 Z = true) : (Jvm.Cond.instanceMethod ({ cls := "java/lang/StringBuilder", name := "toString", desc := "()Ljava/lang/String;" } : Jvm.MethodName)).before a0 Z = true := hw _ (List.mem_of_getElem? (i := 199) rfl)
theorem w200 (hw : ∀ d ∈ tables_1, d.before a0 Z = true) : (Jvm.Cond.selects "java/lang/StringBuilder" ({ cls := "java/lang/StringBuilder", name := "toString", desc := "()Ljava/lang/String;" } : Jvm.MethodName) ({ cls := "java/lang/StringBuilder", name := "toString", desc := "()Ljava/lang/String;" } : Jvm.MethodName)).before a0 Z = true := hw _ (List.mem_of_getElem? (i := 200) rfl)
theorem w201 (hw : ∀ d ∈ tables_1, d.before a0 Z = true) : (Jvm.Cond.code ({ cls := "java/lang/StringBuilder", name := "toString", desc := "()Ljava/lang/String;" } : Jvm.MethodName) jdk_67_method_42_code (1 : Nat) (Option.some (Jvm.ClassFile.FieldType.object "java/lang/String"))).before a0 Z = true := hw _ (List.mem_of_getElem? (i := 201) rfl)
theorem w202 (hw : ∀ d ∈ tables_1, d.before a0 Z = true) : (Jvm.Cond.classLink "java/lang/StringBuilder" (18 : Nat) "java/lang/String").before a0 Z = true := hw _ (List.mem_of_getElem? (i := 202) rfl)
theorem w203 (hw : ∀ d ∈ tables_1, d.before a0 Z = true) : (Jvm.Cond.methodLink "java/lang/StringBuilder" (137 : Nat) ({ cls := "java/lang/String", name := "<init>", desc := "(Ljava/lang/StringBuilder;)V" } : Jvm.MethodName)).before a0 Z = true := hw _ (List.mem_of_getElem? (i := 203) rfl)
theorem w204 (hw : ∀ d ∈ tables_1, d.before a0 Z = true) : (Jvm.Cond.instanceMethod ({ cls := "java/lang/String", name := "<init>", desc := "(Ljava/lang/StringBuilder;)V" } : Jvm.MethodName)).before a0 Z = true := hw _ (List.mem_of_getElem? (i := 204) rfl)
theorem w205 (hw : ∀ d ∈ tables_1, d.before a0 Z = true) : (Jvm.Cond.code ({ cls := "java/lang/String", name := "<init>", desc := "(Ljava/lang/StringBuilder;)V" } : Jvm.MethodName) jdk_42_method_53_code (2 : Nat) (Option.none : Option Jvm.ClassFile.FieldType)).before a0 Z = true := hw _ (List.mem_of_getElem? (i := 205) rfl)
theorem w206 (hw : ∀ d ∈ tables_1, d.before a0 Z = true) : (Jvm.Cond.methodLink "java/lang/String" (489 : Nat) ({ cls := "java/lang/String", name := "<init>", desc := "(Ljava/lang/AbstractStringBuilder;Ljava/lang/Void;)V" } : Jvm.MethodName)).before a0 Z = true := hw _ (List.mem_of_getElem? (i := 206) rfl)
theorem w207 (hw : ∀ d ∈ tables_1, d.before a0 Z = true) : (Jvm.Cond.instanceMethod ({ cls := "java/lang/String", name := "<init>", desc := "(Ljava/lang/AbstractStringBuilder;Ljava/lang/Void;)V" } : Jvm.MethodName)).before a0 Z = true := hw _ (List.mem_of_getElem? (i := 207) rfl)
theorem w208 (hw : ∀ d ∈ tables_1, d.before a0 Z = true) : (Jvm.Cond.code ({ cls := "java/lang/String", name := "<init>", desc := "(Ljava/lang/AbstractStringBuilder;Ljava/lang/Void;)V" } : Jvm.MethodName) jdk_42_method_150_code (5 : Nat) (Option.none : Option Jvm.ClassFile.FieldType)).before a0 Z = true := hw _ (List.mem_of_getElem? (i := 208) rfl)
theorem w209 (hw : ∀ d ∈ tables_1, d.before a0 Z = true) : (Jvm.Cond.methodLink "java/lang/String" (552 : Nat) ({ cls := "java/lang/AbstractStringBuilder", name := "getValue", desc := "()[B" } : Jvm.MethodName)).before a0 Z = true := hw _ (List.mem_of_getElem? (i := 209) rfl)
theorem w210 (hw : ∀ d ∈ tables_1, d.before a0 Z = true) : (Jvm.Cond.declares ({ cls := "java/lang/AbstractStringBuilder", name := "getValue", desc := "()[B" } : Jvm.MethodName)).before a0 Z = true := hw _ (List.mem_of_getElem? (i := 210) rfl)
theorem w211 (hw : ∀ d ∈ tables_1, d.before a0 Z = true) : (Jvm.Cond.instanceMethod ({ cls := "java/lang/AbstractStringBuilder", name := "getValue", desc := "()[B" } : Jvm.MethodName)).before a0 Z = true := hw _ (List.mem_of_getElem? (i := 211) rfl)
theorem w212 (hw : ∀ d ∈ tables_1, d.before a0 Z = true) : (Jvm.Cond.selects "java/lang/StringBuilder" ({ cls := "java/lang/AbstractStringBuilder", name := "getValue", desc := "()[B" } : Jvm.MethodName) ({ cls := "java/lang/AbstractStringBuilder", name := "getValue", desc := "()[B" } : Jvm.MethodName)).before a0 Z = true := hw _ (List.mem_of_getElem? (i := 212) rfl)
theorem w213 (hw : ∀ d ∈ tables_1, d.before a0 Z = true) : (Jvm.Cond.code ({ cls := "java/lang/AbstractStringBuilder", name := "getValue", desc := "()[B" } : Jvm.MethodName) jdk_68_method_64_code (1 : Nat) (Option.some (Jvm.ClassFile.FieldType.array Jvm.ClassFile.FieldType.byte))).before a0 Z = true := hw _ (List.mem_of_getElem? (i := 213) rfl)
theorem w214 (hw : ∀ d ∈ tables_1, d.before a0 Z = true) : (Jvm.Cond.methodLink "java/lang/String" (549 : Nat) ({ cls := "java/lang/AbstractStringBuilder", name := "length", desc := "()I" } : Jvm.MethodName)).before a0 Z = true := hw _ (List.mem_of_getElem? (i := 214) rfl)
theorem w215 (hw : ∀ d ∈ tables_1, d.before a0 Z = true) : (Jvm.Cond.declares ({ cls := "java/lang/AbstractStringBuilder", name := "length", desc := "()I" } : Jvm.MethodName)).before a0 Z = true := hw _ (List.mem_of_getElem? (i := 215) rfl)
theorem w216 (hw : ∀ d ∈ tables_1, d.before a0 Z = true) : (Jvm.Cond.instanceMethod ({ cls := "java/lang/AbstractStringBuilder", name := "length", desc := "()I" } : Jvm.MethodName)).before a0 Z = true := hw _ (List.mem_of_getElem? (i := 216) rfl)
theorem w217 (hw : ∀ d ∈ tables_1, d.before a0 Z = true) : (Jvm.Cond.selects "java/lang/StringBuilder" ({ cls := "java/lang/AbstractStringBuilder", name := "length", desc := "()I" } : Jvm.MethodName) ({ cls := "java/lang/StringBuilder", name := "length", desc := "()I" } : Jvm.MethodName)).before a0 Z = true := hw _ (List.mem_of_getElem? (i := 217) rfl)
theorem w218 (hw : ∀ d ∈ tables_1, d.before a0 Z = true) : (Jvm.Cond.instanceMethod ({ cls := "java/lang/StringBuilder", name := "length", desc := "()I" } : Jvm.MethodName)).before a0 Z = true := hw _ (List.mem_of_getElem? (i := 218) rfl)
theorem w219 (hw : ∀ d ∈ tables_1, d.before a0 Z = true) : (Jvm.Cond.code ({ cls := "java/lang/StringBuilder", name := "length", desc := "()I" } : Jvm.MethodName) jdk_67_method_93_code (1 : Nat) (Option.some Jvm.ClassFile.FieldType.int)).before a0 Z = true := hw _ (List.mem_of_getElem? (i := 219) rfl)
theorem w220 (hw : ∀ d ∈ tables_1, d.before a0 Z = true) : (Jvm.Cond.methodLink "java/lang/StringBuilder" (343 : Nat) ({ cls := "java/lang/AbstractStringBuilder", name := "length", desc := "()I" } : Jvm.MethodName)).before a0 Z = true := hw _ (List.mem_of_getElem? (i := 220) rfl)
theorem w221 (hw : ∀ d ∈ tables_1, d.before a0 Z = true) : (Jvm.Cond.code ({ cls := "java/lang/AbstractStringBuilder", name := "length", desc := "()I" } : Jvm.MethodName) jdk_68_method_6_code (1 : Nat) (Option.some Jvm.ClassFile.FieldType.int)).before a0 Z = true := hw _ (List.mem_of_getElem? (i := 221) rfl)
theorem w222 (hw : ∀ d ∈ tables_1, d.before a0 Z = true) : (Jvm.Cond.methodLink "java/lang/String" (1047 : Nat) ({ cls := "java/lang/AbstractStringBuilder", name := "isLatin1", desc := "()Z" } : Jvm.MethodName)).before a0 Z = true := hw _ (List.mem_of_getElem? (i := 222) rfl)
theorem w223 (hw : ∀ d ∈ tables_1, d.before a0 Z = true) : (Jvm.Cond.declares ({ cls := "java/lang/AbstractStringBuilder", name := "isLatin1", desc := "()Z" } : Jvm.MethodName)).before a0 Z = true := hw _ (List.mem_of_getElem? (i := 223) rfl)
theorem w224 (hw : ∀ d ∈ tables_1, d.before a0 Z = true) : (Jvm.Cond.instanceMethod ({ cls := "java/lang/AbstractStringBuilder", name := "isLatin1", desc := "()Z" } : Jvm.MethodName)).before a0 Z = true := hw _ (List.mem_of_getElem? (i := 224) rfl)
theorem w225 (hw : ∀ d ∈ tables_1, d.before a0 Z = true) : (Jvm.Cond.selects "java/lang/StringBuilder" ({ cls := "java/lang/AbstractStringBuilder", name := "isLatin1", desc := "()Z" } : Jvm.MethodName) ({ cls := "java/lang/AbstractStringBuilder", name := "isLatin1", desc := "()Z" } : Jvm.MethodName)).before a0 Z = true := hw _ (List.mem_of_getElem? (i := 225) rfl)
theorem w226 (hw : ∀ d ∈ tables_1, d.before a0 Z = true) : (Jvm.Cond.code ({ cls := "java/lang/AbstractStringBuilder", name := "isLatin1", desc := "()Z" } : Jvm.MethodName) jdk_68_method_68_code (1 : Nat) (Option.some Jvm.ClassFile.FieldType.boolean)).before a0 Z = true := hw _ (List.mem_of_getElem? (i := 226) rfl)
theorem w227 (hw : ∀ d ∈ tables_1, d.before a0 Z = true) : (Jvm.Cond.methodLink "java/lang/String" (54 : Nat) ({ cls := "java/util/Arrays", name := "copyOfRange", desc := "([BII)[B" } : Jvm.MethodName)).before a0 Z = true := hw _ (List.mem_of_getElem? (i := 227) rfl)
theorem w228 (hw : ∀ d ∈ tables_1, d.before a0 Z = true) : (Jvm.Cond.static ({ cls := "java/util/Arrays", name := "copyOfRange", desc := "([BII)[B" } : Jvm.MethodName)).before a0 Z = true := hw _ (List.mem_of_getElem? (i := 228) rfl)
theorem w229 (hw : ∀ d ∈ tables_1, d.before a0 Z = true) : (Jvm.Cond.initialized "java/util/Arrays").before a0 Z = true := hw _ (List.mem_of_getElem? (i := 229) rfl)
theorem w230 (hw : ∀ d ∈ tables_1, d.before a0 Z = true) : (Jvm.Cond.code ({ cls := "java/util/Arrays", name := "copyOfRange", desc := "([BII)[B" } : Jvm.MethodName) jdk_65_method_132_code (3 : Nat) (Option.some (Jvm.ClassFile.FieldType.array Jvm.ClassFile.FieldType.byte))).before a0 Z = true := hw _ (List.mem_of_getElem? (i := 230) rfl)
theorem w231 (hw : ∀ d ∈ tables_1, d.before a0 Z = true) : (Jvm.Cond.methodLink "java/util/Arrays" (339 : Nat) ({ cls := "java/util/Arrays", name := "copyOfRangeByte", desc := "([BII)[B" } : Jvm.MethodName)).before a0 Z = true := hw _ (List.mem_of_getElem? (i := 231) rfl)
theorem w232 (hw : ∀ d ∈ tables_1, d.before a0 Z = true) : (Jvm.Cond.static ({ cls := "java/util/Arrays", name := "copyOfRangeByte", desc := "([BII)[B" } : Jvm.MethodName)).before a0 Z = true := hw _ (List.mem_of_getElem? (i := 232) rfl)
theorem w233 (hw : ∀ d ∈ tables_1, d.before a0 Z = true) : (Jvm.Cond.code ({ cls := "java/util/Arrays", name := "copyOfRangeByte", desc := "([BII)[B" } : Jvm.MethodName) jdk_65_method_133_code (5 : Nat) (Option.some (Jvm.ClassFile.FieldType.array Jvm.ClassFile.FieldType.byte))).before a0 Z = true := hw _ (List.mem_of_getElem? (i := 233) rfl)
theorem w234 (hw : ∀ d ∈ tables_1, d.before a0 Z = true) : (Jvm.Cond.methodLink "java/util/Arrays" (343 : Nat) ({ cls := "java/util/Arrays", name := "checkLength", desc := "(II)V" } : Jvm.MethodName)).before a0 Z = true := hw _ (List.mem_of_getElem? (i := 234) rfl)
theorem w235 (hw : ∀ d ∈ tables_1, d.before a0 Z = true) : (Jvm.Cond.static ({ cls := "java/util/Arrays", name := "checkLength", desc := "(II)V" } : Jvm.MethodName)).before a0 Z = true := hw _ (List.mem_of_getElem? (i := 235) rfl)
theorem w236 (hw : ∀ d ∈ tables_1, d.before a0 Z = true) : (Jvm.Cond.code ({ cls := "java/util/Arrays", name := "checkLength", desc := "(II)V" } : Jvm.MethodName) jdk_65_method_131_code (2 : Nat) (Option.none : Option Jvm.ClassFile.FieldType)).before a0 Z = true := hw _ (List.mem_of_getElem? (i := 236) rfl)
theorem w237 (hw : ∀ d ∈ tables_1, d.before a0 Z = true) : (Jvm.Cond.methodLink "java/util/Arrays" (304 : Nat) ({ cls := "java/lang/Math", name := "min", desc := "(II)I" } : Jvm.MethodName)).before a0 Z = true := hw _ (List.mem_of_getElem? (i := 237) rfl)
theorem w238 (hw : ∀ d ∈ tables_1, d.before a0 Z = true) : (Jvm.Cond.methodLink "java/util/Arrays" (150 : Nat) ({ cls := "java/lang/System", name := "arraycopy", desc := "(Ljava/lang/Object;ILjava/lang/Object;II)V" } : Jvm.MethodName)).before a0 Z = true := hw _ (List.mem_of_getElem? (i := 238) rfl)
theorem w239 (hw : ∀ d ∈ tables_1, d.before a0 Z = true) : (Jvm.Cond.methodLink "com/example/portunus/portunus/LockKeysLockKeyPinLaw" (44 : Nat) ({ cls := "java/lang/String", name := "length", desc := "()I" } : Jvm.MethodName)).before a0 Z = true := hw _ (List.mem_of_getElem? (i := 239) rfl)
theorem w240 (hw : ∀ d ∈ tables_1, d.before a0 Z = true) : (Jvm.Cond.methodLink "com/example/portunus/portunus/LockKeysLockKeyPinLaw" (48 : Nat) ({ cls := "com/example/portunus/portunus/LockKeysLockKeyPinLaw", name := "ok", desc := "(Ljava/lang/String;IIICCCICCC)Z" } : Jvm.MethodName)).before a0 Z = true := hw _ (List.mem_of_getElem? (i := 240) rfl)
theorem w241 (hw : ∀ d ∈ tables_1, d.before a0 Z = true) : (Jvm.Cond.static ({ cls := "com/example/portunus/portunus/LockKeysLockKeyPinLaw", name := "ok", desc := "(Ljava/lang/String;IIICCCICCC)Z" } : Jvm.MethodName)).before a0 Z = true := hw _ (List.mem_of_getElem? (i := 241) rfl)
theorem w242 (hw : ∀ d ∈ tables_1, d.before a0 Z = true) : (Jvm.Cond.code ({ cls := "com/example/portunus/portunus/LockKeysLockKeyPinLaw", name := "ok", desc := "(Ljava/lang/String;IIICCCICCC)Z" } : Jvm.MethodName) method_5_code (11 : Nat) (Option.some Jvm.ClassFile.FieldType.boolean)).before a0 Z = true := hw _ (List.mem_of_getElem? (i := 242) rfl)
theorem w243 (hw : ∀ d ∈ tables_1, d.before a0 Z = true) : (Jvm.Cond.methodLink "com/example/portunus/portunus/LockKeysLockKeyPinLaw" (18 : Nat) ({ cls := "java/lang/String", name := "charAt", desc := "(I)C" } : Jvm.MethodName)).before a0 Z = true := hw _ (List.mem_of_getElem? (i := 243) rfl)
theorem w244 (hw : ∀ d ∈ tables_1, d.before a0 Z = true) : (Jvm.Cond.methodLink "com/example/portunus/portunus/LockKeysLockKeyPinLaw" (22 : Nat) ({ cls := "com/example/portunus/portunus/LockKeysLockKeyPinLaw", name := "exp", desc := "(IICCCICCC)C" } : Jvm.MethodName)).before a0 Z = true := hw _ (List.mem_of_getElem? (i := 244) rfl)
theorem w245 (hw : ∀ d ∈ tables_1, d.before a0 Z = true) : (Jvm.Cond.static ({ cls := "com/example/portunus/portunus/LockKeysLockKeyPinLaw", name := "exp", desc := "(IICCCICCC)C" } : Jvm.MethodName)).before a0 Z = true := hw _ (List.mem_of_getElem? (i := 245) rfl)
theorem w246 (hw : ∀ d ∈ tables_1, d.before a0 Z = true) : (Jvm.Cond.code ({ cls := "com/example/portunus/portunus/LockKeysLockKeyPinLaw", name := "exp", desc := "(IICCCICCC)C" } : Jvm.MethodName) method_4_code (11 : Nat) (Option.some Jvm.ClassFile.FieldType.char)).before a0 Z = true := hw _ (List.mem_of_getElem? (i := 246) rfl)
theorem w247 (hw : ∀ d ∈ tables_1, d.before a0 Z = true) : (Jvm.Cond.stringLink "com/example/portunus/portunus/LockKeysLockKeyPinLaw" (16 : Nat) "lock:").before a0 Z = true := hw _ (List.mem_of_getElem? (i := 247) rfl)
theorem w248 (hw : ∀ d ∈ tables_1, d.before a0 Z = true) : (Jvm.Cond.stringLink "java/lang/String" (7 : Nat) "").before a0 Z = true := hw _ (List.mem_of_getElem? (i := 248) rfl)
end Words
theorem d1_0 : decode method_2_code 0 = .ok (.iload_n 0, 1) := by decide +kernel
theorem d1_1 : decode method_2_code 1 = .ok (.sipush 255, 3) := by decide +kernel
theorem d1_4 : decode method_2_code 4 = .ok (.iand, 1) := by decide +kernel
theorem d1_5 : decode method_2_code 5 = .ok (.i2c, 1) := by decide +kernel
theorem d1_6 : decode method_2_code 6 = .ok (.istore_n 1, 1) := by decide +kernel
theorem d1_7 : decode method_2_code 7 = .ok (.iload_n 1, 1) := by decide +kernel
theorem d1_8 : decode method_2_code 8 = .ok (.bipush 123, 2) := by decide +kernel
theorem d1_10 : decode method_2_code 10 = .ok (.if_icmp .eq 9, 3) := by decide +kernel
theorem d1_13 : decode method_2_code 13 = .ok (.iload_n 1, 1) := by decide +kernel
theorem d1_14 : decode method_2_code 14 = .ok (.bipush 125, 2) := by decide +kernel
theorem d1_16 : decode method_2_code 16 = .ok (.if_icmp .ne 6, 3) := by decide +kernel
theorem d1_19 : decode method_2_code 19 = .ok (.bipush 97, 2) := by decide +kernel
theorem d1_21 : decode method_2_code 21 = .ok (.ireturn, 1) := by decide +kernel
theorem d1_22 : decode method_2_code 22 = .ok (.iload_n 1, 1) := by decide +kernel
theorem d1_23 : decode method_2_code 23 = .ok (.ireturn, 1) := by decide +kernel
theorem d2_0 : decode method_3_code 0 = .ok (.iload_n 0, 1) := by decide +kernel
theorem d2_1 : decode method_3_code 1 = .ok (.ifCond .ne 14, 3) := by decide +kernel
theorem d2_4 : decode method_3_code 4 = .ok (.new 7, 3) := by decide +kernel
theorem d2_7 : decode method_3_code 7 = .ok (.dup, 1) := by decide +kernel
theorem d2_8 : decode method_3_code 8 = .ok (.iconst 0, 1) := by decide +kernel
theorem d2_9 : decode method_3_code 9 = .ok (.newarray .char, 2) := by decide +kernel
theorem d2_11 : decode method_3_code 11 = .ok (.invokespecial 9, 3) := by decide +kernel
theorem d2_14 : decode method_3_code 14 = .ok (.areturn, 1) := by decide +kernel
theorem d2_15 : decode method_3_code 15 = .ok (.iload_n 0, 1) := by decide +kernel
theorem d2_16 : decode method_3_code 16 = .ok (.iconst 1, 1) := by decide +kernel
theorem d2_17 : decode method_3_code 17 = .ok (.if_icmp .ne 8, 3) := by decide +kernel
theorem d2_20 : decode method_3_code 20 = .ok (.iload_n 1, 1) := by decide +kernel
theorem d2_21 : decode method_3_code 21 = .ok (.invokestatic 12, 3) := by decide +kernel
theorem d2_24 : decode method_3_code 24 = .ok (.areturn, 1) := by decide +kernel
theorem d2_25 : decode method_3_code 25 = .ok (.iload_n 0, 1) := by decide +kernel
theorem d2_26 : decode method_3_code 26 = .ok (.iconst 2, 1) := by decide +kernel
theorem d2_27 : decode method_3_code 27 = .ok (.if_icmp .ne 22, 3) := by decide +kernel
theorem d2_30 : decode method_3_code 30 = .ok (.new 7, 3) := by decide +kernel
theorem d2_33 : decode method_3_code 33 = .ok (.dup, 1) := by decide +kernel
theorem d2_34 : decode method_3_code 34 = .ok (.iconst 2, 1) := by decide +kernel
theorem d2_35 : decode method_3_code 35 = .ok (.newarray .char, 2) := by decide +kernel
theorem d2_37 : decode method_3_code 37 = .ok (.dup, 1) := by decide +kernel
theorem d2_38 : decode method_3_code 38 = .ok (.iconst 0, 1) := by decide +kernel
theorem d2_39 : decode method_3_code 39 = .ok (.iload_n 1, 1) := by decide +kernel
theorem d2_40 : decode method_3_code 40 = .ok (.castore, 1) := by decide +kernel
theorem d2_41 : decode method_3_code 41 = .ok (.dup, 1) := by decide +kernel
theorem d2_42 : decode method_3_code 42 = .ok (.iconst 1, 1) := by decide +kernel
theorem d2_43 : decode method_3_code 43 = .ok (.iload_n 2, 1) := by decide +kernel
theorem d2_44 : decode method_3_code 44 = .ok (.castore, 1) := by decide +kernel
theorem d2_45 : decode method_3_code 45 = .ok (.invokespecial 9, 3) := by decide +kernel
theorem d2_48 : decode method_3_code 48 = .ok (.areturn, 1) := by decide +kernel
theorem d2_49 : decode method_3_code 49 = .ok (.new 7, 3) := by decide +kernel
theorem d2_52 : decode method_3_code 52 = .ok (.dup, 1) := by decide +kernel
theorem d2_53 : decode method_3_code 53 = .ok (.iconst 3, 1) := by decide +kernel
theorem d2_54 : decode method_3_code 54 = .ok (.newarray .char, 2) := by decide +kernel
theorem d2_56 : decode method_3_code 56 = .ok (.dup, 1) := by decide +kernel
theorem d2_57 : decode method_3_code 57 = .ok (.iconst 0, 1) := by decide +kernel
theorem d2_58 : decode method_3_code 58 = .ok (.iload_n 1, 1) := by decide +kernel
theorem d2_59 : decode method_3_code 59 = .ok (.castore, 1) := by decide +kernel
theorem d2_60 : decode method_3_code 60 = .ok (.dup, 1) := by decide +kernel
theorem d2_61 : decode method_3_code 61 = .ok (.iconst 1, 1) := by decide +kernel
theorem d2_62 : decode method_3_code 62 = .ok (.iload_n 2, 1) := by decide +kernel
theorem d2_63 : decode method_3_code 63 = .ok (.castore, 1) := by decide +kernel
theorem d2_64 : decode method_3_code 64 = .ok (.dup, 1) := by decide +kernel
theorem d2_65 : decode method_3_code 65 = .ok (.iconst 2, 1) := by decide +kernel
theorem d2_66 : decode method_3_code 66 = .ok (.iload_n 3, 1) := by decide +kernel
theorem d2_67 : decode method_3_code 67 = .ok (.castore, 1) := by decide +kernel
theorem d2_68 : decode method_3_code 68 = .ok (.invokespecial 9, 3) := by decide +kernel
theorem d2_71 : decode method_3_code 71 = .ok (.areturn, 1) := by decide +kernel
theorem d3_0 : decode jdk_42_method_3_code 0 = .ok (.aload_n 0, 1) := by decide +kernel
theorem d3_1 : decode jdk_42_method_3_code 1 = .ok (.aload_n 1, 1) := by decide +kernel
theorem d3_2 : decode jdk_42_method_3_code 2 = .ok (.iconst 0, 1) := by decide +kernel
theorem d3_3 : decode jdk_42_method_3_code 3 = .ok (.aload_n 1, 1) := by decide +kernel
theorem d3_4 : decode jdk_42_method_3_code 4 = .ok (.arraylength, 1) := by decide +kernel
theorem d3_5 : decode jdk_42_method_3_code 5 = .ok (.aconst_null, 1) := by decide +kernel
theorem d3_6 : decode jdk_42_method_3_code 6 = .ok (.invokespecial 27, 3) := by decide +kernel
theorem d3_9 : decode jdk_42_method_3_code 9 = .ok (.return_, 1) := by decide +kernel
theorem d4_0 : decode jdk_42_method_149_code 0 = .ok (.aload_n 0, 1) := by decide +kernel
theorem d4_1 : decode jdk_42_method_149_code 1 = .ok (.invokespecial 1, 3) := by decide +kernel
theorem d4_4 : decode jdk_42_method_149_code 4 = .ok (.iload_n 3, 1) := by decide +kernel
theorem d4_5 : decode jdk_42_method_149_code 5 = .ok (.ifCond .ne 22, 3) := by decide +kernel
theorem d4_8 : decode jdk_42_method_149_code 8 = .ok (.aload_n 0, 1) := by decide +kernel
theorem d4_9 : decode jdk_42_method_149_code 9 = .ok (.ldc 7, 2) := by decide +kernel
theorem d4_11 : decode jdk_42_method_149_code 11 = .ok (.getfield 9, 3) := by decide +kernel
theorem d4_14 : decode jdk_42_method_149_code 14 = .ok (.putfield 9, 3) := by decide +kernel
theorem d4_17 : decode jdk_42_method_149_code 17 = .ok (.aload_n 0, 1) := by decide +kernel
theorem d4_18 : decode jdk_42_method_149_code 18 = .ok (.ldc 7, 2) := by decide +kernel
theorem d4_20 : decode jdk_42_method_149_code 20 = .ok (.getfield 15, 3) := by decide +kernel
theorem d4_23 : decode jdk_42_method_149_code 23 = .ok (.putfield 15, 3) := by decide +kernel
theorem d4_26 : decode jdk_42_method_149_code 26 = .ok (.return_, 1) := by decide +kernel
theorem d4_27 : decode jdk_42_method_149_code 27 = .ok (.getstatic 38, 3) := by decide +kernel
theorem d4_30 : decode jdk_42_method_149_code 30 = .ok (.ifCond .eq 28, 3) := by decide +kernel
theorem d4_33 : decode jdk_42_method_149_code 33 = .ok (.aload_n 1, 1) := by decide +kernel
theorem d4_34 : decode jdk_42_method_149_code 34 = .ok (.iload_n 2, 1) := by decide +kernel
theorem d4_35 : decode jdk_42_method_149_code 35 = .ok (.iload_n 3, 1) := by decide +kernel
theorem d4_36 : decode jdk_42_method_149_code 36 = .ok (.invokestatic 177, 3) := by decide +kernel
theorem d4_39 : decode jdk_42_method_149_code 39 = .ok (.astore 5, 2) := by decide +kernel
theorem d4_41 : decode jdk_42_method_149_code 41 = .ok (.aload_n 0, 1) := by decide +kernel
theorem d4_42 : decode jdk_42_method_149_code 42 = .ok (.aload 5, 2) := by decide +kernel
theorem d4_44 : decode jdk_42_method_149_code 44 = .ok (.iload_n 3, 1) := by decide +kernel
theorem d4_45 : decode jdk_42_method_149_code 45 = .ok (.invokestatic 47, 3) := by decide +kernel
theorem d4_48 : decode jdk_42_method_149_code 48 = .ok (.putfield 15, 3) := by decide +kernel
theorem d4_51 : decode jdk_42_method_149_code 51 = .ok (.aload_n 0, 1) := by decide +kernel
theorem d4_52 : decode jdk_42_method_149_code 52 = .ok (.aload 5, 2) := by decide +kernel
theorem d4_54 : decode jdk_42_method_149_code 54 = .ok (.putfield 9, 3) := by decide +kernel
theorem d4_57 : decode jdk_42_method_149_code 57 = .ok (.return_, 1) := by decide +kernel
theorem d6_0 : decode jdk_52_method_16_code 0 = .ok (.iload_n 2, 1) := by decide +kernel
theorem d6_1 : decode jdk_52_method_16_code 1 = .ok (.newarray .byte, 2) := by decide +kernel
theorem d6_3 : decode jdk_52_method_16_code 3 = .ok (.astore_n 3, 1) := by decide +kernel
theorem d6_4 : decode jdk_52_method_16_code 4 = .ok (.aload_n 0, 1) := by decide +kernel
theorem d6_5 : decode jdk_52_method_16_code 5 = .ok (.iload_n 1, 1) := by decide +kernel
theorem d6_6 : decode jdk_52_method_16_code 6 = .ok (.aload_n 3, 1) := by decide +kernel
theorem d6_7 : decode jdk_52_method_16_code 7 = .ok (.iconst 0, 1) := by decide +kernel
theorem d6_8 : decode jdk_52_method_16_code 8 = .ok (.iload_n 2, 1) := by decide +kernel
theorem d6_9 : decode jdk_52_method_16_code 9 = .ok (.invokestatic 115, 3) := by decide +kernel
theorem d6_12 : decode jdk_52_method_16_code 12 = .ok (.istore 4, 2) := by decide +kernel
theorem d6_14 : decode jdk_52_method_16_code 14 = .ok (.iload 4, 2) := by decide +kernel
theorem d6_16 : decode jdk_52_method_16_code 16 = .ok (.iload_n 2, 1) := by decide +kernel
theorem d6_17 : decode jdk_52_method_16_code 17 = .ok (.if_icmp .eq 40, 3) := by decide +kernel
theorem d6_57 : decode jdk_52_method_16_code 57 = .ok (.aload_n 3, 1) := by decide +kernel
theorem d6_58 : decode jdk_52_method_16_code 58 = .ok (.areturn, 1) := by decide +kernel
theorem d7_0 : decode jdk_52_method_21_code 0 = .ok (.iconst 0, 1) := by decide +kernel
theorem d7_1 : decode jdk_52_method_21_code 1 = .ok (.istore 5, 2) := by decide +kernel
theorem d7_3 : decode jdk_52_method_21_code 3 = .ok (.iload 5, 2) := by decide +kernel
theorem d7_5 : decode jdk_52_method_21_code 5 = .ok (.iload 4, 2) := by decide +kernel
theorem d7_7 : decode jdk_52_method_21_code 7 = .ok (.if_icmp .ge 37, 3) := by decide +kernel
theorem d7_10 : decode jdk_52_method_21_code 10 = .ok (.aload_n 0, 1) := by decide +kernel
theorem d7_11 : decode jdk_52_method_21_code 11 = .ok (.iload_n 1, 1) := by decide +kernel
theorem d7_12 : decode jdk_52_method_21_code 12 = .ok (.caload, 1) := by decide +kernel
theorem d7_13 : decode jdk_52_method_21_code 13 = .ok (.istore 6, 2) := by decide +kernel
theorem d7_15 : decode jdk_52_method_21_code 15 = .ok (.iload 6, 2) := by decide +kernel
theorem d7_17 : decode jdk_52_method_21_code 17 = .ok (.sipush 255, 3) := by decide +kernel
theorem d7_20 : decode jdk_52_method_21_code 20 = .ok (.if_icmp .le 6, 3) := by decide +kernel
theorem d7_26 : decode jdk_52_method_21_code 26 = .ok (.aload_n 2, 1) := by decide +kernel
theorem d7_27 : decode jdk_52_method_21_code 27 = .ok (.iload_n 3, 1) := by decide +kernel
theorem d7_28 : decode jdk_52_method_21_code 28 = .ok (.iload 6, 2) := by decide +kernel
theorem d7_30 : decode jdk_52_method_21_code 30 = .ok (.i2b, 1) := by decide +kernel
theorem d7_31 : decode jdk_52_method_21_code 31 = .ok (.bastore, 1) := by decide +kernel
theorem d7_32 : decode jdk_52_method_21_code 32 = .ok (.iinc 1 1, 3) := by decide +kernel
theorem d7_35 : decode jdk_52_method_21_code 35 = .ok (.iinc 3 1, 3) := by decide +kernel
theorem d7_38 : decode jdk_52_method_21_code 38 = .ok (.iinc 5 1, 3) := by decide +kernel
theorem d7_41 : decode jdk_52_method_21_code 41 = .ok (.goto (-38), 3) := by decide +kernel
theorem d7_44 : decode jdk_52_method_21_code 44 = .ok (.iload 4, 2) := by decide +kernel
theorem d7_46 : decode jdk_52_method_21_code 46 = .ok (.ireturn, 1) := by decide +kernel
theorem d8_0 : decode jdk_52_method_15_code 0 = .ok (.iload_n 1, 1) := by decide +kernel
theorem d8_1 : decode jdk_52_method_15_code 1 = .ok (.aload_n 0, 1) := by decide +kernel
theorem d8_2 : decode jdk_52_method_15_code 2 = .ok (.arraylength, 1) := by decide +kernel
theorem d8_3 : decode jdk_52_method_15_code 3 = .ok (.isub, 1) := by decide +kernel
theorem d8_4 : decode jdk_52_method_15_code 4 = .ok (.bipush 31, 2) := by decide +kernel
theorem d8_6 : decode jdk_52_method_15_code 6 = .ok (.iushr, 1) := by decide +kernel
theorem d8_7 : decode jdk_52_method_15_code 7 = .ok (.i2b, 1) := by decide +kernel
theorem d8_8 : decode jdk_52_method_15_code 8 = .ok (.ireturn, 1) := by decide +kernel
theorem d9_0 : decode jdk_42_method_139_code 0 = .ok (.getstatic 38, 3) := by decide +kernel
theorem d9_3 : decode jdk_42_method_139_code 3 = .ok (.ifCond .eq 23, 3) := by decide +kernel
theorem d9_6 : decode jdk_42_method_139_code 6 = .ok (.iload_n 0, 1) := by decide +kernel
theorem d9_7 : decode jdk_42_method_139_code 7 = .ok (.invokestatic 1015, 3) := by decide +kernel
theorem d9_10 : decode jdk_42_method_139_code 10 = .ok (.ifCond .eq 16, 3) := by decide +kernel
theorem d9_13 : decode jdk_42_method_139_code 13 = .ok (.new 10, 3) := by decide +kernel
theorem d9_16 : decode jdk_42_method_139_code 16 = .ok (.dup, 1) := by decide +kernel
theorem d9_17 : decode jdk_42_method_139_code 17 = .ok (.iload_n 0, 1) := by decide +kernel
theorem d9_18 : decode jdk_42_method_139_code 18 = .ok (.invokestatic 1018, 3) := by decide +kernel
theorem d9_21 : decode jdk_42_method_139_code 21 = .ok (.iconst 0, 1) := by decide +kernel
theorem d9_22 : decode jdk_42_method_139_code 22 = .ok (.invokespecial 209, 3) := by decide +kernel
theorem d9_25 : decode jdk_42_method_139_code 25 = .ok (.areturn, 1) := by decide +kernel
theorem d10_0 : decode jdk_43_method_3_code 0 = .ok (.iload_n 0, 1) := by decide +kernel
theorem d10_1 : decode jdk_43_method_3_code 1 = .ok (.sipush 255, 3) := by decide +kernel
theorem d10_4 : decode jdk_43_method_3_code 4 = .ok (.if_icmp .gt 7, 3) := by decide +kernel
theorem d10_7 : decode jdk_43_method_3_code 7 = .ok (.iconst 1, 1) := by decide +kernel
theorem d10_8 : decode jdk_43_method_3_code 8 = .ok (.goto 4, 3) := by decide +kernel
theorem d10_11 : decode jdk_43_method_3_code 11 = .ok (.iconst 0, 1) := by decide +kernel
theorem d10_12 : decode jdk_43_method_3_code 12 = .ok (.ireturn, 1) := by decide +kernel
theorem d11_0 : decode jdk_43_method_46_code 0 = .ok (.iconst 1, 1) := by decide +kernel
theorem d11_1 : decode jdk_43_method_46_code 1 = .ok (.newarray .byte, 2) := by decide +kernel
theorem d11_3 : decode jdk_43_method_46_code 3 = .ok (.dup, 1) := by decide +kernel
theorem d11_4 : decode jdk_43_method_46_code 4 = .ok (.iconst 0, 1) := by decide +kernel
theorem d11_5 : decode jdk_43_method_46_code 5 = .ok (.iload_n 0, 1) := by decide +kernel
theorem d11_6 : decode jdk_43_method_46_code 6 = .ok (.i2b, 1) := by decide +kernel
theorem d11_7 : decode jdk_43_method_46_code 7 = .ok (.bastore, 1) := by decide +kernel
theorem d11_8 : decode jdk_43_method_46_code 8 = .ok (.areturn, 1) := by decide +kernel
theorem d12_0 : decode jdk_42_method_151_code 0 = .ok (.aload_n 0, 1) := by decide +kernel
theorem d12_1 : decode jdk_42_method_151_code 1 = .ok (.invokespecial 1, 3) := by decide +kernel
theorem d12_4 : decode jdk_42_method_151_code 4 = .ok (.aload_n 0, 1) := by decide +kernel
theorem d12_5 : decode jdk_42_method_151_code 5 = .ok (.aload_n 1, 1) := by decide +kernel
theorem d12_6 : decode jdk_42_method_151_code 6 = .ok (.putfield 9, 3) := by decide +kernel
theorem d12_9 : decode jdk_42_method_151_code 9 = .ok (.aload_n 0, 1) := by decide +kernel
theorem d12_10 : decode jdk_42_method_151_code 10 = .ok (.iload_n 2, 1) := by decide +kernel
theorem d12_11 : decode jdk_42_method_151_code 11 = .ok (.putfield 15, 3) := by decide +kernel
theorem d12_14 : decode jdk_42_method_151_code 14 = .ok (.return_, 1) := by decide +kernel
theorem d13_0 : decode prog_6_method_1_code 0 = .ok (.aload_n 0, 1) := by decide +kernel
theorem d13_1 : decode prog_6_method_1_code 1 = .ok (.invokespecial 1, 3) := by decide +kernel
theorem d13_4 : decode prog_6_method_1_code 4 = .ok (.aload_n 1, 1) := by decide +kernel
theorem d13_5 : decode prog_6_method_1_code 5 = .ok (.ldc 7, 2) := by decide +kernel
theorem d13_7 : decode prog_6_method_1_code 7 = .ok (.invokestatic 9, 3) := by decide +kernel
theorem d13_10 : decode prog_6_method_1_code 10 = .ok (.pop, 1) := by decide +kernel
theorem d13_11 : decode prog_6_method_1_code 11 = .ok (.aload_n 1, 1) := by decide +kernel
theorem d13_12 : decode prog_6_method_1_code 12 = .ok (.bipush 123, 2) := by decide +kernel
theorem d13_14 : decode prog_6_method_1_code 14 = .ok (.invokevirtual 15, 3) := by decide +kernel
theorem d13_17 : decode prog_6_method_1_code 17 = .ok (.ifCond .ge 12, 3) := by decide +kernel
theorem d13_20 : decode prog_6_method_1_code 20 = .ok (.aload_n 1, 1) := by decide +kernel
theorem d13_21 : decode prog_6_method_1_code 21 = .ok (.bipush 125, 2) := by decide +kernel
theorem d13_23 : decode prog_6_method_1_code 23 = .ok (.invokevirtual 15, 3) := by decide +kernel
theorem d13_26 : decode prog_6_method_1_code 26 = .ok (.ifCond .lt 30, 3) := by decide +kernel
theorem d13_56 : decode prog_6_method_1_code 56 = .ok (.aload_n 0, 1) := by decide +kernel
theorem d13_57 : decode prog_6_method_1_code 57 = .ok (.aload_n 1, 1) := by decide +kernel
theorem d13_58 : decode prog_6_method_1_code 58 = .ok (.putfield 39, 3) := by decide +kernel
theorem d13_61 : decode prog_6_method_1_code 61 = .ok (.return_, 1) := by decide +kernel
theorem d14_0 : decode jdk_31_method_11_code 0 = .ok (.aload_n 0, 1) := by decide +kernel
theorem d14_1 : decode jdk_31_method_11_code 1 = .ok (.ifnonnull 12, 3) := by decide +kernel
theorem d14_13 : decode jdk_31_method_11_code 13 = .ok (.aload_n 0, 1) := by decide +kernel
theorem d14_14 : decode jdk_31_method_11_code 14 = .ok (.areturn, 1) := by decide +kernel
theorem d15_0 : decode jdk_42_method_79_code 0 = .ok (.aload_n 0, 1) := by decide +kernel
theorem d15_1 : decode jdk_42_method_79_code 1 = .ok (.iload_n 1, 1) := by decide +kernel
theorem d15_2 : decode jdk_42_method_79_code 2 = .ok (.iconst 0, 1) := by decide +kernel
theorem d15_3 : decode jdk_42_method_79_code 3 = .ok (.invokevirtual 633, 3) := by decide +kernel
theorem d15_6 : decode jdk_42_method_79_code 6 = .ok (.ireturn, 1) := by decide +kernel
theorem d16_0 : decode jdk_42_method_80_code 0 = .ok (.aload_n 0, 1) := by decide +kernel
theorem d16_1 : decode jdk_42_method_80_code 1 = .ok (.invokevirtual 492, 3) := by decide +kernel
theorem d16_4 : decode jdk_42_method_80_code 4 = .ok (.ifCond .eq 19, 3) := by decide +kernel
theorem d16_7 : decode jdk_42_method_80_code 7 = .ok (.aload_n 0, 1) := by decide +kernel
theorem d16_8 : decode jdk_42_method_80_code 8 = .ok (.getfield 9, 3) := by decide +kernel
theorem d16_11 : decode jdk_42_method_80_code 11 = .ok (.iload_n 1, 1) := by decide +kernel
theorem d16_12 : decode jdk_42_method_80_code 12 = .ok (.iload_n 2, 1) := by decide +kernel
theorem d16_13 : decode jdk_42_method_80_code 13 = .ok (.aload_n 0, 1) := by decide +kernel
theorem d16_14 : decode jdk_42_method_80_code 14 = .ok (.invokevirtual 505, 3) := by decide +kernel
theorem d16_17 : decode jdk_42_method_80_code 17 = .ok (.invokestatic 637, 3) := by decide +kernel
theorem d16_20 : decode jdk_42_method_80_code 20 = .ok (.goto 16, 3) := by decide +kernel
theorem d16_36 : decode jdk_42_method_80_code 36 = .ok (.ireturn, 1) := by decide +kernel
theorem d17_0 : decode jdk_42_method_154_code 0 = .ok (.getstatic 38, 3) := by decide +kernel
theorem d17_3 : decode jdk_42_method_154_code 3 = .ok (.ifCond .eq 14, 3) := by decide +kernel
theorem d17_6 : decode jdk_42_method_154_code 6 = .ok (.aload_n 0, 1) := by decide +kernel
theorem d17_7 : decode jdk_42_method_154_code 7 = .ok (.getfield 15, 3) := by decide +kernel
theorem d17_10 : decode jdk_42_method_154_code 10 = .ok (.ifCond .ne 7, 3) := by decide +kernel
theorem d17_13 : decode jdk_42_method_154_code 13 = .ok (.iconst 1, 1) := by decide +kernel
theorem d17_14 : decode jdk_42_method_154_code 14 = .ok (.goto 4, 3) := by decide +kernel
theorem d17_18 : decode jdk_42_method_154_code 18 = .ok (.ireturn, 1) := by decide +kernel
theorem d18_0 : decode jdk_42_method_54_code 0 = .ok (.aload_n 0, 1) := by decide +kernel
theorem d18_1 : decode jdk_42_method_54_code 1 = .ok (.getfield 9, 3) := by decide +kernel
theorem d18_4 : decode jdk_42_method_54_code 4 = .ok (.arraylength, 1) := by decide +kernel
theorem d18_5 : decode jdk_42_method_54_code 5 = .ok (.aload_n 0, 1) := by decide +kernel
theorem d18_6 : decode jdk_42_method_54_code 6 = .ok (.invokevirtual 335, 3) := by decide +kernel
theorem d18_9 : decode jdk_42_method_54_code 9 = .ok (.ishr, 1) := by decide +kernel
theorem d18_10 : decode jdk_42_method_54_code 10 = .ok (.ireturn, 1) := by decide +kernel
theorem d19_0 : decode jdk_42_method_152_code 0 = .ok (.getstatic 38, 3) := by decide +kernel
theorem d19_3 : decode jdk_42_method_152_code 3 = .ok (.ifCond .eq 10, 3) := by decide +kernel
theorem d19_6 : decode jdk_42_method_152_code 6 = .ok (.aload_n 0, 1) := by decide +kernel
theorem d19_7 : decode jdk_42_method_152_code 7 = .ok (.getfield 15, 3) := by decide +kernel
theorem d19_10 : decode jdk_42_method_152_code 10 = .ok (.goto 4, 3) := by decide +kernel
theorem d19_14 : decode jdk_42_method_152_code 14 = .ok (.ireturn, 1) := by decide +kernel
theorem d20_0 : decode jdk_43_method_22_code 0 = .ok (.iload_n 1, 1) := by decide +kernel
theorem d20_1 : decode jdk_43_method_22_code 1 = .ok (.invokestatic 88, 3) := by decide +kernel
theorem d20_4 : decode jdk_43_method_22_code 4 = .ok (.ifCond .ne 5, 3) := by decide +kernel
theorem d20_9 : decode jdk_43_method_22_code 9 = .ok (.iload_n 2, 1) := by decide +kernel
theorem d20_10 : decode jdk_43_method_22_code 10 = .ok (.iconst 0, 1) := by decide +kernel
theorem d20_11 : decode jdk_43_method_22_code 11 = .ok (.invokestatic 92, 3) := by decide +kernel
theorem d20_14 : decode jdk_43_method_22_code 14 = .ok (.istore_n 2, 1) := by decide +kernel
theorem d20_15 : decode jdk_43_method_22_code 15 = .ok (.iload_n 3, 1) := by decide +kernel
theorem d20_16 : decode jdk_43_method_22_code 16 = .ok (.aload_n 0, 1) := by decide +kernel
theorem d20_17 : decode jdk_43_method_22_code 17 = .ok (.arraylength, 1) := by decide +kernel
theorem d20_18 : decode jdk_43_method_22_code 18 = .ok (.invokestatic 38, 3) := by decide +kernel
theorem d20_21 : decode jdk_43_method_22_code 21 = .ok (.istore_n 3, 1) := by decide +kernel
theorem d20_22 : decode jdk_43_method_22_code 22 = .ok (.iload_n 2, 1) := by decide +kernel
theorem d20_23 : decode jdk_43_method_22_code 23 = .ok (.iload_n 3, 1) := by decide +kernel
theorem d20_24 : decode jdk_43_method_22_code 24 = .ok (.if_icmp .lt 5, 3) := by decide +kernel
theorem d20_27 : decode jdk_43_method_22_code 27 = .ok (.iconst (-1), 1) := by decide +kernel
theorem d20_28 : decode jdk_43_method_22_code 28 = .ok (.ireturn, 1) := by decide +kernel
theorem d20_29 : decode jdk_43_method_22_code 29 = .ok (.aload_n 0, 1) := by decide +kernel
theorem d20_30 : decode jdk_43_method_22_code 30 = .ok (.iload_n 1, 1) := by decide +kernel
theorem d20_31 : decode jdk_43_method_22_code 31 = .ok (.iload_n 2, 1) := by decide +kernel
theorem d20_32 : decode jdk_43_method_22_code 32 = .ok (.iload_n 3, 1) := by decide +kernel
theorem d20_33 : decode jdk_43_method_22_code 33 = .ok (.invokestatic 95, 3) := by decide +kernel
theorem d20_36 : decode jdk_43_method_22_code 36 = .ok (.ireturn, 1) := by decide +kernel
theorem d21_0 : decode jdk_43_method_4_code 0 = .ok (.iload_n 0, 1) := by decide +kernel
theorem d21_1 : decode jdk_43_method_4_code 1 = .ok (.ifCond .lt 14, 3) := by decide +kernel
theorem d21_4 : decode jdk_43_method_4_code 4 = .ok (.iload_n 0, 1) := by decide +kernel
theorem d21_5 : decode jdk_43_method_4_code 5 = .ok (.sipush 255, 3) := by decide +kernel
theorem d21_8 : decode jdk_43_method_4_code 8 = .ok (.if_icmp .gt 7, 3) := by decide +kernel
theorem d21_11 : decode jdk_43_method_4_code 11 = .ok (.iconst 1, 1) := by decide +kernel
theorem d21_12 : decode jdk_43_method_4_code 12 = .ok (.goto 4, 3) := by decide +kernel
theorem d21_16 : decode jdk_43_method_4_code 16 = .ok (.ireturn, 1) := by decide +kernel
theorem d22_0 : decode jdk_29_method_65_code 0 = .ok (.iload_n 0, 1) := by decide +kernel
theorem d22_1 : decode jdk_29_method_65_code 1 = .ok (.iload_n 1, 1) := by decide +kernel
theorem d22_2 : decode jdk_29_method_65_code 2 = .ok (.if_icmp .lt 7, 3) := by decide +kernel
theorem d22_5 : decode jdk_29_method_65_code 5 = .ok (.iload_n 0, 1) := by decide +kernel
theorem d22_6 : decode jdk_29_method_65_code 6 = .ok (.goto 4, 3) := by decide +kernel
theorem d22_10 : decode jdk_29_method_65_code 10 = .ok (.ireturn, 1) := by decide +kernel
theorem d23_0 : decode jdk_29_method_69_code 0 = .ok (.iload_n 0, 1) := by decide +kernel
theorem d23_1 : decode jdk_29_method_69_code 1 = .ok (.iload_n 1, 1) := by decide +kernel
theorem d23_2 : decode jdk_29_method_69_code 2 = .ok (.if_icmp .gt 7, 3) := by decide +kernel
theorem d23_5 : decode jdk_29_method_69_code 5 = .ok (.iload_n 0, 1) := by decide +kernel
theorem d23_6 : decode jdk_29_method_69_code 6 = .ok (.goto 4, 3) := by decide +kernel
theorem d23_9 : decode jdk_29_method_69_code 9 = .ok (.iload_n 1, 1) := by decide +kernel
theorem d23_10 : decode jdk_29_method_69_code 10 = .ok (.ireturn, 1) := by decide +kernel
theorem d24_0 : decode jdk_43_method_23_code 0 = .ok (.iload_n 1, 1) := by decide +kernel
theorem d24_1 : decode jdk_43_method_23_code 1 = .ok (.i2b, 1) := by decide +kernel
theorem d24_2 : decode jdk_43_method_23_code 2 = .ok (.istore 4, 2) := by decide +kernel
theorem d24_4 : decode jdk_43_method_23_code 4 = .ok (.iload_n 2, 1) := by decide +kernel
theorem d24_5 : decode jdk_43_method_23_code 5 = .ok (.istore 5, 2) := by decide +kernel
theorem d24_7 : decode jdk_43_method_23_code 7 = .ok (.iload 5, 2) := by decide +kernel
theorem d24_9 : decode jdk_43_method_23_code 9 = .ok (.iload_n 3, 1) := by decide +kernel
theorem d24_10 : decode jdk_43_method_23_code 10 = .ok (.if_icmp .ge 21, 3) := by decide +kernel
theorem d24_13 : decode jdk_43_method_23_code 13 = .ok (.aload_n 0, 1) := by decide +kernel
theorem d24_14 : decode jdk_43_method_23_code 14 = .ok (.iload 5, 2) := by decide +kernel
theorem d24_16 : decode jdk_43_method_23_code 16 = .ok (.baload, 1) := by decide +kernel
theorem d24_17 : decode jdk_43_method_23_code 17 = .ok (.iload 4, 2) := by decide +kernel
theorem d24_19 : decode jdk_43_method_23_code 19 = .ok (.if_icmp .ne 6, 3) := by decide +kernel
theorem d24_22 : decode jdk_43_method_23_code 22 = .ok (.iload 5, 2) := by decide +kernel
theorem d24_24 : decode jdk_43_method_23_code 24 = .ok (.ireturn, 1) := by decide +kernel
theorem d24_25 : decode jdk_43_method_23_code 25 = .ok (.iinc 5 1, 3) := by decide +kernel
theorem d24_28 : decode jdk_43_method_23_code 28 = .ok (.goto (-21), 3) := by decide +kernel
theorem d24_31 : decode jdk_43_method_23_code 31 = .ok (.iconst (-1), 1) := by decide +kernel
theorem d24_32 : decode jdk_43_method_23_code 32 = .ok (.ireturn, 1) := by decide +kernel
theorem d25_0 : decode prog_6_method_2_code 0 = .ok (.new 23, 3) := by decide +kernel
theorem d25_3 : decode prog_6_method_2_code 3 = .ok (.dup, 1) := by decide +kernel
theorem d25_4 : decode prog_6_method_2_code 4 = .ok (.invokespecial 25, 3) := by decide +kernel
theorem d25_7 : decode prog_6_method_2_code 7 = .ok (.aload_n 0, 1) := by decide +kernel
theorem d25_8 : decode prog_6_method_2_code 8 = .ok (.getfield 39, 3) := by decide +kernel
theorem d25_11 : decode prog_6_method_2_code 11 = .ok (.invokevirtual 28, 3) := by decide +kernel
theorem d25_14 : decode prog_6_method_2_code 14 = .ok (.ldc 44, 2) := by decide +kernel
theorem d25_16 : decode prog_6_method_2_code 16 = .ok (.invokevirtual 28, 3) := by decide +kernel
theorem d25_19 : decode prog_6_method_2_code 19 = .ok (.aload_n 1, 1) := by decide +kernel
theorem d25_20 : decode prog_6_method_2_code 20 = .ok (.invokestatic 46, 3) := by decide +kernel
theorem d25_23 : decode prog_6_method_2_code 23 = .ok (.invokevirtual 28, 3) := by decide +kernel
theorem d25_26 : decode prog_6_method_2_code 26 = .ok (.invokevirtual 32, 3) := by decide +kernel
theorem d25_29 : decode prog_6_method_2_code 29 = .ok (.areturn, 1) := by decide +kernel
theorem d26_0 : decode jdk_67_method_1_code 0 = .ok (.aload_n 0, 1) := by decide +kernel
theorem d26_1 : decode jdk_67_method_1_code 1 = .ok (.bipush 16, 2) := by decide +kernel
theorem d26_3 : decode jdk_67_method_1_code 3 = .ok (.invokespecial 1, 3) := by decide +kernel
theorem d26_6 : decode jdk_67_method_1_code 6 = .ok (.return_, 1) := by decide +kernel
theorem d27_0 : decode jdk_68_method_2_code 0 = .ok (.aload_n 0, 1) := by decide +kernel
theorem d27_1 : decode jdk_68_method_2_code 1 = .ok (.invokespecial 3, 3) := by decide +kernel
theorem d27_4 : decode jdk_68_method_2_code 4 = .ok (.getstatic 18, 3) := by decide +kernel
theorem d27_7 : decode jdk_68_method_2_code 7 = .ok (.ifCond .eq 18, 3) := by decide +kernel
theorem d27_10 : decode jdk_68_method_2_code 10 = .ok (.aload_n 0, 1) := by decide +kernel
theorem d27_11 : decode jdk_68_method_2_code 11 = .ok (.iload_n 1, 1) := by decide +kernel
theorem d27_12 : decode jdk_68_method_2_code 12 = .ok (.newarray .byte, 2) := by decide +kernel
theorem d27_14 : decode jdk_68_method_2_code 14 = .ok (.putfield 15, 3) := by decide +kernel
theorem d27_17 : decode jdk_68_method_2_code 17 = .ok (.aload_n 0, 1) := by decide +kernel
theorem d27_18 : decode jdk_68_method_2_code 18 = .ok (.iconst 0, 1) := by decide +kernel
theorem d27_19 : decode jdk_68_method_2_code 19 = .ok (.putfield 22, 3) := by decide +kernel
theorem d27_22 : decode jdk_68_method_2_code 22 = .ok (.goto 16, 3) := by decide +kernel
theorem d27_38 : decode jdk_68_method_2_code 38 = .ok (.return_, 1) := by decide +kernel
theorem d28_0 : decode jdk_67_method_7_code 0 = .ok (.aload_n 0, 1) := by decide +kernel
theorem d28_1 : decode jdk_67_method_7_code 1 = .ok (.aload_n 1, 1) := by decide +kernel
theorem d28_2 : decode jdk_67_method_7_code 2 = .ok (.invokespecial 29, 3) := by decide +kernel
theorem d28_5 : decode jdk_67_method_7_code 5 = .ok (.pop, 1) := by decide +kernel
theorem d28_6 : decode jdk_67_method_7_code 6 = .ok (.aload_n 0, 1) := by decide +kernel
theorem d28_7 : decode jdk_67_method_7_code 7 = .ok (.areturn, 1) := by decide +kernel
theorem d29_0 : decode jdk_68_method_22_code 0 = .ok (.aload_n 1, 1) := by decide +kernel
theorem d29_1 : decode jdk_68_method_22_code 1 = .ok (.ifnonnull 8, 3) := by decide +kernel
theorem d29_9 : decode jdk_68_method_22_code 9 = .ok (.aload_n 1, 1) := by decide +kernel
theorem d29_10 : decode jdk_68_method_22_code 10 = .ok (.invokevirtual 32, 3) := by decide +kernel
theorem d29_13 : decode jdk_68_method_22_code 13 = .ok (.istore_n 2, 1) := by decide +kernel
theorem d29_14 : decode jdk_68_method_22_code 14 = .ok (.aload_n 0, 1) := by decide +kernel
theorem d29_15 : decode jdk_68_method_22_code 15 = .ok (.aload_n 0, 1) := by decide +kernel
theorem d29_16 : decode jdk_68_method_22_code 16 = .ok (.getfield 79, 3) := by decide +kernel
theorem d29_19 : decode jdk_68_method_22_code 19 = .ok (.iload_n 2, 1) := by decide +kernel
theorem d29_20 : decode jdk_68_method_22_code 20 = .ok (.iadd, 1) := by decide +kernel
theorem d29_21 : decode jdk_68_method_22_code 21 = .ok (.invokevirtual 100, 3) := by decide +kernel
theorem d29_24 : decode jdk_68_method_22_code 24 = .ok (.aload_n 0, 1) := by decide +kernel
theorem d29_25 : decode jdk_68_method_22_code 25 = .ok (.aload_n 0, 1) := by decide +kernel
theorem d29_26 : decode jdk_68_method_22_code 26 = .ok (.getfield 79, 3) := by decide +kernel
theorem d29_29 : decode jdk_68_method_22_code 29 = .ok (.aload_n 1, 1) := by decide +kernel
theorem d29_30 : decode jdk_68_method_22_code 30 = .ok (.invokevirtual 208, 3) := by decide +kernel
theorem d29_33 : decode jdk_68_method_22_code 33 = .ok (.aload_n 0, 1) := by decide +kernel
theorem d29_34 : decode jdk_68_method_22_code 34 = .ok (.dup, 1) := by decide +kernel
theorem d29_35 : decode jdk_68_method_22_code 35 = .ok (.getfield 79, 3) := by decide +kernel
theorem d29_38 : decode jdk_68_method_22_code 38 = .ok (.iload_n 2, 1) := by decide +kernel
theorem d29_39 : decode jdk_68_method_22_code 39 = .ok (.iadd, 1) := by decide +kernel
theorem d29_40 : decode jdk_68_method_22_code 40 = .ok (.putfield 79, 3) := by decide +kernel
theorem d29_43 : decode jdk_68_method_22_code 43 = .ok (.aload_n 0, 1) := by decide +kernel
theorem d29_44 : decode jdk_68_method_22_code 44 = .ok (.areturn, 1) := by decide +kernel
theorem d30_0 : decode jdk_68_method_9_code 0 = .ok (.aload_n 0, 1) := by decide +kernel
theorem d30_1 : decode jdk_68_method_9_code 1 = .ok (.getfield 15, 3) := by decide +kernel
theorem d30_4 : decode jdk_68_method_9_code 4 = .ok (.arraylength, 1) := by decide +kernel
theorem d30_5 : decode jdk_68_method_9_code 5 = .ok (.aload_n 0, 1) := by decide +kernel
theorem d30_6 : decode jdk_68_method_9_code 6 = .ok (.getfield 22, 3) := by decide +kernel
theorem d30_9 : decode jdk_68_method_9_code 9 = .ok (.ishr, 1) := by decide +kernel
theorem d30_10 : decode jdk_68_method_9_code 10 = .ok (.istore_n 2, 1) := by decide +kernel
theorem d30_11 : decode jdk_68_method_9_code 11 = .ok (.iload_n 1, 1) := by decide +kernel
theorem d30_12 : decode jdk_68_method_9_code 12 = .ok (.iload_n 2, 1) := by decide +kernel
theorem d30_13 : decode jdk_68_method_9_code 13 = .ok (.isub, 1) := by decide +kernel
theorem d30_14 : decode jdk_68_method_9_code 14 = .ok (.ifCond .le 24, 3) := by decide +kernel
theorem d30_38 : decode jdk_68_method_9_code 38 = .ok (.return_, 1) := by decide +kernel
theorem d31_0 : decode jdk_68_method_73_code 0 = .ok (.aload_n 0, 1) := by decide +kernel
theorem d31_1 : decode jdk_68_method_73_code 1 = .ok (.aload_n 2, 1) := by decide +kernel
theorem d31_2 : decode jdk_68_method_73_code 2 = .ok (.invokevirtual 397, 3) := by decide +kernel
theorem d31_5 : decode jdk_68_method_73_code 5 = .ok (.aload_n 2, 1) := by decide +kernel
theorem d31_6 : decode jdk_68_method_73_code 6 = .ok (.aload_n 0, 1) := by decide +kernel
theorem d31_7 : decode jdk_68_method_73_code 7 = .ok (.getfield 15, 3) := by decide +kernel
theorem d31_10 : decode jdk_68_method_73_code 10 = .ok (.iload_n 1, 1) := by decide +kernel
theorem d31_11 : decode jdk_68_method_73_code 11 = .ok (.aload_n 0, 1) := by decide +kernel
theorem d31_12 : decode jdk_68_method_73_code 12 = .ok (.getfield 22, 3) := by decide +kernel
theorem d31_15 : decode jdk_68_method_73_code 15 = .ok (.invokevirtual 399, 3) := by decide +kernel
theorem d31_18 : decode jdk_68_method_73_code 18 = .ok (.return_, 1) := by decide +kernel
theorem d32_0 : decode jdk_68_method_71_code 0 = .ok (.getstatic 18, 3) := by decide +kernel
theorem d32_3 : decode jdk_68_method_71_code 3 = .ok (.ifCond .eq 18, 3) := by decide +kernel
theorem d32_6 : decode jdk_68_method_71_code 6 = .ok (.aload_n 0, 1) := by decide +kernel
theorem d32_7 : decode jdk_68_method_71_code 7 = .ok (.getfield 22, 3) := by decide +kernel
theorem d32_10 : decode jdk_68_method_71_code 10 = .ok (.aload_n 1, 1) := by decide +kernel
theorem d32_11 : decode jdk_68_method_71_code 11 = .ok (.invokevirtual 40, 3) := by decide +kernel
theorem d32_14 : decode jdk_68_method_71_code 14 = .ok (.if_icmp .eq 7, 3) := by decide +kernel
theorem d32_21 : decode jdk_68_method_71_code 21 = .ok (.return_, 1) := by decide +kernel
theorem d33_0 : decode jdk_42_method_147_code 0 = .ok (.aload_n 0, 1) := by decide +kernel
theorem d33_1 : decode jdk_42_method_147_code 1 = .ok (.invokevirtual 335, 3) := by decide +kernel
theorem d33_4 : decode jdk_42_method_147_code 4 = .ok (.iload_n 3, 1) := by decide +kernel
theorem d33_5 : decode jdk_42_method_147_code 5 = .ok (.if_icmp .ne 23, 3) := by decide +kernel
theorem d33_8 : decode jdk_42_method_147_code 8 = .ok (.aload_n 0, 1) := by decide +kernel
theorem d33_9 : decode jdk_42_method_147_code 9 = .ok (.getfield 9, 3) := by decide +kernel
theorem d33_12 : decode jdk_42_method_147_code 12 = .ok (.iconst 0, 1) := by decide +kernel
theorem d33_13 : decode jdk_42_method_147_code 13 = .ok (.aload_n 1, 1) := by decide +kernel
theorem d33_14 : decode jdk_42_method_147_code 14 = .ok (.iload_n 2, 1) := by decide +kernel
theorem d33_15 : decode jdk_42_method_147_code 15 = .ok (.iload_n 3, 1) := by decide +kernel
theorem d33_16 : decode jdk_42_method_147_code 16 = .ok (.ishl, 1) := by decide +kernel
theorem d33_17 : decode jdk_42_method_147_code 17 = .ok (.aload_n 0, 1) := by decide +kernel
theorem d33_18 : decode jdk_42_method_147_code 18 = .ok (.getfield 9, 3) := by decide +kernel
theorem d33_21 : decode jdk_42_method_147_code 21 = .ok (.arraylength, 1) := by decide +kernel
theorem d33_22 : decode jdk_42_method_147_code 22 = .ok (.invokestatic 212, 3) := by decide +kernel
theorem d33_25 : decode jdk_42_method_147_code 25 = .ok (.goto 18, 3) := by decide +kernel
theorem d33_43 : decode jdk_42_method_147_code 43 = .ok (.return_, 1) := by decide +kernel
theorem d34_0 : decode prog_6_method_8_code 0 = .ok (.aload_n 0, 1) := by decide +kernel
theorem d34_1 : decode prog_6_method_8_code 1 = .ok (.ldc 60, 2) := by decide +kernel
theorem d34_3 : decode prog_6_method_8_code 3 = .ok (.invokestatic 9, 3) := by decide +kernel
theorem d34_6 : decode prog_6_method_8_code 6 = .ok (.pop, 1) := by decide +kernel
theorem d34_7 : decode prog_6_method_8_code 7 = .ok (.aload_n 0, 1) := by decide +kernel
theorem d34_8 : decode prog_6_method_8_code 8 = .ok (.invokevirtual 62, 3) := by decide +kernel
theorem d34_11 : decode prog_6_method_8_code 11 = .ok (.ifCond .ne 13, 3) := by decide +kernel
theorem d34_14 : decode prog_6_method_8_code 14 = .ok (.aload_n 0, 1) := by decide +kernel
theorem d34_15 : decode prog_6_method_8_code 15 = .ok (.iconst 0, 1) := by decide +kernel
theorem d34_16 : decode prog_6_method_8_code 16 = .ok (.invokevirtual 66, 3) := by decide +kernel
theorem d34_19 : decode prog_6_method_8_code 19 = .ok (.bipush 125, 2) := by decide +kernel
theorem d34_21 : decode prog_6_method_8_code 21 = .ok (.if_icmp .ne 30, 3) := by decide +kernel
theorem d34_51 : decode prog_6_method_8_code 51 = .ok (.new 23, 3) := by decide +kernel
theorem d34_54 : decode prog_6_method_8_code 54 = .ok (.dup, 1) := by decide +kernel
theorem d34_55 : decode prog_6_method_8_code 55 = .ok (.invokespecial 25, 3) := by decide +kernel
theorem d34_58 : decode prog_6_method_8_code 58 = .ok (.ldc 72, 2) := by decide +kernel
theorem d34_60 : decode prog_6_method_8_code 60 = .ok (.invokevirtual 28, 3) := by decide +kernel
theorem d34_63 : decode prog_6_method_8_code 63 = .ok (.aload_n 0, 1) := by decide +kernel
theorem d34_64 : decode prog_6_method_8_code 64 = .ok (.invokevirtual 28, 3) := by decide +kernel
theorem d34_67 : decode prog_6_method_8_code 67 = .ok (.ldc 74, 2) := by decide +kernel
theorem d34_69 : decode prog_6_method_8_code 69 = .ok (.invokevirtual 28, 3) := by decide +kernel
theorem d34_72 : decode prog_6_method_8_code 72 = .ok (.invokevirtual 32, 3) := by decide +kernel
theorem d34_75 : decode prog_6_method_8_code 75 = .ok (.areturn, 1) := by decide +kernel
theorem d35_0 : decode jdk_42_method_55_code 0 = .ok (.aload_n 0, 1) := by decide +kernel
theorem d35_1 : decode jdk_42_method_55_code 1 = .ok (.getfield 9, 3) := by decide +kernel
theorem d35_4 : decode jdk_42_method_55_code 4 = .ok (.arraylength, 1) := by decide +kernel
theorem d35_5 : decode jdk_42_method_55_code 5 = .ok (.ifCond .ne 7, 3) := by decide +kernel
theorem d35_12 : decode jdk_42_method_55_code 12 = .ok (.iconst 0, 1) := by decide +kernel
theorem d35_13 : decode jdk_42_method_55_code 13 = .ok (.ireturn, 1) := by decide +kernel
theorem d36_0 : decode jdk_42_method_56_code 0 = .ok (.aload_n 0, 1) := by decide +kernel
theorem d36_1 : decode jdk_42_method_56_code 1 = .ok (.invokevirtual 492, 3) := by decide +kernel
theorem d36_4 : decode jdk_42_method_56_code 4 = .ok (.ifCond .eq 12, 3) := by decide +kernel
theorem d36_7 : decode jdk_42_method_56_code 7 = .ok (.aload_n 0, 1) := by decide +kernel
theorem d36_8 : decode jdk_42_method_56_code 8 = .ok (.getfield 9, 3) := by decide +kernel
theorem d36_11 : decode jdk_42_method_56_code 11 = .ok (.iload_n 1, 1) := by decide +kernel
theorem d36_12 : decode jdk_42_method_56_code 12 = .ok (.invokestatic 495, 3) := by decide +kernel
theorem d36_15 : decode jdk_42_method_56_code 15 = .ok (.ireturn, 1) := by decide +kernel
theorem d37_0 : decode jdk_43_method_2_code 0 = .ok (.iload_n 1, 1) := by decide +kernel
theorem d37_1 : decode jdk_43_method_2_code 1 = .ok (.aload_n 0, 1) := by decide +kernel
theorem d37_2 : decode jdk_43_method_2_code 2 = .ok (.arraylength, 1) := by decide +kernel
theorem d37_3 : decode jdk_43_method_2_code 3 = .ok (.invokestatic 9, 3) := by decide +kernel
theorem d37_6 : decode jdk_43_method_2_code 6 = .ok (.aload_n 0, 1) := by decide +kernel
theorem d37_7 : decode jdk_43_method_2_code 7 = .ok (.iload_n 1, 1) := by decide +kernel
theorem d37_8 : decode jdk_43_method_2_code 8 = .ok (.baload, 1) := by decide +kernel
theorem d37_9 : decode jdk_43_method_2_code 9 = .ok (.sipush 255, 3) := by decide +kernel
theorem d37_12 : decode jdk_43_method_2_code 12 = .ok (.iand, 1) := by decide +kernel
theorem d37_13 : decode jdk_43_method_2_code 13 = .ok (.i2c, 1) := by decide +kernel
theorem d37_14 : decode jdk_43_method_2_code 14 = .ok (.ireturn, 1) := by decide +kernel
theorem d38_0 : decode jdk_42_method_155_code 0 = .ok (.iload_n 0, 1) := by decide +kernel
theorem d38_1 : decode jdk_42_method_155_code 1 = .ok (.iload_n 1, 1) := by decide +kernel
theorem d38_2 : decode jdk_42_method_155_code 2 = .ok (.getstatic 1053, 3) := by decide +kernel
theorem d38_5 : decode jdk_42_method_155_code 5 = .ok (.invokestatic 1059, 3) := by decide +kernel
theorem d38_8 : decode jdk_42_method_155_code 8 = .ok (.pop, 1) := by decide +kernel
theorem d38_9 : decode jdk_42_method_155_code 9 = .ok (.return_, 1) := by decide +kernel
theorem d39_0 : decode jdk_41_method_11_code 0 = .ok (.iload_n 0, 1) := by decide +kernel
theorem d39_1 : decode jdk_41_method_11_code 1 = .ok (.ifCond .lt 8, 3) := by decide +kernel
theorem d39_4 : decode jdk_41_method_11_code 4 = .ok (.iload_n 0, 1) := by decide +kernel
theorem d39_5 : decode jdk_41_method_11_code 5 = .ok (.iload_n 1, 1) := by decide +kernel
theorem d39_6 : decode jdk_41_method_11_code 6 = .ok (.if_icmp .lt 10, 3) := by decide +kernel
theorem d39_16 : decode jdk_41_method_11_code 16 = .ok (.iload_n 0, 1) := by decide +kernel
theorem d39_17 : decode jdk_41_method_11_code 17 = .ok (.ireturn, 1) := by decide +kernel
theorem d40_0 : decode jdk_67_method_42_code 0 = .ok (.new 18, 3) := by decide +kernel
theorem d40_3 : decode jdk_67_method_42_code 3 = .ok (.dup, 1) := by decide +kernel
theorem d40_4 : decode jdk_67_method_42_code 4 = .ok (.aload_n 0, 1) := by decide +kernel
theorem d40_5 : decode jdk_67_method_42_code 5 = .ok (.invokespecial 137, 3) := by decide +kernel
theorem d40_8 : decode jdk_67_method_42_code 8 = .ok (.areturn, 1) := by decide +kernel
theorem d41_0 : decode jdk_42_method_53_code 0 = .ok (.aload_n 0, 1) := by decide +kernel
theorem d41_1 : decode jdk_42_method_53_code 1 = .ok (.aload_n 1, 1) := by decide +kernel
theorem d41_2 : decode jdk_42_method_53_code 2 = .ok (.aconst_null, 1) := by decide +kernel
theorem d41_3 : decode jdk_42_method_53_code 3 = .ok (.invokespecial 489, 3) := by decide +kernel
theorem d41_6 : decode jdk_42_method_53_code 6 = .ok (.return_, 1) := by decide +kernel
theorem d42_0 : decode jdk_42_method_150_code 0 = .ok (.aload_n 0, 1) := by decide +kernel
theorem d42_1 : decode jdk_42_method_150_code 1 = .ok (.invokespecial 1, 3) := by decide +kernel
theorem d42_4 : decode jdk_42_method_150_code 4 = .ok (.aload_n 1, 1) := by decide +kernel
theorem d42_5 : decode jdk_42_method_150_code 5 = .ok (.invokevirtual 552, 3) := by decide +kernel
theorem d42_8 : decode jdk_42_method_150_code 8 = .ok (.astore_n 3, 1) := by decide +kernel
theorem d42_9 : decode jdk_42_method_150_code 9 = .ok (.aload_n 1, 1) := by decide +kernel
theorem d42_10 : decode jdk_42_method_150_code 10 = .ok (.invokevirtual 549, 3) := by decide +kernel
theorem d42_13 : decode jdk_42_method_150_code 13 = .ok (.istore 4, 2) := by decide +kernel
theorem d42_15 : decode jdk_42_method_150_code 15 = .ok (.aload_n 1, 1) := by decide +kernel
theorem d42_16 : decode jdk_42_method_150_code 16 = .ok (.invokevirtual 1047, 3) := by decide +kernel
theorem d42_19 : decode jdk_42_method_150_code 19 = .ok (.ifCond .eq 22, 3) := by decide +kernel
theorem d42_22 : decode jdk_42_method_150_code 22 = .ok (.aload_n 0, 1) := by decide +kernel
theorem d42_23 : decode jdk_42_method_150_code 23 = .ok (.iconst 0, 1) := by decide +kernel
theorem d42_24 : decode jdk_42_method_150_code 24 = .ok (.putfield 15, 3) := by decide +kernel
theorem d42_27 : decode jdk_42_method_150_code 27 = .ok (.aload_n 0, 1) := by decide +kernel
theorem d42_28 : decode jdk_42_method_150_code 28 = .ok (.aload_n 3, 1) := by decide +kernel
theorem d42_29 : decode jdk_42_method_150_code 29 = .ok (.iconst 0, 1) := by decide +kernel
theorem d42_30 : decode jdk_42_method_150_code 30 = .ok (.iload 4, 2) := by decide +kernel
theorem d42_32 : decode jdk_42_method_150_code 32 = .ok (.invokestatic 54, 3) := by decide +kernel
theorem d42_35 : decode jdk_42_method_150_code 35 = .ok (.putfield 9, 3) := by decide +kernel
theorem d42_38 : decode jdk_42_method_150_code 38 = .ok (.goto 59, 3) := by decide +kernel
theorem d42_97 : decode jdk_42_method_150_code 97 = .ok (.return_, 1) := by decide +kernel
theorem d43_0 : decode jdk_68_method_64_code 0 = .ok (.aload_n 0, 1) := by decide +kernel
theorem d43_1 : decode jdk_68_method_64_code 1 = .ok (.getfield 15, 3) := by decide +kernel
theorem d43_4 : decode jdk_68_method_64_code 4 = .ok (.areturn, 1) := by decide +kernel
theorem d44_0 : decode jdk_67_method_93_code 0 = .ok (.aload_n 0, 1) := by decide +kernel
theorem d44_1 : decode jdk_67_method_93_code 1 = .ok (.invokespecial 343, 3) := by decide +kernel
theorem d44_4 : decode jdk_67_method_93_code 4 = .ok (.ireturn, 1) := by decide +kernel
theorem d45_0 : decode jdk_68_method_6_code 0 = .ok (.aload_n 0, 1) := by decide +kernel
theorem d45_1 : decode jdk_68_method_6_code 1 = .ok (.getfield 79, 3) := by decide +kernel
theorem d45_4 : decode jdk_68_method_6_code 4 = .ok (.ireturn, 1) := by decide +kernel
theorem d46_0 : decode jdk_68_method_68_code 0 = .ok (.getstatic 18, 3) := by decide +kernel
theorem d46_3 : decode jdk_68_method_68_code 3 = .ok (.ifCond .eq 14, 3) := by decide +kernel
theorem d46_6 : decode jdk_68_method_68_code 6 = .ok (.aload_n 0, 1) := by decide +kernel
theorem d46_7 : decode jdk_68_method_68_code 7 = .ok (.getfield 22, 3) := by decide +kernel
theorem d46_10 : decode jdk_68_method_68_code 10 = .ok (.ifCond .ne 7, 3) := by decide +kernel
theorem d46_13 : decode jdk_68_method_68_code 13 = .ok (.iconst 1, 1) := by decide +kernel
theorem d46_14 : decode jdk_68_method_68_code 14 = .ok (.goto 4, 3) := by decide +kernel
theorem d46_18 : decode jdk_68_method_68_code 18 = .ok (.ireturn, 1) := by decide +kernel
theorem d47_0 : decode jdk_65_method_132_code 0 = .ok (.iload_n 1, 1) := by decide +kernel
theorem d47_1 : decode jdk_65_method_132_code 1 = .ok (.ifCond .ne 9, 3) := by decide +kernel
theorem d47_4 : decode jdk_65_method_132_code 4 = .ok (.iload_n 2, 1) := by decide +kernel
theorem d47_5 : decode jdk_65_method_132_code 5 = .ok (.aload_n 0, 1) := by decide +kernel
theorem d47_6 : decode jdk_65_method_132_code 6 = .ok (.arraylength, 1) := by decide +kernel
theorem d47_7 : decode jdk_65_method_132_code 7 = .ok (.if_icmp .eq 10, 3) := by decide +kernel
theorem d47_10 : decode jdk_65_method_132_code 10 = .ok (.aload_n 0, 1) := by decide +kernel
theorem d47_11 : decode jdk_65_method_132_code 11 = .ok (.iload_n 1, 1) := by decide +kernel
theorem d47_12 : decode jdk_65_method_132_code 12 = .ok (.iload_n 2, 1) := by decide +kernel
theorem d47_13 : decode jdk_65_method_132_code 13 = .ok (.invokestatic 339, 3) := by decide +kernel
theorem d47_16 : decode jdk_65_method_132_code 16 = .ok (.areturn, 1) := by decide +kernel
theorem d48_0 : decode jdk_65_method_133_code 0 = .ok (.iload_n 1, 1) := by decide +kernel
theorem d48_1 : decode jdk_65_method_133_code 1 = .ok (.iload_n 2, 1) := by decide +kernel
theorem d48_2 : decode jdk_65_method_133_code 2 = .ok (.invokestatic 343, 3) := by decide +kernel
theorem d48_5 : decode jdk_65_method_133_code 5 = .ok (.iload_n 2, 1) := by decide +kernel
theorem d48_6 : decode jdk_65_method_133_code 6 = .ok (.iload_n 1, 1) := by decide +kernel
theorem d48_7 : decode jdk_65_method_133_code 7 = .ok (.isub, 1) := by decide +kernel
theorem d48_8 : decode jdk_65_method_133_code 8 = .ok (.istore_n 3, 1) := by decide +kernel
theorem d48_9 : decode jdk_65_method_133_code 9 = .ok (.iload_n 3, 1) := by decide +kernel
theorem d48_10 : decode jdk_65_method_133_code 10 = .ok (.newarray .byte, 2) := by decide +kernel
theorem d48_12 : decode jdk_65_method_133_code 12 = .ok (.astore 4, 2) := by decide +kernel
theorem d48_14 : decode jdk_65_method_133_code 14 = .ok (.aload_n 0, 1) := by decide +kernel
theorem d48_15 : decode jdk_65_method_133_code 15 = .ok (.iload_n 1, 1) := by decide +kernel
theorem d48_16 : decode jdk_65_method_133_code 16 = .ok (.aload 4, 2) := by decide +kernel
theorem d48_18 : decode jdk_65_method_133_code 18 = .ok (.iconst 0, 1) := by decide +kernel
theorem d48_19 : decode jdk_65_method_133_code 19 = .ok (.aload_n 0, 1) := by decide +kernel
theorem d48_20 : decode jdk_65_method_133_code 20 = .ok (.arraylength, 1) := by decide +kernel
theorem d48_21 : decode jdk_65_method_133_code 21 = .ok (.iload_n 1, 1) := by decide +kernel
theorem d48_22 : decode jdk_65_method_133_code 22 = .ok (.isub, 1) := by decide +kernel
theorem d48_23 : decode jdk_65_method_133_code 23 = .ok (.iload_n 3, 1) := by decide +kernel
theorem d48_24 : decode jdk_65_method_133_code 24 = .ok (.invokestatic 304, 3) := by decide +kernel
theorem d48_27 : decode jdk_65_method_133_code 27 = .ok (.invokestatic 150, 3) := by decide +kernel
theorem d48_30 : decode jdk_65_method_133_code 30 = .ok (.aload 4, 2) := by decide +kernel
theorem d48_32 : decode jdk_65_method_133_code 32 = .ok (.areturn, 1) := by decide +kernel
theorem d49_0 : decode jdk_65_method_131_code 0 = .ok (.iload_n 1, 1) := by decide +kernel
theorem d49_1 : decode jdk_65_method_131_code 1 = .ok (.iload_n 0, 1) := by decide +kernel
theorem d49_2 : decode jdk_65_method_131_code 2 = .ok (.if_icmp .ge 35, 3) := by decide +kernel
theorem d49_37 : decode jdk_65_method_131_code 37 = .ok (.return_, 1) := by decide +kernel
theorem d50_0 : decode method_5_code 0 = .ok (.iload_n 1, 1) := by decide +kernel
theorem d50_1 : decode method_5_code 1 = .ok (.iload_n 2, 1) := by decide +kernel
theorem d50_2 : decode method_5_code 2 = .ok (.if_icmp .lt 5, 3) := by decide +kernel
theorem d50_5 : decode method_5_code 5 = .ok (.iconst 1, 1) := by decide +kernel
theorem d50_6 : decode method_5_code 6 = .ok (.ireturn, 1) := by decide +kernel
theorem d50_7 : decode method_5_code 7 = .ok (.aload_n 0, 1) := by decide +kernel
theorem d50_8 : decode method_5_code 8 = .ok (.iload_n 1, 1) := by decide +kernel
theorem d50_9 : decode method_5_code 9 = .ok (.invokevirtual 18, 3) := by decide +kernel
theorem d50_12 : decode method_5_code 12 = .ok (.iload_n 1, 1) := by decide +kernel
theorem d50_13 : decode method_5_code 13 = .ok (.iload_n 3, 1) := by decide +kernel
theorem d50_14 : decode method_5_code 14 = .ok (.iload 4, 2) := by decide +kernel
theorem d50_16 : decode method_5_code 16 = .ok (.iload 5, 2) := by decide +kernel
theorem d50_18 : decode method_5_code 18 = .ok (.iload 6, 2) := by decide +kernel
theorem d50_20 : decode method_5_code 20 = .ok (.iload 7, 2) := by decide +kernel
theorem d50_22 : decode method_5_code 22 = .ok (.iload 8, 2) := by decide +kernel
theorem d50_24 : decode method_5_code 24 = .ok (.iload 9, 2) := by decide +kernel
theorem d50_26 : decode method_5_code 26 = .ok (.iload 10, 2) := by decide +kernel
theorem d50_28 : decode method_5_code 28 = .ok (.invokestatic 22, 3) := by decide +kernel
theorem d50_31 : decode method_5_code 31 = .ok (.if_icmp .ne 7, 3) := by decide +kernel
theorem d50_34 : decode method_5_code 34 = .ok (.iconst 1, 1) := by decide +kernel
theorem d50_35 : decode method_5_code 35 = .ok (.goto 4, 3) := by decide +kernel
theorem d50_39 : decode method_5_code 39 = .ok (.ireturn, 1) := by decide +kernel
theorem d51_0 : decode method_4_code 0 = .ok (.iload_n 0, 1) := by decide +kernel
theorem d51_1 : decode method_4_code 1 = .ok (.iload_n 1, 1) := by decide +kernel
theorem d51_2 : decode method_4_code 2 = .ok (.if_icmp .ge 19, 3) := by decide +kernel
theorem d51_5 : decode method_4_code 5 = .ok (.iload_n 0, 1) := by decide +kernel
theorem d51_6 : decode method_4_code 6 = .ok (.ifCond .ne 5, 3) := by decide +kernel
theorem d51_9 : decode method_4_code 9 = .ok (.iload_n 2, 1) := by decide +kernel
theorem d51_10 : decode method_4_code 10 = .ok (.ireturn, 1) := by decide +kernel
theorem d51_11 : decode method_4_code 11 = .ok (.iload_n 0, 1) := by decide +kernel
theorem d51_12 : decode method_4_code 12 = .ok (.iconst 1, 1) := by decide +kernel
theorem d51_13 : decode method_4_code 13 = .ok (.if_icmp .ne 5, 3) := by decide +kernel
theorem d51_16 : decode method_4_code 16 = .ok (.iload_n 3, 1) := by decide +kernel
theorem d51_17 : decode method_4_code 17 = .ok (.ireturn, 1) := by decide +kernel
theorem d51_18 : decode method_4_code 18 = .ok (.iload 4, 2) := by decide +kernel
theorem d51_20 : decode method_4_code 20 = .ok (.ireturn, 1) := by decide +kernel
theorem d51_21 : decode method_4_code 21 = .ok (.iload_n 0, 1) := by decide +kernel
theorem d51_22 : decode method_4_code 22 = .ok (.iload_n 1, 1) := by decide +kernel
theorem d51_23 : decode method_4_code 23 = .ok (.isub, 1) := by decide +kernel
theorem d51_24 : decode method_4_code 24 = .ok (.istore 9, 2) := by decide +kernel
theorem d51_26 : decode method_4_code 26 = .ok (.iload 9, 2) := by decide +kernel
theorem d51_28 : decode method_4_code 28 = .ok (.iconst 5, 1) := by decide +kernel
theorem d51_29 : decode method_4_code 29 = .ok (.if_icmp .ge 11, 3) := by decide +kernel
theorem d51_32 : decode method_4_code 32 = .ok (.ldc 16, 2) := by decide +kernel
theorem d51_34 : decode method_4_code 34 = .ok (.iload 9, 2) := by decide +kernel
theorem d51_36 : decode method_4_code 36 = .ok (.invokevirtual 18, 3) := by decide +kernel
theorem d51_39 : decode method_4_code 39 = .ok (.ireturn, 1) := by decide +kernel
theorem d51_40 : decode method_4_code 40 = .ok (.iload 9, 2) := by decide +kernel
theorem d51_42 : decode method_4_code 42 = .ok (.iconst 5, 1) := by decide +kernel
theorem d51_43 : decode method_4_code 43 = .ok (.if_icmp .ne 6, 3) := by decide +kernel
theorem d51_46 : decode method_4_code 46 = .ok (.bipush 123, 2) := by decide +kernel
theorem d51_48 : decode method_4_code 48 = .ok (.ireturn, 1) := by decide +kernel
theorem d51_49 : decode method_4_code 49 = .ok (.iload 9, 2) := by decide +kernel
theorem d51_51 : decode method_4_code 51 = .ok (.bipush 6, 2) := by decide +kernel
theorem d51_53 : decode method_4_code 53 = .ok (.isub, 1) := by decide +kernel
theorem d51_54 : decode method_4_code 54 = .ok (.istore 10, 2) := by decide +kernel
theorem d51_56 : decode method_4_code 56 = .ok (.iload 10, 2) := by decide +kernel
theorem d51_58 : decode method_4_code 58 = .ok (.iload 5, 2) := by decide +kernel
theorem d51_60 : decode method_4_code 60 = .ok (.if_icmp .ge 23, 3) := by decide +kernel
theorem d51_63 : decode method_4_code 63 = .ok (.iload 10, 2) := by decide +kernel
theorem d51_65 : decode method_4_code 65 = .ok (.ifCond .ne 6, 3) := by decide +kernel
theorem d51_68 : decode method_4_code 68 = .ok (.iload 6, 2) := by decide +kernel
theorem d51_70 : decode method_4_code 70 = .ok (.ireturn, 1) := by decide +kernel
theorem d51_71 : decode method_4_code 71 = .ok (.iload 10, 2) := by decide +kernel
theorem d51_73 : decode method_4_code 73 = .ok (.iconst 1, 1) := by decide +kernel
theorem d51_74 : decode method_4_code 74 = .ok (.if_icmp .ne 6, 3) := by decide +kernel
theorem d51_77 : decode method_4_code 77 = .ok (.iload 7, 2) := by decide +kernel
theorem d51_79 : decode method_4_code 79 = .ok (.ireturn, 1) := by decide +kernel
theorem d51_80 : decode method_4_code 80 = .ok (.iload 8, 2) := by decide +kernel
theorem d51_82 : decode method_4_code 82 = .ok (.ireturn, 1) := by decide +kernel
theorem d51_83 : decode method_4_code 83 = .ok (.bipush 125, 2) := by decide +kernel
theorem d51_85 : decode method_4_code 85 = .ok (.ireturn, 1) := by decide +kernel
theorem pn_2 : plainName "java/util/Objects" = true := by first | (simp [plainName, overriddenIn]; done) | decide +kernel
theorem pn_3 : plainName "com/example/portunus/portunus/LockKeys" = true := by first | (simp [plainName, overriddenIn]; done) | decide +kernel
theorem pn_4 : plainName "com/example/portunus/portunus/LockKeysLockKeyPinLaw" = true := by first | (simp [plainName, overriddenIn]; done) | decide +kernel
/-! new String(char[]), all chars below 256: the JDK's bodies walked -/
section StrInit
variable {l : Launch} {Z : State} {a0 : Array Value}
theorem own_hEL (hw : ∀ d ∈ tables_1, d.before a0 Z = true) : EW Z a0 consts_1 := (EW.cons (w58 hw) (by decide) (EW.cons (w169 hw) (by decide) (EW.cons (w173 hw) (by decide) (EW.cons (w195 hw) (by decide) (EW.cons (w196 hw) (by decide) (EW.cons (w247 hw) (by decide) (EW.cons (w248 hw) (by decide) EW.nil)))))))
theorem own_wS (hw : ∀ d ∈ tables_1, d.before a0 Z = true) : ∀ a ∈ Bundle.stringAtoms, a.before a0 Z = true := by
  intro a ha
  simp only [Bundle.stringAtoms, List.mem_cons, List.not_mem_nil, or_false] at ha
  rcases ha with rfl | rfl | rfl | rfl | rfl | rfl | rfl
  · exact (w9 hw)
  · exact (w8 hw)
  · exact (w26 hw)
  · exact (w36 hw)
  · exact (w34 hw)
  · exact (w59 hw)
  · exact (w60 hw)
theorem pn_utf16 : plainName "java/lang/StringUTF16" = true := by first | (simp [plainName, overriddenIn]; done) | decide +kernel
theorem pf_str (n d : String) (q : plainFor ⟨"java/lang/String", n, d⟩ = true) : plainFor ⟨"java/lang/String", n, d⟩ = true := q
abbrev rm0 : Room := { frames := 0, cells := 0, slots := 0, locals := 0 }
theorem coderLen_met (hw : ∀ d ∈ tables_1, d.before a0 Z = true) {h : Heap} {b : Addr} {kb : ClassId} {z zz : Int32} {vs : List Value} {dv : Value} (F : Arv Z h b kb .byte z vs dv) :
    Met l Z consts_1 ⟨"java/lang/StringUTF16", "coderFromArrayLen", "([BI)B"⟩ jdk_52_method_15_code 2 (some .byte) [] rm0 #[.ref b, .int zz] h [] (fun v h' => v = some (.int (((zz - z).toUInt32 >>> ((31 : Int32) &&& 31).toUInt32).toInt32.toInt8.toInt32)) ∧ h = h') := by
  refine Met.of_walk (a0 := a0) (Ls := #[.val (.ref b), .val (.int zz)]) (plainFor_of_name pn_utf16) (own_hEL hw) rfl ?_
  refine Wl.iload_n 1 d8_0 rfl ?_
  refine Wl.aload_n 2 d8_1 rfl rfl ?_
  refine Wl.arraylength 3 d8_2 F ?_
  refine Wl.isub 4 d8_3 ?_
  refine Wl.bipush 6 (31 : Int32) d8_4 (by decide) ?_
  refine Wl.iushr 7 d8_6 ?_
  refine Wl.i2b 8 d8_7 ?_
  exact Wl.ireturn (t := .byte) d8_8 rfl (Jvm.Free.XT.narrow_b _) (by simp) (by decide) (by decide) ⟨rfl, rfl⟩
/-- the inner compress: the loop -/
theorem comp2_loop (hw : ∀ d ∈ tables_1, d.before a0 Z = true) {h0 : Heap} {b d : Addr} {kb kd : ClassId} {cs : List Int32} (hn : cs.length < 65536) (hlat : ∀ c ∈ cs, Lat c) (hne : b ≠ d) (j : Nat) :
    ∀ (i : Nat) (h : Heap) (o : Slot), i + j = cs.length → (o = .unset ∨ ∃ w, o = .val w ∧ w.category = 1) → Arv Z h b kb .char (Int32.ofNat cs.length) (cs.map Value.int) (.int 0) → Arv Z h d kd .byte (Int32.ofNat cs.length) (fil (cs.map byV) (.int 0) i) (.int 0) → Keep h0 h [d] →
    Wl l Z a0 consts_1 ⟨"java/lang/StringUTF16", "compress", "([CI[BII)I"⟩ jdk_52_method_21_code 7 (some .int) rm0 #[.ref b, .int 0, .ref d, .int 0, .int (Int32.ofNat cs.length)] (fun v h' => v = some (.int (Int32.ofNat cs.length)) ∧ Keep h0 h' [d] ∧ Arv Z h' d kd .byte (Int32.ofNat cs.length) (cs.map byV) (.int 0)) [d] h 0 0 3
      #[.val (.ref b), .val (.int (Int32.ofNat i)), .val (.ref d), .val (.int (Int32.ofNat i)), .val (.int (Int32.ofNat cs.length)), .val (.int (Int32.ofNat i)), o] [] := by
  induction j with
  | zero =>
    intro i h o hij ho Kb Kd K
    have hi : i = cs.length := by omega
    subst hi
    refine Wl.iload 5 d7_3 rfl ?_
    refine Wl.iload 7 d7_5 rfl ?_
    refine Wl.icmpY 44 d7_7 (flt Int32.lt_irrefl).2.1 ?_
    refine Wl.iload 46 d7_44 rfl ?_
    have e : fil (cs.map byV) (.int 0) cs.length = cs.map byV := by
      have := fil_all (cs.map byV) (.int 0); rwa [List.length_map] at this
    rw [e] at Kd
    exact Wl.ireturn (t := .int) d7_46 rfl rfl (by simp) (by decide) (by decide) ⟨rfl, K, Kd⟩
  | succ j ih =>
    intro i h o hij ho Kb Kd K
    have hi : i < cs.length := by omega
    have h31 : i < 2147483648 := by omega
    have hl : Lat cs[i] := hlat _ (List.getElem_mem hi)
    have hcl := nCl (i := cs.length) (by omega)
    refine Wl.iload 5 d7_3 rfl ?_
    refine Wl.iload 7 d7_5 rfl ?_
    refine Wl.icmpN 10 d7_7 (tlt ((nLt h31 (by omega)).mpr hi)).2.1 ?_
    refine Wl.aload_n 11 d7_10 rfl rfl ?_
    refine Wl.iload_n 12 d7_11 rfl ?_
    refine Wl.caload 13 i d7_12 Kb (nNn h31) (nCl h31) (by rw [hcl]; exact hi) (v := .int cs[i]) (by simp [List.getD_eq_getElem?_getD, hi]) ?_
    refine Wl.istore 15 #[.val (.ref b), .val (.int (Int32.ofNat i)), .val (.ref d), .val (.int (Int32.ofNat i)), .val (.int (Int32.ofNat cs.length)), .val (.int (Int32.ofNat i)), .val (.int cs[i])] d7_13 (XS.store1 (o := o) rfl ho rfl) ?_
    refine Wl.iload 17 d7_15 rfl ?_
    refine Wl.sipush 20 (255 : Int32) d7_17 (by decide) ?_
    refine Wl.icmpY 26 d7_20 (flt (lat_le hl)).2.2.2 ?_
    refine Wl.aload_n 27 d7_26 rfl rfl ?_
    refine Wl.iload_n 28 d7_27 rfl ?_
    refine Wl.iload 30 d7_28 rfl ?_
    refine Wl.i2b 31 d7_30 ?_
    refine Wl.bastore 32 i d7_31 Kd (List.mem_of_getElem? (i := 0) rfl) (nNn h31) (nCl h31) (by rw [hcl]; exact hi) (by rw [fil_len _ _ _ (by rw [List.length_map]; omega), List.length_map]; exact hi) ?_
    intro h' W Kd'
    rw [show nar .byte (cs[i]).toInt8.toInt32 = (cs[i]).toInt8.toInt32 from i2b_id _, fil_set (cs.map byV) (.int 0) _ i (by rw [List.length_map]; exact hi) (by simp [byV])] at Kd'
    refine Wl.iinc 35 #[.val (.ref b), .val (.int (Int32.ofNat (i + 1))), .val (.ref d), .val (.int (Int32.ofNat i)), .val (.int (Int32.ofNat cs.length)), .val (.int (Int32.ofNat i)), .val (.int cs[i])] (1 : Int32) d7_32 (by decide) rfl (by rw [nS]; rfl) ?_
    refine Wl.iinc 38 #[.val (.ref b), .val (.int (Int32.ofNat (i + 1))), .val (.ref d), .val (.int (Int32.ofNat (i + 1))), .val (.int (Int32.ofNat cs.length)), .val (.int (Int32.ofNat i)), .val (.int cs[i])] (1 : Int32) d7_35 (by decide) rfl (by rw [nS]; rfl) ?_
    refine Wl.iinc 41 #[.val (.ref b), .val (.int (Int32.ofNat (i + 1))), .val (.ref d), .val (.int (Int32.ofNat (i + 1))), .val (.int (Int32.ofNat cs.length)), .val (.int (Int32.ofNat (i + 1))), .val (.int cs[i])] (1 : Int32) d7_38 (by decide) rfl (by rw [nS]; rfl) ?_
    refine Wl.goto 3 d7_41 ?_
    exact ih (i + 1) h' _ (by omega) (Or.inr ⟨_, rfl, rfl⟩) (Kb.other W hne) Kd' (K.wr W (Or.inl (List.mem_of_getElem? (i := 0) rfl)))
theorem comp2_met (hw : ∀ d ∈ tables_1, d.before a0 Z = true) {h : Heap} {b d : Addr} {kb kd : ClassId} {cs : List Int32} (hn : cs.length < 65536) (hlat : ∀ c ∈ cs, Lat c) (hne : b ≠ d) (Kb : Arv Z h b kb .char (Int32.ofNat cs.length) (cs.map Value.int) (.int 0)) (Kd : Arv Z h d kd .byte (Int32.ofNat cs.length) (List.replicate cs.length (.int 0)) (.int 0)) :
    Met l Z consts_1 ⟨"java/lang/StringUTF16", "compress", "([CI[BII)I"⟩ jdk_52_method_21_code 7 (some .int) [] rm0 #[.ref b, .int 0, .ref d, .int 0, .int (Int32.ofNat cs.length)] h [d] (fun v h' => v = some (.int (Int32.ofNat cs.length)) ∧ Keep h h' [d] ∧ Arv Z h' d kd .byte (Int32.ofNat cs.length) (cs.map byV) (.int 0)) := by
  refine Met.of_walk (a0 := a0) (Ls := #[.val (.ref b), .val (.int 0), .val (.ref d), .val (.int 0), .val (.int (Int32.ofNat cs.length)), .unset, .unset]) (plainFor_of_name pn_utf16) (own_hEL hw) rfl ?_
  refine Wl.iconst 1 (0 : Int32) d7_0 (by decide) ?_
  refine Wl.istore 3 #[.val (.ref b), .val (.int 0), .val (.ref d), .val (.int 0), .val (.int (Int32.ofNat cs.length)), .val (.int 0), .unset] d7_1 rfl ?_
  exact comp2_loop hw hn hlat hne cs.length 0 h _ (by omega) (Or.inl rfl) Kb (by have e := fil_zero (cs.map byV) (.int 0); rw [List.length_map] at e; rw [e]; exact Kd) (Keep.refl h [d])
/-- compress(char[], int, int) -/
theorem comp1_met (hw : ∀ d ∈ tables_1, d.before a0 Z = true) {h : Heap} {b : Addr} {kb : ClassId} {cs : List Int32} {N : Nat} (hn : cs.length < 65536) (hN : cs.length ≤ N) (hN2 : N < 65536) (hlat : ∀ c ∈ cs, Lat c) (Kb : Arv Z h b kb .char (Int32.ofNat cs.length) (cs.map Value.int) (.int 0)) :
    Met l Z consts_1 ⟨"java/lang/StringUTF16", "compress", "([CII)[B"⟩ jdk_52_method_16_code 6 (some (.array .byte)) [] { frames := 1, cells := 1, slots := N, locals := 18 } #[.ref b, .int 0, .int (Int32.ofNat cs.length)] h [] (fun v h' => ∃ (d : Addr) (kd : ClassId), v = some (.ref d) ∧ h.size ≤ d ∧ Ext h h' ∧ Arv Z h' d kd .byte (Int32.ofNat cs.length) (cs.map byV) (.int 0)) := by
  refine Met.of_walk (a0 := a0) (Ls := #[.val (.ref b), .val (.int 0), .val (.int (Int32.ofNat cs.length)), .unset, .unset, .unset]) (plainFor_of_name pn_utf16) (own_hEL hw) rfl ?_
  refine Wl.iload_n 1 d6_0 rfl ?_
  refine Wl.newarray 3 N d6_1 (w26 hw) (nNn (by omega)) (by rw [nCl (by omega)]; exact hN) (by omega) (by show 0 + 1 ≤ 1; omega) (by show 0 + N ≤ N; omega) ?_
  intro d h1 kd q E A
  rw [nCl (by omega)] at A
  have A : Arv Z h1 d kd .byte (Int32.ofNat cs.length) (List.replicate cs.length (.int 0)) (.int 0) := A
  have hne : b ≠ d := Nat.ne_of_lt (by rw [q]; exact Kb.lt)
  refine Wl.astore_n 4 #[.val (.ref b), .val (.int 0), .val (.int (Int32.ofNat cs.length)), .val (.ref d), .unset, .unset] d6_3 rfl rfl ?_
  refine Wl.aload_n 5 d6_4 rfl rfl ?_
  refine Wl.iload_n 6 d6_5 rfl ?_
  refine Wl.aload_n 7 d6_6 rfl rfl ?_
  refine Wl.iconst 8 (0 : Int32) d6_7 (by decide) ?_
  refine Wl.iload_n 9 d6_8 rfl ?_
  refine Wl.static 12 (argsL := [.ref b, .int 0, .ref d, .int 0, .int (Int32.ofNat cs.length)]) d6_9 (w27 hw) (w28 hw) (w24 hw) (w29 hw) (show parseMethodDescriptor "([CI[BII)I" = some ⟨[.array .char, .int, .array .byte, .int, .int], some .int⟩ by decide +kernel) rfl (comp2_met hw hn hlat hne (Kb.ext E) A) (allS (List.mem_of_getElem? (i := 0) rfl) (fun _ q => nomatch q)) rfl rfl rfl (by decide) ⟨⟨by show 0 + 1 ≤ 1; omega, by show 0 + (7 + 11) + 0 ≤ 18; omega⟩, by show 0 + 1 + 0 ≤ 1; omega, by show 0 + N + 0 ≤ N; omega⟩ ?_
  intro v h2 hq _
  obtain ⟨rfl, K, A2⟩ := hq
  refine Wl.istore 14 #[.val (.ref b), .val (.int 0), .val (.int (Int32.ofNat cs.length)), .val (.ref d), .val (.int (Int32.ofNat cs.length)), .unset] d6_12 rfl ?_
  refine Wl.iload 16 d6_14 rfl ?_
  refine Wl.iload_n 17 d6_16 rfl ?_
  refine Wl.icmpY 57 d6_17 (teq rfl).1 ?_
  refine Wl.aload_n 58 d6_57 rfl rfl ?_
  exact Wl.areturn d6_58 rfl rfl rfl (by show 0 + 1 + 0 ≤ 1; omega) (by show 0 + N + 0 ≤ N; omega) ⟨d, kd, rfl, Nat.le_of_eq q.symm, extKeep E K (allS (Nat.le_of_eq q.symm) all0), A2⟩
/-- String(char[], int, int, Void) -/
theorem strV_met (hw : ∀ d ∈ tables_1, d.before a0 Z = true) (hcs : CSon Z) {h : Heap} {a b : Addr} {kb : ClassId} {cs : List Int32} {N : Nat} (hN : cs.length ≤ N) (hN2 : N < 65536) (hlat : ∀ c ∈ cs, Lat c) (E : Exa Z h a "java/lang/String") (FV : Fld Z h a "java/lang/String" "value" "[B" .null) (FC : Fld Z h a "java/lang/String" "coder" "B" (.int 0)) (Kb : Arv Z h b kb .char (Int32.ofNat cs.length) (cs.map Value.int) (.int 0)) :
    Met l Z consts_1 ⟨"java/lang/String", "<init>", "([CIILjava/lang/Void;)V"⟩ jdk_42_method_149_code 6 none [] { frames := 2, cells := 4, slots := N + 8, locals := 36 } #[.ref a, .ref b, .int 0, .int (Int32.ofNat cs.length), .null] h [a] (fun v h' => v = none ∧ Keep h h' [a] ∧ Stl Z h' a cs) := by
  refine Met.of_walk (a0 := a0) (Ls := #[.val (.ref a), .val (.ref b), .val (.int 0), .val (.int (Int32.ofNat cs.length)), .val .null, .unset]) (plainFor_of_name pn_str) (own_hEL hw) rfl ?_
  refine Wl.aload_n 1 d4_0 rfl rfl ?_
  refine Wl.initO 4 d4_1 (w18 hw) (w19 hw) (w20 hw) rfl (by show 1 ≤ 2; omega) (by show 0 + 12 ≤ 36; omega) ?_
  refine Wl.iload_n 5 d4_4 rfl ?_
  obtain ⟨cst, hS, hcn⟩ := hcs
  have L1 : Laid Z a0 "java/lang/String" "java/lang/String" "value" "[B" := Or.inr (w36 hw)
  have L2 : Laid Z a0 "java/lang/String" "java/lang/String" "coder" "B" := Or.inr (w34 hw)
  have hsl : Jvm.RoadKit.slotOf Z "java/lang/String" "value" "[B" ≠ Jvm.RoadKit.slotOf Z "java/lang/String" "coder" "B" := slot_ne L1 L2 (by decide) (t := .array .byte) (t' := .byte) (by decide) (by decide)
  by_cases h0 : cs = []
  · subst h0
    refine Wl.ifN 8 d4_5 (teq (by decide)).2 ?_
    refine Wl.aload_n 9 d4_8 rfl rfl ?_
    refine Wl.ldcS 11 0 (text := "") (vs := []) (z := (0 : Int32)) d4_9 (w248 hw) (own_wS hw) (by decide) ⟨by simp, rfl⟩ (by decide) (by decide) (by decide) (by decide) (by show 0 + 2 ≤ 4; omega) (by show 0 + (0 + 4) ≤ N + 8; omega) ?_
    intro x1 h1 b1 k1 E1 X1 C1 V1 A1 hnx1
    refine Wl.getfield 14 d4_11 (w35 hw) V1 ?_
    have na1 := hnx1 a (List.mem_of_getElem? (i := 0) rfl)
    refine Wl.putfield 17 d4_14 (w35 hw) (FV.ext E1) (E.ext E1) (Or.inr ⟨(w36 hw), rfl, rfl⟩) (w8 hw) (ty := .array .byte) (by decide) rfl rfl (List.mem_of_getElem? (i := 0) rfl) ?_
    intro h2 W2
    refine Wl.aload_n 18 d4_17 rfl rfl ?_
    refine Wl.ldcS 20 0 (text := "") (vs := []) (z := (0 : Int32)) d4_18 (w248 hw) (own_wS hw) (by decide) ⟨by simp, rfl⟩ (by decide) (by decide) (by decide) (by decide) (by show 0 + 2 + 2 ≤ 4; omega) (by show 0 + (0 + 4) + (0 + 4) ≤ N + 8; omega) ?_
    intro x3 h3 b3 k3 E3 X3 C3 V3 A3 hnx3
    refine Wl.getfield 23 d4_20 (w33 hw) C3 ?_
    refine Wl.putfield 26 d4_23 (w33 hw) (((FC.ext E1).other W2 (Or.inr hsl.symm)).ext E3) (((E.ext E1).wr W2).ext E3) (Or.inr ⟨(w34 hw), rfl, rfl⟩) (w8 hw) (ty := .byte) (by decide) rfl rfl (List.mem_of_getElem? (i := 0) rfl) ?_
    intro h4 W4
    refine Wl.return_ d4_26 rfl (by show 0 + 2 + 2 ≤ 4; omega) (by show 0 + (0 + 4) + (0 + 4) ≤ N + 8; omega) ⟨rfl, ?_, ?_⟩
    · exact ((((Keep.refl h [a]).ext E1).wr W2 (Or.inl (List.mem_of_getElem? (i := 0) rfl))).ext E3).wr W4 (Or.inl (List.mem_of_getElem? (i := 0) rfl))
    · refine ⟨b1, k1, (((E.ext E1).wr W2).ext E3).wr W4, (((FC.ext E1).other W2 (Or.inr hsl.symm)).ext E3).same W4, ((((FV.ext E1).same W2).ext E3).other W4 (Or.inr hsl)), (((A1.other W2 na1.2.symm).ext E3).other W4 na1.2.symm), (fun c hc => nomatch hc), by decide⟩
  · have hpos : 0 < cs.length := List.length_pos_iff.mpr h0
    refine Wl.ifY 27 d4_5 (feq (fun q => by have := congrArg Int32.toInt q; rw [nI (by omega), show (0 : Int32).toInt = 0 by decide] at this; omega)).2 ?_
    refine Wl.getstatic 30 d4_27 (w21 hw) hS ?_
    refine Wl.ifN 33 d4_30 (feq hcn).1 ?_
    refine Wl.aload_n 34 d4_33 rfl rfl ?_
    refine Wl.iload_n 35 d4_34 rfl ?_
    refine Wl.iload_n 36 d4_35 rfl ?_
    refine Wl.static 39 (argsL := [.ref b, .int 0, .int (Int32.ofNat cs.length)]) d4_36 (w22 hw) (w23 hw) (w24 hw) (w25 hw) (show parseMethodDescriptor "([CII)[B" = some ⟨[.array .char, .int, .int], some (.array .byte)⟩ by decide +kernel) rfl (comp1_met hw (by omega) hN hN2 hlat Kb) (fun _ q => nomatch q) rfl rfl rfl (by decide) ⟨⟨by show 1 + 1 ≤ 2; omega, by show 0 + (6 + 11) + 18 ≤ 36; omega⟩, by show 0 + 1 ≤ 4; omega, by show 0 + N ≤ N + 8; omega⟩ ?_
    intro v h1 hq _
    obtain ⟨d, kd, rfl, hd, E1, A1⟩ := hq
    have hne : d ≠ a := Nat.ne_of_gt (Nat.lt_of_lt_of_le E.lt hd)
    refine Wl.astore 41 #[.val (.ref a), .val (.ref b), .val (.int 0), .val (.int (Int32.ofNat cs.length)), .val .null, .val (.ref d)] d4_39 rfl rfl ?_
    refine Wl.aload_n 42 d4_41 rfl rfl ?_
    refine Wl.aload 44 d4_42 rfl rfl ?_
    refine Wl.iload_n 45 d4_44 rfl ?_
    refine Wl.static 48 (argsL := [.ref d, .int (Int32.ofNat cs.length)]) d4_45 (w30 hw) (w31 hw) (w24 hw) (w32 hw) (show parseMethodDescriptor "([BI)B" = some ⟨[.array .byte, .int], some .byte⟩ by decide +kernel) rfl (coderLen_met hw A1) (fun _ q => nomatch q) rfl rfl rfl (by decide) ⟨⟨by show 0 + 1 ≤ 2; omega, by show 1 + (2 + 11) + 0 ≤ 36; omega⟩, by show 0 + 1 + 0 ≤ 4; omega, by show 0 + N + 0 ≤ N + 8; omega⟩ ?_
    intro v h2 hq _
    obtain ⟨rfl, rfl⟩ := hq
    have e0 : ((Int32.ofNat cs.length - Int32.ofNat cs.length).toUInt32 >>> ((31 : Int32) &&& 31).toUInt32).toInt32.toInt8.toInt32 = 0 := by rw [Int32.sub_self]; decide
    rw [e0]
    refine Wl.putfield 51 d4_48 (w33 hw) (FC.ext E1) (E.ext E1) (Or.inr ⟨(w34 hw), rfl, rfl⟩) (w8 hw) (ty := .byte) (by decide) rfl rfl (List.mem_of_getElem? (i := 0) rfl) ?_
    intro h3 W3
    refine Wl.aload_n 52 d4_51 rfl rfl ?_
    refine Wl.aload 54 d4_52 rfl rfl ?_
    refine Wl.putfield 57 d4_54 (w35 hw) ((FV.ext E1).other W3 (Or.inr hsl)) ((E.ext E1).wr W3) (Or.inr ⟨(w36 hw), rfl, rfl⟩) (w8 hw) (ty := .array .byte) (by decide) rfl rfl (List.mem_of_getElem? (i := 0) rfl) ?_
    intro h4 W4
    refine Wl.return_ d4_57 rfl (by show 0 + 1 + 0 ≤ 4; omega) (by show 0 + N + 0 ≤ N + 8; omega) ⟨rfl, ?_, ?_⟩
    · exact ((((Keep.refl h [a]).ext E1)).wr W3 (Or.inl (List.mem_of_getElem? (i := 0) rfl))).wr W4 (Or.inl (List.mem_of_getElem? (i := 0) rfl))
    · exact ⟨d, kd, ((E.ext E1).wr W3).wr W4, ((FC.ext E1).same W3).other W4 (Or.inr hsl.symm), ((FV.ext E1).other W3 (Or.inr hsl)).same W4, (A1.other W3 hne).other W4 hne, hlat, by omega⟩
/-- String(char[]) -/
theorem strC_met (hw : ∀ d ∈ tables_1, d.before a0 Z = true) (hcs : CSon Z) {h : Heap} {a b : Addr} {kb : ClassId} {cs : List Int32} (N : Nat) (hN : cs.length ≤ N) (hN2 : N < 65536) (hlat : ∀ c ∈ cs, Lat c) (E : Exa Z h a "java/lang/String") (FV : Fld Z h a "java/lang/String" "value" "[B" .null) (FC : Fld Z h a "java/lang/String" "coder" "B" (.int 0)) (Kb : Arv Z h b kb .char (Int32.ofNat cs.length) (cs.map Value.int) (.int 0)) :
    Met l Z consts_1 ⟨"java/lang/String", "<init>", "([C)V"⟩ jdk_42_method_3_code 2 none [] { frames := 3, cells := 4, slots := N + 8, locals := 53 } #[.ref a, .ref b] h [a] (fun v h' => v = none ∧ Keep h h' [a] ∧ Stl Z h' a cs) := by
  refine Met.of_walk (a0 := a0) (Ls := #[.val (.ref a), .val (.ref b)]) (plainFor_of_name pn_str) (own_hEL hw) rfl ?_
  refine Wl.aload_n 1 d3_0 rfl rfl ?_
  refine Wl.aload_n 2 d3_1 rfl rfl ?_
  refine Wl.iconst 3 (0 : Int32) d3_2 (by decide) ?_
  refine Wl.aload_n 4 d3_3 rfl rfl ?_
  refine Wl.arraylength 5 d3_4 Kb ?_
  refine Wl.aconst_null 6 d3_5 ?_
  refine Wl.special 9 (argsL := [.ref b, .int 0, .int (Int32.ofNat cs.length), .null]) d3_6 (w14 hw) (w15 hw) (w9 hw) (w17 hw) (show parseMethodDescriptor "([CIILjava/lang/Void;)V" = some ⟨[.array .char, .int, .int, .object "java/lang/Void"], none⟩ by decide +kernel) rfl (strV_met hw hcs hN hN2 hlat E FV FC Kb) (allS (List.mem_of_getElem? (i := 0) rfl) (fun _ q => nomatch q)) rfl rfl rfl rfl (by decide) ⟨⟨by show 2 + 1 ≤ 3; omega, by show 0 + (6 + 11) + 36 ≤ 53; omega⟩, by show 0 + 4 ≤ 4; omega, by show 0 + (N + 8) ≤ N + 8; omega⟩ ?_
  intro v h1 hq _
  obtain ⟨rfl, K1, S1⟩ := hq
  exact Wl.return_ d3_9 rfl (by show 0 + 4 ≤ 4; omega) (by show 0 + (N + 8) ≤ N + 8; omega) ⟨rfl, K1, S1⟩
end StrInit

section OpLen
variable {l : Launch} {Z : State} {a0 : Array Value}
theorem coder_met (hw : ∀ d ∈ tables_1, d.before a0 Z = true) (hcs : CSon Z) {h : Heap} {a : Addr} {cd : Int32} (hnar : narrow .byte (.int cd) = .int cd) (FC : Fld Z h a "java/lang/String" "coder" "B" (.int cd)) :
    Met l Z consts_1 ⟨"java/lang/String", "coder", "()B"⟩ jdk_42_method_152_code 1 (some .byte) [] rm0 #[.ref a] h [] (fun v h' => v = some (.int cd) ∧ h = h') := by
  obtain ⟨cst, hS, hcn⟩ := hcs
  refine Met.of_walk (a0 := a0) (Ls := #[.val (.ref a)]) (plainFor_of_name pn_str) (own_hEL hw) rfl ?_
  refine Wl.getstatic 3 d19_0 (w21 hw) hS ?_
  refine Wl.ifN 6 d19_3 (feq hcn).1 ?_
  refine Wl.aload_n 7 d19_6 rfl rfl ?_
  refine Wl.getfield 10 d19_7 (w33 hw) FC ?_
  refine Wl.goto 14 d19_10 ?_
  exact Wl.ireturn (t := .byte) d19_14 rfl hnar (by simp) (nle rfl) (nle rfl) ⟨rfl, rfl⟩
theorem len_met (hw : ∀ d ∈ tables_1, d.before a0 Z = true) (hcs : CSon Z) {h : Heap} {a : Addr} {cs : List Int32} (S : Stl Z h a cs) :
    Met l Z consts_1 ⟨"java/lang/String", "length", "()I"⟩ jdk_42_method_54_code 1 (some .int) [] { frames := 1, cells := 0, slots := 0, locals := 13 } #[.ref a] h [] (fun v h' => v = some (.int (Int32.ofNat cs.length)) ∧ h = h') := by
  obtain ⟨b, kb, X, C, Vl, A, hlat, hn⟩ := S
  refine Met.of_walk (a0 := a0) (Ls := #[.val (.ref a)]) (plainFor_of_name pn_str) (own_hEL hw) rfl ?_
  refine Wl.aload_n 1 d18_0 rfl rfl ?_
  refine Wl.getfield 4 d18_1 (w35 hw) Vl ?_
  refine Wl.arraylength 5 d18_4 A ?_
  refine Wl.aload_n 6 d18_5 rfl rfl ?_
  refine Wl.virtual 9 (argsL := []) d18_6 (w85 hw) (w86 hw) (w88 hw) (w87 hw) (w9 hw) (w89 hw) (nf_sel (w88 hw) rfl) X (show parseMethodDescriptor "()B" = some ⟨[], some .byte⟩ by decide +kernel) rfl (coder_met hw hcs rfl C) (fun _ q => nomatch q) rfl rfl rfl (by decide) ⟨⟨nle rfl, nle rfl⟩, nle rfl, nle rfl⟩ ?_
  intro v h1 hq _
  obtain ⟨rfl, rfl⟩ := hq
  show Wl _ _ _ _ _ _ _ _ _ _ _ _ _ _ _ _ _ [.int 0, .int (Int32.ofNat cs.length)]
  refine Wl.ishr 10 d18_9 ?_
  rw [show (Int32.ofNat cs.length >>> ((0 : Int32) &&& 31)) = Int32.ofNat cs.length by simp]
  exact Wl.ireturn (t := .int) d18_10 rfl rfl (by simp) (nle rfl) (nle rfl) ⟨rfl, rfl⟩
end OpLen

/-- the formatter of an index that lies outside: a reference -/
def Fmt (Z : State) : Prop := ∃ f : Value, Sta Z Z.heap "jdk/internal/util/Preconditions" "SIOOBE_FORMATTER" "Ljava/util/function/BiFunction;" f ∧ f.isRef = true
section OpChar
variable {l : Launch} {Z : State} {a0 : Array Value}
theorem pn_prec : plainName "jdk/internal/util/Preconditions" = true := by first | (simp [plainName, overriddenIn]; done) | decide +kernel
theorem pn_lat : plainName "java/lang/StringLatin1" = true := by first | (simp [plainName, overriddenIn]; done) | decide +kernel
theorem isLatin1_met (hw : ∀ d ∈ tables_1, d.before a0 Z = true) (hcs : CSon Z) {h : Heap} {a : Addr} (FC : Fld Z h a "java/lang/String" "coder" "B" (.int 0)) :
    Met l Z consts_1 ⟨"java/lang/String", "isLatin1", "()Z"⟩ jdk_42_method_154_code 1 (some .boolean) [] rm0 #[.ref a] h [] (fun v h' => v = some (.int 1) ∧ h = h') := by
  obtain ⟨cst, hS, hcn⟩ := hcs
  refine Met.of_walk (a0 := a0) (Ls := #[.val (.ref a)]) (plainFor_of_name pn_str) (own_hEL hw) rfl ?_
  refine Wl.getstatic 3 d17_0 (w21 hw) hS ?_
  refine Wl.ifN 6 d17_3 (feq hcn).1 ?_
  refine Wl.aload_n 7 d17_6 rfl rfl ?_
  refine Wl.getfield 10 d17_7 (w33 hw) FC ?_
  refine Wl.ifN 13 d17_10 (teq rfl).2 ?_
  refine Wl.iconst 14 (1 : Int32) d17_13 (by decide) ?_
  refine Wl.goto 18 d17_14 ?_
  exact Wl.ireturn (t := .boolean) d17_18 rfl rfl (by simp) (nle rfl) (nle rfl) ⟨rfl, rfl⟩
theorem chk_met (hw : ∀ d ∈ tables_1, d.before a0 Z = true) {h : Heap} {i z : Int32} {f : Value} (hf : f.isRef = true) (h1 : ¬ i < 0) (h2 : i < z) :
    Met l Z consts_1 ⟨"jdk/internal/util/Preconditions", "checkIndex", "(IILjava/util/function/BiFunction;)I"⟩ jdk_41_method_11_code 3 (some .int) [] rm0 #[.int i, .int z, f] h [] (fun v h' => v = some (.int i) ∧ h = h') := by
  refine Met.of_walk (a0 := a0) (Ls := #[.val (.int i), .val (.int z), .val f]) (plainFor_of_name pn_prec) (own_hEL hw) (by rcases ref_cases hf with rfl | ⟨x, rfl⟩ <;> rfl) ?_
  refine Wl.iload_n 1 d39_0 rfl ?_
  refine Wl.ifN 4 d39_1 (flt h1).1 ?_
  refine Wl.iload_n 5 d39_4 rfl ?_
  refine Wl.iload_n 6 d39_5 rfl ?_
  refine Wl.icmpY 16 d39_6 (tlt h2).1 ?_
  refine Wl.iload_n 17 d39_16 rfl ?_
  exact Wl.ireturn (t := .int) d39_17 rfl rfl (by simp) (nle rfl) (nle rfl) ⟨rfl, rfl⟩
theorem chkS_met (hw : ∀ d ∈ tables_1, d.before a0 Z = true) (hfm : Fmt Z) {h : Heap} {i z : Int32} (h1 : ¬ i < 0) (h2 : i < z) :
    Met l Z consts_1 ⟨"java/lang/String", "checkIndex", "(II)V"⟩ jdk_42_method_155_code 2 none [] { frames := 1, cells := 0, slots := 0, locals := 14 } #[.int i, .int z] h [] (fun v h' => v = none ∧ h = h') := by
  obtain ⟨f, hS, hf⟩ := hfm
  refine Met.of_walk (a0 := a0) (Ls := #[.val (.int i), .val (.int z)]) (plainFor_of_name pn_str) (own_hEL hw) rfl ?_
  refine Wl.iload_n 1 d38_0 rfl ?_
  refine Wl.iload_n 2 d38_1 rfl ?_
  refine Wl.getstatic 5 d38_2 (w190 hw) hS ?_
  refine Wl.static 8 (argsL := [.int i, .int z, f]) d38_5 (w192 hw) (w193 hw) (w191 hw) (w194 hw) (show parseMethodDescriptor "(IILjava/util/function/BiFunction;)I" = some ⟨[.int, .int, .object "java/util/function/BiFunction"], some .int⟩ by decide +kernel) rfl (chk_met hw hf h1 h2) (fun _ q => nomatch q) rfl rfl rfl (by decide) ⟨⟨nle rfl, nle rfl⟩, nle rfl, nle rfl⟩ ?_
  intro v h1 hq _
  obtain ⟨rfl, rfl⟩ := hq
  show Wl _ _ _ _ _ _ _ _ _ _ _ _ _ _ _ _ _ [.int i]
  refine Wl.pop 9 d38_8 rfl ?_
  exact Wl.return_ d38_9 rfl (nle rfl) (nle rfl) ⟨rfl, rfl⟩
theorem charL_met (hw : ∀ d ∈ tables_1, d.before a0 Z = true) (hfm : Fmt Z) {h : Heap} {b : Addr} {kb : ClassId} {cs : List Int32} (A : Arv Z h b kb .byte (Int32.ofNat cs.length) (cs.map byV) (.int 0)) (hlat : ∀ c ∈ cs, Lat c) (hn : cs.length < 65536) {i : Nat} (hi : i < cs.length) :
    Met l Z consts_1 ⟨"java/lang/StringLatin1", "charAt", "([BI)C"⟩ jdk_43_method_2_code 2 (some .char) [] { frames := 2, cells := 0, slots := 0, locals := 27 } #[.ref b, .int (Int32.ofNat i)] h [] (fun v h' => v = some (.int cs[i]) ∧ h = h') := by
  have hl : Lat cs[i] := hlat _ (List.getElem_mem hi)
  refine Met.of_walk (a0 := a0) (Ls := #[.val (.ref b), .val (.int (Int32.ofNat i))]) (plainFor_of_name pn_lat) (own_hEL hw) rfl ?_
  refine Wl.iload_n 1 d37_0 rfl ?_
  refine Wl.aload_n 2 d37_1 rfl rfl ?_
  refine Wl.arraylength 3 d37_2 A ?_
  refine Wl.static 6 (argsL := [.int (Int32.ofNat i), .int (Int32.ofNat cs.length)]) d37_3 (w187 hw) (w188 hw) (w9 hw) (w189 hw) (show parseMethodDescriptor "(II)V" = some ⟨[.int, .int], none⟩ by decide +kernel) rfl (chkS_met hw hfm (nNn (by omega)) ((nLt (by omega) (by omega)).mpr hi)) (fun _ q => nomatch q) rfl rfl rfl (by decide) ⟨⟨nle rfl, nle rfl⟩, nle rfl, nle rfl⟩ ?_
  intro v h1 hq _
  obtain ⟨rfl, rfl⟩ := hq
  show Wl _ _ _ _ _ _ _ _ _ _ _ _ _ _ _ _ _ []
  refine Wl.aload_n 7 d37_6 rfl rfl ?_
  refine Wl.iload_n 8 d37_7 rfl ?_
  refine Wl.baload 9 i d37_8 A (nNn (by omega)) (nCl (by omega)) (by rw [nCl (by omega)]; exact hi) (v := .int (cs[i]).toInt8.toInt32) (by simp [List.getD_eq_getElem?_getD, hi, byV]) ?_
  refine Wl.sipush 12 (255 : Int32) d37_9 (by decide) ?_
  refine Wl.iand 13 d37_12 ?_
  refine Wl.i2c 14 d37_13 ?_
  rw [lo8 hl, i2c_id hl.ch]
  exact Wl.ireturn (t := .char) d37_14 rfl (narC hl.ch) (by simp) (nle rfl) (nle rfl) ⟨rfl, rfl⟩
theorem charAt_met (hw : ∀ d ∈ tables_1, d.before a0 Z = true) (hcs : CSon Z) (hfm : Fmt Z) {h : Heap} {a : Addr} {cs : List Int32} (S : Stl Z h a cs) {i : Nat} (hi : i < cs.length) :
    Met l Z consts_1 ⟨"java/lang/String", "charAt", "(I)C"⟩ jdk_42_method_56_code 2 (some .char) [] { frames := 3, cells := 0, slots := 0, locals := 40 } #[.ref a, .int (Int32.ofNat i)] h [] (fun v h' => v = some (.int cs[i]) ∧ h = h') := by
  obtain ⟨b, kb, X, C, Vl, A, hlat, hn⟩ := S
  have hl : Lat cs[i] := hlat _ (List.getElem_mem hi)
  refine Met.of_walk (a0 := a0) (Ls := #[.val (.ref a), .val (.int (Int32.ofNat i))]) (plainFor_of_name pn_str) (own_hEL hw) rfl ?_
  refine Wl.aload_n 1 d36_0 rfl rfl ?_
  refine Wl.virtual 4 (argsL := []) d36_1 (w75 hw) (w76 hw) (w78 hw) (w77 hw) (w9 hw) (w79 hw) (nf_sel (w78 hw) rfl) X (show parseMethodDescriptor "()Z" = some ⟨[], some .boolean⟩ by decide +kernel) rfl (isLatin1_met hw hcs C) (fun _ q => nomatch q) rfl rfl rfl (by decide) ⟨⟨nle rfl, nle rfl⟩, nle rfl, nle rfl⟩ ?_
  intro v h1 hq _
  obtain ⟨rfl, rfl⟩ := hq
  show Wl _ _ _ _ _ _ _ _ _ _ _ _ _ _ _ _ _ [.int 1]
  refine Wl.ifN 7 d36_4 (by decide) ?_
  refine Wl.aload_n 8 d36_7 rfl rfl ?_
  refine Wl.getfield 11 d36_8 (w35 hw) Vl ?_
  refine Wl.iload_n 12 d36_11 rfl ?_
  refine Wl.static 15 (argsL := [.ref b, .int (Int32.ofNat i)]) d36_12 (w184 hw) (w185 hw) (w42 hw) (w186 hw) (show parseMethodDescriptor "([BI)C" = some ⟨[.array .byte, .int], some .char⟩ by decide +kernel) rfl (charL_met hw hfm A hlat hn hi) (fun _ q => nomatch q) rfl rfl rfl (by decide) ⟨⟨nle rfl, nle rfl⟩, nle rfl, nle rfl⟩ ?_
  intro v h2 hq _
  obtain ⟨rfl, rfl⟩ := hq
  show Wl _ _ _ _ _ _ _ _ _ _ _ _ _ _ _ _ _ [.int cs[i]]
  exact Wl.ireturn (t := .char) d36_15 rfl (narC hl.ch) (by simp) (nle rfl) (nle rfl) ⟨rfl, rfl⟩
end OpChar

/-! String.indexOf(int): the first place of a Latin-1 char -/
def idxF (c : Int32) : Nat → List Int32 → Int32
  | _, [] => -1
  | k, x :: xs => if x = c then Int32.ofNat k else idxF c (k + 1) xs
theorem idxF_spec (c : Int32) : ∀ (xs : List Int32) (k : Nat), (idxF c k xs = -1 ∧ ∀ x ∈ xs, x ≠ c) ∨ (∃ n, n < xs.length ∧ idxF c k xs = Int32.ofNat (k + n) ∧ (∀ m (hm : m < xs.length), m < n → xs[m] ≠ c) ∧ ∀ h : n < xs.length, xs[n] = c)
  | [], k => Or.inl ⟨rfl, fun _ q => nomatch q⟩
  | x :: xs, k => by
    by_cases h : x = c
    · exact Or.inr ⟨0, Nat.zero_lt_succ _, by simp [idxF, h], fun m _ q => absurd q (Nat.not_lt_zero _), fun _ => h⟩
    · have e : idxF c k (x :: xs) = idxF c (k + 1) xs := by simp [idxF, h]
      rcases idxF_spec c xs (k + 1) with ⟨h1, h2⟩ | ⟨n, h1, h2, h3, h4⟩
      · exact Or.inl ⟨e.trans h1, fun z hz => (List.mem_cons.mp hz).elim (fun q => q ▸ h) (h2 z)⟩
      · refine Or.inr ⟨n + 1, Nat.succ_lt_succ h1, by rw [e, h2]; congr 1; omega, fun m hm hn => ?_, fun _ => h4 h1⟩
        cases m with
        | zero => exact h
        | succ m => exact h3 m (Nat.lt_of_succ_lt_succ hm) (Nat.lt_of_succ_lt_succ hn)
section OpIdx
variable {l : Launch} {Z : State} {a0 : Array Value}
theorem canEnc_met (hw : ∀ d ∈ tables_1, d.before a0 Z = true) {h : Heap} {c : Int32} (q : Lat c) :
    Met l Z consts_1 ⟨"java/lang/StringLatin1", "canEncode", "(I)Z"⟩ jdk_43_method_4_code 1 (some .boolean) [] rm0 #[.int c] h [] (fun v h' => v = some (.int 1) ∧ h = h') := by
  refine Met.of_walk (a0 := a0) (Ls := #[.val (.int c)]) (plainFor_of_name pn_lat) (own_hEL hw) rfl ?_
  refine Wl.iload_n 1 d21_0 rfl ?_
  refine Wl.ifN 4 d21_1 (flt (latNn q)).1 ?_
  refine Wl.iload_n 5 d21_4 rfl ?_
  refine Wl.sipush 8 (255 : Int32) d21_5 (by decide) ?_
  refine Wl.icmpN 11 d21_8 (flt (lat_le q)).2.2.1 ?_
  refine Wl.iconst 12 (1 : Int32) d21_11 (by decide) ?_
  refine Wl.goto 16 d21_12 ?_
  exact Wl.ireturn (t := .boolean) d21_16 rfl rfl (by simp) (nle rfl) (nle rfl) ⟨rfl, rfl⟩
theorem max_met (hw : ∀ d ∈ tables_1, d.before a0 Z = true) {h : Heap} {x z : Int32} (q : ¬ x < z) :
    Met l Z consts_1 ⟨"java/lang/Math", "max", "(II)I"⟩ jdk_29_method_65_code 2 (some .int) [] rm0 #[.int x, .int z] h [] (fun v h' => v = some (.int x) ∧ h = h') := by
  refine Met.of_walk (a0 := a0) (Ls := #[.val (.int x), .val (.int z)]) (Jvm.Free.JP.mathPlain rfl (by decide +kernel)) (own_hEL hw) rfl ?_
  refine Wl.iload_n 1 d22_0 rfl ?_
  refine Wl.iload_n 2 d22_1 rfl ?_
  refine Wl.icmpN 5 d22_2 (flt q).1 ?_
  refine Wl.iload_n 6 d22_5 rfl ?_
  refine Wl.goto 10 d22_6 ?_
  exact Wl.ireturn (t := .int) d22_10 rfl rfl (by simp) (nle rfl) (nle rfl) ⟨rfl, rfl⟩
theorem min_met (hw : ∀ d ∈ tables_1, d.before a0 Z = true) {h : Heap} {x z : Int32} (q : ¬ z < x) :
    Met l Z consts_1 ⟨"java/lang/Math", "min", "(II)I"⟩ jdk_29_method_69_code 2 (some .int) [] rm0 #[.int x, .int z] h [] (fun v h' => v = some (.int x) ∧ h = h') := by
  refine Met.of_walk (a0 := a0) (Ls := #[.val (.int x), .val (.int z)]) (Jvm.Free.JP.mathPlain rfl (by decide +kernel)) (own_hEL hw) rfl ?_
  refine Wl.iload_n 1 d23_0 rfl ?_
  refine Wl.iload_n 2 d23_1 rfl ?_
  refine Wl.icmpN 5 d23_2 (flt q).2.2.1 ?_
  refine Wl.iload_n 6 d23_5 rfl ?_
  refine Wl.goto 10 d23_6 ?_
  exact Wl.ireturn (t := .int) d23_10 rfl rfl (by simp) (nle rfl) (nle rfl) ⟨rfl, rfl⟩
theorem min2_met (hw : ∀ d ∈ tables_1, d.before a0 Z = true) {h : Heap} {x z : Int32} (q : z < x) :
    Met l Z consts_1 ⟨"java/lang/Math", "min", "(II)I"⟩ jdk_29_method_69_code 2 (some .int) [] rm0 #[.int x, .int z] h [] (fun v h' => v = some (.int z) ∧ h = h') := by
  refine Met.of_walk (a0 := a0) (Ls := #[.val (.int x), .val (.int z)]) (Jvm.Free.JP.mathPlain rfl (by decide +kernel)) (own_hEL hw) rfl ?_
  refine Wl.iload_n 1 d23_0 rfl ?_
  refine Wl.iload_n 2 d23_1 rfl ?_
  refine Wl.icmpY 9 d23_2 (tlt q).2.2.1 ?_
  refine Wl.iload_n 10 d23_9 rfl ?_
  exact Wl.ireturn (t := .int) d23_10 rfl rfl (by simp) (nle rfl) (nle rfl) ⟨rfl, rfl⟩

/-- the loop of indexOfChar -/
theorem idxC_loop (hw : ∀ d ∈ tables_1, d.before a0 Z = true) {h : Heap} {b : Addr} {kb : ClassId} {cs : List Int32} {c : Int32} (hc : Lat c) (hn : cs.length < 65536) (hlat : ∀ c ∈ cs, Lat c) (A : Arv Z h b kb .byte (Int32.ofNat cs.length) (cs.map byV) (.int 0)) (j : Nat) :
    ∀ i, i + j = cs.length →
    Wl l Z a0 consts_1 ⟨"java/lang/StringLatin1", "indexOfChar", "([BIII)I"⟩ jdk_43_method_23_code 6 (some .int) rm0 #[.ref b, .int c, .int 0, .int (Int32.ofNat cs.length)] (fun v h' => v = some (.int (idxF c 0 cs)) ∧ h = h') [] h 0 0 7 #[.val (.ref b), .val (.int c), .val (.int 0), .val (.int (Int32.ofNat cs.length)), .val (.int c.toInt8.toInt32), .val (.int (Int32.ofNat i))] [] ∨ idxF c i (cs.drop i) ≠ idxF c 0 cs := by
  induction j with
  | zero =>
    intro i hi
    by_cases he : idxF c i (cs.drop i) = idxF c 0 cs
    · refine Or.inl ?_
      have hd : cs.drop i = [] := List.drop_eq_nil_of_le (by omega)
      rw [hd] at he
      refine Wl.iload 9 d24_7 rfl ?_
      refine Wl.iload_n 10 d24_9 rfl ?_
      refine Wl.icmpY 31 d24_10 (flt (fun q => by rw [nLt (by omega) (by omega)] at q; omega)).2.1 ?_
      refine Wl.iconst 32 (-1 : Int32) d24_31 (by decide) ?_
      exact Wl.ireturn (t := .int) d24_32 rfl rfl (by simp) (nle rfl) (nle rfl) ⟨by rw [← he]; rfl, rfl⟩
    · exact Or.inr he
  | succ j ih =>
    intro i hi
    by_cases he : idxF c i (cs.drop i) = idxF c 0 cs
    · refine Or.inl ?_
      have h1 : i < cs.length := by omega
      have hd : cs.drop i = cs[i] :: cs.drop (i + 1) := List.drop_eq_getElem_cons h1
      rw [hd] at he
      refine Wl.iload 9 d24_7 rfl ?_
      refine Wl.iload_n 10 d24_9 rfl ?_
      refine Wl.icmpN 13 d24_10 (tlt ((nLt (by omega) (by omega)).mpr h1)).2.1 ?_
      refine Wl.aload_n 14 d24_13 rfl rfl ?_
      refine Wl.iload 16 d24_14 rfl ?_
      refine Wl.baload 17 i d24_16 A (nNn (by omega)) (nCl (by omega)) (by rw [nCl (by omega)]; exact h1) (v := .int (cs[i]).toInt8.toInt32) (by simp [List.getD_eq_getElem?_getD, h1, byV]) ?_
      refine Wl.iload 19 d24_17 rfl ?_
      by_cases hx : cs[i] = c
      · refine Wl.icmpN 22 d24_19 (teq (by rw [hx])).2 ?_
        refine Wl.iload 24 d24_22 rfl ?_
        exact Wl.ireturn (t := .int) d24_24 rfl rfl (by simp) (nle rfl) (nle rfl) ⟨by rw [← he]; simp [idxF, hx], rfl⟩
      · refine Wl.icmpY 25 d24_19 (feq (fun q => hx (by rw [← lo8 (hlat _ (List.getElem_mem h1)), ← lo8 hc, q]))).2 ?_
        refine Wl.iinc 28 #[.val (.ref b), .val (.int c), .val (.int 0), .val (.int (Int32.ofNat cs.length)), .val (.int c.toInt8.toInt32), .val (.int (Int32.ofNat (i + 1)))] (1 : Int32) d24_25 (by decide) rfl (by rw [nS]; rfl) ?_
        refine Wl.goto 7 d24_28 ?_
        rcases ih (i + 1) (by omega) with g | g
        · exact g
        · exact absurd (by rw [← he]; simp [idxF, hx]) g
    · exact Or.inr he
theorem idxC_met (hw : ∀ d ∈ tables_1, d.before a0 Z = true) {h : Heap} {b : Addr} {kb : ClassId} {cs : List Int32} {c : Int32} (hc : Lat c) (hn : cs.length < 65536) (hlat : ∀ c ∈ cs, Lat c) (A : Arv Z h b kb .byte (Int32.ofNat cs.length) (cs.map byV) (.int 0)) :
    Met l Z consts_1 ⟨"java/lang/StringLatin1", "indexOfChar", "([BIII)I"⟩ jdk_43_method_23_code 6 (some .int) [] rm0 #[.ref b, .int c, .int 0, .int (Int32.ofNat cs.length)] h [] (fun v h' => v = some (.int (idxF c 0 cs)) ∧ h = h') := by
  refine Met.of_walk (a0 := a0) (Ls := #[.val (.ref b), .val (.int c), .val (.int 0), .val (.int (Int32.ofNat cs.length)), .unset, .unset]) (plainFor_of_name pn_lat) (own_hEL hw) rfl ?_
  refine Wl.iload_n 1 d24_0 rfl ?_
  refine Wl.i2b 2 d24_1 ?_
  refine Wl.istore 4 #[.val (.ref b), .val (.int c), .val (.int 0), .val (.int (Int32.ofNat cs.length)), .val (.int c.toInt8.toInt32), .unset] d24_2 rfl ?_
  refine Wl.iload_n 5 d24_4 rfl ?_
  refine Wl.istore 7 #[.val (.ref b), .val (.int c), .val (.int 0), .val (.int (Int32.ofNat cs.length)), .val (.int c.toInt8.toInt32), .val (.int 0)] d24_5 rfl ?_
  rcases idxC_loop (l := l) (a0 := a0) hw hc hn hlat A cs.length 0 (by omega) with g | g
  · exact g
  · exact absurd rfl g
theorem idxL_met (hw : ∀ d ∈ tables_1, d.before a0 Z = true) {h : Heap} {b : Addr} {kb : ClassId} {cs : List Int32} {c : Int32} (hc : Lat c) (hn : cs.length < 65536) (hlat : ∀ c ∈ cs, Lat c) (A : Arv Z h b kb .byte (Int32.ofNat cs.length) (cs.map byV) (.int 0)) :
    Met l Z consts_1 ⟨"java/lang/StringLatin1", "indexOf", "([BIII)I"⟩ jdk_43_method_22_code 4 (some .int) [] { frames := 1, cells := 0, slots := 0, locals := 17 } #[.ref b, .int c, .int 0, .int (Int32.ofNat cs.length)] h [] (fun v h' => v = some (.int (idxF c 0 cs)) ∧ h = h') := by
  refine Met.of_walk (a0 := a0) (Ls := #[.val (.ref b), .val (.int c), .val (.int 0), .val (.int (Int32.ofNat cs.length))]) (plainFor_of_name pn_lat) (own_hEL hw) rfl ?_
  refine Wl.iload_n 1 d20_0 rfl ?_
  refine Wl.static 4 (argsL := [.int c]) d20_1 (w93 hw) (w94 hw) (w42 hw) (w95 hw) (show parseMethodDescriptor "(I)Z" = some ⟨[.int], some .boolean⟩ by decide +kernel) rfl (canEnc_met hw hc) (fun _ q => nomatch q) rfl rfl rfl (by decide) ⟨⟨nle rfl, nle rfl⟩, nle rfl, nle rfl⟩ ?_
  intro v h1 hq _
  obtain ⟨rfl, rfl⟩ := hq
  show Wl _ _ _ _ _ _ _ _ _ _ _ _ _ _ _ _ _ [.int 1]
  refine Wl.ifY 9 d20_4 (by decide) ?_
  refine Wl.iload_n 10 d20_9 rfl ?_
  refine Wl.iconst 11 (0 : Int32) d20_10 (by decide) ?_
  refine Wl.static 14 (argsL := [.int 0, .int 0]) d20_11 (w96 hw) (w97 hw) (w98 hw) (w99 hw) (show parseMethodDescriptor "(II)I" = some ⟨[.int, .int], some .int⟩ by decide +kernel) rfl (max_met hw (by decide)) (fun _ q => nomatch q) rfl rfl rfl (by decide) ⟨⟨nle rfl, nle rfl⟩, nle rfl, nle rfl⟩ ?_
  intro v h2 hq _
  obtain ⟨rfl, rfl⟩ := hq
  show Wl _ _ _ _ _ _ _ _ _ _ _ _ _ _ _ _ _ [.int 0]
  refine Wl.istore_n 15 #[.val (.ref b), .val (.int c), .val (.int 0), .val (.int (Int32.ofNat cs.length))] d20_14 rfl ?_
  refine Wl.iload_n 16 d20_15 rfl ?_
  refine Wl.aload_n 17 d20_16 rfl rfl ?_
  refine Wl.arraylength 18 d20_17 A ?_
  refine Wl.static 21 (argsL := [.int (Int32.ofNat cs.length), .int (Int32.ofNat cs.length)]) d20_18 (w100 hw) (w101 hw) (w98 hw) (w102 hw) (show parseMethodDescriptor "(II)I" = some ⟨[.int, .int], some .int⟩ by decide +kernel) rfl (min_met hw Int32.lt_irrefl) (fun _ q => nomatch q) rfl rfl rfl (by decide) ⟨⟨nle rfl, nle rfl⟩, nle rfl, nle rfl⟩ ?_
  intro v h3 hq _
  obtain ⟨rfl, rfl⟩ := hq
  show Wl _ _ _ _ _ _ _ _ _ _ _ _ _ _ _ _ _ [.int (Int32.ofNat cs.length)]
  refine Wl.istore_n 22 #[.val (.ref b), .val (.int c), .val (.int 0), .val (.int (Int32.ofNat cs.length))] d20_21 rfl ?_
  refine Wl.iload_n 23 d20_22 rfl ?_
  refine Wl.iload_n 24 d20_23 rfl ?_
  by_cases h0 : cs = []
  · subst h0
    refine Wl.icmpN 27 d20_24 (by decide) ?_
    refine Wl.iconst 28 (-1 : Int32) d20_27 (by decide) ?_
    exact Wl.ireturn (t := .int) d20_28 rfl rfl (by simp) (nle rfl) (nle rfl) ⟨rfl, rfl⟩
  · have hpos : 0 < cs.length := List.length_pos_iff.mpr h0
    refine Wl.icmpY 29 d20_24 (tlt ((nLt (i := 0) (by omega) (by omega)).mpr hpos)).1 ?_
    refine Wl.aload_n 30 d20_29 rfl rfl ?_
    refine Wl.iload_n 31 d20_30 rfl ?_
    refine Wl.iload_n 32 d20_31 rfl ?_
    refine Wl.iload_n 33 d20_32 rfl ?_
    refine Wl.static 36 (argsL := [.ref b, .int c, .int 0, .int (Int32.ofNat cs.length)]) d20_33 (w103 hw) (w104 hw) (w42 hw) (w105 hw) (show parseMethodDescriptor "([BIII)I" = some ⟨[.array .byte, .int, .int, .int], some .int⟩ by decide +kernel) rfl (idxC_met hw hc hn hlat A) (fun _ q => nomatch q) rfl rfl rfl (by decide) ⟨⟨nle rfl, nle rfl⟩, nle rfl, nle rfl⟩ ?_
    intro v h4 hq _
    obtain ⟨rfl, rfl⟩ := hq
    show Wl _ _ _ _ _ _ _ _ _ _ _ _ _ _ _ _ _ [.int (idxF c 0 cs)]
    exact Wl.ireturn (t := .int) d20_36 rfl rfl (by simp) (nle rfl) (nle rfl) ⟨rfl, rfl⟩
theorem idx2_met (hw : ∀ d ∈ tables_1, d.before a0 Z = true) (hcs : CSon Z) {h : Heap} {a : Addr} {cs : List Int32} {c : Int32} (hc : Lat c) (S : Stl Z h a cs) :
    Met l Z consts_1 ⟨"java/lang/String", "indexOf", "(II)I"⟩ jdk_42_method_80_code 3 (some .int) [] { frames := 2, cells := 0, slots := 0, locals := 32 } #[.ref a, .int c, .int 0] h [] (fun v h' => v = some (.int (idxF c 0 cs)) ∧ h = h') := by
  have S0 := S
  obtain ⟨b, kb, X, C, Vl, A, hlat, hn⟩ := S
  refine Met.of_walk (a0 := a0) (Ls := #[.val (.ref a), .val (.int c), .val (.int 0)]) (plainFor_of_name pn_str) (own_hEL hw) rfl ?_
  refine Wl.aload_n 1 d16_0 rfl rfl ?_
  refine Wl.virtual 4 (argsL := []) d16_1 (w75 hw) (w76 hw) (w78 hw) (w77 hw) (w9 hw) (w79 hw) (nf_sel (w78 hw) rfl) X (show parseMethodDescriptor "()Z" = some ⟨[], some .boolean⟩ by decide +kernel) rfl (isLatin1_met hw hcs C) (fun _ q => nomatch q) rfl rfl rfl (by decide) ⟨⟨nle rfl, nle rfl⟩, nle rfl, nle rfl⟩ ?_
  intro v h1 hq _
  obtain ⟨rfl, rfl⟩ := hq
  show Wl _ _ _ _ _ _ _ _ _ _ _ _ _ _ _ _ _ [.int 1]
  refine Wl.ifN 7 d16_4 (by decide) ?_
  refine Wl.aload_n 8 d16_7 rfl rfl ?_
  refine Wl.getfield 11 d16_8 (w35 hw) Vl ?_
  refine Wl.iload_n 12 d16_11 rfl ?_
  refine Wl.iload_n 13 d16_12 rfl ?_
  refine Wl.aload_n 14 d16_13 rfl rfl ?_
  refine Wl.virtual 17 (argsL := []) d16_14 (w80 hw) (w81 hw) (w83 hw) (w82 hw) (w9 hw) (w84 hw) (nf_sel (w83 hw) rfl) X (show parseMethodDescriptor "()I" = some ⟨[], some .int⟩ by decide +kernel) rfl (len_met hw hcs S0) (fun _ q => nomatch q) rfl rfl rfl (by decide) ⟨⟨nle rfl, nle rfl⟩, nle rfl, nle rfl⟩ ?_
  intro v h2 hq _
  obtain ⟨rfl, rfl⟩ := hq
  show Wl _ _ _ _ _ _ _ _ _ _ _ _ _ _ _ _ _ [.int (Int32.ofNat cs.length), .int 0, .int c, .ref b]
  refine Wl.static 20 (argsL := [.ref b, .int c, .int 0, .int (Int32.ofNat cs.length)]) d16_17 (w90 hw) (w91 hw) (w42 hw) (w92 hw) (show parseMethodDescriptor "([BIII)I" = some ⟨[.array .byte, .int, .int, .int], some .int⟩ by decide +kernel) rfl (idxL_met hw hc hn hlat A) (fun _ q => nomatch q) rfl rfl rfl (by decide) ⟨⟨nle rfl, nle rfl⟩, nle rfl, nle rfl⟩ ?_
  intro v h3 hq _
  obtain ⟨rfl, rfl⟩ := hq
  show Wl _ _ _ _ _ _ _ _ _ _ _ _ _ _ _ _ _ [.int (idxF c 0 cs)]
  refine Wl.goto 36 d16_20 ?_
  exact Wl.ireturn (t := .int) d16_36 rfl rfl (by simp) (nle rfl) (nle rfl) ⟨rfl, rfl⟩
theorem idx1_met (hw : ∀ d ∈ tables_1, d.before a0 Z = true) (hcs : CSon Z) {h : Heap} {a : Addr} {cs : List Int32} {c : Int32} (hc : Lat c) (S : Stl Z h a cs) :
    Met l Z consts_1 ⟨"java/lang/String", "indexOf", "(I)I"⟩ jdk_42_method_79_code 2 (some .int) [] { frames := 3, cells := 0, slots := 0, locals := 46 } #[.ref a, .int c] h [] (fun v h' => v = some (.int (idxF c 0 cs)) ∧ h = h') := by
  refine Met.of_walk (a0 := a0) (Ls := #[.val (.ref a), .val (.int c)]) (plainFor_of_name pn_str) (own_hEL hw) rfl ?_
  refine Wl.aload_n 1 d15_0 rfl rfl ?_
  refine Wl.iload_n 2 d15_1 rfl ?_
  refine Wl.iconst 3 (0 : Int32) d15_2 (by decide) ?_
  refine Wl.virtual 6 (argsL := [.int c, .int 0]) d15_3 (w70 hw) (w71 hw) (w73 hw) (w72 hw) (w9 hw) (w74 hw) (nf_sel (w73 hw) rfl) S.exa (show parseMethodDescriptor "(II)I" = some ⟨[.int, .int], some .int⟩ by decide +kernel) rfl (idx2_met hw hcs hc S) (fun _ q => nomatch q) rfl rfl rfl (by decide) ⟨⟨nle rfl, nle rfl⟩, nle rfl, nle rfl⟩ ?_
  intro v h1 hq _
  obtain ⟨rfl, rfl⟩ := hq
  show Wl _ _ _ _ _ _ _ _ _ _ _ _ _ _ _ _ _ [.int (idxF c 0 cs)]
  exact Wl.ireturn (t := .int) d15_6 rfl rfl (by simp) (nle rfl) (nle rfl) ⟨rfl, rfl⟩
end OpIdx

/-! String.substring(int, int) of a Latin-1 String -/
theorem rng_map (xs : List Int32) (i n : Nat) (h : i + n ≤ xs.length) : (List.range n).map (fun t => (xs.map byV).getD (i + t) (.int 0)) = ((xs.drop i).take n).map byV := by
  apply List.ext_getElem
  · simp; omega
  · intro k h1 h2
    have hk : k < n := by simpa using h1
    have hk2 : i + k < xs.length := by omega
    simp [List.getD_eq_getElem?_getD, hk2]
theorem sub_lat {cs : List Int32} (hl : ∀ c ∈ cs, Lat c) (i n : Nat) : ∀ c ∈ (cs.drop i).take n, Lat c := fun c q => hl c (List.mem_of_mem_drop (List.mem_of_mem_take q))
theorem sub_len {cs : List Int32} {i n : Nat} (h : i + n ≤ cs.length) : ((cs.drop i).take n).length = n := by simp; omega
section OpSub
variable {l : Launch} {Z : State} {a0 : Array Value}
theorem pn_arr : plainName "java/util/Arrays" = true := by first | (simp [plainName, overriddenIn]; done) | decide +kernel

theorem chkLen_met (hw : ∀ d ∈ tables_1, d.before a0 Z = true) {h : Heap} {i e : Int32} (h2 : ¬ e < i) :
    Met l Z consts_1 ⟨"java/util/Arrays", "checkLength", "(II)V"⟩ jdk_65_method_131_code 2 none [] rm0 #[.int i, .int e] h [] (fun v h' => v = none ∧ h = h') := by
  refine Met.of_walk (a0 := a0) (Ls := #[.val (.int i), .val (.int e)]) (plainFor_of_name pn_arr) (own_hEL hw) rfl ?_
  refine Wl.iload_n 1 d49_0 rfl ?_
  refine Wl.iload_n 2 d49_1 rfl ?_
  refine Wl.icmpY 37 d49_2 (flt h2).2.1 ?_
  exact Wl.return_ d49_37 rfl (nle rfl) (nle rfl) ⟨rfl, rfl⟩
/-- copyOfRangeByte: bytes i to i + n of a byte[] -/
theorem copyRB_met (hw : ∀ d ∈ tables_1, d.before a0 Z = true) {h : Heap} {b : Addr} {kb : ClassId} {cs : List Int32} {i n N : Nat} (hn : cs.length < 65536) (hi : i + n ≤ cs.length) (hN : n ≤ N) (hN2 : N < 65536) (A : Arv Z h b kb .byte (Int32.ofNat cs.length) (cs.map byV) (.int 0)) :
    Met l Z consts_1 ⟨"java/util/Arrays", "copyOfRangeByte", "([BII)[B"⟩ jdk_65_method_133_code 5 (some (.array .byte)) [] { frames := 1, cells := 1, slots := N, locals := 18 } #[.ref b, .int (Int32.ofNat i), .int (Int32.ofNat (i + n))] h [] (fun v h' => ∃ (d : Addr) (kd : ClassId), v = some (.ref d) ∧ h.size ≤ d ∧ Ext h h' ∧ Arv Z h' d kd .byte (Int32.ofNat n) (((cs.drop i).take n).map byV) (.int 0)) := by
  refine Met.of_walk (a0 := a0) (Ls := #[.val (.ref b), .val (.int (Int32.ofNat i)), .val (.int (Int32.ofNat (i + n))), .unset, .unset]) (plainFor_of_name pn_arr) (own_hEL hw) rfl ?_
  refine Wl.iload_n 1 d48_0 rfl ?_
  refine Wl.iload_n 2 d48_1 rfl ?_
  refine Wl.static 5 (argsL := [.int (Int32.ofNat i), .int (Int32.ofNat (i + n))]) d48_2 (w234 hw) (w235 hw) (w229 hw) (w236 hw) (show parseMethodDescriptor "(II)V" = some ⟨[.int, .int], none⟩ by decide +kernel) rfl (chkLen_met hw (fun q => by rw [nLt (by omega) (by omega)] at q; omega)) (fun _ q => nomatch q) rfl rfl rfl (by decide) ⟨⟨by show 0 + 1 ≤ 1; omega, by show 0 + (2 + 11) + 0 ≤ 18; omega⟩, by show 0 + 0 ≤ 1; omega, by show 0 + 0 ≤ N; omega⟩ ?_
  intro v h1 hq _
  obtain ⟨rfl, rfl⟩ := hq
  show Wl _ _ _ _ _ _ _ _ _ _ _ _ _ _ _ _ _ []
  refine Wl.iload_n 6 d48_5 rfl ?_
  refine Wl.iload_n 7 d48_6 rfl ?_
  refine Wl.isub 8 d48_7 ?_
  rw [nSub (by omega) (by omega), show i + n - i = n by omega]
  refine Wl.istore_n 9 #[.val (.ref b), .val (.int (Int32.ofNat i)), .val (.int (Int32.ofNat (i + n))), .val (.int (Int32.ofNat n)), .unset] d48_8 rfl ?_
  refine Wl.iload_n 10 d48_9 rfl ?_
  refine Wl.newarray 12 N d48_10 (w26 hw) (nNn (by omega)) (by rw [nCl (by omega)]; exact hN) (by omega) (by show 0 + 0 + 1 ≤ 1; omega) (by show 0 + 0 + N ≤ N; omega) ?_
  intro d h2 kd q E D
  rw [nCl (by omega)] at D
  have D : Arv Z h2 d kd .byte (Int32.ofNat n) (List.replicate n (.int 0)) (.int 0) := D
  have A2 := A.ext E
  refine Wl.astore 14 #[.val (.ref b), .val (.int (Int32.ofNat i)), .val (.int (Int32.ofNat (i + n))), .val (.int (Int32.ofNat n)), .val (.ref d)] d48_12 rfl rfl ?_
  refine Wl.aload_n 15 d48_14 rfl rfl ?_
  refine Wl.iload_n 16 d48_15 rfl ?_
  refine Wl.aload 18 d48_16 rfl rfl ?_
  refine Wl.iconst 19 (0 : Int32) d48_18 (by decide) ?_
  refine Wl.aload_n 20 d48_19 rfl rfl ?_
  refine Wl.arraylength 21 d48_20 A2 ?_
  refine Wl.iload_n 22 d48_21 rfl ?_
  refine Wl.isub 23 d48_22 ?_
  rw [nSub (by omega) (by omega)]
  refine Wl.iload_n 24 d48_23 rfl ?_
  have hmin : Met l Z consts_1 ⟨"java/lang/Math", "min", "(II)I"⟩ jdk_29_method_69_code 2 (some .int) [] rm0 #[.int (Int32.ofNat (cs.length - i)), .int (Int32.ofNat n)] h2 [] (fun v h' => v = some (.int (Int32.ofNat n)) ∧ h2 = h') := by
    by_cases hlt : n < cs.length - i
    · exact min2_met hw ((nLt (by omega) (by omega)).mpr hlt)
    · have e : cs.length - i = n := by omega
      rw [e]; exact min_met hw Int32.lt_irrefl
  refine Wl.static 27 (argsL := [.int (Int32.ofNat (cs.length - i)), .int (Int32.ofNat n)]) d48_24 (w237 hw) (w101 hw) (w98 hw) (w102 hw) (show parseMethodDescriptor "(II)I" = some ⟨[.int, .int], some .int⟩ by decide +kernel) rfl hmin (fun _ q => nomatch q) rfl rfl rfl (by decide) ⟨⟨by show 0 + 1 ≤ 1; omega, by show 4 + (2 + 11) + 0 ≤ 18; omega⟩, by show 0 + 0 + 1 + 0 ≤ 1; omega, by show 0 + 0 + N + 0 ≤ N; omega⟩ ?_
  intro v h3 hq _
  obtain ⟨rfl, rfl⟩ := hq
  show Wl _ _ _ _ _ _ _ _ _ _ _ _ _ _ _ _ _ [.int (Int32.ofNat n), .int 0, .ref d, .int (Int32.ofNat i), .ref b]
  refine Wl.arraycopy 30 d48_27 (w238 hw) (w168 hw) (w166 hw) (w167 hw) A2 D rfl (nNn (by omega)) (by decide) (nNn (by omega)) (by rw [nCl (by omega), nCl (by omega), nCl (by omega)]; exact hi) (by rw [nCl (i := n) (by omega)]; exact Nat.le_of_eq (Nat.zero_add n)) (by rw [nCl (i := n) (by omega), List.length_replicate]; exact Nat.le_of_eq (Nat.zero_add n)) (List.mem_of_getElem? (i := 0) rfl) rfl (by show 1 ≤ 1; omega) (by show 0 + (7 + 11) ≤ 18; omega) ?_
  intro h4 K D4
  rw [nCl (i := n) (by omega), nCl (i := i) (by omega), rng_map cs i n hi] at D4
  have e0 : List.take (Int32.toNatClampNeg 0) (List.replicate n (Value.int 0)) ++ List.map byV (List.take n (List.drop i cs)) ++ List.drop (Int32.toNatClampNeg 0 + n) (List.replicate n (Value.int 0)) = ((cs.drop i).take n).map byV := by
    rw [show Int32.toNatClampNeg 0 = 0 by decide]; simp
  rw [e0] at D4
  refine Wl.aload 32 d48_30 rfl rfl ?_
  exact Wl.areturn d48_32 rfl rfl rfl (by show 0 + 0 + 1 + 0 ≤ 1; omega) (by show 0 + 0 + N + 0 ≤ N; omega) ⟨d, kd, rfl, Nat.le_of_eq q.symm, extKeep E K (allS (Nat.le_of_eq q.symm) all0), D4⟩
theorem copyR_met (hw : ∀ d ∈ tables_1, d.before a0 Z = true) {h : Heap} {b : Addr} {kb : ClassId} {cs : List Int32} {i n N : Nat} (hn : cs.length < 65536) (hi : i + n ≤ cs.length) (hno : ¬ (i = 0 ∧ n = cs.length)) (hN : n ≤ N) (hN2 : N < 65536) (A : Arv Z h b kb .byte (Int32.ofNat cs.length) (cs.map byV) (.int 0)) :
    Met l Z consts_1 ⟨"java/util/Arrays", "copyOfRange", "([BII)[B"⟩ jdk_65_method_132_code 3 (some (.array .byte)) [] { frames := 2, cells := 1, slots := N, locals := 34 } #[.ref b, .int (Int32.ofNat i), .int (Int32.ofNat (i + n))] h [] (fun v h' => ∃ (d : Addr) (kd : ClassId), v = some (.ref d) ∧ h.size ≤ d ∧ Ext h h' ∧ Arv Z h' d kd .byte (Int32.ofNat n) (((cs.drop i).take n).map byV) (.int 0)) := by
  refine Met.of_walk (a0 := a0) (Ls := #[.val (.ref b), .val (.int (Int32.ofNat i)), .val (.int (Int32.ofNat (i + n)))]) (plainFor_of_name pn_arr) (own_hEL hw) rfl ?_
  have go : ∀ {l : Launch}, Wl l Z a0 consts_1 ⟨"java/util/Arrays", "copyOfRange", "([BII)[B"⟩ jdk_65_method_132_code 3 (some (.array .byte)) { frames := 2, cells := 1, slots := N, locals := 34 } #[.ref b, .int (Int32.ofNat i), .int (Int32.ofNat (i + n))] (fun v h' => ∃ (d : Addr) (kd : ClassId), v = some (.ref d) ∧ h.size ≤ d ∧ Ext h h' ∧ Arv Z h' d kd .byte (Int32.ofNat n) (((cs.drop i).take n).map byV) (.int 0)) [] h 0 0 10 #[.val (.ref b), .val (.int (Int32.ofNat i)), .val (.int (Int32.ofNat (i + n)))] [] := by
    intro l
    refine Wl.aload_n 11 d47_10 rfl rfl ?_
    refine Wl.iload_n 12 d47_11 rfl ?_
    refine Wl.iload_n 13 d47_12 rfl ?_
    refine Wl.static 16 (argsL := [.ref b, .int (Int32.ofNat i), .int (Int32.ofNat (i + n))]) d47_13 (w231 hw) (w232 hw) (w229 hw) (w233 hw) (show parseMethodDescriptor "([BII)[B" = some ⟨[.array .byte, .int, .int], some (.array .byte)⟩ by decide +kernel) rfl (copyRB_met hw hn hi hN hN2 A) (fun _ q => nomatch q) rfl rfl rfl (by decide) ⟨⟨by show 1 + 1 ≤ 2; omega, by show 0 + (5 + 11) + 18 ≤ 34; omega⟩, by show 0 + 1 ≤ 1; omega, by show 0 + N ≤ N; omega⟩ ?_
    intro v h1 hq _
    obtain ⟨d, kd, rfl, r⟩ := hq
    show Wl _ _ _ _ _ _ _ _ _ _ _ _ _ _ _ _ _ [.ref d]
    exact Wl.areturn d47_16 rfl rfl rfl (by show 0 + 1 ≤ 1; omega) (by show 0 + N ≤ N; omega) ⟨d, kd, rfl, r⟩
  refine Wl.iload_n 1 d47_0 rfl ?_
  by_cases h0 : i = 0
  · subst h0
    refine Wl.ifN 4 d47_1 (teq (by decide)).2 ?_
    refine Wl.iload_n 5 d47_4 rfl ?_
    refine Wl.aload_n 6 d47_5 rfl rfl ?_
    refine Wl.arraylength 7 d47_6 A ?_
    refine Wl.icmpN 10 d47_7 (feq (fun q => by rw [nEq (by omega) (by omega)] at q; exact hno ⟨rfl, by omega⟩)).1 ?_
    exact go
  · refine Wl.ifY 10 d47_1 (feq (fun q => h0 ((nEq (j := 0) (by omega) (by omega)).mp q))).2 ?_
    exact go
end OpSub
/-! StringBuilder with room for sixteen Latin-1 chars -/
def pad (cs : List Int32) : List Int32 := cs ++ List.replicate (16 - cs.length) 0
theorem pad_len {cs : List Int32} (h : cs.length ≤ 16) : (pad cs).length = 16 := by simp [pad]; omega
theorem pad_take {cs : List Int32} : (pad cs).take cs.length = cs := by simp [pad]
theorem pad_app {cs ds : List Int32} (h : cs.length + ds.length ≤ 16) : ((pad cs).map byV).take cs.length ++ ds.map byV ++ ((pad cs).map byV).drop (cs.length + ds.length) = (pad (cs ++ ds)).map byV := by
  have e1 : ((pad cs).map byV).take cs.length = cs.map byV := by rw [← List.map_take, pad_take]
  have e2 : ((pad cs).map byV).drop (cs.length + ds.length) = (List.replicate (16 - (cs ++ ds).length) (0 : Int32)).map byV := by
    rw [← List.map_drop]
    congr 1
    unfold pad
    rw [← List.drop_drop, List.drop_left, List.drop_replicate, List.length_append]
    congr 1
    omega
  rw [e1, e2]
  simp [pad]
def Bld (Z : State) (h : Heap) (a b : Addr) (kb : ClassId) (cs : List Int32) : Prop :=
  Exa Z h a "java/lang/StringBuilder" ∧ Fld Z h a "java/lang/AbstractStringBuilder" "value" "[B" (.ref b) ∧ Fld Z h a "java/lang/AbstractStringBuilder" "coder" "B" (.int 0) ∧ Fld Z h a "java/lang/AbstractStringBuilder" "count" "I" (.int (Int32.ofNat cs.length)) ∧
  Arv Z h b kb .byte (Int32.ofNat 16) ((pad cs).map byV) (.int 0) ∧ (∀ c ∈ cs, Lat c) ∧ cs.length ≤ 16 ∧ a ≠ b
theorem Bld.ext {Z : State} {h h' : Heap} {a b : Addr} {kb : ClassId} {cs : List Int32} (B : Bld Z h a b kb cs) (E : Ext h h') : Bld Z h' a b kb cs := ⟨B.1.ext E, B.2.1.ext E, B.2.2.1.ext E, B.2.2.2.1.ext E, B.2.2.2.2.1.ext E, B.2.2.2.2.2⟩
/-- class Y declares the method itself, and it is no interface -/
theorem sm_of {Z : State} {a0 : Array Value} {K : String} {y y1 : MethodName} (wd : (Jvm.Cond.declares y).before a0 Z = true) (ws : (Jvm.Cond.selects K y1 y1).before a0 Z = true) (hc : y1.cls = y.cls) (hy : y.cls ≠ "java/lang/invoke/MethodHandle" ∧ y.cls ≠ "java/lang/invoke/VarHandle") : (Jvm.Cond.sameMethod y.cls y.cls y.name y.desc).before a0 Z = true := by
  obtain ⟨r0, r, hn, hrm, hstR, hsigR⟩ := Cond.declares_spec wd
  obtain ⟨c2, r2, m2, q1, q2, q3, q4, kP, hkP, hkPi⟩ := Cond.selects_spec ws
  have hf := State.methodFound?_of_named hn hy
  have hc0 := findClass_of_methodNamed hn
  have hc1 := findClass_of_methodNamed q3
  rw [hc] at hc1
  have e := Option.some.inj (hc0.symm.trans hc1)
  rw [← e] at hkP
  refine Cond.before_iff.mpr ?_
  have hn' : Z.methodNamed? ⟨y.cls, y.name, y.desc⟩ = some r0 := hn
  simp [Cond.value, hc0, hf, hn', hkP, hkPi]
section OpSB
variable {l : Launch} {Z : State} {a0 : Array Value}
theorem pn_sb : plainName "java/lang/StringBuilder" = true := by first | (simp [plainName, overriddenIn]; done) | decide +kernel
theorem pn_asb : plainName "java/lang/AbstractStringBuilder" = true := by first | (simp [plainName, overriddenIn]; done) | decide +kernel
theorem asbInit_met (hw : ∀ d ∈ tables_1, d.before a0 Z = true) (hcs : CSon Z) {h : Heap} {a : Addr} (E : Exa Z h a "java/lang/StringBuilder") (FV : Fld Z h a "java/lang/AbstractStringBuilder" "value" "[B" .null) (FC : Fld Z h a "java/lang/AbstractStringBuilder" "coder" "B" (.int 0)) (FN : Fld Z h a "java/lang/AbstractStringBuilder" "count" "I" (.int 0)) :
    MetO l Z consts_1 ⟨"java/lang/AbstractStringBuilder", "<init>", "(I)V"⟩ jdk_68_method_2_code 2 none [] { frames := 1, cells := 1, slots := 16, locals := 12 } #[.ref a, .int 16] h [a] [h.size] (fun v h' => v = none ∧ Keep h h' [a] ∧ ∃ kb, Bld Z h' a h.size kb []) := by
  obtain ⟨cst, hS, hcn⟩ := hcs
  have L1 : Laid Z a0 "java/lang/StringBuilder" "java/lang/AbstractStringBuilder" "value" "[B" := Or.inl (w128 hw)
  have L2 : Laid Z a0 "java/lang/StringBuilder" "java/lang/AbstractStringBuilder" "coder" "B" := Or.inl (w130 hw)
  have L3 : Laid Z a0 "java/lang/StringBuilder" "java/lang/AbstractStringBuilder" "count" "I" := Or.inl (w143 hw)
  have s12 : Jvm.RoadKit.slotOf Z "java/lang/AbstractStringBuilder" "value" "[B" ≠ Jvm.RoadKit.slotOf Z "java/lang/AbstractStringBuilder" "coder" "B" := slot_ne L1 L2 (by decide) (t := .array .byte) (t' := .byte) (by decide) (by decide)
  have s31 : Jvm.RoadKit.slotOf Z "java/lang/AbstractStringBuilder" "count" "I" ≠ Jvm.RoadKit.slotOf Z "java/lang/AbstractStringBuilder" "value" "[B" := slot_ne L3 L1 (by decide) (t := .int) (t' := .array .byte) (by decide) (by decide)
  have s32 : Jvm.RoadKit.slotOf Z "java/lang/AbstractStringBuilder" "count" "I" ≠ Jvm.RoadKit.slotOf Z "java/lang/AbstractStringBuilder" "coder" "B" := slot_ne L3 L2 (by decide) (t := .int) (t' := .byte) (by decide) (by decide)
  refine Met.of_walk (a0 := a0) (Ls := #[.val (.ref a), .val (.int 16)]) (plainFor_of_name pn_asb) (own_hEL hw) rfl ?_
  refine Wl.aload_n 1 d27_0 rfl rfl ?_
  refine Wl.initO 4 d27_1 (w125 hw) (w19 hw) (w20 hw) rfl (nle rfl) (nle rfl) ?_
  refine Wl.getstatic 7 d27_4 (w126 hw) hS ?_
  refine Wl.ifN 10 d27_7 (feq hcn).1 ?_
  refine Wl.aload_n 11 d27_10 rfl rfl ?_
  refine Wl.iload_n 12 d27_11 rfl ?_
  refine Wl.newarray 14 16 d27_12 (w26 hw) (by decide) (by decide) (by decide) (nle rfl) (nle rfl) ?_
  intro d h1 kd q E1 A
  subst q
  have A : Arv Z h1 h.size kd .byte (Int32.ofNat 16) ((pad []).map byV) (.int 0) := A
  have hne : a ≠ h.size := Nat.ne_of_lt E.lt
  refine Wl.putfield 17 d27_14 (w127 hw) (FV.ext E1) (E.ext E1) (Or.inl (w128 hw)) (w114 hw) (ty := .array .byte) (by decide) rfl rfl (List.mem_of_getElem? (i := 1) rfl) ?_
  intro h2 W2
  refine Wl.aload_n 18 d27_17 rfl rfl ?_
  refine Wl.iconst 19 (0 : Int32) d27_18 (by decide) ?_
  refine Wl.putfield 22 d27_19 (w129 hw) ((FC.ext E1).other W2 (Or.inr s12.symm)) ((E.ext E1).wr W2) (Or.inl (w130 hw)) (w114 hw) (ty := .byte) (by decide) rfl rfl (List.mem_of_getElem? (i := 1) rfl) ?_
  intro h3 W3
  refine Wl.goto 38 d27_22 ?_
  exact Wl.return_ d27_38 rfl (nle rfl) (nle rfl) ⟨rfl, (((Keep.refl h [a]).ext E1).wr W2 (Or.inl (List.mem_of_getElem? (i := 0) rfl))).wr W3 (Or.inl (List.mem_of_getElem? (i := 0) rfl)),
    kd, ((E.ext E1).wr W2).wr W3, ((FV.ext E1).same W2).other W3 (Or.inr s12), ((FC.ext E1).other W2 (Or.inr s12.symm)).same W3, ((FN.ext E1).other W2 (Or.inr s31)).other W3 (Or.inr s32), (A.other W2 hne.symm).other W3 hne.symm, latN, nle rfl, hne⟩ (fun x hx => by cases List.mem_singleton.mp hx; exact List.mem_of_getElem? (i := 0) rfl)
theorem sbInit_met (hw : ∀ d ∈ tables_1, d.before a0 Z = true) (hcs : CSon Z) {h : Heap} {a : Addr} (E : Exa Z h a "java/lang/StringBuilder") (FV : Fld Z h a "java/lang/AbstractStringBuilder" "value" "[B" .null) (FC : Fld Z h a "java/lang/AbstractStringBuilder" "coder" "B" (.int 0)) (FN : Fld Z h a "java/lang/AbstractStringBuilder" "count" "I" (.int 0)) :
    MetO l Z consts_1 ⟨"java/lang/StringBuilder", "<init>", "()V"⟩ jdk_67_method_1_code 1 none [] { frames := 2, cells := 1, slots := 16, locals := 25 } #[.ref a] h [a] [h.size] (fun v h' => v = none ∧ Keep h h' [a] ∧ ∃ kb, Bld Z h' a h.size kb []) := by
  refine Met.of_walk (a0 := a0) (Ls := #[.val (.ref a)]) (plainFor_of_name pn_sb) (own_hEL hw) rfl ?_
  refine Wl.aload_n 1 d26_0 rfl rfl ?_
  refine Wl.bipush 3 (16 : Int32) d26_1 (by decide) ?_
  refine Wl.specialO 6 (argsL := [.int 16]) d26_3 (w119 hw) (w120 hw) (w123 hw) (w124 hw) (show parseMethodDescriptor "(I)V" = some ⟨[.int], none⟩ by decide +kernel) rfl (asbInit_met hw hcs E FV FC FN) (allS (List.mem_of_getElem? (i := 0) rfl) (fun _ q => nomatch q)) rfl rfl rfl rfl (by decide) ⟨⟨nle rfl, nle rfl⟩, nle rfl, nle rfl⟩ ?_
  intro v h1 hq _
  obtain ⟨rfl, r⟩ := hq
  exact Wl.return_ d26_6 rfl (nle rfl) (nle rfl) ⟨rfl, r⟩ (fun x hx => by cases List.mem_singleton.mp hx; exact List.mem_of_getElem? (i := 0) rfl)
theorem ensure_met (hw : ∀ d ∈ tables_1, d.before a0 Z = true) {h : Heap} {a b : Addr} {kb : ClassId} {cs : List Int32} {n : Nat} (hn : n ≤ 16) (B : Bld Z h a b kb cs) :
    Met l Z consts_1 ⟨"java/lang/AbstractStringBuilder", "ensureCapacityInternal", "(I)V"⟩ jdk_68_method_9_code 3 none [] rm0 #[.ref a, .int (Int32.ofNat n)] h [] (fun v h' => v = none ∧ h = h') := by
  refine Met.of_walk (a0 := a0) (Ls := #[.val (.ref a), .val (.int (Int32.ofNat n)), .unset]) (plainFor_of_name pn_asb) (own_hEL hw) rfl ?_
  refine Wl.aload_n 1 d30_0 rfl rfl ?_
  refine Wl.getfield 4 d30_1 (w127 hw) B.2.1 ?_
  refine Wl.arraylength 5 d30_4 B.2.2.2.2.1 ?_
  refine Wl.aload_n 6 d30_5 rfl rfl ?_
  refine Wl.getfield 9 d30_6 (w129 hw) B.2.2.1 ?_
  refine Wl.ishr 10 d30_9 ?_
  rw [show (Int32.ofNat 16 >>> ((0 : Int32) &&& 31)) = Int32.ofNat 16 by decide]
  refine Wl.istore_n 11 #[.val (.ref a), .val (.int (Int32.ofNat n)), .val (.int (Int32.ofNat 16))] d30_10 rfl ?_
  refine Wl.iload_n 12 d30_11 rfl ?_
  refine Wl.iload_n 13 d30_12 rfl ?_
  refine Wl.isub 14 d30_13 ?_
  refine Wl.ifY 38 d30_14 (flt (fun q => by
    rw [Int32.lt_iff_toInt_lt] at q
    have e := c_isub (Int32.ofNat n) (Int32.ofNat 16); have r := rng32 (Int32.ofNat n - Int32.ofNat 16)
    rw [nI (by omega), nI (by omega)] at e
    rw [show (0 : Int32).toInt = 0 by decide] at q
    omega)).2.2.2 ?_
  exact Wl.return_ d30_38 rfl (nle rfl) (nle rfl) ⟨rfl, rfl⟩
theorem inflate_met (hw : ∀ d ∈ tables_1, d.before a0 Z = true) (hcs : CSon Z) {h : Heap} {a b x : Addr} {kb : ClassId} {cs ds : List Int32} (B : Bld Z h a b kb cs) (S : Stl Z h x ds) :
    Met l Z consts_1 ⟨"java/lang/AbstractStringBuilder", "inflateIfNeededFor", "(Ljava/lang/String;)V"⟩ jdk_68_method_71_code 2 none [] { frames := 1, cells := 0, slots := 0, locals := 13 } #[.ref a, .ref x] h [] (fun v h' => v = none ∧ h = h') := by
  have hcs' := hcs
  obtain ⟨cst, hS, hcn⟩ := hcs
  obtain ⟨b2, kb2, X, C, Vl, A, hlat, hn⟩ := S
  refine Met.of_walk (a0 := a0) (Ls := #[.val (.ref a), .val (.ref x)]) (plainFor_of_name pn_asb) (own_hEL hw) rfl ?_
  refine Wl.getstatic 3 d32_0 (w126 hw) hS ?_
  refine Wl.ifN 6 d32_3 (feq hcn).1 ?_
  refine Wl.aload_n 7 d32_6 rfl rfl ?_
  refine Wl.getfield 10 d32_7 (w129 hw) B.2.2.1 ?_
  refine Wl.aload_n 11 d32_10 rfl rfl ?_
  refine Wl.virtual 14 (argsL := []) d32_11 (w159 hw) (w86 hw) (w88 hw) (w87 hw) (w9 hw) (w89 hw) (nf_sel (w88 hw) rfl) X (show parseMethodDescriptor "()B" = some ⟨[], some .byte⟩ by decide +kernel) rfl (coder_met hw hcs' rfl C) (fun _ q => nomatch q) rfl rfl rfl (by decide) ⟨⟨nle rfl, nle rfl⟩, nle rfl, nle rfl⟩ ?_
  intro v h1 hq _
  obtain ⟨rfl, rfl⟩ := hq
  show WlO _ _ _ _ _ _ _ _ _ _ _ _ _ _ _ _ _ _ [.int 0, .int 0]
  refine Wl.icmpY 21 d32_14 (teq rfl).1 ?_
  exact Wl.return_ d32_21 rfl (nle rfl) (nle rfl) ⟨rfl, rfl⟩
theorem getB_met (hw : ∀ d ∈ tables_1, d.before a0 Z = true) (hcs : CSon Z) {h : Heap} {b x : Addr} {kb : ClassId} {cs ds : List Int32} (hl : cs.length + ds.length ≤ 16) (A : Arv Z h b kb .byte (Int32.ofNat 16) ((pad cs).map byV) (.int 0)) (S : Stl Z h x ds) :
    Met l Z consts_1 ⟨"java/lang/String", "getBytes", "([BIB)V"⟩ jdk_42_method_147_code 4 none [] { frames := 1, cells := 0, slots := 0, locals := 18 } #[.ref x, .ref b, .int (Int32.ofNat cs.length), .int 0] h [b] (fun v h' => v = none ∧ Keep h h' [b] ∧ Arv Z h' b kb .byte (Int32.ofNat 16) ((pad (cs ++ ds)).map byV) (.int 0)) := by
  obtain ⟨b2, kb2, X, C, Vl, A2, hlat, hn⟩ := S
  refine Met.of_walk (a0 := a0) (Ls := #[.val (.ref x), .val (.ref b), .val (.int (Int32.ofNat cs.length)), .val (.int 0)]) (plainFor_of_name pn_str) (own_hEL hw) rfl ?_
  refine Wl.aload_n 1 d33_0 rfl rfl ?_
  refine Wl.virtual 4 (argsL := []) d33_1 (w85 hw) (w86 hw) (w88 hw) (w87 hw) (w9 hw) (w89 hw) (nf_sel (w88 hw) rfl) X (show parseMethodDescriptor "()B" = some ⟨[], some .byte⟩ by decide +kernel) rfl (coder_met hw hcs rfl C) (fun _ q => nomatch q) rfl rfl rfl (by decide) ⟨⟨nle rfl, nle rfl⟩, nle rfl, nle rfl⟩ ?_
  intro v h1 hq _
  obtain ⟨rfl, rfl⟩ := hq
  show WlO _ _ _ _ _ _ _ _ _ _ _ _ _ _ _ _ _ _ [.int 0]
  refine Wl.iload_n 5 d33_4 rfl ?_
  refine Wl.icmpN 8 d33_5 (teq rfl).2 ?_
  refine Wl.aload_n 9 d33_8 rfl rfl ?_
  refine Wl.getfield 12 d33_9 (w35 hw) Vl ?_
  refine Wl.iconst 13 (0 : Int32) d33_12 (by decide) ?_
  refine Wl.aload_n 14 d33_13 rfl rfl ?_
  refine Wl.iload_n 15 d33_14 rfl ?_
  refine Wl.iload_n 16 d33_15 rfl ?_
  refine Wl.ishl 17 d33_16 ?_
  rw [show (Int32.ofNat cs.length <<< ((0 : Int32) &&& 31)) = Int32.ofNat cs.length by simp]
  refine Wl.aload_n 18 d33_17 rfl rfl ?_
  refine Wl.getfield 21 d33_18 (w35 hw) Vl ?_
  refine Wl.arraylength 22 d33_21 A2 ?_
  refine Wl.arraycopy 25 d33_22 (w165 hw) (w168 hw) (w166 hw) (w167 hw) A2 A rfl (by decide) (nNn (by omega)) (nNn (by omega)) (by rw [nCl (i := ds.length) (by omega)]; exact Nat.le_of_eq (Nat.zero_add _)) (by rw [nCl (by omega), nCl (by omega), nCl (by omega)]; exact hl) (by rw [nCl (by omega), nCl (by omega), List.length_map, pad_len (by omega)]; exact hl) (List.mem_of_getElem? (i := 0) rfl) rfl (nle rfl) (nle rfl) ?_
  intro h2 K D
  rw [nCl (i := ds.length) (by omega), nCl (i := cs.length) (by omega)] at D
  have e0 : (List.range ds.length).map (fun i => (ds.map byV).getD (Int32.toNatClampNeg 0 + i) (.int 0)) = ds.map byV := by
    have q := rng_map ds 0 ds.length (by omega)
    rw [show Int32.toNatClampNeg 0 = 0 by decide, q]; simp
  rw [e0, pad_app hl] at D
  refine Wl.goto 43 d33_25 ?_
  exact Wl.return_ d33_43 rfl (nle rfl) (nle rfl) ⟨rfl, K, D⟩
theorem putAt_met (hw : ∀ d ∈ tables_1, d.before a0 Z = true) (hcs : CSon Z) {h : Heap} {a b x : Addr} {kb : ClassId} {cs ds : List Int32} (hl : cs.length + ds.length ≤ 16) (B : Bld Z h a b kb cs) (S : Stl Z h x ds) :
    Met l Z consts_1 ⟨"java/lang/AbstractStringBuilder", "putStringAt", "(ILjava/lang/String;)V"⟩ jdk_68_method_73_code 3 none [] { frames := 2, cells := 0, slots := 0, locals := 33 } #[.ref a, .int (Int32.ofNat cs.length), .ref x] h [b] (fun v h' => v = none ∧ Keep h h' [b] ∧ Arv Z h' b kb .byte (Int32.ofNat 16) ((pad (cs ++ ds)).map byV) (.int 0)) := by
  refine Met.of_walk (a0 := a0) (Ls := #[.val (.ref a), .val (.int (Int32.ofNat cs.length)), .val (.ref x)]) (plainFor_of_name pn_asb) (own_hEL hw) rfl ?_
  refine Wl.aload_n 1 d31_0 rfl rfl ?_
  refine Wl.aload_n 2 d31_1 rfl rfl ?_
  refine Wl.priv 5 (K := "java/lang/StringBuilder") (argsL := [.ref x]) d31_2 (w154 hw) (w156 hw) (w157 hw) (w155 hw) (w123 hw) (w158 hw) B.1 (show parseMethodDescriptor "(Ljava/lang/String;)V" = some ⟨[.object "java/lang/String"], none⟩ by decide +kernel) rfl (inflate_met hw hcs B S) (fun _ q => nomatch q) rfl rfl rfl (by decide) ⟨⟨nle rfl, nle rfl⟩, nle rfl, nle rfl⟩ ?_
  intro v h1 hq _
  obtain ⟨rfl, rfl⟩ := hq
  show WlO _ _ _ _ _ _ _ _ _ _ _ _ _ _ _ _ _ _ []
  refine Wl.aload_n 6 d31_5 rfl rfl ?_
  refine Wl.aload_n 7 d31_6 rfl rfl ?_
  refine Wl.getfield 10 d31_7 (w127 hw) B.2.1 ?_
  refine Wl.iload_n 11 d31_10 rfl ?_
  refine Wl.aload_n 12 d31_11 rfl rfl ?_
  refine Wl.getfield 15 d31_12 (w129 hw) B.2.2.1 ?_
  refine Wl.virtual 18 (argsL := [.ref b, .int (Int32.ofNat cs.length), .int 0]) d31_15 (w160 hw) (w161 hw) (w163 hw) (w162 hw) (w9 hw) (w164 hw) (nf_sel (w163 hw) rfl) S.exa (show parseMethodDescriptor "([BIB)V" = some ⟨[.array .byte, .int, .byte], none⟩ by decide +kernel) rfl (getB_met hw hcs hl B.2.2.2.2.1 S) (allS (List.mem_of_getElem? (i := 0) rfl) (fun _ q => nomatch q)) rfl rfl rfl (by decide) ⟨⟨nle rfl, nle rfl⟩, nle rfl, nle rfl⟩ ?_
  intro v h2 hq _
  obtain ⟨rfl, r⟩ := hq
  exact Wl.return_ d31_18 rfl (nle rfl) (nle rfl) ⟨rfl, r⟩
theorem asbApp_met (hw : ∀ d ∈ tables_1, d.before a0 Z = true) (hcs : CSon Z) {h : Heap} {a b x : Addr} {kb : ClassId} {cs ds : List Int32} (hl : cs.length + ds.length ≤ 16) (B : Bld Z h a b kb cs) (S : Stl Z h x ds) :
    Met l Z consts_1 ⟨"java/lang/AbstractStringBuilder", "append", "(Ljava/lang/String;)Ljava/lang/AbstractStringBuilder;"⟩ jdk_68_method_22_code 3 (some (.object "java/lang/AbstractStringBuilder")) [] { frames := 3, cells := 0, slots := 0, locals := 47 } #[.ref a, .ref x] h [a, b] (fun v h' => v = some (.ref a) ∧ Keep h h' [a, b] ∧ Bld Z h' a b kb (cs ++ ds)) := by
  have L1 : Laid Z a0 "java/lang/StringBuilder" "java/lang/AbstractStringBuilder" "value" "[B" := Or.inl (w128 hw)
  have L2 : Laid Z a0 "java/lang/StringBuilder" "java/lang/AbstractStringBuilder" "coder" "B" := Or.inl (w130 hw)
  have L3 : Laid Z a0 "java/lang/StringBuilder" "java/lang/AbstractStringBuilder" "count" "I" := Or.inl (w143 hw)
  have s13 : Jvm.RoadKit.slotOf Z "java/lang/AbstractStringBuilder" "value" "[B" ≠ Jvm.RoadKit.slotOf Z "java/lang/AbstractStringBuilder" "count" "I" := slot_ne L1 L3 (by decide) (t := .array .byte) (t' := .int) (by decide) (by decide)
  have s23 : Jvm.RoadKit.slotOf Z "java/lang/AbstractStringBuilder" "coder" "B" ≠ Jvm.RoadKit.slotOf Z "java/lang/AbstractStringBuilder" "count" "I" := slot_ne L2 L3 (by decide) (t := .byte) (t' := .int) (by decide) (by decide)
  have hab := B.2.2.2.2.2.2.2
  have hds : ∀ c ∈ ds, Lat c := by obtain ⟨_, _, _, _, _, _, q, _⟩ := S; exact q
  refine Met.of_walk (a0 := a0) (Ls := #[.val (.ref a), .val (.ref x), .unset]) (plainFor_of_name pn_asb) (own_hEL hw) rfl ?_
  refine Wl.aload_n 1 d29_0 rfl rfl ?_
  refine Wl.ifnonnullY 9 d29_1 ?_
  refine Wl.aload_n 10 d29_9 rfl rfl ?_
  refine Wl.virtual 13 (argsL := []) d29_10 (w141 hw) (w81 hw) (w83 hw) (w82 hw) (w9 hw) (w84 hw) (nf_sel (w83 hw) rfl) S.exa (show parseMethodDescriptor "()I" = some ⟨[], some .int⟩ by decide +kernel) rfl (len_met hw hcs S) (fun _ q => nomatch q) rfl rfl rfl (by decide) ⟨⟨nle rfl, nle rfl⟩, nle rfl, nle rfl⟩ ?_
  intro v h1 hq _
  obtain ⟨rfl, rfl⟩ := hq
  show WlO _ _ _ _ _ _ _ _ _ _ _ _ _ _ _ _ _ _ [.int (Int32.ofNat ds.length)]
  refine Wl.istore_n 14 #[.val (.ref a), .val (.ref x), .val (.int (Int32.ofNat ds.length))] d29_13 rfl ?_
  refine Wl.aload_n 15 d29_14 rfl rfl ?_
  refine Wl.aload_n 16 d29_15 rfl rfl ?_
  refine Wl.getfield 19 d29_16 (w142 hw) B.2.2.2.1 ?_
  refine Wl.iload_n 20 d29_19 rfl ?_
  refine Wl.iadd 21 d29_20 ?_
  rw [nAdd]
  refine Wl.priv 24 (K := "java/lang/StringBuilder") (argsL := [.int (Int32.ofNat (cs.length + ds.length))]) d29_21 (w144 hw) (w146 hw) (w147 hw) (w145 hw) (w123 hw) (w148 hw) B.1 (show parseMethodDescriptor "(I)V" = some ⟨[.int], none⟩ by decide +kernel) rfl (ensure_met hw hl B) (fun _ q => nomatch q) rfl rfl rfl (by decide) ⟨⟨nle rfl, nle rfl⟩, nle rfl, nle rfl⟩ ?_
  intro v h1 hq _
  obtain ⟨rfl, rfl⟩ := hq
  show WlO _ _ _ _ _ _ _ _ _ _ _ _ _ _ _ _ _ _ []
  refine Wl.aload_n 25 d29_24 rfl rfl ?_
  refine Wl.aload_n 26 d29_25 rfl rfl ?_
  refine Wl.getfield 29 d29_26 (w142 hw) B.2.2.2.1 ?_
  refine Wl.aload_n 30 d29_29 rfl rfl ?_
  refine Wl.priv 33 (K := "java/lang/StringBuilder") (argsL := [.int (Int32.ofNat cs.length), .ref x]) d29_30 (w149 hw) (w151 hw) (w152 hw) (w150 hw) (w123 hw) (w153 hw) B.1 (show parseMethodDescriptor "(ILjava/lang/String;)V" = some ⟨[.int, .object "java/lang/String"], none⟩ by decide +kernel) rfl (putAt_met hw hcs hl B S) (allS (List.mem_of_getElem? (i := 1) rfl) (fun _ q => nomatch q)) rfl rfl rfl (by decide) ⟨⟨nle rfl, nle rfl⟩, nle rfl, nle rfl⟩ ?_
  intro v h2 hq _
  obtain ⟨rfl, K, D⟩ := hq
  show WlO _ _ _ _ _ _ _ _ _ _ _ _ _ _ _ _ _ _ []
  have nb : a ∉ [b] := ninS hab nin0
  refine Wl.aload_n 34 d29_33 rfl rfl ?_
  refine Wl.dup 35 d29_34 rfl ?_
  refine Wl.getfield 38 d29_35 (w142 hw) (B.2.2.2.1.keep K nb) ?_
  refine Wl.iload_n 39 d29_38 rfl ?_
  refine Wl.iadd 40 d29_39 ?_
  rw [nAdd]
  refine Wl.putfield 43 d29_40 (w142 hw) (B.2.2.2.1.keep K nb) (B.1.keep K) (Or.inl (w143 hw)) (w114 hw) (ty := .int) (by decide) rfl rfl (List.mem_of_getElem? (i := 0) rfl) ?_
  intro h3 W3
  refine Wl.aload_n 44 d29_43 rfl rfl ?_
  refine Wl.areturn d29_44 rfl rfl rfl (nle rfl) (nle rfl) ⟨rfl, ?_, (B.1.keep K).wr W3, (B.2.1.keep K nb).other W3 (Or.inr s13), (B.2.2.1.keep K nb).other W3 (Or.inr s23), ?_, D.other W3 hab.symm, ?_, ?_, hab⟩
  · exact ((Keep.refl h [a, b]).trans K (fun x hx => Or.inl (by cases List.mem_singleton.mp hx; exact List.mem_of_getElem? (i := 1) rfl))).wr W3 (Or.inl (List.mem_of_getElem? (i := 0) rfl))
  · rw [List.length_append]; exact (B.2.2.2.1.keep K nb).same W3
  · intro c hc
    exact (List.mem_append.mp hc).elim (B.2.2.2.2.2.1 c) (hds c)
  · rw [List.length_append]; exact hl
theorem sbApp_met (hw : ∀ d ∈ tables_1, d.before a0 Z = true) (hcs : CSon Z) {h : Heap} {a b x : Addr} {kb : ClassId} {cs ds : List Int32} (hl : cs.length + ds.length ≤ 16) (B : Bld Z h a b kb cs) (S : Stl Z h x ds) :
    Met l Z consts_1 ⟨"java/lang/StringBuilder", "append", "(Ljava/lang/String;)Ljava/lang/StringBuilder;"⟩ jdk_67_method_7_code 2 (some (.object "java/lang/StringBuilder")) [] { frames := 4, cells := 0, slots := 0, locals := 61 } #[.ref a, .ref x] h [a, b] (fun v h' => v = some (.ref a) ∧ Keep h h' [a, b] ∧ Bld Z h' a b kb (cs ++ ds)) := by
  refine Met.of_walk (a0 := a0) (Ls := #[.val (.ref a), .val (.ref x)]) (plainFor_of_name pn_sb) (own_hEL hw) rfl ?_
  refine Wl.aload_n 1 d28_0 rfl rfl ?_
  refine Wl.aload_n 2 d28_1 rfl rfl ?_
  refine Wl.up 5 (argsL := [.ref x]) d28_2 (w136 hw) (sm_of (w139 hw) (w152 hw) rfl (by decide)) (w137 hw) (w138 hw) (w123 hw) (w140 hw) B.1 (show parseMethodDescriptor "(Ljava/lang/String;)Ljava/lang/AbstractStringBuilder;" = some ⟨[.object "java/lang/String"], some (.object "java/lang/AbstractStringBuilder")⟩ by decide +kernel) rfl (asbApp_met hw hcs hl B S) (fun x q => q) rfl rfl rfl (by decide) ⟨⟨nle rfl, nle rfl⟩, nle rfl, nle rfl⟩ ?_
  intro v h1 hq _
  obtain ⟨rfl, r⟩ := hq
  show WlO _ _ _ _ _ _ _ _ _ _ _ _ _ _ _ _ _ _ [.ref a]
  refine Wl.pop 6 d28_5 rfl ?_
  refine Wl.aload_n 7 d28_6 rfl rfl ?_
  exact Wl.areturn d28_7 rfl rfl rfl (nle rfl) (nle rfl) ⟨rfl, r⟩
theorem getV_met (hw : ∀ d ∈ tables_1, d.before a0 Z = true) {h : Heap} {a b : Addr} {kb : ClassId} {cs : List Int32} (B : Bld Z h a b kb cs) :
    Met l Z consts_1 ⟨"java/lang/AbstractStringBuilder", "getValue", "()[B"⟩ jdk_68_method_64_code 1 (some (.array .byte)) [] rm0 #[.ref a] h [] (fun v h' => v = some (.ref b) ∧ h = h') := by
  refine Met.of_walk (a0 := a0) (Ls := #[.val (.ref a)]) (plainFor_of_name pn_asb) (own_hEL hw) rfl ?_
  refine Wl.aload_n 1 d43_0 rfl rfl ?_
  refine Wl.getfield 4 d43_1 (w127 hw) B.2.1 ?_
  exact Wl.areturn d43_4 rfl rfl rfl (nle rfl) (nle rfl) ⟨rfl, rfl⟩
theorem asbLen_met (hw : ∀ d ∈ tables_1, d.before a0 Z = true) {h : Heap} {a b : Addr} {kb : ClassId} {cs : List Int32} (B : Bld Z h a b kb cs) :
    Met l Z consts_1 ⟨"java/lang/AbstractStringBuilder", "length", "()I"⟩ jdk_68_method_6_code 1 (some .int) [] rm0 #[.ref a] h [] (fun v h' => v = some (.int (Int32.ofNat cs.length)) ∧ h = h') := by
  refine Met.of_walk (a0 := a0) (Ls := #[.val (.ref a)]) (plainFor_of_name pn_asb) (own_hEL hw) rfl ?_
  refine Wl.aload_n 1 d45_0 rfl rfl ?_
  refine Wl.getfield 4 d45_1 (w142 hw) B.2.2.2.1 ?_
  exact Wl.ireturn (t := .int) d45_4 rfl rfl (by simp) (nle rfl) (nle rfl) ⟨rfl, rfl⟩
theorem sbLen_met (hw : ∀ d ∈ tables_1, d.before a0 Z = true) {h : Heap} {a b : Addr} {kb : ClassId} {cs : List Int32} (B : Bld Z h a b kb cs) :
    Met l Z consts_1 ⟨"java/lang/StringBuilder", "length", "()I"⟩ jdk_67_method_93_code 1 (some .int) [] { frames := 1, cells := 0, slots := 0, locals := 12 } #[.ref a] h [] (fun v h' => v = some (.int (Int32.ofNat cs.length)) ∧ h = h') := by
  refine Met.of_walk (a0 := a0) (Ls := #[.val (.ref a)]) (plainFor_of_name pn_sb) (own_hEL hw) rfl ?_
  refine Wl.aload_n 1 d44_0 rfl rfl ?_
  refine Wl.up 4 (argsL := []) d44_1 (w220 hw) (sm_of (w215 hw) (w152 hw) rfl (by decide)) (w216 hw) (w138 hw) (w123 hw) (w221 hw) B.1 (show parseMethodDescriptor "()I" = some ⟨[], some .int⟩ by decide +kernel) rfl (asbLen_met hw B) (fun _ q => nomatch q) rfl rfl rfl (by decide) ⟨⟨nle rfl, nle rfl⟩, nle rfl, nle rfl⟩ ?_
  intro v h1 hq _
  obtain ⟨rfl, rfl⟩ := hq
  show WlO _ _ _ _ _ _ _ _ _ _ _ _ _ _ _ _ _ _ [.int (Int32.ofNat cs.length)]
  exact Wl.ireturn (t := .int) d44_4 rfl rfl (by simp) (nle rfl) (nle rfl) ⟨rfl, rfl⟩
theorem asbLat_met (hw : ∀ d ∈ tables_1, d.before a0 Z = true) (hcs : CSon Z) {h : Heap} {a b : Addr} {kb : ClassId} {cs : List Int32} (B : Bld Z h a b kb cs) :
    Met l Z consts_1 ⟨"java/lang/AbstractStringBuilder", "isLatin1", "()Z"⟩ jdk_68_method_68_code 1 (some .boolean) [] rm0 #[.ref a] h [] (fun v h' => v = some (.int 1) ∧ h = h') := by
  obtain ⟨cst, hS, hcn⟩ := hcs
  refine Met.of_walk (a0 := a0) (Ls := #[.val (.ref a)]) (plainFor_of_name pn_asb) (own_hEL hw) rfl ?_
  refine Wl.getstatic 3 d46_0 (w126 hw) hS ?_
  refine Wl.ifN 6 d46_3 (feq hcn).1 ?_
  refine Wl.aload_n 7 d46_6 rfl rfl ?_
  refine Wl.getfield 10 d46_7 (w129 hw) B.2.2.1 ?_
  refine Wl.ifN 13 d46_10 (teq rfl).2 ?_
  refine Wl.iconst 14 (1 : Int32) d46_13 (by decide) ?_
  refine Wl.goto 18 d46_14 ?_
  exact Wl.ireturn (t := .boolean) d46_18 rfl rfl (by simp) (nle rfl) (nle rfl) ⟨rfl, rfl⟩
theorem strA_met (hw : ∀ d ∈ tables_1, d.before a0 Z = true) (hcs : CSon Z) {h : Heap} {s a b : Addr} {kb : ClassId} {cs : List Int32} (hl : cs.length < 16) (B : Bld Z h a b kb cs) (E : Exa Z h s "java/lang/String") (FV : Fld Z h s "java/lang/String" "value" "[B" .null) (FC : Fld Z h s "java/lang/String" "coder" "B" (.int 0)) (hsb : s ≠ b) :
    Met l Z consts_1 ⟨"java/lang/String", "<init>", "(Ljava/lang/AbstractStringBuilder;Ljava/lang/Void;)V"⟩ jdk_42_method_150_code 5 none [] { frames := 3, cells := 1, slots := 16, locals := 49 } #[.ref s, .ref a, .null] h [s] (fun v h' => v = none ∧ Keep h h' [s] ∧ Stl Z h' s cs) := by
  have L1 : Laid Z a0 "java/lang/String" "java/lang/String" "value" "[B" := Or.inr (w36 hw)
  have L2 : Laid Z a0 "java/lang/String" "java/lang/String" "coder" "B" := Or.inr (w34 hw)
  have hsl : Jvm.RoadKit.slotOf Z "java/lang/String" "value" "[B" ≠ Jvm.RoadKit.slotOf Z "java/lang/String" "coder" "B" := slot_ne L1 L2 (by decide) (t := .array .byte) (t' := .byte) (by decide) (by decide)
  refine Met.of_walk (a0 := a0) (Ls := #[.val (.ref s), .val (.ref a), .val .null, .unset, .unset]) (plainFor_of_name pn_str) (own_hEL hw) rfl ?_
  refine Wl.aload_n 1 d42_0 rfl rfl ?_
  refine Wl.initO 4 d42_1 (w18 hw) (w19 hw) (w20 hw) rfl (nle rfl) (nle rfl) ?_
  refine Wl.aload_n 5 d42_4 rfl rfl ?_
  refine Wl.virtual 8 (K := "java/lang/StringBuilder") (argsL := []) d42_5 (w209 hw) (w210 hw) (w212 hw) (w211 hw) (w123 hw) (w213 hw) (nf_sel (w212 hw) rfl) B.1 (show parseMethodDescriptor "()[B" = some ⟨[], some (.array .byte)⟩ by decide +kernel) rfl (getV_met hw B) (fun _ q => nomatch q) rfl rfl rfl (by decide) ⟨⟨nle rfl, nle rfl⟩, nle rfl, nle rfl⟩ ?_
  intro v h1 hq _
  obtain ⟨rfl, rfl⟩ := hq
  show WlO _ _ _ _ _ _ _ _ _ _ _ _ _ _ _ _ _ _ [.ref b]
  refine Wl.astore_n 9 #[.val (.ref s), .val (.ref a), .val .null, .val (.ref b), .unset] d42_8 rfl rfl ?_
  refine Wl.aload_n 10 d42_9 rfl rfl ?_
  refine Wl.virtual 13 (K := "java/lang/StringBuilder") (argsL := []) d42_10 (w214 hw) (w215 hw) (w217 hw) (w218 hw) (w115 hw) (w219 hw) (nf_cls (w215 hw) (w212 hw) rfl) B.1 (show parseMethodDescriptor "()I" = some ⟨[], some .int⟩ by decide +kernel) rfl (sbLen_met hw B) (fun _ q => nomatch q) rfl rfl rfl (by decide) ⟨⟨nle rfl, nle rfl⟩, nle rfl, nle rfl⟩ ?_
  intro v h1 hq _
  obtain ⟨rfl, rfl⟩ := hq
  show WlO _ _ _ _ _ _ _ _ _ _ _ _ _ _ _ _ _ _ [.int (Int32.ofNat cs.length)]
  refine Wl.istore 15 #[.val (.ref s), .val (.ref a), .val .null, .val (.ref b), .val (.int (Int32.ofNat cs.length))] d42_13 rfl ?_
  refine Wl.aload_n 16 d42_15 rfl rfl ?_
  refine Wl.virtual 19 (K := "java/lang/StringBuilder") (argsL := []) d42_16 (w222 hw) (w223 hw) (w225 hw) (w224 hw) (w123 hw) (w226 hw) (nf_sel (w225 hw) rfl) B.1 (show parseMethodDescriptor "()Z" = some ⟨[], some .boolean⟩ by decide +kernel) rfl (asbLat_met hw hcs B) (fun _ q => nomatch q) rfl rfl rfl (by decide) ⟨⟨nle rfl, nle rfl⟩, nle rfl, nle rfl⟩ ?_
  intro v h1 hq _
  obtain ⟨rfl, rfl⟩ := hq
  show WlO _ _ _ _ _ _ _ _ _ _ _ _ _ _ _ _ _ _ [.int 1]
  refine Wl.ifN 22 d42_19 (by decide) ?_
  refine Wl.aload_n 23 d42_22 rfl rfl ?_
  refine Wl.iconst 24 (0 : Int32) d42_23 (by decide) ?_
  refine Wl.putfield 27 d42_24 (w33 hw) FC E (Or.inr ⟨(w34 hw), rfl, rfl⟩) (w8 hw) (ty := .byte) (by decide) rfl rfl (List.mem_of_getElem? (i := 0) rfl) ?_
  intro h2 W2
  refine Wl.aload_n 28 d42_27 rfl rfl ?_
  refine Wl.aload_n 29 d42_28 rfl rfl ?_
  refine Wl.iconst 30 (0 : Int32) d42_29 (by decide) ?_
  refine Wl.iload 32 d42_30 rfl ?_
  have A2 : Arv Z h2 b kb .byte (Int32.ofNat (pad cs).length) ((pad cs).map byV) (.int 0) := by rw [pad_len (by omega)]; exact B.2.2.2.2.1.other W2 hsb.symm
  have hpl := pad_len (cs := cs) (by omega)
  have hcp : Met l Z consts_1 ⟨"java/util/Arrays", "copyOfRange", "([BII)[B"⟩ jdk_65_method_132_code 3 (some (.array .byte)) [] { frames := 2, cells := 1, slots := 16, locals := 34 } #[.ref b, .int 0, .int (Int32.ofNat cs.length)] h2 [] (fun v h' => ∃ (d : Addr) (kd : ClassId), v = some (.ref d) ∧ h2.size ≤ d ∧ Ext h2 h' ∧ Arv Z h' d kd .byte (Int32.ofNat cs.length) ((((pad cs).drop 0).take cs.length).map byV) (.int 0)) := by
    have q := copyR_met (l := l) hw (cs := pad cs) (i := 0) (n := cs.length) (N := 16) (by omega) (by omega) (by omega) (by omega) (by decide) A2
    rw [Nat.zero_add] at q
    exact q
  refine Wl.static 35 (argsL := [.ref b, .int 0, .int (Int32.ofNat cs.length)]) d42_32 (w227 hw) (w228 hw) (w229 hw) (w230 hw) (show parseMethodDescriptor "([BII)[B" = some ⟨[.array .byte, .int, .int], some (.array .byte)⟩ by decide +kernel) rfl hcp (fun _ q => nomatch q) rfl rfl rfl (by decide) ⟨⟨nle rfl, nle rfl⟩, nle rfl, nle rfl⟩ ?_
  intro v h3 hq _
  obtain ⟨d, kd, rfl, hd, E3, D⟩ := hq
  rw [List.drop_zero, pad_take] at D
  show WlO _ _ _ _ _ _ _ _ _ _ _ _ _ _ _ _ _ _ [.ref d, .ref s]
  have hne : d ≠ s := Nat.ne_of_gt (Nat.lt_of_lt_of_le (E.wr W2).lt hd)
  refine Wl.putfield 38 d42_35 (w35 hw) ((FV.other W2 (Or.inr hsl)).ext E3) ((E.wr W2).ext E3) (Or.inr ⟨(w36 hw), rfl, rfl⟩) (w8 hw) (ty := .array .byte) (by decide) rfl rfl (List.mem_of_getElem? (i := 0) rfl) ?_
  intro h4 W4
  refine Wl.goto 97 d42_38 ?_
  exact Wl.return_ d42_97 rfl (nle rfl) (nle rfl) ⟨rfl, (((Keep.refl h [s]).wr W2 (Or.inl (List.mem_of_getElem? (i := 0) rfl))).ext E3).wr W4 (Or.inl (List.mem_of_getElem? (i := 0) rfl)),
    d, kd, ((E.wr W2).ext E3).wr W4, ((FC.same W2).ext E3).other W4 (Or.inr hsl.symm), ((FV.other W2 (Or.inr hsl)).ext E3).same W4, D.other W4 hne, B.2.2.2.2.2.1, by omega⟩
theorem strSB_met (hw : ∀ d ∈ tables_1, d.before a0 Z = true) (hcs : CSon Z) {h : Heap} {s a b : Addr} {kb : ClassId} {cs : List Int32} (hl : cs.length < 16) (B : Bld Z h a b kb cs) (E : Exa Z h s "java/lang/String") (FV : Fld Z h s "java/lang/String" "value" "[B" .null) (FC : Fld Z h s "java/lang/String" "coder" "B" (.int 0)) (hsb : s ≠ b) :
    Met l Z consts_1 ⟨"java/lang/String", "<init>", "(Ljava/lang/StringBuilder;)V"⟩ jdk_42_method_53_code 2 none [] { frames := 4, cells := 1, slots := 16, locals := 65 } #[.ref s, .ref a] h [s] (fun v h' => v = none ∧ Keep h h' [s] ∧ Stl Z h' s cs) := by
  refine Met.of_walk (a0 := a0) (Ls := #[.val (.ref s), .val (.ref a)]) (plainFor_of_name pn_str) (own_hEL hw) rfl ?_
  refine Wl.aload_n 1 d41_0 rfl rfl ?_
  refine Wl.aload_n 2 d41_1 rfl rfl ?_
  refine Wl.aconst_null 3 d41_2 ?_
  refine Wl.special 6 (argsL := [.ref a, .null]) d41_3 (w206 hw) (w207 hw) (w9 hw) (w208 hw) (show parseMethodDescriptor "(Ljava/lang/AbstractStringBuilder;Ljava/lang/Void;)V" = some ⟨[.object "java/lang/AbstractStringBuilder", .object "java/lang/Void"], none⟩ by decide +kernel) rfl (strA_met hw hcs hl B E FV FC hsb) (allS (List.mem_of_getElem? (i := 0) rfl) (fun _ q => nomatch q)) rfl rfl rfl rfl (by decide) ⟨⟨nle rfl, nle rfl⟩, nle rfl, nle rfl⟩ ?_
  intro v h1 hq _
  obtain ⟨rfl, r⟩ := hq
  exact Wl.return_ d41_6 rfl (nle rfl) (nle rfl) ⟨rfl, r⟩
theorem toS_met (hw : ∀ d ∈ tables_1, d.before a0 Z = true) (hcs : CSon Z) {h : Heap} {a b : Addr} {kb : ClassId} {cs : List Int32} (hl : cs.length < 16) (B : Bld Z h a b kb cs) :
    Met l Z consts_1 ⟨"java/lang/StringBuilder", "toString", "()Ljava/lang/String;"⟩ jdk_67_method_42_code 1 (some (.object "java/lang/String")) [] { frames := 5, cells := 2, slots := 20, locals := 79 } #[.ref a] h [] (fun v h' => ∃ s, v = some (.ref s) ∧ Ext h h' ∧ Stl Z h' s cs) := by
  refine Met.of_walk (a0 := a0) (Ls := #[.val (.ref a)]) (plainFor_of_name pn_sb) (own_hEL hw) rfl ?_
  refine Wl.new 3 d40_0 (w202 hw) (w8 hw) (w9 hw) (nle rfl) (nle rfl) ?_
  intro s h1 q E1 X D
  have F1 : Fld Z h1 s "java/lang/String" "value" "[B" .null := D (Or.inr (w36 hw)) (ty := .array .byte) (by decide)
  have F2 : Fld Z h1 s "java/lang/String" "coder" "B" (.int 0) := D (Or.inr (w34 hw)) (ty := .byte) (by decide)
  have hsb : s ≠ b := fun e => by have := B.2.2.2.2.1.lt; rw [← e, q] at this; exact absurd this (Nat.lt_irrefl _)
  refine Wl.dup 4 d40_3 rfl ?_
  refine Wl.aload_n 5 d40_4 rfl rfl ?_
  refine Wl.special 8 (argsL := [.ref a]) d40_5 (w203 hw) (w204 hw) (w9 hw) (w205 hw) (show parseMethodDescriptor "(Ljava/lang/StringBuilder;)V" = some ⟨[.object "java/lang/StringBuilder"], none⟩ by decide +kernel) rfl (strSB_met hw hcs hl (B.ext E1) X F1 F2 hsb) (allS (List.mem_of_getElem? (i := 0) rfl) (fun _ q => nomatch q)) rfl rfl rfl rfl (by decide) ⟨⟨nle rfl, nle rfl⟩, nle rfl, nle rfl⟩ ?_
  intro v h2 hq _
  obtain ⟨rfl, K, S⟩ := hq
  show WlO _ _ _ _ _ _ _ _ _ _ _ _ _ _ _ _ _ _ [.ref s]
  exact Wl.areturn d40_8 rfl rfl rfl (nle rfl) (nle rfl) ⟨s, rfl, extKeep E1 K (allS (Nat.le_of_eq q.symm) all0), S⟩
end OpSB

theorem idxF_none (c : Int32) : ∀ (xs : List Int32) (k : Nat), (∀ x ∈ xs, x ≠ c) → idxF c k xs = -1
  | [], _, _ => rfl
  | x :: xs, k, h => by
    have h1 : ¬ x = c := h x (List.mem_cons_self ..)
    rw [idxF, if_neg h1]
    exact idxF_none c xs (k + 1) (fun z q => h z (List.mem_cons_of_mem _ q))
theorem neN {c : Int32} : ∀ x ∈ ([] : List Int32), x ≠ c := fun _ q => nomatch q
theorem neC {c x : Int32} {xs : List Int32} (p : x ≠ c) (r : ∀ z ∈ xs, z ≠ c) : ∀ z ∈ x :: xs, z ≠ c := fun z q => (List.mem_cons.mp q).elim (fun e => e ▸ p) (r z)
theorem empL_met {l : Launch} {Z : State} {a0 : Array Value} (hw : ∀ d ∈ tables_1, d.before a0 Z = true) {h : Heap} {a : Addr} {cs : List Int32} (S : Stl Z h a cs) (hne : cs ≠ []) :
    Met l Z consts_1 ⟨"java/lang/String", "isEmpty", "()Z"⟩ jdk_42_method_55_code 1 (some .boolean) [] rm0 #[.ref a] h [] (fun v h' => v = some (.int 0) ∧ h = h') := by
  have hp : 0 < cs.length := List.length_pos_iff.mpr hne
  obtain ⟨b, kb, X, C, Vl, A, hl, hn⟩ := S
  refine Met.of_walk (a0 := a0) (Ls := #[.val (.ref a)]) (plainFor_of_name pn_str) (own_hEL hw) rfl ?_
  refine Wl.aload_n 1 d35_0 rfl rfl ?_
  refine Wl.getfield 4 d35_1 (w35 hw) Vl ?_
  refine Wl.arraylength 5 d35_4 A ?_
  refine Wl.ifY 12 d35_5 (feq (fun q => by have := congrArg Int32.toInt q; rw [nI (by omega), show (0 : Int32).toInt = 0 by decide] at this; omega)).2 ?_
  refine Wl.iconst 13 (0 : Int32) d35_12 (by decide) ?_
  exact Wl.ireturn (t := .boolean) d35_13 rfl rfl (by simp) (nle rfl) (nle rfl) ⟨rfl, rfl⟩
set_option maxRecDepth 65536 in
set_option maxHeartbeats 40000000 in
theorem reqnn_met {l : Launch} {Z : State} {a0 : Array Value} (hw : ∀ d ∈ tables_1, d.before a0 Z = true) {h : Heap} {a : Addr} {v1 : Value} (r1 : v1.isRef = true) :
    Met l Z consts_1 ⟨"java/util/Objects", "requireNonNull", "(Ljava/lang/Object;Ljava/lang/String;)Ljava/lang/Object;"⟩ jdk_31_method_11_code 2 (some (.object "java/lang/Object")) [] { frames := 0, cells := 0, slots := 0, locals := 0 } #[.ref a, v1] h [] (fun v h' => v = some (.ref a) ∧ h = h') := by
  refine Met.of_walk (a0 := a0) (Ls := #[.val (.ref a), .val (v1)]) (plainFor_of_name pn_2) (own_hEL hw) (by rcases ref_cases r1 with rfl | ⟨_, rfl⟩ <;> rfl) ?_
  refine Wl.aload_n 1 d14_0 rfl rfl ?_
  refine Wl.ifnonnullY 13 d14_1 ?_
  refine Wl.aload_n 14 d14_13 rfl rfl ?_
  exact Wl.areturn d14_14 rfl rfl rfl (nle rfl) (nle rfl) ⟨rfl, rfl⟩
set_option maxRecDepth 65536 in
set_option maxHeartbeats 40000000 in
theorem keys_met {l : Launch} {Z : State} {a0 : Array Value} (hw : ∀ d ∈ tables_1, d.before a0 Z = true) (hcs : CSon Z) {h : Heap} {a : Addr} {x0 : Addr} {cs : List Int32} (E : Exa Z h a "com/example/portunus/portunus/LockKeys") (F_prefix : Fld Z h a "com/example/portunus/portunus/LockKeys" "prefix" "Ljava/lang/String;" (.null)) (S : Stl Z h x0 cs) (n123 : ∀ x ∈ cs, x ≠ 123) (n125 : ∀ x ∈ cs, x ≠ 125) :
    Met l Z consts_1 ⟨"com/example/portunus/portunus/LockKeys", "<init>", "(Ljava/lang/String;)V"⟩ prog_6_method_1_code 2 none [] { frames := 4, cells := 2, slots := 28, locals := 59 } #[.ref a, .ref x0] h [a] (fun v h' => v = none ∧ Keep h h' [a] ∧ Exa Z h' a "com/example/portunus/portunus/LockKeys" ∧ Fld Z h' a "com/example/portunus/portunus/LockKeys" "prefix" "Ljava/lang/String;" (.ref x0)) := by
  refine Met.of_walk (a0 := a0) (Ls := #[.val (.ref a), .val (.ref x0)]) (plainFor_of_name pn_3) (own_hEL hw) rfl ?_
  refine Wl.aload_n 1 d13_0 rfl rfl ?_
  refine Wl.initO 4 d13_1 (w57 hw) (w19 hw) (w20 hw) rfl (nle rfl) (nle rfl) ?_
  refine Wl.aload_n 5 d13_4 rfl rfl ?_
  refine Wl.ldcS 7 24 (text := "prefix") (vs := [byV (112 : Int32), byV (114 : Int32), byV (101 : Int32), byV (102 : Int32), byV (105 : Int32), byV (120 : Int32)]) (z := (6 : Int32)) d13_5 (w58 hw) (own_wS hw) (by decide) ⟨by decide, by decide⟩ (by decide) (by decide) (by decide) (by decide) (nle rfl) (nle rfl) ?_
  intro a1 h2 b3 k4 E5 X6 C7 V8 A9 ne10
  have S11 : Stl Z h2 a1 [(112 : Int32), (114 : Int32), (101 : Int32), (102 : Int32), (105 : Int32), (120 : Int32)] := ⟨b3, k4, X6, C7, V8, A9, (latC (by decide) (latC (by decide) (latC (by decide) (latC (by decide) (latC (by decide) (latC (by decide) latN)))))), by decide⟩
  have K12 : Keep h h2 [a] := ((Keep.refl h [a])).ext E5
  refine Wl.static 10 (argsL := [.ref x0, .ref a1]) d13_7 (w61 hw) (w62 hw) (w63 hw) (w64 hw) (show parseMethodDescriptor "(Ljava/lang/Object;Ljava/lang/String;)Ljava/lang/Object;" = some ⟨[(.object "java/lang/Object"), (.object "java/lang/String")], some (.object "java/lang/Object")⟩ by decide +kernel) rfl (reqnn_met hw rfl) (fun _ q => nomatch q) rfl rfl rfl (by decide) ⟨⟨nle rfl, nle rfl⟩, nle rfl, nle rfl⟩ ?_
  intro v13 h14 hq15 _
  obtain ⟨rfl, rfl⟩ := hq15
  show WlO _ _ _ _ _ _ _ _ _ _ _ _ _ _ _ _ _ _ [.ref x0]
  refine Wl.pop 11 d13_10 rfl ?_
  refine Wl.aload_n 12 d13_11 rfl rfl ?_
  refine Wl.bipush 14 (123 : Int32) d13_12 (by decide) ?_
  refine Wl.virtual 17 (argsL := [.int (123 : Int32)]) d13_14 (w65 hw) (w66 hw) (w68 hw) (w67 hw) (w9 hw) (w69 hw) (nf_sel (w68 hw) rfl) ((S).exa.ext E5) (show parseMethodDescriptor "(I)I" = some ⟨[.int], some .int⟩ by decide +kernel) rfl (idx1_met hw hcs (by decide) (S.ext E5)) (fun _ q => nomatch q) rfl rfl rfl (by decide) ⟨⟨nle rfl, nle rfl⟩, nle rfl, nle rfl⟩ ?_
  intro v16 h17 hq18 _
  rw [idxF_none _ _ _ n123] at hq18
  obtain ⟨rfl, rfl⟩ := hq18
  show WlO _ _ _ _ _ _ _ _ _ _ _ _ _ _ _ _ _ _ [.int (-1 : Int32)]
  refine Wl.ifN 20 d13_17 (tlt (by decide)).2.1 ?_
  refine Wl.aload_n 21 d13_20 rfl rfl ?_
  refine Wl.bipush 23 (125 : Int32) d13_21 (by decide) ?_
  refine Wl.virtual 26 (argsL := [.int (125 : Int32)]) d13_23 (w65 hw) (w66 hw) (w68 hw) (w67 hw) (w9 hw) (w69 hw) (nf_sel (w68 hw) rfl) ((S).exa.ext E5) (show parseMethodDescriptor "(I)I" = some ⟨[.int], some .int⟩ by decide +kernel) rfl (idx1_met hw hcs (by decide) (S.ext E5)) (fun _ q => nomatch q) rfl rfl rfl (by decide) ⟨⟨nle rfl, nle rfl⟩, nle rfl, nle rfl⟩ ?_
  intro v19 h20 hq21 _
  rw [idxF_none _ _ _ n125] at hq21
  obtain ⟨rfl, rfl⟩ := hq21
  show WlO _ _ _ _ _ _ _ _ _ _ _ _ _ _ _ _ _ _ [.int (-1 : Int32)]
  refine Wl.ifY 56 d13_26 (tlt (by decide)).1 ?_
  refine Wl.aload_n 57 d13_56 rfl rfl ?_
  refine Wl.aload_n 58 d13_57 rfl rfl ?_
  refine Wl.putfield 61 d13_58 (w106 hw) (F_prefix.ext E5) (E.ext E5) (Or.inr ⟨(w107 hw), rfl, rfl⟩) (w52 hw) (ty := (.object "java/lang/String")) (by decide) rfl rfl (List.mem_of_getElem? (i := 0) rfl) ?_
  intro h22 W23
  have F24 : Fld Z h22 a "com/example/portunus/portunus/LockKeys" "prefix" "Ljava/lang/String;" (.ref x0) := ((F_prefix.ext E5)).same W23
  have K25 : Keep h h22 [a] := (K12).wr W23 (Or.inl (List.mem_of_getElem? (i := 0) rfl))
  exact Wl.return_ d13_61 rfl (nle rfl) (nle rfl) ⟨rfl, K25, ((E.ext E5).wr W23), F24⟩
section OpVal
variable {l : Launch} {Z : State} {a0 : Array Value}
theorem canEncC_met (hw : ∀ d ∈ tables_1, d.before a0 Z = true) {h : Heap} {c : Int32} :
    Met l Z consts_1 ⟨"java/lang/StringLatin1", "canEncode", "(C)Z"⟩ jdk_43_method_3_code 1 (some .boolean) [] rm0 #[.int c] h [] (fun v h' => v = some (.int (if (255 : Int32) < c then 0 else 1)) ∧ h = h') := by
  refine Met.of_walk (a0 := a0) (Ls := #[.val (.int c)]) (plainFor_of_name pn_lat) (own_hEL hw) rfl ?_
  refine Wl.iload_n 1 d10_0 rfl ?_
  refine Wl.sipush 4 (255 : Int32) d10_1 (by decide) ?_
  by_cases hg : (255 : Int32) < c
  · refine Wl.icmpY 11 d10_4 (tlt hg).2.2.1 ?_
    refine Wl.iconst 12 (0 : Int32) d10_11 (by decide) ?_
    exact Wl.ireturn (t := .boolean) d10_12 rfl rfl (by simp) (nle rfl) (nle rfl) ⟨by rw [if_pos hg], rfl⟩
  · refine Wl.icmpN 7 d10_4 (flt hg).2.2.1 ?_
    refine Wl.iconst 8 (1 : Int32) d10_7 (by decide) ?_
    refine Wl.goto 12 d10_8 ?_
    exact Wl.ireturn (t := .boolean) d10_12 rfl rfl (by simp) (nle rfl) (nle rfl) ⟨by rw [if_neg hg], rfl⟩
theorem toBL_met (hw : ∀ d ∈ tables_1, d.before a0 Z = true) {h : Heap} {c : Int32} :
    Met l Z consts_1 ⟨"java/lang/StringLatin1", "toBytes", "(C)[B"⟩ jdk_43_method_46_code 1 (some (.array .byte)) [] { frames := 0, cells := 1, slots := 1, locals := 0 } #[.int c] h [] (fun v h' => ∃ (d : Addr) (kd : ClassId), v = some (.ref d) ∧ h.size ≤ d ∧ Ext h h' ∧ Arv Z h' d kd .byte (Int32.ofNat 1) [byV c] (.int 0)) := by
  refine Met.of_walk (a0 := a0) (Ls := #[.val (.int c)]) (plainFor_of_name pn_lat) (own_hEL hw) rfl ?_
  refine Wl.iconst 1 (1 : Int32) d11_0 (by decide) ?_
  refine Wl.newarray 3 1 d11_1 (w26 hw) (by decide) (by decide) (by decide) (nle rfl) (nle rfl) ?_
  intro d h1 kd q E A
  have A : Arv Z h1 d kd .byte (1 : Int32) [.int 0] (.int 0) := A
  refine Wl.dup 4 d11_3 rfl ?_
  refine Wl.iconst 5 (0 : Int32) d11_4 (by decide) ?_
  refine Wl.iload_n 6 d11_5 rfl ?_
  refine Wl.i2b 7 d11_6 ?_
  refine Wl.bastore 8 0 d11_7 A (List.mem_of_getElem? (i := 0) rfl) (by decide) (by decide) (by decide) (nle rfl) ?_
  intro h2 W2 A2
  rw [show nar .byte c.toInt8.toInt32 = c.toInt8.toInt32 from i2b_id _] at A2
  exact Wl.areturn d11_8 rfl rfl rfl (nle rfl) (nle rfl) ⟨d, kd, rfl, Nat.le_of_eq q.symm, extWr E W2 (Nat.le_of_eq q.symm), A2⟩
end OpVal
section StrBB
variable {l : Launch} {Z : State} {a0 : Array Value}
/-- String(byte[], byte) -/
theorem strBB_met (hw : ∀ d ∈ tables_1, d.before a0 Z = true) {h : Heap} {a d : Addr} {cd : Int32} (hnar : narrow .byte (.int cd) = .int cd) (hfit : fits .byte (.int cd) = true) (E : Exa Z h a "java/lang/String") (FV : Fld Z h a "java/lang/String" "value" "[B" .null) (FC : Fld Z h a "java/lang/String" "coder" "B" (.int 0)) :
    Met l Z consts_1 ⟨"java/lang/String", "<init>", "([BB)V"⟩ jdk_42_method_151_code 3 none [] { frames := 1, cells := 0, slots := 0, locals := 12 } #[.ref a, .ref d, .int cd] h [a] (fun v h' => v = none ∧ Keep h h' [a] ∧ Exa Z h' a "java/lang/String" ∧ Fld Z h' a "java/lang/String" "value" "[B" (.ref d) ∧ Fld Z h' a "java/lang/String" "coder" "B" (.int cd)) := by
  have L1 : Laid Z a0 "java/lang/String" "java/lang/String" "value" "[B" := Or.inr (w36 hw)
  have L2 : Laid Z a0 "java/lang/String" "java/lang/String" "coder" "B" := Or.inr (w34 hw)
  have hsl : Jvm.RoadKit.slotOf Z "java/lang/String" "value" "[B" ≠ Jvm.RoadKit.slotOf Z "java/lang/String" "coder" "B" := slot_ne L1 L2 (by decide) (t := .array .byte) (t' := .byte) (by decide) (by decide)
  refine Met.of_walk (a0 := a0) (Ls := #[.val (.ref a), .val (.ref d), .val (.int cd)]) (plainFor_of_name pn_str) (own_hEL hw) rfl ?_
  refine Wl.aload_n 1 d12_0 rfl rfl ?_
  refine Wl.initO 4 d12_1 (w18 hw) (w19 hw) (w20 hw) rfl (nle rfl) (nle rfl) ?_
  refine Wl.aload_n 5 d12_4 rfl rfl ?_
  refine Wl.aload_n 6 d12_5 rfl rfl ?_
  refine Wl.putfield 9 d12_6 (w35 hw) FV E (Or.inr ⟨(w36 hw), rfl, rfl⟩) (w8 hw) (ty := .array .byte) (by decide) rfl rfl (List.mem_of_getElem? (i := 0) rfl) ?_
  intro h1 W1
  refine Wl.aload_n 10 d12_9 rfl rfl ?_
  refine Wl.iload_n 11 d12_10 rfl ?_
  refine Wl.putfield 14 d12_11 (w33 hw) (FC.other W1 (Or.inr hsl.symm)) (E.wr W1) (Or.inr ⟨(w34 hw), rfl, rfl⟩) (w8 hw) (ty := .byte) (by decide) hnar hfit (List.mem_of_getElem? (i := 0) rfl) ?_
  intro h2 W2
  exact Wl.return_ d12_14 rfl (nle rfl) (nle rfl) ⟨rfl, ((Keep.refl h [a]).wr W1 (Or.inl (List.mem_of_getElem? (i := 0) rfl))).wr W2 (Or.inl (List.mem_of_getElem? (i := 0) rfl)), (E.wr W1).wr W2, ((FV.same W1).other W2 (Or.inr hsl)), (FC.other W1 (Or.inr hsl.symm)).same W2⟩
end StrBB
set_option maxRecDepth 65536 in
set_option maxHeartbeats 40000000 in
theorem braced_met {l : Launch} {Z : State} {a0 : Array Value} (hw : ∀ d ∈ tables_1, d.before a0 Z = true) (hcs : CSon Z) (hfm : Fmt Z) {h : Heap} {n : Addr} {cs : List Int32} (S : Stl Z h n cs) (hne : cs ≠ []) (hp : 0 < cs.length) (h0 : ¬ cs[0] = 125) (h4 : cs.length ≤ 4) :
    Met l Z consts_1 ⟨"com/example/portunus/portunus/LockKeys", "braced", "(Ljava/lang/String;)Ljava/lang/String;"⟩ prog_6_method_8_code 1 (some (.object "java/lang/String")) [] { frames := 6, cells := 10, slots := 80, locals := 92 } #[.ref n] h [] (fun v h' => ∃ s, v = some (.ref s) ∧ Ext h h' ∧ Stl Z h' s ((([] ++ [(123 : Int32)]) ++ cs) ++ [(125 : Int32)])) := by
  refine Met.of_walk (a0 := a0) (Ls := #[.val (.ref n)]) (plainFor_of_name pn_3) (own_hEL hw) rfl ?_
  refine Wl.aload_n 1 d34_0 rfl rfl ?_
  refine Wl.ldcS 3 16 (text := "name") (vs := [byV (110 : Int32), byV (97 : Int32), byV (109 : Int32), byV (101 : Int32)]) (z := (4 : Int32)) d34_1 (w173 hw) (own_wS hw) (by decide) ⟨by decide, by decide⟩ (by decide) (by decide) (by decide) (by decide) (nle rfl) (nle rfl) ?_
  intro a1 h2 b3 k4 E5 X6 C7 V8 A9 ne10
  have B11 : Ext h h2 := E5
  have S12 : Stl Z h2 a1 [(110 : Int32), (97 : Int32), (109 : Int32), (101 : Int32)] := ⟨b3, k4, X6, C7, V8, A9, (latC (by decide) (latC (by decide) (latC (by decide) (latC (by decide) latN)))), by decide⟩
  refine Wl.static 6 (argsL := [.ref n, .ref a1]) d34_3 (w61 hw) (w62 hw) (w63 hw) (w64 hw) (show parseMethodDescriptor "(Ljava/lang/Object;Ljava/lang/String;)Ljava/lang/Object;" = some ⟨[(.object "java/lang/Object"), (.object "java/lang/String")], some (.object "java/lang/Object")⟩ by decide +kernel) rfl (reqnn_met hw rfl) (fun _ q => nomatch q) rfl rfl rfl (by decide) ⟨⟨nle rfl, nle rfl⟩, nle rfl, nle rfl⟩ ?_
  intro v13 h14 hq15 _
  obtain ⟨rfl, rfl⟩ := hq15
  show WlO _ _ _ _ _ _ _ _ _ _ _ _ _ _ _ _ _ _ [.ref n]
  refine Wl.pop 7 d34_6 rfl ?_
  refine Wl.aload_n 8 d34_7 rfl rfl ?_
  refine Wl.virtual 11 (argsL := []) d34_8 (w174 hw) (w175 hw) (w177 hw) (w176 hw) (w9 hw) (w178 hw) (nf_sel (w177 hw) rfl) ((S).exa.ext E5) (show parseMethodDescriptor "()Z" = some ⟨[], some .boolean⟩ by decide +kernel) rfl (empL_met hw (S.ext E5) hne) (fun _ q => nomatch q) rfl rfl rfl (by decide) ⟨⟨nle rfl, nle rfl⟩, nle rfl, nle rfl⟩ ?_
  intro v16 h17 hq18 _
  obtain ⟨rfl, rfl⟩ := hq18
  show WlO _ _ _ _ _ _ _ _ _ _ _ _ _ _ _ _ _ _ [.int (0 : Int32)]
  refine Wl.ifN 14 d34_11 (teq (by decide)).2 ?_
  refine Wl.aload_n 15 d34_14 rfl rfl ?_
  refine Wl.iconst 16 (0 : Int32) d34_15 (by decide) ?_
  refine Wl.virtual 19 (argsL := [.int (0 : Int32)]) d34_16 (w179 hw) (w180 hw) (w182 hw) (w181 hw) (w9 hw) (w183 hw) (nf_sel (w182 hw) rfl) ((S).exa.ext E5) (show parseMethodDescriptor "(I)C" = some ⟨[.int], some .char⟩ by decide +kernel) rfl (charAt_met hw hcs hfm (S.ext E5) (i := 0) hp) (fun _ q => nomatch q) rfl rfl rfl (by decide) ⟨⟨nle rfl, nle rfl⟩, nle rfl, nle rfl⟩ ?_
  intro v19 h20 hq21 _
  obtain ⟨rfl, rfl⟩ := hq21
  show WlO _ _ _ _ _ _ _ _ _ _ _ _ _ _ _ _ _ _ [.int (cs[0])]
  refine Wl.bipush 21 (125 : Int32) d34_19 (by decide) ?_
  refine Wl.icmpY 51 d34_21 (feq h0).2 ?_
  refine Wl.new 54 d34_51 (w113 hw) (w114 hw) (w115 hw) (nle rfl) (nle rfl) ?_
  intro a22 h23 q24 E25 X26 D27
  have z28 : h.size ≤ a22 := Nat.le_trans B11.1 (Nat.le_of_eq q24.symm)
  have z29 : h2.size ≤ a22 := Nat.le_of_eq q24.symm
  have ne30 : n ≠ a22 := Nat.ne_of_lt (by rw [q24]; exact (((S).exa.ext E5)).lt)
  have ne31 : a1 ≠ a22 := Nat.ne_of_lt (by rw [q24]; exact (X6).lt)
  have B32 : Ext h h23 := extTr B11 E25
  have B33 : Ext h2 h23 := E25
  have F34 : Fld Z h23 a22 "java/lang/AbstractStringBuilder" "value" "[B" (.null) := D27 (Or.inl (w128 hw)) (ty := (.array .byte)) (by decide)
  have F35 : Fld Z h23 a22 "java/lang/AbstractStringBuilder" "coder" "B" (.int 0) := D27 (Or.inl (w130 hw)) (ty := .byte) (by decide)
  have F36 : Fld Z h23 a22 "java/lang/AbstractStringBuilder" "count" "I" (.int 0) := D27 (Or.inl (w143 hw)) (ty := .int) (by decide)
  refine Wl.dup 55 d34_54 rfl ?_
  refine Wl.specialO 58 (argsL := []) d34_55 (w116 hw) (w117 hw) (w115 hw) (w118 hw) (show parseMethodDescriptor "()V" = some ⟨[], none⟩ by decide +kernel) rfl (sbInit_met hw hcs X26 F34 F35 F36) (allS (List.mem_of_getElem? (i := 0) rfl) (fun _ q => nomatch q)) rfl rfl rfl rfl (by decide) ⟨⟨nle rfl, nle rfl⟩, nle rfl, nle rfl⟩ ?_
  intro v37 h38 hq39 _
  obtain ⟨rfl, K40, kb41, B42⟩ := hq39
  have z43 : h.size ≤ (h23.size) := B32.1
  have z44 : h2.size ≤ (h23.size) := B33.1
  have B45 : Ext h h38 := extKeep B32 K40 (allS z28 all0)
  have B46 : Ext h2 h38 := extKeep B33 K40 (allS z29 all0)
  show WlO _ _ _ _ _ _ _ _ _ _ _ _ _ _ _ _ _ _ [.ref a22]
  refine Wl.ldcS 60 4 (text := "{") (vs := [byV (123 : Int32)]) (z := (1 : Int32)) d34_58 (w195 hw) (own_wS hw) (by decide) ⟨by decide, by decide⟩ (by decide) (by decide) (by decide) (by decide) (nle rfl) (nle rfl) ?_
  intro a47 h48 b49 k50 E51 X52 C53 V54 A55 ne56
  have B57 : Ext h h48 := extTr B45 E51
  have B58 : Ext h2 h48 := extTr B46 E51
  have S59 : Stl Z h48 a47 [(123 : Int32)] := ⟨b49, k50, X52, C53, V54, A55, (latC (by decide) latN), by decide⟩
  refine Wl.virtual 63 (argsL := [.ref a47]) d34_60 (w131 hw) (w132 hw) (w134 hw) (w133 hw) (w115 hw) (w135 hw) (nf_sel (w134 hw) rfl) (B42.1.ext E51) (show parseMethodDescriptor "(Ljava/lang/String;)Ljava/lang/StringBuilder;" = some ⟨[(.object "java/lang/String")], some (.object "java/lang/StringBuilder")⟩ by decide +kernel) rfl (sbApp_met hw hcs (cs := []) (ds := [(123 : Int32)]) (by simp only [List.length_append, List.length_cons, List.length_nil]; omega) (B42.ext E51) S59) (allS (List.mem_of_getElem? (i := 1) rfl) (allS (List.mem_of_getElem? (i := 0) rfl) (fun _ q => nomatch q))) rfl rfl rfl (by decide) ⟨⟨nle rfl, nle rfl⟩, nle rfl, nle rfl⟩ ?_
  intro v60 h61 hq62 _
  obtain ⟨rfl, K63, B64⟩ := hq62
  have B65 : Ext h h61 := extKeep B57 K63 (allS z28 (allS z43 all0))
  have B66 : Ext h2 h61 := extKeep B58 K63 (allS z29 (allS z44 all0))
  show WlO _ _ _ _ _ _ _ _ _ _ _ _ _ _ _ _ _ _ [.ref a22]
  refine Wl.aload_n 64 d34_63 rfl rfl ?_
  refine Wl.virtual 67 (argsL := [.ref n]) d34_64 (w131 hw) (w132 hw) (w134 hw) (w133 hw) (w115 hw) (w135 hw) (nf_sel (w134 hw) rfl) B64.1 (show parseMethodDescriptor "(Ljava/lang/String;)Ljava/lang/StringBuilder;" = some ⟨[(.object "java/lang/String")], some (.object "java/lang/StringBuilder")⟩ by decide +kernel) rfl (sbApp_met hw hcs (cs := ([] ++ [(123 : Int32)])) (ds := cs) (by simp only [List.length_append, List.length_cons, List.length_nil]; omega) B64 (S.ext B65)) (allS (List.mem_of_getElem? (i := 1) rfl) (allS (List.mem_of_getElem? (i := 0) rfl) (fun _ q => nomatch q))) rfl rfl rfl (by decide) ⟨⟨nle rfl, nle rfl⟩, nle rfl, nle rfl⟩ ?_
  intro v67 h68 hq69 _
  obtain ⟨rfl, K70, B71⟩ := hq69
  have B72 : Ext h h68 := extKeep B65 K70 (allS z28 (allS z43 all0))
  have B73 : Ext h2 h68 := extKeep B66 K70 (allS z29 (allS z44 all0))
  show WlO _ _ _ _ _ _ _ _ _ _ _ _ _ _ _ _ _ _ [.ref a22]
  refine Wl.ldcS 69 4 (text := "}") (vs := [byV (125 : Int32)]) (z := (1 : Int32)) d34_67 (w196 hw) (own_wS hw) (by decide) ⟨by decide, by decide⟩ (by decide) (by decide) (by decide) (by decide) (nle rfl) (nle rfl) ?_
  intro a74 h75 b76 k77 E78 X79 C80 V81 A82 ne83
  have B84 : Ext h h75 := extTr B72 E78
  have B85 : Ext h2 h75 := extTr B73 E78
  have S86 : Stl Z h75 a74 [(125 : Int32)] := ⟨b76, k77, X79, C80, V81, A82, (latC (by decide) latN), by decide⟩
  refine Wl.virtual 72 (argsL := [.ref a74]) d34_69 (w131 hw) (w132 hw) (w134 hw) (w133 hw) (w115 hw) (w135 hw) (nf_sel (w134 hw) rfl) (B71.1.ext E78) (show parseMethodDescriptor "(Ljava/lang/String;)Ljava/lang/StringBuilder;" = some ⟨[(.object "java/lang/String")], some (.object "java/lang/StringBuilder")⟩ by decide +kernel) rfl (sbApp_met hw hcs (cs := (([] ++ [(123 : Int32)]) ++ cs)) (ds := [(125 : Int32)]) (by simp only [List.length_append, List.length_cons, List.length_nil]; omega) (B71.ext E78) S86) (allS (List.mem_of_getElem? (i := 1) rfl) (allS (List.mem_of_getElem? (i := 0) rfl) (fun _ q => nomatch q))) rfl rfl rfl (by decide) ⟨⟨nle rfl, nle rfl⟩, nle rfl, nle rfl⟩ ?_
  intro v87 h88 hq89 _
  obtain ⟨rfl, K90, B91⟩ := hq89
  have B92 : Ext h h88 := extKeep B84 K90 (allS z28 (allS z43 all0))
  have B93 : Ext h2 h88 := extKeep B85 K90 (allS z29 (allS z44 all0))
  show WlO _ _ _ _ _ _ _ _ _ _ _ _ _ _ _ _ _ _ [.ref a22]
  refine Wl.virtual 75 (argsL := []) d34_72 (w197 hw) (w198 hw) (w200 hw) (w199 hw) (w115 hw) (w201 hw) (nf_sel (w200 hw) rfl) B91.1 (show parseMethodDescriptor "()Ljava/lang/String;" = some ⟨[], some (.object "java/lang/String")⟩ by decide +kernel) rfl (toS_met hw hcs (cs := ((([] ++ [(123 : Int32)]) ++ cs) ++ [(125 : Int32)])) (by simp only [List.length_append, List.length_cons, List.length_nil]; omega) B91) (fun _ q => nomatch q) rfl rfl rfl (by decide) ⟨⟨nle rfl, nle rfl⟩, nle rfl, nle rfl⟩ ?_
  intro v94 h95 hq96 _
  obtain ⟨s97, rfl, E98, S99⟩ := hq96
  have B100 : Ext h h95 := extTr B92 E98
  have B101 : Ext h2 h95 := extTr B93 E98
  show WlO _ _ _ _ _ _ _ _ _ _ _ _ _ _ _ _ _ _ [.ref s97]
  exact Wl.areturn d34_75 rfl rfl rfl (nle rfl) (nle rfl) ⟨s97, rfl, B100, S99⟩
set_option maxRecDepth 65536 in
set_option maxHeartbeats 40000000 in
theorem key_met {l : Launch} {Z : State} {a0 : Array Value} (hw : ∀ d ∈ tables_1, d.before a0 Z = true) (hcs : CSon Z) (hfm : Fmt Z) {h : Heap} {t n p : Addr} {cs ps : List Int32} (F : Fld Z h t "com/example/portunus/portunus/LockKeys" "prefix" "Ljava/lang/String;" (.ref p)) (U : Stl Z h p ps) (h3 : ps.length ≤ 3) (S : Stl Z h n cs) (hne : cs ≠ []) (hp : 0 < cs.length) (h0 : ¬ cs[0] = 125) (h4 : cs.length ≤ 4) :
    Met l Z consts_1 ⟨"com/example/portunus/portunus/LockKeys", "lockKey", "(Ljava/lang/String;)Ljava/lang/String;"⟩ prog_6_method_2_code 2 (some (.object "java/lang/String")) [] { frames := 7, cells := 20, slots := 160, locals := 120 } #[.ref t, .ref n] h [] (fun v h' => ∃ s, v = some (.ref s) ∧ Ext h h' ∧ Stl Z h' s ((([] ++ ps) ++ [(108 : Int32), (111 : Int32), (99 : Int32), (107 : Int32), (58 : Int32)]) ++ ((([] ++ [(123 : Int32)]) ++ cs) ++ [(125 : Int32)]))) := by
  refine Met.of_walk (a0 := a0) (Ls := #[.val (.ref t), .val (.ref n)]) (plainFor_of_name pn_3) (own_hEL hw) rfl ?_
  refine Wl.new 3 d25_0 (w113 hw) (w114 hw) (w115 hw) (nle rfl) (nle rfl) ?_
  intro a1 h2 q3 E4 X5 D6
  have z7 : h.size ≤ a1 := Nat.le_of_eq q3.symm
  have ne8 : n ≠ a1 := Nat.ne_of_lt (by rw [q3]; exact ((S).exa).lt)
  have ne9 : p ≠ a1 := Nat.ne_of_lt (by rw [q3]; exact ((U).exa).lt)
  have B10 : Ext h h2 := E4
  have F11 : Fld Z h2 a1 "java/lang/AbstractStringBuilder" "value" "[B" (.null) := D6 (Or.inl (w128 hw)) (ty := (.array .byte)) (by decide)
  have F12 : Fld Z h2 a1 "java/lang/AbstractStringBuilder" "coder" "B" (.int 0) := D6 (Or.inl (w130 hw)) (ty := .byte) (by decide)
  have F13 : Fld Z h2 a1 "java/lang/AbstractStringBuilder" "count" "I" (.int 0) := D6 (Or.inl (w143 hw)) (ty := .int) (by decide)
  refine Wl.dup 4 d25_3 rfl ?_
  refine Wl.specialO 7 (argsL := []) d25_4 (w116 hw) (w117 hw) (w115 hw) (w118 hw) (show parseMethodDescriptor "()V" = some ⟨[], none⟩ by decide +kernel) rfl (sbInit_met hw hcs X5 F11 F12 F13) (allS (List.mem_of_getElem? (i := 0) rfl) (fun _ q => nomatch q)) rfl rfl rfl rfl (by decide) ⟨⟨nle rfl, nle rfl⟩, nle rfl, nle rfl⟩ ?_
  intro v14 h15 hq16 _
  obtain ⟨rfl, K17, kb18, B19⟩ := hq16
  have z20 : h.size ≤ (h2.size) := B10.1
  have B21 : Ext h h15 := extKeep B10 K17 (allS z7 all0)
  show WlO _ _ _ _ _ _ _ _ _ _ _ _ _ _ _ _ _ _ [.ref a1]
  refine Wl.aload_n 8 d25_7 rfl rfl ?_
  refine Wl.getfield 11 d25_8 (w106 hw) (F.ext B21) ?_
  refine Wl.virtual 14 (argsL := [.ref p]) d25_11 (w131 hw) (w132 hw) (w134 hw) (w133 hw) (w115 hw) (w135 hw) (nf_sel (w134 hw) rfl) B19.1 (show parseMethodDescriptor "(Ljava/lang/String;)Ljava/lang/StringBuilder;" = some ⟨[(.object "java/lang/String")], some (.object "java/lang/StringBuilder")⟩ by decide +kernel) rfl (sbApp_met hw hcs (cs := []) (ds := ps) (by simp only [List.length_append, List.length_cons, List.length_nil]; omega) B19 (U.ext B21)) (allS (List.mem_of_getElem? (i := 1) rfl) (allS (List.mem_of_getElem? (i := 0) rfl) (fun _ q => nomatch q))) rfl rfl rfl (by decide) ⟨⟨nle rfl, nle rfl⟩, nle rfl, nle rfl⟩ ?_
  intro v22 h23 hq24 _
  obtain ⟨rfl, K25, B26⟩ := hq24
  have B27 : Ext h h23 := extKeep B21 K25 (allS z7 (allS z20 all0))
  show WlO _ _ _ _ _ _ _ _ _ _ _ _ _ _ _ _ _ _ [.ref a1]
  refine Wl.ldcS 16 20 (text := "lock:") (vs := [byV (108 : Int32), byV (111 : Int32), byV (99 : Int32), byV (107 : Int32), byV (58 : Int32)]) (z := (5 : Int32)) d25_14 (w169 hw) (own_wS hw) (by decide) ⟨by decide, by decide⟩ (by decide) (by decide) (by decide) (by decide) (nle rfl) (nle rfl) ?_
  intro a28 h29 b30 k31 E32 X33 C34 V35 A36 ne37
  have B38 : Ext h h29 := extTr B27 E32
  have S39 : Stl Z h29 a28 [(108 : Int32), (111 : Int32), (99 : Int32), (107 : Int32), (58 : Int32)] := ⟨b30, k31, X33, C34, V35, A36, (latC (by decide) (latC (by decide) (latC (by decide) (latC (by decide) (latC (by decide) latN))))), by decide⟩
  refine Wl.virtual 19 (argsL := [.ref a28]) d25_16 (w131 hw) (w132 hw) (w134 hw) (w133 hw) (w115 hw) (w135 hw) (nf_sel (w134 hw) rfl) (B26.1.ext E32) (show parseMethodDescriptor "(Ljava/lang/String;)Ljava/lang/StringBuilder;" = some ⟨[(.object "java/lang/String")], some (.object "java/lang/StringBuilder")⟩ by decide +kernel) rfl (sbApp_met hw hcs (cs := ([] ++ ps)) (ds := [(108 : Int32), (111 : Int32), (99 : Int32), (107 : Int32), (58 : Int32)]) (by simp only [List.length_append, List.length_cons, List.length_nil]; omega) (B26.ext E32) S39) (allS (List.mem_of_getElem? (i := 1) rfl) (allS (List.mem_of_getElem? (i := 0) rfl) (fun _ q => nomatch q))) rfl rfl rfl (by decide) ⟨⟨nle rfl, nle rfl⟩, nle rfl, nle rfl⟩ ?_
  intro v40 h41 hq42 _
  obtain ⟨rfl, K43, B44⟩ := hq42
  have B45 : Ext h h41 := extKeep B38 K43 (allS z7 (allS z20 all0))
  show WlO _ _ _ _ _ _ _ _ _ _ _ _ _ _ _ _ _ _ [.ref a1]
  refine Wl.aload_n 20 d25_19 rfl rfl ?_
  refine Wl.static 23 (argsL := [.ref n]) d25_20 (w170 hw) (w171 hw) (w53 hw) (w172 hw) (show parseMethodDescriptor "(Ljava/lang/String;)Ljava/lang/String;" = some ⟨[(.object "java/lang/String")], some (.object "java/lang/String")⟩ by decide +kernel) rfl (braced_met hw hcs hfm (S.ext B45) hne hp h0 h4) (fun _ q => nomatch q) rfl rfl rfl (by decide) ⟨⟨nle rfl, nle rfl⟩, nle rfl, nle rfl⟩ ?_
  intro v46 h47 hq48 _
  obtain ⟨s49, rfl, E50, S51⟩ := hq48
  have B52 : Ext h h47 := extTr B45 E50
  show WlO _ _ _ _ _ _ _ _ _ _ _ _ _ _ _ _ _ _ [.ref s49, .ref a1]
  refine Wl.virtual 26 (argsL := [.ref s49]) d25_23 (w131 hw) (w132 hw) (w134 hw) (w133 hw) (w115 hw) (w135 hw) (nf_sel (w134 hw) rfl) (B44.1.ext E50) (show parseMethodDescriptor "(Ljava/lang/String;)Ljava/lang/StringBuilder;" = some ⟨[(.object "java/lang/String")], some (.object "java/lang/StringBuilder")⟩ by decide +kernel) rfl (sbApp_met hw hcs (cs := (([] ++ ps) ++ [(108 : Int32), (111 : Int32), (99 : Int32), (107 : Int32), (58 : Int32)])) (ds := ((([] ++ [(123 : Int32)]) ++ cs) ++ [(125 : Int32)])) (by simp only [List.length_append, List.length_cons, List.length_nil]; omega) (B44.ext E50) S51) (allS (List.mem_of_getElem? (i := 1) rfl) (allS (List.mem_of_getElem? (i := 0) rfl) (fun _ q => nomatch q))) rfl rfl rfl (by decide) ⟨⟨nle rfl, nle rfl⟩, nle rfl, nle rfl⟩ ?_
  intro v53 h54 hq55 _
  obtain ⟨rfl, K56, B57⟩ := hq55
  have B58 : Ext h h54 := extKeep B52 K56 (allS z7 (allS z20 all0))
  show WlO _ _ _ _ _ _ _ _ _ _ _ _ _ _ _ _ _ _ [.ref a1]
  refine Wl.virtual 29 (argsL := []) d25_26 (w197 hw) (w198 hw) (w200 hw) (w199 hw) (w115 hw) (w201 hw) (nf_sel (w200 hw) rfl) B57.1 (show parseMethodDescriptor "()Ljava/lang/String;" = some ⟨[], some (.object "java/lang/String")⟩ by decide +kernel) rfl (toS_met hw hcs (cs := ((([] ++ ps) ++ [(108 : Int32), (111 : Int32), (99 : Int32), (107 : Int32), (58 : Int32)]) ++ ((([] ++ [(123 : Int32)]) ++ cs) ++ [(125 : Int32)]))) (by simp only [List.length_append, List.length_cons, List.length_nil]; omega) B57) (fun _ q => nomatch q) rfl rfl rfl (by decide) ⟨⟨nle rfl, nle rfl⟩, nle rfl, nle rfl⟩ ?_
  intro v59 h60 hq61 _
  obtain ⟨s62, rfl, E63, S64⟩ := hq61
  have B65 : Ext h h60 := extTr B58 E63
  show WlO _ _ _ _ _ _ _ _ _ _ _ _ _ _ _ _ _ _ [.ref s62]
  exact Wl.areturn d25_29 rfl rfl rfl (nle rfl) (nle rfl) ⟨s62, rfl, B65, S64⟩
theorem rem3 (k : Int32) : ((k &&& (3 : Int32)) % (3 : Int32)) = 0 ∨ ((k &&& (3 : Int32)) % (3 : Int32)) = 1 ∨ ((k &&& (3 : Int32)) % (3 : Int32)) = 2 := by
  have h := c_and k 3 (by decide)
  have r := (c_irem (k &&& 3) 3 3 (by decide)).1 h.1
  generalize (k &&& (3 : Int32)) % (3 : Int32) = n at r ⊢
  have q : ∀ k : Int32, n.toInt = k.toInt → n = k := fun k h => Int32.toInt_inj.mp h
  have : n.toInt = 0 ∨ n.toInt = 1 ∨ n.toInt = 2 := by omega
  rcases this with h | h | h
  · exact Or.inl (q 0 h)
  · exact Or.inr (Or.inl (q 1 h))
  · exact Or.inr (Or.inr (q 2 h))
theorem rem3p (k : Int32) : ((k &&& (3 : Int32)) % (3 : Int32)) + (1 : Int32) = 1 ∨ ((k &&& (3 : Int32)) % (3 : Int32)) + (1 : Int32) = 2 ∨ ((k &&& (3 : Int32)) % (3 : Int32)) + (1 : Int32) = 3 := by
  rcases rem3 k with h | h | h <;> rw [h]
  · exact Or.inl (by decide)
  · exact Or.inr (Or.inl (by decide))
  · exact Or.inr (Or.inr (by decide))
theorem and3 (k : Int32) : (k &&& (3 : Int32)) = 0 ∨ (k &&& (3 : Int32)) = 1 ∨ (k &&& (3 : Int32)) = 2 ∨ (k &&& (3 : Int32)) = 3 := by
  have h := c_and k 3 (by decide)
  have e : (3 : Int32).toInt = 3 := by decide
  generalize (k &&& (3 : Int32)) = n at h ⊢
  have q : ∀ k : Int32, n.toInt = k.toInt → n = k := fun k h => Int32.toInt_inj.mp h
  have : n.toInt = 0 ∨ n.toInt = 1 ∨ n.toInt = 2 ∨ n.toInt = 3 := by omega
  rcases this with h | h | h | h
  · exact Or.inl (q 0 h)
  · exact Or.inr (Or.inl (q 1 h))
  · exact Or.inr (Or.inr (Or.inl (q 2 h)))
  · exact Or.inr (Or.inr (Or.inr (q 3 h)))
def expI (i pl p0 p1 p2 nl n0 n1 n2 : Int32) : Int32 :=
  if i < pl then (if i = (0 : Int32) then p0 else if i = (1 : Int32) then p1 else p2)
  else if (i - pl) = (5 : Int32) then 123
  else if ((i - pl) - (6 : Int32)) < nl then (if ((i - pl) - (6 : Int32)) = (0 : Int32) then n0 else if ((i - pl) - (6 : Int32)) = (1 : Int32) then n1 else n2) else 125
set_option maxRecDepth 65536 in
set_option maxHeartbeats 40000000 in
theorem pc_met {l : Launch} {Z : State} {a0 : Array Value} (hw : ∀ d ∈ tables_1, d.before a0 Z = true) {h : Heap} {x : Int32}  :
    Met l Z consts_1 ⟨"com/example/portunus/portunus/LockKeysLockKeyPinLaw", "pc", "(I)C"⟩ method_2_code 2 (some .char) [] { frames := 0, cells := 0, slots := 0, locals := 0 } #[.int x] h [] (fun v h' => ∃ z, v = some (.int z) ∧ Lat z ∧ z ≠ 123 ∧ z ≠ 125 ∧ h = h') := by
  refine Met.of_walk (a0 := a0) (Ls := #[.val (.int x), .unset]) (plainFor_of_name pn_4) (own_hEL hw) rfl ?_
  refine Wl.iload_n 1 d1_0 rfl ?_
  refine Wl.sipush 4 (255 : Int32) d1_1 (by decide) ?_
  refine Wl.iand 5 d1_4 ?_
  refine Wl.i2c 6 d1_5 ?_
  refine Wl.istore_n 7 #[.val (.int x), .val (.int (((x &&& (255 : Int32))).toUInt32.toUInt16.toUInt32.toInt32))] d1_6 rfl ?_
  refine Wl.iload_n 8 d1_7 rfl ?_
  refine Wl.bipush 10 (123 : Int32) d1_8 (by decide) ?_
  by_cases c1 : ((x &&& (255 : Int32))).toUInt32.toUInt16.toUInt32.toInt32 = (123 : Int32)
  · refine Wl.icmpY 19 d1_10 (teq c1).1 ?_
    refine Wl.bipush 21 (97 : Int32) d1_19 (by decide) ?_
    exact Wl.ireturn d1_21 rfl rfl (by simp) (nle rfl) (nle rfl) ⟨_, rfl, by decide, by decide, by decide, rfl⟩
  · refine Wl.icmpN 13 d1_10 (feq c1).1 ?_
    refine Wl.iload_n 14 d1_13 rfl ?_
    refine Wl.bipush 16 (125 : Int32) d1_14 (by decide) ?_
    by_cases c2 : ((x &&& (255 : Int32))).toUInt32.toUInt16.toUInt32.toInt32 = (125 : Int32)
    · refine Wl.icmpN 19 d1_16 (teq c2).2 ?_
      refine Wl.bipush 21 (97 : Int32) d1_19 (by decide) ?_
      exact Wl.ireturn d1_21 rfl rfl (by simp) (nle rfl) (nle rfl) ⟨_, rfl, by decide, by decide, by decide, rfl⟩
    · refine Wl.icmpY 22 d1_16 (feq c2).2 ?_
      refine Wl.iload_n 23 d1_22 rfl ?_
      exact Wl.ireturn d1_23 rfl (narC (i2c_ch _)) (by simp) (nle rfl) (nle rfl) ⟨_, rfl, i2c_mask_lat _, c1, c2, rfl⟩
set_option maxRecDepth 65536 in
set_option maxHeartbeats 40000000 in
theorem valueOf_met {l : Launch} {Z : State} {a0 : Array Value} (hw : ∀ d ∈ tables_1, d.before a0 Z = true) (hcs : CSon Z) {h : Heap} {c : Int32} (hc : Lat c) :
    Met l Z consts_1 ⟨"java/lang/String", "valueOf", "(C)Ljava/lang/String;"⟩ jdk_42_method_139_code 1 (some (.object "java/lang/String")) [] { frames := 2, cells := 2, slots := 6, locals := 28 } #[.int c] h [] (fun v h' => ∃ a, v = some (.ref a) ∧ Ext h h' ∧ Stl Z h' a [c]) := by
  refine Met.of_walk (a0 := a0) (Ls := #[.val (.int c)]) (plainFor_of_name pn_str) (own_hEL hw) rfl ?_
  obtain ⟨cst, hS, hcn⟩ := hcs
  refine Wl.getstatic 3 d9_0 (w21 hw) hS ?_
  refine Wl.ifN 6 d9_3 (feq hcn).1 ?_
  refine Wl.iload_n 7 d9_6 rfl ?_
  refine Wl.static 10 (argsL := [.int c]) d9_7 (w40 hw) (w41 hw) (w42 hw) (w43 hw) (show parseMethodDescriptor "(C)Z" = some ⟨[.char], some .boolean⟩ by decide +kernel) rfl (canEncC_met hw) (fun _ q => nomatch q) rfl rfl rfl (by decide) ⟨⟨nle rfl, nle rfl⟩, nle rfl, nle rfl⟩ ?_
  intro v1 h2 hq3 _
  rw [if_neg (lat_le hc)] at hq3
  obtain ⟨rfl, rfl⟩ := hq3
  show WlO _ _ _ _ _ _ _ _ _ _ _ _ _ _ _ _ _ _ [.int (1 : Int32)]
  refine Wl.ifN 13 d9_10 (feq (by decide)).1 ?_
  refine Wl.new 16 d9_13 (w44 hw) (w8 hw) (w9 hw) (nle rfl) (nle rfl) ?_
  intro a4 h5 q6 E7 X8 D9
  have z10 : h.size ≤ a4 := Nat.le_of_eq q6.symm
  have B11 : Ext h h5 := E7
  have F12 : Fld Z h5 a4 "java/lang/String" "coder" "B" (.int 0) := D9 (Or.inr (w34 hw)) (ty := .byte) (by decide)
  have F13 : Fld Z h5 a4 "java/lang/String" "value" "[B" (.null) := D9 (Or.inr (w36 hw)) (ty := (.array .byte)) (by decide)
  refine Wl.dup 17 d9_16 rfl ?_
  refine Wl.iload_n 18 d9_17 rfl ?_
  refine Wl.static 21 (argsL := [.int c]) d9_18 (w45 hw) (w46 hw) (w42 hw) (w47 hw) (show parseMethodDescriptor "(C)[B" = some ⟨[.char], some (.array .byte)⟩ by decide +kernel) rfl (toBL_met hw) (fun _ q => nomatch q) rfl rfl rfl (by decide) ⟨⟨nle rfl, nle rfl⟩, nle rfl, nle rfl⟩ ?_
  intro v14 h15 hq16 _
  obtain ⟨d17, kd18, rfl, z19, E20, A21⟩ := hq16
  have ne22 : a4 ≠ d17 := Nat.ne_of_lt (Nat.lt_of_lt_of_le (X8).lt z19)
  have z23 : h.size ≤ d17 := Nat.le_trans B11.1 z19
  have B24 : Ext h h15 := extTr B11 E20
  show WlO _ _ _ _ _ _ _ _ _ _ _ _ _ _ _ _ _ _ [.ref d17, .ref a4, .ref a4]
  refine Wl.iconst 22 (0 : Int32) d9_21 (by decide) ?_
  refine Wl.special 25 (argsL := [.ref d17, .int (0 : Int32)]) d9_22 (w48 hw) (w49 hw) (w9 hw) (w50 hw) (show parseMethodDescriptor "([BB)V" = some ⟨[(.array .byte), .byte], none⟩ by decide +kernel) rfl (strBB_met hw (cd := (0 : Int32)) rfl rfl (X8.ext E20) (F13.ext E20) (F12.ext E20)) (allS (List.mem_of_getElem? (i := 0) rfl) (fun _ q => nomatch q)) rfl rfl rfl rfl (by decide) ⟨⟨nle rfl, nle rfl⟩, nle rfl, nle rfl⟩ ?_
  intro v25 h26 hq27 _
  obtain ⟨rfl, K28, X29, F30, F31⟩ := hq27
  have B32 : Ext h h26 := extKeep B24 K28 (allS z10 all0)
  show WlO _ _ _ _ _ _ _ _ _ _ _ _ _ _ _ _ _ _ [.ref a4]
  exact Wl.areturn d9_25 rfl rfl rfl (nle rfl) (nle rfl) ⟨a4, rfl, B32, d17, kd18, X29, F31, F30, (A21.keep K28 (ninS ne22.symm nin0)), (latC hc latN), nle rfl⟩
set_option maxRecDepth 65536 in
set_option maxHeartbeats 40000000 in
theorem mk0_met {l : Launch} {Z : State} {a0 : Array Value} (hw : ∀ d ∈ tables_1, d.before a0 Z = true) (hcs : CSon Z) {h : Heap} {c0 c1 c2 : Int32} (lc0 : Lat c0) (lc1 : Lat c1) (lc2 : Lat c2) :
    Met l Z consts_1 ⟨"com/example/portunus/portunus/LockKeysLockKeyPinLaw", "mk", "(ICCC)Ljava/lang/String;"⟩ method_3_code 4 (some (.object "java/lang/String")) [] { frames := 4, cells := 6, slots := 24, locals := 70 } #[.int (0 : Int32), .int c0, .int c1, .int c2] h [] (fun v h' => ∃ a, v = some (.ref a) ∧ Ext h h' ∧ Stl Z h' a []) := by
  refine Met.of_walk (a0 := a0) (Ls := #[.val (.int (0 : Int32)), .val (.int c0), .val (.int c1), .val (.int c2)]) (plainFor_of_name pn_4) (own_hEL hw) rfl ?_
  refine Wl.iload_n 1 d2_0 rfl ?_
  refine Wl.ifN 4 d2_1 (teq (by decide)).2 ?_
  refine Wl.new 7 d2_4 (w7 hw) (w8 hw) (w9 hw) (nle rfl) (nle rfl) ?_
  intro a1 h2 q3 E4 X5 D6
  have z7 : h.size ≤ a1 := Nat.le_of_eq q3.symm
  have B8 : Ext h h2 := E4
  have F9 : Fld Z h2 a1 "java/lang/String" "coder" "B" (.int 0) := D6 (Or.inr (w34 hw)) (ty := .byte) (by decide)
  have F10 : Fld Z h2 a1 "java/lang/String" "value" "[B" (.null) := D6 (Or.inr (w36 hw)) (ty := (.array .byte)) (by decide)
  refine Wl.dup 8 d2_7 rfl ?_
  refine Wl.iconst 9 (0 : Int32) d2_8 (by decide) ?_
  refine Wl.newarray 11 0 d2_9 (w10 hw) (by decide) (by decide) (by decide) (nle rfl) (nle rfl) ?_
  intro a11 h12 k13 q14 E15 A16
  have A16 : Arv Z h12 a11 k13 .char (0 : Int32) [] (.int 0) := A16
  have z17 : h.size ≤ a11 := Nat.le_trans B8.1 (Nat.le_of_eq q14.symm)
  have z18 : h2.size ≤ a11 := Nat.le_of_eq q14.symm
  have ne19 : a1 ≠ a11 := Nat.ne_of_lt (by rw [q14]; exact (X5).lt)
  have B20 : Ext h h12 := extTr B8 E15
  have B21 : Ext h2 h12 := E15
  refine Wl.special 14 (argsL := [.ref a11]) d2_11 (w11 hw) (w12 hw) (w9 hw) (w13 hw) (show parseMethodDescriptor "([C)V" = some ⟨[(.array .char)], none⟩ by decide +kernel) rfl (strC_met hw hcs (cs := []) 4 (nle rfl) (nle rfl)  latN (X5.ext E15) (F10.ext E15) (F9.ext E15) A16) (allS (List.mem_of_getElem? (i := 1) rfl) (fun _ q => nomatch q)) rfl rfl rfl rfl (by decide) ⟨⟨nle rfl, nle rfl⟩, nle rfl, nle rfl⟩ ?_
  intro v22 h23 hq24 _
  obtain ⟨rfl, K25, S26⟩ := hq24
  have B27 : Ext h h23 := extKeep B20 K25 (allS z7 all0)
  show WlO _ _ _ _ _ _ _ _ _ _ _ _ _ _ _ _ _ _ [.ref a1]
  exact Wl.areturn d2_14 rfl rfl rfl (nle rfl) (nle rfl) ⟨a1, rfl, B27, S26⟩
set_option maxRecDepth 65536 in
set_option maxHeartbeats 40000000 in
theorem mk1_met {l : Launch} {Z : State} {a0 : Array Value} (hw : ∀ d ∈ tables_1, d.before a0 Z = true) (hcs : CSon Z) {h : Heap} {c0 c1 c2 : Int32} (lc0 : Lat c0) (lc1 : Lat c1) (lc2 : Lat c2) :
    Met l Z consts_1 ⟨"com/example/portunus/portunus/LockKeysLockKeyPinLaw", "mk", "(ICCC)Ljava/lang/String;"⟩ method_3_code 4 (some (.object "java/lang/String")) [] { frames := 4, cells := 6, slots := 24, locals := 70 } #[.int (1 : Int32), .int c0, .int c1, .int c2] h [] (fun v h' => ∃ a, v = some (.ref a) ∧ Ext h h' ∧ Stl Z h' a [c0]) := by
  refine Met.of_walk (a0 := a0) (Ls := #[.val (.int (1 : Int32)), .val (.int c0), .val (.int c1), .val (.int c2)]) (plainFor_of_name pn_4) (own_hEL hw) rfl ?_
  refine Wl.iload_n 1 d2_0 rfl ?_
  refine Wl.ifY 15 d2_1 (feq (by decide)).2 ?_
  refine Wl.iload_n 16 d2_15 rfl ?_
  refine Wl.iconst 17 (1 : Int32) d2_16 (by decide) ?_
  refine Wl.icmpN 20 d2_17 (teq (by decide)).2 ?_
  refine Wl.iload_n 21 d2_20 rfl ?_
  refine Wl.static 24 (argsL := [.int c0]) d2_21 (w37 hw) (w38 hw) (w9 hw) (w39 hw) (show parseMethodDescriptor "(C)Ljava/lang/String;" = some ⟨[.char], some (.object "java/lang/String")⟩ by decide +kernel) rfl (valueOf_met hw hcs lc0) (fun _ q => nomatch q) rfl rfl rfl (by decide) ⟨⟨nle rfl, nle rfl⟩, nle rfl, nle rfl⟩ ?_
  intro v1 h2 hq3 _
  obtain ⟨a4, rfl, E5, S6⟩ := hq3
  have B7 : Ext h h2 := E5
  show WlO _ _ _ _ _ _ _ _ _ _ _ _ _ _ _ _ _ _ [.ref a4]
  exact Wl.areturn d2_24 rfl rfl rfl (nle rfl) (nle rfl) ⟨a4, rfl, B7, S6⟩
set_option maxRecDepth 65536 in
set_option maxHeartbeats 40000000 in
theorem mk2_met {l : Launch} {Z : State} {a0 : Array Value} (hw : ∀ d ∈ tables_1, d.before a0 Z = true) (hcs : CSon Z) {h : Heap} {c0 c1 c2 : Int32} (lc0 : Lat c0) (lc1 : Lat c1) (lc2 : Lat c2) :
    Met l Z consts_1 ⟨"com/example/portunus/portunus/LockKeysLockKeyPinLaw", "mk", "(ICCC)Ljava/lang/String;"⟩ method_3_code 4 (some (.object "java/lang/String")) [] { frames := 4, cells := 6, slots := 24, locals := 70 } #[.int (2 : Int32), .int c0, .int c1, .int c2] h [] (fun v h' => ∃ a, v = some (.ref a) ∧ Ext h h' ∧ Stl Z h' a [c0, c1]) := by
  refine Met.of_walk (a0 := a0) (Ls := #[.val (.int (2 : Int32)), .val (.int c0), .val (.int c1), .val (.int c2)]) (plainFor_of_name pn_4) (own_hEL hw) rfl ?_
  refine Wl.iload_n 1 d2_0 rfl ?_
  refine Wl.ifY 15 d2_1 (feq (by decide)).2 ?_
  refine Wl.iload_n 16 d2_15 rfl ?_
  refine Wl.iconst 17 (1 : Int32) d2_16 (by decide) ?_
  refine Wl.icmpY 25 d2_17 (feq (by decide)).2 ?_
  refine Wl.iload_n 26 d2_25 rfl ?_
  refine Wl.iconst 27 (2 : Int32) d2_26 (by decide) ?_
  refine Wl.icmpN 30 d2_27 (teq (by decide)).2 ?_
  refine Wl.new 33 d2_30 (w7 hw) (w8 hw) (w9 hw) (nle rfl) (nle rfl) ?_
  intro a1 h2 q3 E4 X5 D6
  have z7 : h.size ≤ a1 := Nat.le_of_eq q3.symm
  have B8 : Ext h h2 := E4
  have F9 : Fld Z h2 a1 "java/lang/String" "coder" "B" (.int 0) := D6 (Or.inr (w34 hw)) (ty := .byte) (by decide)
  have F10 : Fld Z h2 a1 "java/lang/String" "value" "[B" (.null) := D6 (Or.inr (w36 hw)) (ty := (.array .byte)) (by decide)
  refine Wl.dup 34 d2_33 rfl ?_
  refine Wl.iconst 35 (2 : Int32) d2_34 (by decide) ?_
  refine Wl.newarray 37 2 d2_35 (w10 hw) (by decide) (by decide) (by decide) (nle rfl) (nle rfl) ?_
  intro a11 h12 k13 q14 E15 A16
  have A16 : Arv Z h12 a11 k13 .char (2 : Int32) [.int 0, .int 0] (.int 0) := A16
  have z17 : h.size ≤ a11 := Nat.le_trans B8.1 (Nat.le_of_eq q14.symm)
  have z18 : h2.size ≤ a11 := Nat.le_of_eq q14.symm
  have ne19 : a1 ≠ a11 := Nat.ne_of_lt (by rw [q14]; exact (X5).lt)
  have B20 : Ext h h12 := extTr B8 E15
  have B21 : Ext h2 h12 := E15
  refine Wl.dup 38 d2_37 rfl ?_
  refine Wl.iconst 39 (0 : Int32) d2_38 (by decide) ?_
  refine Wl.iload_n 40 d2_39 rfl ?_
  refine Wl.castore 41 0 d2_40 A16 (List.mem_of_getElem? (i := 0) rfl) (by decide) (by decide) (by decide) (nle rfl) ?_
  intro h22 W23 A24
  rw [nar_ch (lc0).ch] at A24
  have A24 : Arv Z h22 a11 k13 .char (2 : Int32) [.int c0, .int (0 : Int32)] (.int 0) := A24
  have B25 : Ext h h22 := extWr B20 W23 z17
  have B26 : Ext h2 h22 := extWr B21 W23 z18
  refine Wl.dup 42 d2_41 rfl ?_
  refine Wl.iconst 43 (1 : Int32) d2_42 (by decide) ?_
  refine Wl.iload_n 44 d2_43 rfl ?_
  refine Wl.castore 45 1 d2_44 A24 (List.mem_of_getElem? (i := 0) rfl) (by decide) (by decide) (by decide) (nle rfl) ?_
  intro h27 W28 A29
  rw [nar_ch (lc1).ch] at A29
  have A29 : Arv Z h27 a11 k13 .char (2 : Int32) [.int c0, .int c1] (.int 0) := A29
  have B30 : Ext h h27 := extWr B25 W28 z17
  have B31 : Ext h2 h27 := extWr B26 W28 z18
  refine Wl.special 48 (argsL := [.ref a11]) d2_45 (w11 hw) (w12 hw) (w9 hw) (w13 hw) (show parseMethodDescriptor "([C)V" = some ⟨[(.array .char)], none⟩ by decide +kernel) rfl (strC_met hw hcs (cs := [c0, c1]) 4 (nle rfl) (nle rfl)  (latC lc0 (latC lc1 latN)) (X5.ext B31) (F10.ext B31) (F9.ext B31) A29) (allS (List.mem_of_getElem? (i := 1) rfl) (fun _ q => nomatch q)) rfl rfl rfl rfl (by decide) ⟨⟨nle rfl, nle rfl⟩, nle rfl, nle rfl⟩ ?_
  intro v32 h33 hq34 _
  obtain ⟨rfl, K35, S36⟩ := hq34
  have B37 : Ext h h33 := extKeep B30 K35 (allS z7 all0)
  show WlO _ _ _ _ _ _ _ _ _ _ _ _ _ _ _ _ _ _ [.ref a1]
  exact Wl.areturn d2_48 rfl rfl rfl (nle rfl) (nle rfl) ⟨a1, rfl, B37, S36⟩
set_option maxRecDepth 65536 in
set_option maxHeartbeats 40000000 in
theorem mk3_met {l : Launch} {Z : State} {a0 : Array Value} (hw : ∀ d ∈ tables_1, d.before a0 Z = true) (hcs : CSon Z) {h : Heap} {c0 c1 c2 : Int32} (lc0 : Lat c0) (lc1 : Lat c1) (lc2 : Lat c2) :
    Met l Z consts_1 ⟨"com/example/portunus/portunus/LockKeysLockKeyPinLaw", "mk", "(ICCC)Ljava/lang/String;"⟩ method_3_code 4 (some (.object "java/lang/String")) [] { frames := 4, cells := 6, slots := 24, locals := 70 } #[.int (3 : Int32), .int c0, .int c1, .int c2] h [] (fun v h' => ∃ a, v = some (.ref a) ∧ Ext h h' ∧ Stl Z h' a [c0, c1, c2]) := by
  refine Met.of_walk (a0 := a0) (Ls := #[.val (.int (3 : Int32)), .val (.int c0), .val (.int c1), .val (.int c2)]) (plainFor_of_name pn_4) (own_hEL hw) rfl ?_
  refine Wl.iload_n 1 d2_0 rfl ?_
  refine Wl.ifY 15 d2_1 (feq (by decide)).2 ?_
  refine Wl.iload_n 16 d2_15 rfl ?_
  refine Wl.iconst 17 (1 : Int32) d2_16 (by decide) ?_
  refine Wl.icmpY 25 d2_17 (feq (by decide)).2 ?_
  refine Wl.iload_n 26 d2_25 rfl ?_
  refine Wl.iconst 27 (2 : Int32) d2_26 (by decide) ?_
  refine Wl.icmpY 49 d2_27 (feq (by decide)).2 ?_
  refine Wl.new 52 d2_49 (w7 hw) (w8 hw) (w9 hw) (nle rfl) (nle rfl) ?_
  intro a1 h2 q3 E4 X5 D6
  have z7 : h.size ≤ a1 := Nat.le_of_eq q3.symm
  have B8 : Ext h h2 := E4
  have F9 : Fld Z h2 a1 "java/lang/String" "coder" "B" (.int 0) := D6 (Or.inr (w34 hw)) (ty := .byte) (by decide)
  have F10 : Fld Z h2 a1 "java/lang/String" "value" "[B" (.null) := D6 (Or.inr (w36 hw)) (ty := (.array .byte)) (by decide)
  refine Wl.dup 53 d2_52 rfl ?_
  refine Wl.iconst 54 (3 : Int32) d2_53 (by decide) ?_
  refine Wl.newarray 56 3 d2_54 (w10 hw) (by decide) (by decide) (by decide) (nle rfl) (nle rfl) ?_
  intro a11 h12 k13 q14 E15 A16
  have A16 : Arv Z h12 a11 k13 .char (3 : Int32) [.int 0, .int 0, .int 0] (.int 0) := A16
  have z17 : h.size ≤ a11 := Nat.le_trans B8.1 (Nat.le_of_eq q14.symm)
  have z18 : h2.size ≤ a11 := Nat.le_of_eq q14.symm
  have ne19 : a1 ≠ a11 := Nat.ne_of_lt (by rw [q14]; exact (X5).lt)
  have B20 : Ext h h12 := extTr B8 E15
  have B21 : Ext h2 h12 := E15
  refine Wl.dup 57 d2_56 rfl ?_
  refine Wl.iconst 58 (0 : Int32) d2_57 (by decide) ?_
  refine Wl.iload_n 59 d2_58 rfl ?_
  refine Wl.castore 60 0 d2_59 A16 (List.mem_of_getElem? (i := 0) rfl) (by decide) (by decide) (by decide) (nle rfl) ?_
  intro h22 W23 A24
  rw [nar_ch (lc0).ch] at A24
  have A24 : Arv Z h22 a11 k13 .char (3 : Int32) [.int c0, .int (0 : Int32), .int (0 : Int32)] (.int 0) := A24
  have B25 : Ext h h22 := extWr B20 W23 z17
  have B26 : Ext h2 h22 := extWr B21 W23 z18
  refine Wl.dup 61 d2_60 rfl ?_
  refine Wl.iconst 62 (1 : Int32) d2_61 (by decide) ?_
  refine Wl.iload_n 63 d2_62 rfl ?_
  refine Wl.castore 64 1 d2_63 A24 (List.mem_of_getElem? (i := 0) rfl) (by decide) (by decide) (by decide) (nle rfl) ?_
  intro h27 W28 A29
  rw [nar_ch (lc1).ch] at A29
  have A29 : Arv Z h27 a11 k13 .char (3 : Int32) [.int c0, .int c1, .int (0 : Int32)] (.int 0) := A29
  have B30 : Ext h h27 := extWr B25 W28 z17
  have B31 : Ext h2 h27 := extWr B26 W28 z18
  refine Wl.dup 65 d2_64 rfl ?_
  refine Wl.iconst 66 (2 : Int32) d2_65 (by decide) ?_
  refine Wl.iload_n 67 d2_66 rfl ?_
  refine Wl.castore 68 2 d2_67 A29 (List.mem_of_getElem? (i := 0) rfl) (by decide) (by decide) (by decide) (nle rfl) ?_
  intro h32 W33 A34
  rw [nar_ch (lc2).ch] at A34
  have A34 : Arv Z h32 a11 k13 .char (3 : Int32) [.int c0, .int c1, .int c2] (.int 0) := A34
  have B35 : Ext h h32 := extWr B30 W33 z17
  have B36 : Ext h2 h32 := extWr B31 W33 z18
  refine Wl.special 71 (argsL := [.ref a11]) d2_68 (w11 hw) (w12 hw) (w9 hw) (w13 hw) (show parseMethodDescriptor "([C)V" = some ⟨[(.array .char)], none⟩ by decide +kernel) rfl (strC_met hw hcs (cs := [c0, c1, c2]) 4 (nle rfl) (nle rfl)  (latC lc0 (latC lc1 (latC lc2 latN))) (X5.ext B36) (F10.ext B36) (F9.ext B36) A34) (allS (List.mem_of_getElem? (i := 1) rfl) (fun _ q => nomatch q)) rfl rfl rfl rfl (by decide) ⟨⟨nle rfl, nle rfl⟩, nle rfl, nle rfl⟩ ?_
  intro v37 h38 hq39 _
  obtain ⟨rfl, K40, S41⟩ := hq39
  have B42 : Ext h h38 := extKeep B35 K40 (allS z7 all0)
  show WlO _ _ _ _ _ _ _ _ _ _ _ _ _ _ _ _ _ _ [.ref a1]
  exact Wl.areturn d2_71 rfl rfl rfl (nle rfl) (nle rfl) ⟨a1, rfl, B42, S41⟩
set_option maxRecDepth 65536 in
set_option maxHeartbeats 40000000 in
theorem expB_met {l : Launch} {Z : State} {a0 : Array Value} (hw : ∀ d ∈ tables_1, d.before a0 Z = true) {h : Heap} {i pl p0 p1 p2 nl n0 n1 n2 : Int32} (hB : i < pl ∨ ¬ (i - pl) < (5 : Int32)) (lp0 : Lat p0) (lp1 : Lat p1) (lp2 : Lat p2) (ln0 : Lat n0) (ln1 : Lat n1) (ln2 : Lat n2) :
    Met l Z consts_1 ⟨"com/example/portunus/portunus/LockKeysLockKeyPinLaw", "exp", "(IICCCICCC)C"⟩ method_4_code 11 (some .char) [] { frames := 0, cells := 0, slots := 0, locals := 0 } #[.int i, .int pl, .int p0, .int p1, .int p2, .int nl, .int n0, .int n1, .int n2] h [] (fun v h' => v = some (.int (expI i pl p0 p1 p2 nl n0 n1 n2)) ∧ h = h') := by
  refine Met.of_walk (a0 := a0) (Ls := #[.val (.int i), .val (.int pl), .val (.int p0), .val (.int p1), .val (.int p2), .val (.int nl), .val (.int n0), .val (.int n1), .val (.int n2), .unset, .unset]) (plainFor_of_name pn_4) (own_hEL hw) (Array.toList_inj.mp ((Jvm.Sym.argsToLocals_toList _ _).trans rfl)) ?_
  refine Wl.iload_n 1 d51_0 rfl ?_
  refine Wl.iload_n 2 d51_1 rfl ?_
  by_cases c1 : i < pl
  · refine Wl.icmpN 5 d51_2 (tlt c1).2.1 ?_
    refine Wl.iload_n 6 d51_5 rfl ?_
    by_cases c2 : i = (0 : Int32)
    · refine Wl.ifN 9 d51_6 (teq c2).2 ?_
      refine Wl.iload_n 10 d51_9 rfl ?_
      exact Wl.ireturn d51_10 rfl (narC (lp0).ch) (by simp) (nle rfl) (nle rfl) ⟨by rw [expI, if_pos c1, if_pos c2], rfl⟩
    · refine Wl.ifY 11 d51_6 (feq c2).2 ?_
      refine Wl.iload_n 12 d51_11 rfl ?_
      refine Wl.iconst 13 (1 : Int32) d51_12 (by decide) ?_
      by_cases c3 : i = (1 : Int32)
      · refine Wl.icmpN 16 d51_13 (teq c3).2 ?_
        refine Wl.iload_n 17 d51_16 rfl ?_
        exact Wl.ireturn d51_17 rfl (narC (lp1).ch) (by simp) (nle rfl) (nle rfl) ⟨by rw [expI, if_pos c1, if_neg c2, if_pos c3], rfl⟩
      · refine Wl.icmpY 18 d51_13 (feq c3).2 ?_
        refine Wl.iload 20 d51_18 rfl ?_
        exact Wl.ireturn d51_20 rfl (narC (lp2).ch) (by simp) (nle rfl) (nle rfl) ⟨by rw [expI, if_pos c1, if_neg c2, if_neg c3], rfl⟩
  · refine Wl.icmpY 21 d51_2 (flt c1).2.1 ?_
    refine Wl.iload_n 22 d51_21 rfl ?_
    refine Wl.iload_n 23 d51_22 rfl ?_
    refine Wl.isub 24 d51_23 ?_
    refine Wl.istore 26 #[.val (.int i), .val (.int pl), .val (.int p0), .val (.int p1), .val (.int p2), .val (.int nl), .val (.int n0), .val (.int n1), .val (.int n2), .val (.int (i - pl)), .unset] d51_24 rfl ?_
    refine Wl.iload 28 d51_26 rfl ?_
    refine Wl.iconst 29 (5 : Int32) d51_28 (by decide) ?_
    refine Wl.icmpY 40 d51_29 (flt (hB.resolve_left c1)).2.1 ?_
    refine Wl.iload 42 d51_40 rfl ?_
    refine Wl.iconst 43 (5 : Int32) d51_42 (by decide) ?_
    by_cases c4 : (i - pl) = (5 : Int32)
    · refine Wl.icmpN 46 d51_43 (teq c4).2 ?_
      refine Wl.bipush 48 (123 : Int32) d51_46 (by decide) ?_
      exact Wl.ireturn d51_48 rfl rfl (by simp) (nle rfl) (nle rfl) ⟨by rw [expI, if_neg c1, if_pos c4], rfl⟩
    · refine Wl.icmpY 49 d51_43 (feq c4).2 ?_
      refine Wl.iload 51 d51_49 rfl ?_
      refine Wl.bipush 53 (6 : Int32) d51_51 (by decide) ?_
      refine Wl.isub 54 d51_53 ?_
      refine Wl.istore 56 #[.val (.int i), .val (.int pl), .val (.int p0), .val (.int p1), .val (.int p2), .val (.int nl), .val (.int n0), .val (.int n1), .val (.int n2), .val (.int (i - pl)), .val (.int ((i - pl) - (6 : Int32)))] d51_54 rfl ?_
      refine Wl.iload 58 d51_56 rfl ?_
      refine Wl.iload 60 d51_58 rfl ?_
      by_cases c5 : ((i - pl) - (6 : Int32)) < nl
      · refine Wl.icmpN 63 d51_60 (tlt c5).2.1 ?_
        refine Wl.iload 65 d51_63 rfl ?_
        by_cases c6 : ((i - pl) - (6 : Int32)) = (0 : Int32)
        · refine Wl.ifN 68 d51_65 (teq c6).2 ?_
          refine Wl.iload 70 d51_68 rfl ?_
          exact Wl.ireturn d51_70 rfl (narC (ln0).ch) (by simp) (nle rfl) (nle rfl) ⟨by rw [expI, if_neg c1, if_neg c4, if_pos c5, if_pos c6], rfl⟩
        · refine Wl.ifY 71 d51_65 (feq c6).2 ?_
          refine Wl.iload 73 d51_71 rfl ?_
          refine Wl.iconst 74 (1 : Int32) d51_73 (by decide) ?_
          by_cases c7 : ((i - pl) - (6 : Int32)) = (1 : Int32)
          · refine Wl.icmpN 77 d51_74 (teq c7).2 ?_
            refine Wl.iload 79 d51_77 rfl ?_
            exact Wl.ireturn d51_79 rfl (narC (ln1).ch) (by simp) (nle rfl) (nle rfl) ⟨by rw [expI, if_neg c1, if_neg c4, if_pos c5, if_neg c6, if_pos c7], rfl⟩
          · refine Wl.icmpY 80 d51_74 (feq c7).2 ?_
            refine Wl.iload 82 d51_80 rfl ?_
            exact Wl.ireturn d51_82 rfl (narC (ln2).ch) (by simp) (nle rfl) (nle rfl) ⟨by rw [expI, if_neg c1, if_neg c4, if_pos c5, if_neg c6, if_neg c7], rfl⟩
      · refine Wl.icmpY 83 d51_60 (flt c5).2.1 ?_
        refine Wl.bipush 85 (125 : Int32) d51_83 (by decide) ?_
        exact Wl.ireturn d51_85 rfl rfl (by simp) (nle rfl) (nle rfl) ⟨by rw [expI, if_neg c1, if_neg c4, if_neg c5], rfl⟩
abbrev lk : List Int32 := [(108 : Int32), (111 : Int32), (99 : Int32), (107 : Int32), (58 : Int32)]
theorem lk_lat : ∀ c ∈ lk, Lat c := by decide
set_option maxRecDepth 65536 in
set_option maxHeartbeats 40000000 in
theorem expA_met {l : Launch} {Z : State} {a0 : Array Value} (hw : ∀ d ∈ tables_1, d.before a0 Z = true) (hcs : CSon Z) (hfm : Fmt Z) {h : Heap} {i pl p0 p1 p2 nl n0 n1 n2 : Int32} {j : Nat} (h1 : ¬ i < pl) (h2 : (i - pl) < (5 : Int32)) (hj : (i - pl) = Int32.ofNat j) (hj5 : j < lk.length) :
    Met l Z consts_1 ⟨"com/example/portunus/portunus/LockKeysLockKeyPinLaw", "exp", "(IICCCICCC)C"⟩ method_4_code 11 (some .char) [] { frames := 4, cells := 2, slots := 24, locals := 53 } #[.int i, .int pl, .int p0, .int p1, .int p2, .int nl, .int n0, .int n1, .int n2] h [] (fun v h' => v = some (.int lk[j]) ∧ Ext h h') := by
  refine Met.of_walk (a0 := a0) (Ls := #[.val (.int i), .val (.int pl), .val (.int p0), .val (.int p1), .val (.int p2), .val (.int nl), .val (.int n0), .val (.int n1), .val (.int n2), .unset, .unset]) (plainFor_of_name pn_4) (own_hEL hw) (Array.toList_inj.mp ((Jvm.Sym.argsToLocals_toList _ _).trans rfl)) ?_
  have hlj : Ch lk[j] := (lk_lat _ (List.getElem_mem hj5)).ch
  refine Wl.iload_n 1 d51_0 rfl ?_
  refine Wl.iload_n 2 d51_1 rfl ?_
  refine Wl.icmpY 21 d51_2 (flt h1).2.1 ?_
  refine Wl.iload_n 22 d51_21 rfl ?_
  refine Wl.iload_n 23 d51_22 rfl ?_
  refine Wl.isub 24 d51_23 ?_
  refine Wl.istore 26 #[.val (.int i), .val (.int pl), .val (.int p0), .val (.int p1), .val (.int p2), .val (.int nl), .val (.int n0), .val (.int n1), .val (.int n2), .val (.int (i - pl)), .unset] d51_24 rfl ?_
  refine Wl.iload 28 d51_26 rfl ?_
  refine Wl.iconst 29 (5 : Int32) d51_28 (by decide) ?_
  refine Wl.icmpN 32 d51_29 (tlt h2).2.1 ?_
  refine Wl.ldcS 34 20 (text := "lock:") (vs := [byV (108 : Int32), byV (111 : Int32), byV (99 : Int32), byV (107 : Int32), byV (58 : Int32)]) (z := (5 : Int32)) d51_32 (w247 hw) (own_wS hw) (by decide) ⟨by decide, by decide⟩ (by decide) (by decide) (by decide) (by decide) (nle rfl) (nle rfl) ?_
  intro a1 h2 b3 k4 E5 X6 C7 V8 A9 ne10
  have B11 : Ext h h2 := E5
  have S12 : Stl Z h2 a1 [(108 : Int32), (111 : Int32), (99 : Int32), (107 : Int32), (58 : Int32)] := ⟨b3, k4, X6, C7, V8, A9, (latC (by decide) (latC (by decide) (latC (by decide) (latC (by decide) (latC (by decide) latN))))), by decide⟩
  refine Wl.iload 36 d51_34 rfl ?_
  rw [hj]
  refine Wl.virtual 39 (argsL := [.int (Int32.ofNat j)]) d51_36 (w243 hw) (w180 hw) (w182 hw) (w181 hw) (w9 hw) (w183 hw) (nf_sel (w182 hw) rfl) X6 (show parseMethodDescriptor "(I)C" = some ⟨[.int], some .char⟩ by decide +kernel) rfl (charAt_met hw hcs hfm (cs := lk) S12 (i := j) hj5) (fun _ q => nomatch q) rfl rfl rfl (by decide) ⟨⟨nle rfl, nle rfl⟩, nle rfl, nle rfl⟩ ?_
  intro v13 h14 hq15 _
  obtain ⟨rfl, rfl⟩ := hq15
  show WlO _ _ _ _ _ _ _ _ _ _ _ _ _ _ _ _ _ _ [.int (lk[j])]
  exact Wl.ireturn d51_39 rfl (narC hlj) (by simp) (nle rfl) (nle rfl) ⟨rfl, B11⟩
set_option maxRecDepth 65536 in
set_option maxHeartbeats 40000000 in
theorem okC_met {l : Launch} {Z : State} {a0 : Array Value} (hw : ∀ d ∈ tables_1, d.before a0 Z = true) {h : Heap} {r : Addr} {tot pl p0 p1 p2 nl n0 n1 n2 : Int32} {i : Int32} (ht : ¬ i < tot) :
    Met l Z consts_1 ⟨"com/example/portunus/portunus/LockKeysLockKeyPinLaw", "ok", "(Ljava/lang/String;IIICCCICCC)Z"⟩ method_5_code 11 (some .boolean) [] { frames := 0, cells := 0, slots := 0, locals := 0 } #[.ref r, .int i, .int tot, .int pl, .int p0, .int p1, .int p2, .int nl, .int n0, .int n1, .int n2] h [] (fun v h' => v = some (.int 1) ∧ h = h') := by
  refine Met.of_walk (a0 := a0) (Ls := #[.val (.ref r), .val (.int i), .val (.int tot), .val (.int pl), .val (.int p0), .val (.int p1), .val (.int p2), .val (.int nl), .val (.int n0), .val (.int n1), .val (.int n2)]) (plainFor_of_name pn_4) (own_hEL hw) (Array.toList_inj.mp ((Jvm.Sym.argsToLocals_toList _ _).trans rfl)) ?_
  refine Wl.iload_n 1 d50_0 rfl ?_
  refine Wl.iload_n 2 d50_1 rfl ?_
  refine Wl.icmpN 5 d50_2 (flt ht).1 ?_
  refine Wl.iconst 6 (1 : Int32) d50_5 (by decide) ?_
  exact Wl.ireturn d50_6 rfl rfl (by simp) (nle rfl) (nle rfl) ⟨rfl, rfl⟩
set_option maxRecDepth 65536 in
set_option maxHeartbeats 40000000 in
theorem okB_met {l : Launch} {Z : State} {a0 : Array Value} (hw : ∀ d ∈ tables_1, d.before a0 Z = true) (hcs : CSon Z) (hfm : Fmt Z) {h : Heap} {r : Addr} {tot pl p0 p1 p2 nl n0 n1 n2 : Int32} {rs : List Int32} {n : Nat} (S : Stl Z h r rs) (hn : n < rs.length) (ht : (Int32.ofNat n) < tot) (hB : (Int32.ofNat n) < pl ∨ ¬ ((Int32.ofNat n) - pl) < (5 : Int32)) (lp0 : Lat p0) (lp1 : Lat p1) (lp2 : Lat p2) (ln0 : Lat n0) (ln1 : Lat n1) (ln2 : Lat n2) (hq : rs[n] = (expI (Int32.ofNat n) pl p0 p1 p2 nl n0 n1 n2)) :
    Met l Z consts_1 ⟨"com/example/portunus/portunus/LockKeysLockKeyPinLaw", "ok", "(Ljava/lang/String;IIICCCICCC)Z"⟩ method_5_code 11 (some .boolean) [] { frames := 4, cells := 0, slots := 0, locals := 60 } #[.ref r, .int (Int32.ofNat n), .int tot, .int pl, .int p0, .int p1, .int p2, .int nl, .int n0, .int n1, .int n2] h [] (fun v h' => v = some (.int 1) ∧ h = h') := by
  refine Met.of_walk (a0 := a0) (Ls := #[.val (.ref r), .val (.int (Int32.ofNat n)), .val (.int tot), .val (.int pl), .val (.int p0), .val (.int p1), .val (.int p2), .val (.int nl), .val (.int n0), .val (.int n1), .val (.int n2)]) (plainFor_of_name pn_4) (own_hEL hw) (Array.toList_inj.mp ((Jvm.Sym.argsToLocals_toList _ _).trans rfl)) ?_
  refine Wl.iload_n 1 d50_0 rfl ?_
  refine Wl.iload_n 2 d50_1 rfl ?_
  refine Wl.icmpY 7 d50_2 (tlt ht).1 ?_
  refine Wl.aload_n 8 d50_7 rfl rfl ?_
  refine Wl.iload_n 9 d50_8 rfl ?_
  refine Wl.virtual 12 (argsL := [.int (Int32.ofNat n)]) d50_9 (w243 hw) (w180 hw) (w182 hw) (w181 hw) (w9 hw) (w183 hw) (nf_sel (w182 hw) rfl) (S).exa (show parseMethodDescriptor "(I)C" = some ⟨[.int], some .char⟩ by decide +kernel) rfl (charAt_met hw hcs hfm S (i := n) hn) (fun _ q => nomatch q) rfl rfl rfl (by decide) ⟨⟨nle rfl, nle rfl⟩, nle rfl, nle rfl⟩ ?_
  intro v1 h2 hq3 _
  obtain ⟨rfl, rfl⟩ := hq3
  show WlO _ _ _ _ _ _ _ _ _ _ _ _ _ _ _ _ _ _ [.int (rs[n])]
  refine Wl.iload_n 13 d50_12 rfl ?_
  refine Wl.iload_n 14 d50_13 rfl ?_
  refine Wl.iload 16 d50_14 rfl ?_
  refine Wl.iload 18 d50_16 rfl ?_
  refine Wl.iload 20 d50_18 rfl ?_
  refine Wl.iload 22 d50_20 rfl ?_
  refine Wl.iload 24 d50_22 rfl ?_
  refine Wl.iload 26 d50_24 rfl ?_
  refine Wl.iload 28 d50_26 rfl ?_
  refine Wl.static 31 (argsL := [.int (Int32.ofNat n), .int pl, .int p0, .int p1, .int p2, .int nl, .int n0, .int n1, .int n2]) d50_28 (w244 hw) (w245 hw) (w2 hw) (w246 hw) (show parseMethodDescriptor "(IICCCICCC)C" = some ⟨[.int, .int, .char, .char, .char, .int, .char, .char, .char], some .char⟩ by decide +kernel) rfl (expB_met hw hB lp0 lp1 lp2 ln0 ln1 ln2) (fun _ q => nomatch q) rfl rfl rfl (by decide) ⟨⟨nle rfl, nle rfl⟩, nle rfl, nle rfl⟩ ?_
  intro v4 h5 hq6 _
  obtain ⟨rfl, rfl⟩ := hq6
  show WlO _ _ _ _ _ _ _ _ _ _ _ _ _ _ _ _ _ _ [.int (expI (Int32.ofNat n) pl p0 p1 p2 nl n0 n1 n2), .int (rs[n])]
  refine Wl.icmpN 34 d50_31 (teq hq).2 ?_
  refine Wl.iconst 35 (1 : Int32) d50_34 (by decide) ?_
  refine Wl.goto 39 d50_35 ?_
  exact Wl.ireturn d50_39 rfl rfl (by simp) (nle rfl) (nle rfl) ⟨rfl, rfl⟩
set_option maxRecDepth 65536 in
set_option maxHeartbeats 40000000 in
theorem okA_met {l : Launch} {Z : State} {a0 : Array Value} (hw : ∀ d ∈ tables_1, d.before a0 Z = true) (hcs : CSon Z) (hfm : Fmt Z) {h : Heap} {r : Addr} {tot pl p0 p1 p2 nl n0 n1 n2 : Int32} {rs : List Int32} {n j : Nat} (S : Stl Z h r rs) (hn : n < rs.length) (ht : (Int32.ofNat n) < tot) (h1 : ¬ (Int32.ofNat n) < pl) (h2 : ((Int32.ofNat n) - pl) < (5 : Int32)) (hj : ((Int32.ofNat n) - pl) = Int32.ofNat j) (hj5 : j < lk.length) (hq : rs[n] = lk[j]) :
    Met l Z consts_1 ⟨"com/example/portunus/portunus/LockKeysLockKeyPinLaw", "ok", "(Ljava/lang/String;IIICCCICCC)Z"⟩ method_5_code 11 (some .boolean) [] { frames := 5, cells := 2, slots := 24, locals := 76 } #[.ref r, .int (Int32.ofNat n), .int tot, .int pl, .int p0, .int p1, .int p2, .int nl, .int n0, .int n1, .int n2] h [] (fun v h' => v = some (.int 1) ∧ Ext h h') := by
  refine Met.of_walk (a0 := a0) (Ls := #[.val (.ref r), .val (.int (Int32.ofNat n)), .val (.int tot), .val (.int pl), .val (.int p0), .val (.int p1), .val (.int p2), .val (.int nl), .val (.int n0), .val (.int n1), .val (.int n2)]) (plainFor_of_name pn_4) (own_hEL hw) (Array.toList_inj.mp ((Jvm.Sym.argsToLocals_toList _ _).trans rfl)) ?_
  refine Wl.iload_n 1 d50_0 rfl ?_
  refine Wl.iload_n 2 d50_1 rfl ?_
  refine Wl.icmpY 7 d50_2 (tlt ht).1 ?_
  refine Wl.aload_n 8 d50_7 rfl rfl ?_
  refine Wl.iload_n 9 d50_8 rfl ?_
  refine Wl.virtual 12 (argsL := [.int (Int32.ofNat n)]) d50_9 (w243 hw) (w180 hw) (w182 hw) (w181 hw) (w9 hw) (w183 hw) (nf_sel (w182 hw) rfl) (S).exa (show parseMethodDescriptor "(I)C" = some ⟨[.int], some .char⟩ by decide +kernel) rfl (charAt_met hw hcs hfm S (i := n) hn) (fun _ q => nomatch q) rfl rfl rfl (by decide) ⟨⟨nle rfl, nle rfl⟩, nle rfl, nle rfl⟩ ?_
  intro v1 h2 hq3 _
  obtain ⟨rfl, rfl⟩ := hq3
  show WlO _ _ _ _ _ _ _ _ _ _ _ _ _ _ _ _ _ _ [.int (rs[n])]
  refine Wl.iload_n 13 d50_12 rfl ?_
  refine Wl.iload_n 14 d50_13 rfl ?_
  refine Wl.iload 16 d50_14 rfl ?_
  refine Wl.iload 18 d50_16 rfl ?_
  refine Wl.iload 20 d50_18 rfl ?_
  refine Wl.iload 22 d50_20 rfl ?_
  refine Wl.iload 24 d50_22 rfl ?_
  refine Wl.iload 26 d50_24 rfl ?_
  refine Wl.iload 28 d50_26 rfl ?_
  refine Wl.static 31 (argsL := [.int (Int32.ofNat n), .int pl, .int p0, .int p1, .int p2, .int nl, .int n0, .int n1, .int n2]) d50_28 (w244 hw) (w245 hw) (w2 hw) (w246 hw) (show parseMethodDescriptor "(IICCCICCC)C" = some ⟨[.int, .int, .char, .char, .char, .int, .char, .char, .char], some .char⟩ by decide +kernel) rfl (expA_met hw hcs hfm h1 h2 hj hj5) (fun _ q => nomatch q) rfl rfl rfl (by decide) ⟨⟨nle rfl, nle rfl⟩, nle rfl, nle rfl⟩ ?_
  intro v4 h5 hq6 _
  obtain ⟨rfl, E7⟩ := hq6
  have B8 : Ext h h5 := E7
  show WlO _ _ _ _ _ _ _ _ _ _ _ _ _ _ _ _ _ _ [.int (lk[j]), .int (rs[n])]
  refine Wl.icmpN 34 d50_31 (teq hq).2 ?_
  refine Wl.iconst 35 (1 : Int32) d50_34 (by decide) ?_
  refine Wl.goto 39 d50_35 ?_
  exact Wl.ireturn d50_39 rfl rfl (by simp) (nle rfl) (nle rfl) ⟨rfl, B8⟩
set_option maxRecDepth 65536 in
set_option maxHeartbeats 40000000 in
theorem law_t01 {l : Launch} {Z : State} {a0 : Array Value} (hw : ∀ d ∈ tables_1, d.before a0 Z = true) (hcs : CSon Z) (hfm : Fmt Z) {as : Array Value} {h : Heap} {i0 i1 i2 p0 p1 p2 n0 n1 n2 : Int32} (lp0 : Lat p0) (lp1 : Lat p1) (lp2 : Lat p2) (ln0 : Lat n0) (ln1 : Lat n1) (ln2 : Lat n2) (p0123 : p0 ≠ 123) (p0125 : p0 ≠ 125) (p1123 : p1 ≠ 123) (p1125 : p1 ≠ 125) (p2123 : p2 ≠ 123) (p2125 : p2 ≠ 125) (hn0 : ¬ n0 = (125 : Int32)) :
    Wl l Z a0 consts_1 x code maxLocals ret room_1 as (fun v h' => v = some (.int 1)) [] h 0 0 80 #[.val (.int i0), .val (.int i1), .val (.int i2), .val (.int (0 : Int32)), .val (.int (1 : Int32)), .val (.int p0), .val (.int p1), .val (.int p2), .val (.int n0), .val (.int n1), .val (.int n2), .unset, .unset, .unset, .unset, .unset] [] := by
  refine Wl.iload_n 81 at_80 rfl ?_
  refine Wl.iload 83 at_81 rfl ?_
  refine Wl.iload 85 at_83 rfl ?_
  refine Wl.iload 87 at_85 rfl ?_
  refine Wl.static 90 (argsL := [.int (0 : Int32), .int p0, .int p1, .int p2]) at_87 (w4 hw) (w5 hw) (w2 hw) (w6 hw) (show parseMethodDescriptor "(ICCC)Ljava/lang/String;" = some ⟨[.int, .char, .char, .char], some (.object "java/lang/String")⟩ by decide +kernel) rfl (mk0_met hw hcs lp0 lp1 lp2) (fun _ q => nomatch q) rfl rfl rfl (by decide) ⟨⟨nle rfl, nle rfl⟩, nle rfl, nle rfl⟩ ?_
  intro v1 h2 hq3 _
  obtain ⟨a4, rfl, E5, S6⟩ := hq3
  have B7 : Ext h h2 := E5
  show WlO _ _ _ _ _ _ _ _ _ _ _ _ _ _ _ _ _ _ [.ref a4]
  refine Wl.astore 92 #[.val (.int i0), .val (.int i1), .val (.int i2), .val (.int (0 : Int32)), .val (.int (1 : Int32)), .val (.int p0), .val (.int p1), .val (.int p2), .val (.int n0), .val (.int n1), .val (.int n2), .val (.ref a4), .unset, .unset, .unset, .unset] at_90 rfl rfl ?_
  refine Wl.iload 94 at_92 rfl ?_
  refine Wl.iload 96 at_94 rfl ?_
  refine Wl.iload 98 at_96 rfl ?_
  refine Wl.iload 100 at_98 rfl ?_
  refine Wl.static 103 (argsL := [.int (1 : Int32), .int n0, .int n1, .int n2]) at_100 (w4 hw) (w5 hw) (w2 hw) (w6 hw) (show parseMethodDescriptor "(ICCC)Ljava/lang/String;" = some ⟨[.int, .char, .char, .char], some (.object "java/lang/String")⟩ by decide +kernel) rfl (mk1_met hw hcs ln0 ln1 ln2) (fun _ q => nomatch q) rfl rfl rfl (by decide) ⟨⟨nle rfl, nle rfl⟩, nle rfl, nle rfl⟩ ?_
  intro v8 h9 hq10 _
  obtain ⟨a11, rfl, E12, S13⟩ := hq10
  have B14 : Ext h h9 := extTr B7 E12
  show WlO _ _ _ _ _ _ _ _ _ _ _ _ _ _ _ _ _ _ [.ref a11]
  refine Wl.astore 105 #[.val (.int i0), .val (.int i1), .val (.int i2), .val (.int (0 : Int32)), .val (.int (1 : Int32)), .val (.int p0), .val (.int p1), .val (.int p2), .val (.int n0), .val (.int n1), .val (.int n2), .val (.ref a4), .val (.ref a11), .unset, .unset, .unset] at_103 rfl rfl ?_
  refine Wl.new 108 at_105 (w51 hw) (w52 hw) (w53 hw) (nle rfl) (nle rfl) ?_
  intro a15 h16 q17 E18 X19 D20
  have z21 : h.size ≤ a15 := Nat.le_trans B14.1 (Nat.le_of_eq q17.symm)
  have z22 : h9.size ≤ a15 := Nat.le_of_eq q17.symm
  have ne23 : a4 ≠ a15 := Nat.ne_of_lt (by rw [q17]; exact (((S6).exa.ext E12)).lt)
  have ne24 : a11 ≠ a15 := Nat.ne_of_lt (by rw [q17]; exact ((S13).exa).lt)
  have B25 : Ext h h16 := extTr B14 E18
  have B26 : Ext h9 h16 := E18
  have F27 : Fld Z h16 a15 "com/example/portunus/portunus/LockKeys" "prefix" "Ljava/lang/String;" (.null) := D20 (Or.inr (w107 hw)) (ty := (.object "java/lang/String")) (by decide)
  refine Wl.dup 109 at_108 rfl ?_
  refine Wl.aload 111 at_109 rfl rfl ?_
  refine Wl.special 114 (argsL := [.ref a4]) at_111 (w54 hw) (w55 hw) (w53 hw) (w56 hw) (show parseMethodDescriptor "(Ljava/lang/String;)V" = some ⟨[(.object "java/lang/String")], none⟩ by decide +kernel) rfl (keys_met hw hcs X19 F27 (cs := []) ((S6.ext E12).ext E18) neN neN) (allS (List.mem_of_getElem? (i := 0) rfl) (fun _ q => nomatch q)) rfl rfl rfl rfl (by decide) ⟨⟨nle rfl, nle rfl⟩, nle rfl, nle rfl⟩ ?_
  intro v28 h29 hq30 _
  obtain ⟨rfl, K31, X32, F33⟩ := hq30
  have B34 : Ext h h29 := extKeep B25 K31 (allS z21 all0)
  have B35 : Ext h9 h29 := extKeep B26 K31 (allS z22 all0)
  show WlO _ _ _ _ _ _ _ _ _ _ _ _ _ _ _ _ _ _ [.ref a15]
  refine Wl.astore 116 #[.val (.int i0), .val (.int i1), .val (.int i2), .val (.int (0 : Int32)), .val (.int (1 : Int32)), .val (.int p0), .val (.int p1), .val (.int p2), .val (.int n0), .val (.int n1), .val (.int n2), .val (.ref a4), .val (.ref a11), .val (.ref a15), .unset, .unset] at_114 rfl rfl ?_
  refine Wl.aload 118 at_116 rfl rfl ?_
  refine Wl.aload 120 at_118 rfl rfl ?_
  refine Wl.virtual 123 (argsL := [.ref a11]) at_120 (w108 hw) (w109 hw) (w111 hw) (w110 hw) (w53 hw) (w112 hw) (nf_sel (w111 hw) rfl) X32 (show parseMethodDescriptor "(Ljava/lang/String;)Ljava/lang/String;" = some ⟨[(.object "java/lang/String")], some (.object "java/lang/String")⟩ by decide +kernel) rfl (key_met hw hcs hfm (cs := [n0]) (ps := []) F33 ((S6.ext E12).ext B35) (nle rfl) (S13.ext B35) (by simp) (nle rfl) hn0 (nle rfl)) (fun _ q => nomatch q) rfl rfl rfl (by decide) ⟨⟨nle rfl, nle rfl⟩, nle rfl, nle rfl⟩ ?_
  intro v36 h37 hq38 _
  obtain ⟨s39, rfl, E40, S41⟩ := hq38
  have S41 : Stl Z h37 s39 [(108 : Int32), (111 : Int32), (99 : Int32), (107 : Int32), (58 : Int32), (123 : Int32), n0, (125 : Int32)] := S41
  have B42 : Ext h h37 := extTr B34 E40
  have B43 : Ext h9 h37 := extTr B35 E40
  show WlO _ _ _ _ _ _ _ _ _ _ _ _ _ _ _ _ _ _ [.ref s39]
  refine Wl.astore 125 #[.val (.int i0), .val (.int i1), .val (.int i2), .val (.int (0 : Int32)), .val (.int (1 : Int32)), .val (.int p0), .val (.int p1), .val (.int p2), .val (.int n0), .val (.int n1), .val (.int n2), .val (.ref a4), .val (.ref a11), .val (.ref a15), .val (.ref s39), .unset] at_123 rfl rfl ?_
  refine Wl.iload_n 126 at_125 rfl ?_
  refine Wl.iload 128 at_126 rfl ?_
  refine Wl.iadd 129 at_128 ?_
  show WlO _ _ _ _ _ _ _ _ _ _ _ _ _ _ _ _ _ _ [.int (1 : Int32)]
  refine Wl.bipush 131 (7 : Int32) at_129 (by decide) ?_
  refine Wl.iadd 132 at_131 ?_
  show WlO _ _ _ _ _ _ _ _ _ _ _ _ _ _ _ _ _ _ [.int (8 : Int32)]
  refine Wl.istore 134 #[.val (.int i0), .val (.int i1), .val (.int i2), .val (.int (0 : Int32)), .val (.int (1 : Int32)), .val (.int p0), .val (.int p1), .val (.int p2), .val (.int n0), .val (.int n1), .val (.int n2), .val (.ref a4), .val (.ref a11), .val (.ref a15), .val (.ref s39), .val (.int (8 : Int32))] at_132 rfl ?_
  refine Wl.aload 136 at_134 rfl rfl ?_
  refine Wl.ifnullN 139 at_136 ?_
  refine Wl.aload 141 at_139 rfl rfl ?_
  refine Wl.virtual 144 (argsL := []) at_141 (w239 hw) (w81 hw) (w83 hw) (w82 hw) (w9 hw) (w84 hw) (nf_sel (w83 hw) rfl) (S41).exa (show parseMethodDescriptor "()I" = some ⟨[], some .int⟩ by decide +kernel) rfl (len_met hw hcs S41) (fun _ q => nomatch q) rfl rfl rfl (by decide) ⟨⟨nle rfl, nle rfl⟩, nle rfl, nle rfl⟩ ?_
  intro v44 h45 hq46 _
  obtain ⟨rfl, rfl⟩ := hq46
  show WlO _ _ _ _ _ _ _ _ _ _ _ _ _ _ _ _ _ _ [.int (8 : Int32)]
  refine Wl.iload 146 at_144 rfl ?_
  refine Wl.icmpY 151 at_146 (teq (by decide)).1 ?_
  refine Wl.aload 153 at_151 rfl rfl ?_
  refine Wl.iconst 154 (0 : Int32) at_153 (by decide) ?_
  refine Wl.iload 156 at_154 rfl ?_
  refine Wl.iload_n 157 at_156 rfl ?_
  refine Wl.iload 159 at_157 rfl ?_
  refine Wl.iload 161 at_159 rfl ?_
  refine Wl.iload 163 at_161 rfl ?_
  refine Wl.iload 165 at_163 rfl ?_
  refine Wl.iload 167 at_165 rfl ?_
  refine Wl.iload 169 at_167 rfl ?_
  refine Wl.iload 171 at_169 rfl ?_
  refine Wl.static 174 (argsL := [.ref s39, .int (0 : Int32), .int (8 : Int32), .int (0 : Int32), .int p0, .int p1, .int p2, .int (1 : Int32), .int n0, .int n1, .int n2]) at_171 (w240 hw) (w241 hw) (w2 hw) (w242 hw) (show parseMethodDescriptor "(Ljava/lang/String;IIICCCICCC)Z" = some ⟨[(.object "java/lang/String"), .int, .int, .int, .char, .char, .char, .int, .char, .char, .char], some .boolean⟩ by decide +kernel) rfl (okA_met hw hcs hfm (rs := [(108 : Int32), (111 : Int32), (99 : Int32), (107 : Int32), (58 : Int32), (123 : Int32), n0, (125 : Int32)]) (n := 0) (j := 0) S41 (nle rfl) (by decide) (by decide) (by decide) (by decide) (nle rfl) rfl) (fun _ q => nomatch q) rfl rfl rfl (by decide) ⟨⟨nle rfl, nle rfl⟩, nle rfl, nle rfl⟩ ?_
  intro v47 h48 hq49 _
  obtain ⟨rfl, E50⟩ := hq49
  have B51 : Ext h h48 := extTr B42 E50
  have B52 : Ext h9 h48 := extTr B43 E50
  show WlO _ _ _ _ _ _ _ _ _ _ _ _ _ _ _ _ _ _ [.int (1 : Int32)]
  refine Wl.ifN 177 at_174 (feq (by decide)).1 ?_
  refine Wl.aload 179 at_177 rfl rfl ?_
  refine Wl.iconst 180 (1 : Int32) at_179 (by decide) ?_
  refine Wl.iload 182 at_180 rfl ?_
  refine Wl.iload_n 183 at_182 rfl ?_
  refine Wl.iload 185 at_183 rfl ?_
  refine Wl.iload 187 at_185 rfl ?_
  refine Wl.iload 189 at_187 rfl ?_
  refine Wl.iload 191 at_189 rfl ?_
  refine Wl.iload 193 at_191 rfl ?_
  refine Wl.iload 195 at_193 rfl ?_
  refine Wl.iload 197 at_195 rfl ?_
  refine Wl.static 200 (argsL := [.ref s39, .int (1 : Int32), .int (8 : Int32), .int (0 : Int32), .int p0, .int p1, .int p2, .int (1 : Int32), .int n0, .int n1, .int n2]) at_197 (w240 hw) (w241 hw) (w2 hw) (w242 hw) (show parseMethodDescriptor "(Ljava/lang/String;IIICCCICCC)Z" = some ⟨[(.object "java/lang/String"), .int, .int, .int, .char, .char, .char, .int, .char, .char, .char], some .boolean⟩ by decide +kernel) rfl (okA_met hw hcs hfm (rs := [(108 : Int32), (111 : Int32), (99 : Int32), (107 : Int32), (58 : Int32), (123 : Int32), n0, (125 : Int32)]) (n := 1) (j := 1) (S41.ext E50) (nle rfl) (by decide) (by decide) (by decide) (by decide) (nle rfl) rfl) (fun _ q => nomatch q) rfl rfl rfl (by decide) ⟨⟨nle rfl, nle rfl⟩, nle rfl, nle rfl⟩ ?_
  intro v53 h54 hq55 _
  obtain ⟨rfl, E56⟩ := hq55
  have B57 : Ext h h54 := extTr B51 E56
  have B58 : Ext h9 h54 := extTr B52 E56
  show WlO _ _ _ _ _ _ _ _ _ _ _ _ _ _ _ _ _ _ [.int (1 : Int32)]
  refine Wl.ifN 203 at_200 (feq (by decide)).1 ?_
  refine Wl.aload 205 at_203 rfl rfl ?_
  refine Wl.iconst 206 (2 : Int32) at_205 (by decide) ?_
  refine Wl.iload 208 at_206 rfl ?_
  refine Wl.iload_n 209 at_208 rfl ?_
  refine Wl.iload 211 at_209 rfl ?_
  refine Wl.iload 213 at_211 rfl ?_
  refine Wl.iload 215 at_213 rfl ?_
  refine Wl.iload 217 at_215 rfl ?_
  refine Wl.iload 219 at_217 rfl ?_
  refine Wl.iload 221 at_219 rfl ?_
  refine Wl.iload 223 at_221 rfl ?_
  refine Wl.static 226 (argsL := [.ref s39, .int (2 : Int32), .int (8 : Int32), .int (0 : Int32), .int p0, .int p1, .int p2, .int (1 : Int32), .int n0, .int n1, .int n2]) at_223 (w240 hw) (w241 hw) (w2 hw) (w242 hw) (show parseMethodDescriptor "(Ljava/lang/String;IIICCCICCC)Z" = some ⟨[(.object "java/lang/String"), .int, .int, .int, .char, .char, .char, .int, .char, .char, .char], some .boolean⟩ by decide +kernel) rfl (okA_met hw hcs hfm (rs := [(108 : Int32), (111 : Int32), (99 : Int32), (107 : Int32), (58 : Int32), (123 : Int32), n0, (125 : Int32)]) (n := 2) (j := 2) ((S41.ext E50).ext E56) (nle rfl) (by decide) (by decide) (by decide) (by decide) (nle rfl) rfl) (fun _ q => nomatch q) rfl rfl rfl (by decide) ⟨⟨nle rfl, nle rfl⟩, nle rfl, nle rfl⟩ ?_
  intro v59 h60 hq61 _
  obtain ⟨rfl, E62⟩ := hq61
  have B63 : Ext h h60 := extTr B57 E62
  have B64 : Ext h9 h60 := extTr B58 E62
  show WlO _ _ _ _ _ _ _ _ _ _ _ _ _ _ _ _ _ _ [.int (1 : Int32)]
  refine Wl.ifN 229 at_226 (feq (by decide)).1 ?_
  refine Wl.aload 231 at_229 rfl rfl ?_
  refine Wl.iconst 232 (3 : Int32) at_231 (by decide) ?_
  refine Wl.iload 234 at_232 rfl ?_
  refine Wl.iload_n 235 at_234 rfl ?_
  refine Wl.iload 237 at_235 rfl ?_
  refine Wl.iload 239 at_237 rfl ?_
  refine Wl.iload 241 at_239 rfl ?_
  refine Wl.iload 243 at_241 rfl ?_
  refine Wl.iload 245 at_243 rfl ?_
  refine Wl.iload 247 at_245 rfl ?_
  refine Wl.iload 249 at_247 rfl ?_
  refine Wl.static 252 (argsL := [.ref s39, .int (3 : Int32), .int (8 : Int32), .int (0 : Int32), .int p0, .int p1, .int p2, .int (1 : Int32), .int n0, .int n1, .int n2]) at_249 (w240 hw) (w241 hw) (w2 hw) (w242 hw) (show parseMethodDescriptor "(Ljava/lang/String;IIICCCICCC)Z" = some ⟨[(.object "java/lang/String"), .int, .int, .int, .char, .char, .char, .int, .char, .char, .char], some .boolean⟩ by decide +kernel) rfl (okA_met hw hcs hfm (rs := [(108 : Int32), (111 : Int32), (99 : Int32), (107 : Int32), (58 : Int32), (123 : Int32), n0, (125 : Int32)]) (n := 3) (j := 3) (((S41.ext E50).ext E56).ext E62) (nle rfl) (by decide) (by decide) (by decide) (by decide) (nle rfl) rfl) (fun _ q => nomatch q) rfl rfl rfl (by decide) ⟨⟨nle rfl, nle rfl⟩, nle rfl, nle rfl⟩ ?_
  intro v65 h66 hq67 _
  obtain ⟨rfl, E68⟩ := hq67
  have B69 : Ext h h66 := extTr B63 E68
  have B70 : Ext h9 h66 := extTr B64 E68
  show WlO _ _ _ _ _ _ _ _ _ _ _ _ _ _ _ _ _ _ [.int (1 : Int32)]
  refine Wl.ifN 255 at_252 (feq (by decide)).1 ?_
  refine Wl.aload 257 at_255 rfl rfl ?_
  refine Wl.iconst 258 (4 : Int32) at_257 (by decide) ?_
  refine Wl.iload 260 at_258 rfl ?_
  refine Wl.iload_n 261 at_260 rfl ?_
  refine Wl.iload 263 at_261 rfl ?_
  refine Wl.iload 265 at_263 rfl ?_
  refine Wl.iload 267 at_265 rfl ?_
  refine Wl.iload 269 at_267 rfl ?_
  refine Wl.iload 271 at_269 rfl ?_
  refine Wl.iload 273 at_271 rfl ?_
  refine Wl.iload 275 at_273 rfl ?_
  refine Wl.static 278 (argsL := [.ref s39, .int (4 : Int32), .int (8 : Int32), .int (0 : Int32), .int p0, .int p1, .int p2, .int (1 : Int32), .int n0, .int n1, .int n2]) at_275 (w240 hw) (w241 hw) (w2 hw) (w242 hw) (show parseMethodDescriptor "(Ljava/lang/String;IIICCCICCC)Z" = some ⟨[(.object "java/lang/String"), .int, .int, .int, .char, .char, .char, .int, .char, .char, .char], some .boolean⟩ by decide +kernel) rfl (okA_met hw hcs hfm (rs := [(108 : Int32), (111 : Int32), (99 : Int32), (107 : Int32), (58 : Int32), (123 : Int32), n0, (125 : Int32)]) (n := 4) (j := 4) ((((S41.ext E50).ext E56).ext E62).ext E68) (nle rfl) (by decide) (by decide) (by decide) (by decide) (nle rfl) rfl) (fun _ q => nomatch q) rfl rfl rfl (by decide) ⟨⟨nle rfl, nle rfl⟩, nle rfl, nle rfl⟩ ?_
  intro v71 h72 hq73 _
  obtain ⟨rfl, E74⟩ := hq73
  have B75 : Ext h h72 := extTr B69 E74
  have B76 : Ext h9 h72 := extTr B70 E74
  show WlO _ _ _ _ _ _ _ _ _ _ _ _ _ _ _ _ _ _ [.int (1 : Int32)]
  refine Wl.ifN 281 at_278 (feq (by decide)).1 ?_
  refine Wl.aload 283 at_281 rfl rfl ?_
  refine Wl.iconst 284 (5 : Int32) at_283 (by decide) ?_
  refine Wl.iload 286 at_284 rfl ?_
  refine Wl.iload_n 287 at_286 rfl ?_
  refine Wl.iload 289 at_287 rfl ?_
  refine Wl.iload 291 at_289 rfl ?_
  refine Wl.iload 293 at_291 rfl ?_
  refine Wl.iload 295 at_293 rfl ?_
  refine Wl.iload 297 at_295 rfl ?_
  refine Wl.iload 299 at_297 rfl ?_
  refine Wl.iload 301 at_299 rfl ?_
  refine Wl.static 304 (argsL := [.ref s39, .int (5 : Int32), .int (8 : Int32), .int (0 : Int32), .int p0, .int p1, .int p2, .int (1 : Int32), .int n0, .int n1, .int n2]) at_301 (w240 hw) (w241 hw) (w2 hw) (w242 hw) (show parseMethodDescriptor "(Ljava/lang/String;IIICCCICCC)Z" = some ⟨[(.object "java/lang/String"), .int, .int, .int, .char, .char, .char, .int, .char, .char, .char], some .boolean⟩ by decide +kernel) rfl (okB_met hw hcs hfm (rs := [(108 : Int32), (111 : Int32), (99 : Int32), (107 : Int32), (58 : Int32), (123 : Int32), n0, (125 : Int32)]) (n := 5) (((((S41.ext E50).ext E56).ext E62).ext E68).ext E74) (nle rfl) (by decide) (by decide) lp0 lp1 lp2 ln0 ln1 ln2 (show (123 : Int32) = expI (5 : Int32) (0 : Int32) p0 p1 p2 (1 : Int32) n0 n1 n2 by rw [expI, if_neg (by decide), if_pos (by decide)])) (fun _ q => nomatch q) rfl rfl rfl (by decide) ⟨⟨nle rfl, nle rfl⟩, nle rfl, nle rfl⟩ ?_
  intro v77 h78 hq79 _
  obtain ⟨rfl, rfl⟩ := hq79
  show WlO _ _ _ _ _ _ _ _ _ _ _ _ _ _ _ _ _ _ [.int (1 : Int32)]
  refine Wl.ifN 307 at_304 (feq (by decide)).1 ?_
  refine Wl.aload 309 at_307 rfl rfl ?_
  refine Wl.bipush 311 (6 : Int32) at_309 (by decide) ?_
  refine Wl.iload 313 at_311 rfl ?_
  refine Wl.iload_n 314 at_313 rfl ?_
  refine Wl.iload 316 at_314 rfl ?_
  refine Wl.iload 318 at_316 rfl ?_
  refine Wl.iload 320 at_318 rfl ?_
  refine Wl.iload 322 at_320 rfl ?_
  refine Wl.iload 324 at_322 rfl ?_
  refine Wl.iload 326 at_324 rfl ?_
  refine Wl.iload 328 at_326 rfl ?_
  refine Wl.static 331 (argsL := [.ref s39, .int (6 : Int32), .int (8 : Int32), .int (0 : Int32), .int p0, .int p1, .int p2, .int (1 : Int32), .int n0, .int n1, .int n2]) at_328 (w240 hw) (w241 hw) (w2 hw) (w242 hw) (show parseMethodDescriptor "(Ljava/lang/String;IIICCCICCC)Z" = some ⟨[(.object "java/lang/String"), .int, .int, .int, .char, .char, .char, .int, .char, .char, .char], some .boolean⟩ by decide +kernel) rfl (okB_met hw hcs hfm (rs := [(108 : Int32), (111 : Int32), (99 : Int32), (107 : Int32), (58 : Int32), (123 : Int32), n0, (125 : Int32)]) (n := 6) (((((S41.ext E50).ext E56).ext E62).ext E68).ext E74) (nle rfl) (by decide) (by decide) lp0 lp1 lp2 ln0 ln1 ln2 (show n0 = expI (6 : Int32) (0 : Int32) p0 p1 p2 (1 : Int32) n0 n1 n2 by rw [expI, if_neg (by decide), if_neg (by decide), if_pos (by decide), if_pos (by decide)])) (fun _ q => nomatch q) rfl rfl rfl (by decide) ⟨⟨nle rfl, nle rfl⟩, nle rfl, nle rfl⟩ ?_
  intro v80 h81 hq82 _
  obtain ⟨rfl, rfl⟩ := hq82
  show WlO _ _ _ _ _ _ _ _ _ _ _ _ _ _ _ _ _ _ [.int (1 : Int32)]
  refine Wl.ifN 334 at_331 (feq (by decide)).1 ?_
  refine Wl.aload 336 at_334 rfl rfl ?_
  refine Wl.bipush 338 (7 : Int32) at_336 (by decide) ?_
  refine Wl.iload 340 at_338 rfl ?_
  refine Wl.iload_n 341 at_340 rfl ?_
  refine Wl.iload 343 at_341 rfl ?_
  refine Wl.iload 345 at_343 rfl ?_
  refine Wl.iload 347 at_345 rfl ?_
  refine Wl.iload 349 at_347 rfl ?_
  refine Wl.iload 351 at_349 rfl ?_
  refine Wl.iload 353 at_351 rfl ?_
  refine Wl.iload 355 at_353 rfl ?_
  refine Wl.static 358 (argsL := [.ref s39, .int (7 : Int32), .int (8 : Int32), .int (0 : Int32), .int p0, .int p1, .int p2, .int (1 : Int32), .int n0, .int n1, .int n2]) at_355 (w240 hw) (w241 hw) (w2 hw) (w242 hw) (show parseMethodDescriptor "(Ljava/lang/String;IIICCCICCC)Z" = some ⟨[(.object "java/lang/String"), .int, .int, .int, .char, .char, .char, .int, .char, .char, .char], some .boolean⟩ by decide +kernel) rfl (okB_met hw hcs hfm (rs := [(108 : Int32), (111 : Int32), (99 : Int32), (107 : Int32), (58 : Int32), (123 : Int32), n0, (125 : Int32)]) (n := 7) (((((S41.ext E50).ext E56).ext E62).ext E68).ext E74) (nle rfl) (by decide) (by decide) lp0 lp1 lp2 ln0 ln1 ln2 (show (125 : Int32) = expI (7 : Int32) (0 : Int32) p0 p1 p2 (1 : Int32) n0 n1 n2 by rw [expI, if_neg (by decide), if_neg (by decide), if_neg (by decide)])) (fun _ q => nomatch q) rfl rfl rfl (by decide) ⟨⟨nle rfl, nle rfl⟩, nle rfl, nle rfl⟩ ?_
  intro v83 h84 hq85 _
  obtain ⟨rfl, rfl⟩ := hq85
  show WlO _ _ _ _ _ _ _ _ _ _ _ _ _ _ _ _ _ _ [.int (1 : Int32)]
  refine Wl.ifN 361 at_358 (feq (by decide)).1 ?_
  refine Wl.aload 363 at_361 rfl rfl ?_
  refine Wl.bipush 365 (8 : Int32) at_363 (by decide) ?_
  refine Wl.iload 367 at_365 rfl ?_
  refine Wl.iload_n 368 at_367 rfl ?_
  refine Wl.iload 370 at_368 rfl ?_
  refine Wl.iload 372 at_370 rfl ?_
  refine Wl.iload 374 at_372 rfl ?_
  refine Wl.iload 376 at_374 rfl ?_
  refine Wl.iload 378 at_376 rfl ?_
  refine Wl.iload 380 at_378 rfl ?_
  refine Wl.iload 382 at_380 rfl ?_
  refine Wl.static 385 (argsL := [.ref s39, .int (8 : Int32), .int (8 : Int32), .int (0 : Int32), .int p0, .int p1, .int p2, .int (1 : Int32), .int n0, .int n1, .int n2]) at_382 (w240 hw) (w241 hw) (w2 hw) (w242 hw) (show parseMethodDescriptor "(Ljava/lang/String;IIICCCICCC)Z" = some ⟨[(.object "java/lang/String"), .int, .int, .int, .char, .char, .char, .int, .char, .char, .char], some .boolean⟩ by decide +kernel) rfl (okC_met hw (by decide)) (fun _ q => nomatch q) rfl rfl rfl (by decide) ⟨⟨nle rfl, nle rfl⟩, nle rfl, nle rfl⟩ ?_
  intro v86 h87 hq88 _
  obtain ⟨rfl, rfl⟩ := hq88
  show WlO _ _ _ _ _ _ _ _ _ _ _ _ _ _ _ _ _ _ [.int (1 : Int32)]
  refine Wl.ifN 388 at_385 (feq (by decide)).1 ?_
  refine Wl.aload 390 at_388 rfl rfl ?_
  refine Wl.bipush 392 (9 : Int32) at_390 (by decide) ?_
  refine Wl.iload 394 at_392 rfl ?_
  refine Wl.iload_n 395 at_394 rfl ?_
  refine Wl.iload 397 at_395 rfl ?_
  refine Wl.iload 399 at_397 rfl ?_
  refine Wl.iload 401 at_399 rfl ?_
  refine Wl.iload 403 at_401 rfl ?_
  refine Wl.iload 405 at_403 rfl ?_
  refine Wl.iload 407 at_405 rfl ?_
  refine Wl.iload 409 at_407 rfl ?_
  refine Wl.static 412 (argsL := [.ref s39, .int (9 : Int32), .int (8 : Int32), .int (0 : Int32), .int p0, .int p1, .int p2, .int (1 : Int32), .int n0, .int n1, .int n2]) at_409 (w240 hw) (w241 hw) (w2 hw) (w242 hw) (show parseMethodDescriptor "(Ljava/lang/String;IIICCCICCC)Z" = some ⟨[(.object "java/lang/String"), .int, .int, .int, .char, .char, .char, .int, .char, .char, .char], some .boolean⟩ by decide +kernel) rfl (okC_met hw (by decide)) (fun _ q => nomatch q) rfl rfl rfl (by decide) ⟨⟨nle rfl, nle rfl⟩, nle rfl, nle rfl⟩ ?_
  intro v89 h90 hq91 _
  obtain ⟨rfl, rfl⟩ := hq91
  show WlO _ _ _ _ _ _ _ _ _ _ _ _ _ _ _ _ _ _ [.int (1 : Int32)]
  refine Wl.ifN 415 at_412 (feq (by decide)).1 ?_
  refine Wl.aload 417 at_415 rfl rfl ?_
  refine Wl.bipush 419 (10 : Int32) at_417 (by decide) ?_
  refine Wl.iload 421 at_419 rfl ?_
  refine Wl.iload_n 422 at_421 rfl ?_
  refine Wl.iload 424 at_422 rfl ?_
  refine Wl.iload 426 at_424 rfl ?_
  refine Wl.iload 428 at_426 rfl ?_
  refine Wl.iload 430 at_428 rfl ?_
  refine Wl.iload 432 at_430 rfl ?_
  refine Wl.iload 434 at_432 rfl ?_
  refine Wl.iload 436 at_434 rfl ?_
  refine Wl.static 439 (argsL := [.ref s39, .int (10 : Int32), .int (8 : Int32), .int (0 : Int32), .int p0, .int p1, .int p2, .int (1 : Int32), .int n0, .int n1, .int n2]) at_436 (w240 hw) (w241 hw) (w2 hw) (w242 hw) (show parseMethodDescriptor "(Ljava/lang/String;IIICCCICCC)Z" = some ⟨[(.object "java/lang/String"), .int, .int, .int, .char, .char, .char, .int, .char, .char, .char], some .boolean⟩ by decide +kernel) rfl (okC_met hw (by decide)) (fun _ q => nomatch q) rfl rfl rfl (by decide) ⟨⟨nle rfl, nle rfl⟩, nle rfl, nle rfl⟩ ?_
  intro v92 h93 hq94 _
  obtain ⟨rfl, rfl⟩ := hq94
  show WlO _ _ _ _ _ _ _ _ _ _ _ _ _ _ _ _ _ _ [.int (1 : Int32)]
  refine Wl.ifN 442 at_439 (feq (by decide)).1 ?_
  refine Wl.aload 444 at_442 rfl rfl ?_
  refine Wl.bipush 446 (11 : Int32) at_444 (by decide) ?_
  refine Wl.iload 448 at_446 rfl ?_
  refine Wl.iload_n 449 at_448 rfl ?_
  refine Wl.iload 451 at_449 rfl ?_
  refine Wl.iload 453 at_451 rfl ?_
  refine Wl.iload 455 at_453 rfl ?_
  refine Wl.iload 457 at_455 rfl ?_
  refine Wl.iload 459 at_457 rfl ?_
  refine Wl.iload 461 at_459 rfl ?_
  refine Wl.iload 463 at_461 rfl ?_
  refine Wl.static 466 (argsL := [.ref s39, .int (11 : Int32), .int (8 : Int32), .int (0 : Int32), .int p0, .int p1, .int p2, .int (1 : Int32), .int n0, .int n1, .int n2]) at_463 (w240 hw) (w241 hw) (w2 hw) (w242 hw) (show parseMethodDescriptor "(Ljava/lang/String;IIICCCICCC)Z" = some ⟨[(.object "java/lang/String"), .int, .int, .int, .char, .char, .char, .int, .char, .char, .char], some .boolean⟩ by decide +kernel) rfl (okC_met hw (by decide)) (fun _ q => nomatch q) rfl rfl rfl (by decide) ⟨⟨nle rfl, nle rfl⟩, nle rfl, nle rfl⟩ ?_
  intro v95 h96 hq97 _
  obtain ⟨rfl, rfl⟩ := hq97
  show WlO _ _ _ _ _ _ _ _ _ _ _ _ _ _ _ _ _ _ [.int (1 : Int32)]
  refine Wl.ifN 469 at_466 (feq (by decide)).1 ?_
  refine Wl.aload 471 at_469 rfl rfl ?_
  refine Wl.bipush 473 (12 : Int32) at_471 (by decide) ?_
  refine Wl.iload 475 at_473 rfl ?_
  refine Wl.iload_n 476 at_475 rfl ?_
  refine Wl.iload 478 at_476 rfl ?_
  refine Wl.iload 480 at_478 rfl ?_
  refine Wl.iload 482 at_480 rfl ?_
  refine Wl.iload 484 at_482 rfl ?_
  refine Wl.iload 486 at_484 rfl ?_
  refine Wl.iload 488 at_486 rfl ?_
  refine Wl.iload 490 at_488 rfl ?_
  refine Wl.static 493 (argsL := [.ref s39, .int (12 : Int32), .int (8 : Int32), .int (0 : Int32), .int p0, .int p1, .int p2, .int (1 : Int32), .int n0, .int n1, .int n2]) at_490 (w240 hw) (w241 hw) (w2 hw) (w242 hw) (show parseMethodDescriptor "(Ljava/lang/String;IIICCCICCC)Z" = some ⟨[(.object "java/lang/String"), .int, .int, .int, .char, .char, .char, .int, .char, .char, .char], some .boolean⟩ by decide +kernel) rfl (okC_met hw (by decide)) (fun _ q => nomatch q) rfl rfl rfl (by decide) ⟨⟨nle rfl, nle rfl⟩, nle rfl, nle rfl⟩ ?_
  intro v98 h99 hq100 _
  obtain ⟨rfl, rfl⟩ := hq100
  show WlO _ _ _ _ _ _ _ _ _ _ _ _ _ _ _ _ _ _ [.int (1 : Int32)]
  refine Wl.ifN 496 at_493 (feq (by decide)).1 ?_
  refine Wl.iconst 497 (1 : Int32) at_496 (by decide) ?_
  refine Wl.goto 501 at_497 ?_
  exact Wl.ireturn at_501 rfl rfl (by simp) (nle rfl) (nle rfl) rfl
set_option maxRecDepth 65536 in
set_option maxHeartbeats 40000000 in
theorem law_t02 {l : Launch} {Z : State} {a0 : Array Value} (hw : ∀ d ∈ tables_1, d.before a0 Z = true) (hcs : CSon Z) (hfm : Fmt Z) {as : Array Value} {h : Heap} {i0 i1 i2 p0 p1 p2 n0 n1 n2 : Int32} (lp0 : Lat p0) (lp1 : Lat p1) (lp2 : Lat p2) (ln0 : Lat n0) (ln1 : Lat n1) (ln2 : Lat n2) (p0123 : p0 ≠ 123) (p0125 : p0 ≠ 125) (p1123 : p1 ≠ 123) (p1125 : p1 ≠ 125) (p2123 : p2 ≠ 123) (p2125 : p2 ≠ 125) (hn0 : ¬ n0 = (125 : Int32)) :
    Wl l Z a0 consts_1 x code maxLocals ret room_1 as (fun v h' => v = some (.int 1)) [] h 0 0 80 #[.val (.int i0), .val (.int i1), .val (.int i2), .val (.int (0 : Int32)), .val (.int (2 : Int32)), .val (.int p0), .val (.int p1), .val (.int p2), .val (.int n0), .val (.int n1), .val (.int n2), .unset, .unset, .unset, .unset, .unset] [] := by
  refine Wl.iload_n 81 at_80 rfl ?_
  refine Wl.iload 83 at_81 rfl ?_
  refine Wl.iload 85 at_83 rfl ?_
  refine Wl.iload 87 at_85 rfl ?_
  refine Wl.static 90 (argsL := [.int (0 : Int32), .int p0, .int p1, .int p2]) at_87 (w4 hw) (w5 hw) (w2 hw) (w6 hw) (show parseMethodDescriptor "(ICCC)Ljava/lang/String;" = some ⟨[.int, .char, .char, .char], some (.object "java/lang/String")⟩ by decide +kernel) rfl (mk0_met hw hcs lp0 lp1 lp2) (fun _ q => nomatch q) rfl rfl rfl (by decide) ⟨⟨nle rfl, nle rfl⟩, nle rfl, nle rfl⟩ ?_
  intro v1 h2 hq3 _
  obtain ⟨a4, rfl, E5, S6⟩ := hq3
  have B7 : Ext h h2 := E5
  show WlO _ _ _ _ _ _ _ _ _ _ _ _ _ _ _ _ _ _ [.ref a4]
  refine Wl.astore 92 #[.val (.int i0), .val (.int i1), .val (.int i2), .val (.int (0 : Int32)), .val (.int (2 : Int32)), .val (.int p0), .val (.int p1), .val (.int p2), .val (.int n0), .val (.int n1), .val (.int n2), .val (.ref a4), .unset, .unset, .unset, .unset] at_90 rfl rfl ?_
  refine Wl.iload 94 at_92 rfl ?_
  refine Wl.iload 96 at_94 rfl ?_
  refine Wl.iload 98 at_96 rfl ?_
  refine Wl.iload 100 at_98 rfl ?_
  refine Wl.static 103 (argsL := [.int (2 : Int32), .int n0, .int n1, .int n2]) at_100 (w4 hw) (w5 hw) (w2 hw) (w6 hw) (show parseMethodDescriptor "(ICCC)Ljava/lang/String;" = some ⟨[.int, .char, .char, .char], some (.object "java/lang/String")⟩ by decide +kernel) rfl (mk2_met hw hcs ln0 ln1 ln2) (fun _ q => nomatch q) rfl rfl rfl (by decide) ⟨⟨nle rfl, nle rfl⟩, nle rfl, nle rfl⟩ ?_
  intro v8 h9 hq10 _
  obtain ⟨a11, rfl, E12, S13⟩ := hq10
  have B14 : Ext h h9 := extTr B7 E12
  show WlO _ _ _ _ _ _ _ _ _ _ _ _ _ _ _ _ _ _ [.ref a11]
  refine Wl.astore 105 #[.val (.int i0), .val (.int i1), .val (.int i2), .val (.int (0 : Int32)), .val (.int (2 : Int32)), .val (.int p0), .val (.int p1), .val (.int p2), .val (.int n0), .val (.int n1), .val (.int n2), .val (.ref a4), .val (.ref a11), .unset, .unset, .unset] at_103 rfl rfl ?_
  refine Wl.new 108 at_105 (w51 hw) (w52 hw) (w53 hw) (nle rfl) (nle rfl) ?_
  intro a15 h16 q17 E18 X19 D20
  have z21 : h.size ≤ a15 := Nat.le_trans B14.1 (Nat.le_of_eq q17.symm)
  have z22 : h9.size ≤ a15 := Nat.le_of_eq q17.symm
  have ne23 : a4 ≠ a15 := Nat.ne_of_lt (by rw [q17]; exact (((S6).exa.ext E12)).lt)
  have ne24 : a11 ≠ a15 := Nat.ne_of_lt (by rw [q17]; exact ((S13).exa).lt)
  have B25 : Ext h h16 := extTr B14 E18
  have B26 : Ext h9 h16 := E18
  have F27 : Fld Z h16 a15 "com/example/portunus/portunus/LockKeys" "prefix" "Ljava/lang/String;" (.null) := D20 (Or.inr (w107 hw)) (ty := (.object "java/lang/String")) (by decide)
  refine Wl.dup 109 at_108 rfl ?_
  refine Wl.aload 111 at_109 rfl rfl ?_
  refine Wl.special 114 (argsL := [.ref a4]) at_111 (w54 hw) (w55 hw) (w53 hw) (w56 hw) (show parseMethodDescriptor "(Ljava/lang/String;)V" = some ⟨[(.object "java/lang/String")], none⟩ by decide +kernel) rfl (keys_met hw hcs X19 F27 (cs := []) ((S6.ext E12).ext E18) neN neN) (allS (List.mem_of_getElem? (i := 0) rfl) (fun _ q => nomatch q)) rfl rfl rfl rfl (by decide) ⟨⟨nle rfl, nle rfl⟩, nle rfl, nle rfl⟩ ?_
  intro v28 h29 hq30 _
  obtain ⟨rfl, K31, X32, F33⟩ := hq30
  have B34 : Ext h h29 := extKeep B25 K31 (allS z21 all0)
  have B35 : Ext h9 h29 := extKeep B26 K31 (allS z22 all0)
  show WlO _ _ _ _ _ _ _ _ _ _ _ _ _ _ _ _ _ _ [.ref a15]
  refine Wl.astore 116 #[.val (.int i0), .val (.int i1), .val (.int i2), .val (.int (0 : Int32)), .val (.int (2 : Int32)), .val (.int p0), .val (.int p1), .val (.int p2), .val (.int n0), .val (.int n1), .val (.int n2), .val (.ref a4), .val (.ref a11), .val (.ref a15), .unset, .unset] at_114 rfl rfl ?_
  refine Wl.aload 118 at_116 rfl rfl ?_
  refine Wl.aload 120 at_118 rfl rfl ?_
  refine Wl.virtual 123 (argsL := [.ref a11]) at_120 (w108 hw) (w109 hw) (w111 hw) (w110 hw) (w53 hw) (w112 hw) (nf_sel (w111 hw) rfl) X32 (show parseMethodDescriptor "(Ljava/lang/String;)Ljava/lang/String;" = some ⟨[(.object "java/lang/String")], some (.object "java/lang/String")⟩ by decide +kernel) rfl (key_met hw hcs hfm (cs := [n0, n1]) (ps := []) F33 ((S6.ext E12).ext B35) (nle rfl) (S13.ext B35) (by simp) (nle rfl) hn0 (nle rfl)) (fun _ q => nomatch q) rfl rfl rfl (by decide) ⟨⟨nle rfl, nle rfl⟩, nle rfl, nle rfl⟩ ?_
  intro v36 h37 hq38 _
  obtain ⟨s39, rfl, E40, S41⟩ := hq38
  have S41 : Stl Z h37 s39 [(108 : Int32), (111 : Int32), (99 : Int32), (107 : Int32), (58 : Int32), (123 : Int32), n0, n1, (125 : Int32)] := S41
  have B42 : Ext h h37 := extTr B34 E40
  have B43 : Ext h9 h37 := extTr B35 E40
  show WlO _ _ _ _ _ _ _ _ _ _ _ _ _ _ _ _ _ _ [.ref s39]
  refine Wl.astore 125 #[.val (.int i0), .val (.int i1), .val (.int i2), .val (.int (0 : Int32)), .val (.int (2 : Int32)), .val (.int p0), .val (.int p1), .val (.int p2), .val (.int n0), .val (.int n1), .val (.int n2), .val (.ref a4), .val (.ref a11), .val (.ref a15), .val (.ref s39), .unset] at_123 rfl rfl ?_
  refine Wl.iload_n 126 at_125 rfl ?_
  refine Wl.iload 128 at_126 rfl ?_
  refine Wl.iadd 129 at_128 ?_
  show WlO _ _ _ _ _ _ _ _ _ _ _ _ _ _ _ _ _ _ [.int (2 : Int32)]
  refine Wl.bipush 131 (7 : Int32) at_129 (by decide) ?_
  refine Wl.iadd 132 at_131 ?_
  show WlO _ _ _ _ _ _ _ _ _ _ _ _ _ _ _ _ _ _ [.int (9 : Int32)]
  refine Wl.istore 134 #[.val (.int i0), .val (.int i1), .val (.int i2), .val (.int (0 : Int32)), .val (.int (2 : Int32)), .val (.int p0), .val (.int p1), .val (.int p2), .val (.int n0), .val (.int n1), .val (.int n2), .val (.ref a4), .val (.ref a11), .val (.ref a15), .val (.ref s39), .val (.int (9 : Int32))] at_132 rfl ?_
  refine Wl.aload 136 at_134 rfl rfl ?_
  refine Wl.ifnullN 139 at_136 ?_
  refine Wl.aload 141 at_139 rfl rfl ?_
  refine Wl.virtual 144 (argsL := []) at_141 (w239 hw) (w81 hw) (w83 hw) (w82 hw) (w9 hw) (w84 hw) (nf_sel (w83 hw) rfl) (S41).exa (show parseMethodDescriptor "()I" = some ⟨[], some .int⟩ by decide +kernel) rfl (len_met hw hcs S41) (fun _ q => nomatch q) rfl rfl rfl (by decide) ⟨⟨nle rfl, nle rfl⟩, nle rfl, nle rfl⟩ ?_
  intro v44 h45 hq46 _
  obtain ⟨rfl, rfl⟩ := hq46
  show WlO _ _ _ _ _ _ _ _ _ _ _ _ _ _ _ _ _ _ [.int (9 : Int32)]
  refine Wl.iload 146 at_144 rfl ?_
  refine Wl.icmpY 151 at_146 (teq (by decide)).1 ?_
  refine Wl.aload 153 at_151 rfl rfl ?_
  refine Wl.iconst 154 (0 : Int32) at_153 (by decide) ?_
  refine Wl.iload 156 at_154 rfl ?_
  refine Wl.iload_n 157 at_156 rfl ?_
  refine Wl.iload 159 at_157 rfl ?_
  refine Wl.iload 161 at_159 rfl ?_
  refine Wl.iload 163 at_161 rfl ?_
  refine Wl.iload 165 at_163 rfl ?_
  refine Wl.iload 167 at_165 rfl ?_
  refine Wl.iload 169 at_167 rfl ?_
  refine Wl.iload 171 at_169 rfl ?_
  refine Wl.static 174 (argsL := [.ref s39, .int (0 : Int32), .int (9 : Int32), .int (0 : Int32), .int p0, .int p1, .int p2, .int (2 : Int32), .int n0, .int n1, .int n2]) at_171 (w240 hw) (w241 hw) (w2 hw) (w242 hw) (show parseMethodDescriptor "(Ljava/lang/String;IIICCCICCC)Z" = some ⟨[(.object "java/lang/String"), .int, .int, .int, .char, .char, .char, .int, .char, .char, .char], some .boolean⟩ by decide +kernel) rfl (okA_met hw hcs hfm (rs := [(108 : Int32), (111 : Int32), (99 : Int32), (107 : Int32), (58 : Int32), (123 : Int32), n0, n1, (125 : Int32)]) (n := 0) (j := 0) S41 (nle rfl) (by decide) (by decide) (by decide) (by decide) (nle rfl) rfl) (fun _ q => nomatch q) rfl rfl rfl (by decide) ⟨⟨nle rfl, nle rfl⟩, nle rfl, nle rfl⟩ ?_
  intro v47 h48 hq49 _
  obtain ⟨rfl, E50⟩ := hq49
  have B51 : Ext h h48 := extTr B42 E50
  have B52 : Ext h9 h48 := extTr B43 E50
  show WlO _ _ _ _ _ _ _ _ _ _ _ _ _ _ _ _ _ _ [.int (1 : Int32)]
  refine Wl.ifN 177 at_174 (feq (by decide)).1 ?_
  refine Wl.aload 179 at_177 rfl rfl ?_
  refine Wl.iconst 180 (1 : Int32) at_179 (by decide) ?_
  refine Wl.iload 182 at_180 rfl ?_
  refine Wl.iload_n 183 at_182 rfl ?_
  refine Wl.iload 185 at_183 rfl ?_
  refine Wl.iload 187 at_185 rfl ?_
  refine Wl.iload 189 at_187 rfl ?_
  refine Wl.iload 191 at_189 rfl ?_
  refine Wl.iload 193 at_191 rfl ?_
  refine Wl.iload 195 at_193 rfl ?_
  refine Wl.iload 197 at_195 rfl ?_
  refine Wl.static 200 (argsL := [.ref s39, .int (1 : Int32), .int (9 : Int32), .int (0 : Int32), .int p0, .int p1, .int p2, .int (2 : Int32), .int n0, .int n1, .int n2]) at_197 (w240 hw) (w241 hw) (w2 hw) (w242 hw) (show parseMethodDescriptor "(Ljava/lang/String;IIICCCICCC)Z" = some ⟨[(.object "java/lang/String"), .int, .int, .int, .char, .char, .char, .int, .char, .char, .char], some .boolean⟩ by decide +kernel) rfl (okA_met hw hcs hfm (rs := [(108 : Int32), (111 : Int32), (99 : Int32), (107 : Int32), (58 : Int32), (123 : Int32), n0, n1, (125 : Int32)]) (n := 1) (j := 1) (S41.ext E50) (nle rfl) (by decide) (by decide) (by decide) (by decide) (nle rfl) rfl) (fun _ q => nomatch q) rfl rfl rfl (by decide) ⟨⟨nle rfl, nle rfl⟩, nle rfl, nle rfl⟩ ?_
  intro v53 h54 hq55 _
  obtain ⟨rfl, E56⟩ := hq55
  have B57 : Ext h h54 := extTr B51 E56
  have B58 : Ext h9 h54 := extTr B52 E56
  show WlO _ _ _ _ _ _ _ _ _ _ _ _ _ _ _ _ _ _ [.int (1 : Int32)]
  refine Wl.ifN 203 at_200 (feq (by decide)).1 ?_
  refine Wl.aload 205 at_203 rfl rfl ?_
  refine Wl.iconst 206 (2 : Int32) at_205 (by decide) ?_
  refine Wl.iload 208 at_206 rfl ?_
  refine Wl.iload_n 209 at_208 rfl ?_
  refine Wl.iload 211 at_209 rfl ?_
  refine Wl.iload 213 at_211 rfl ?_
  refine Wl.iload 215 at_213 rfl ?_
  refine Wl.iload 217 at_215 rfl ?_
  refine Wl.iload 219 at_217 rfl ?_
  refine Wl.iload 221 at_219 rfl ?_
  refine Wl.iload 223 at_221 rfl ?_
  refine Wl.static 226 (argsL := [.ref s39, .int (2 : Int32), .int (9 : Int32), .int (0 : Int32), .int p0, .int p1, .int p2, .int (2 : Int32), .int n0, .int n1, .int n2]) at_223 (w240 hw) (w241 hw) (w2 hw) (w242 hw) (show parseMethodDescriptor "(Ljava/lang/String;IIICCCICCC)Z" = some ⟨[(.object "java/lang/String"), .int, .int, .int, .char, .char, .char, .int, .char, .char, .char], some .boolean⟩ by decide +kernel) rfl (okA_met hw hcs hfm (rs := [(108 : Int32), (111 : Int32), (99 : Int32), (107 : Int32), (58 : Int32), (123 : Int32), n0, n1, (125 : Int32)]) (n := 2) (j := 2) ((S41.ext E50).ext E56) (nle rfl) (by decide) (by decide) (by decide) (by decide) (nle rfl) rfl) (fun _ q => nomatch q) rfl rfl rfl (by decide) ⟨⟨nle rfl, nle rfl⟩, nle rfl, nle rfl⟩ ?_
  intro v59 h60 hq61 _
  obtain ⟨rfl, E62⟩ := hq61
  have B63 : Ext h h60 := extTr B57 E62
  have B64 : Ext h9 h60 := extTr B58 E62
  show WlO _ _ _ _ _ _ _ _ _ _ _ _ _ _ _ _ _ _ [.int (1 : Int32)]
  refine Wl.ifN 229 at_226 (feq (by decide)).1 ?_
  refine Wl.aload 231 at_229 rfl rfl ?_
  refine Wl.iconst 232 (3 : Int32) at_231 (by decide) ?_
  refine Wl.iload 234 at_232 rfl ?_
  refine Wl.iload_n 235 at_234 rfl ?_
  refine Wl.iload 237 at_235 rfl ?_
  refine Wl.iload 239 at_237 rfl ?_
  refine Wl.iload 241 at_239 rfl ?_
  refine Wl.iload 243 at_241 rfl ?_
  refine Wl.iload 245 at_243 rfl ?_
  refine Wl.iload 247 at_245 rfl ?_
  refine Wl.iload 249 at_247 rfl ?_
  refine Wl.static 252 (argsL := [.ref s39, .int (3 : Int32), .int (9 : Int32), .int (0 : Int32), .int p0, .int p1, .int p2, .int (2 : Int32), .int n0, .int n1, .int n2]) at_249 (w240 hw) (w241 hw) (w2 hw) (w242 hw) (show parseMethodDescriptor "(Ljava/lang/String;IIICCCICCC)Z" = some ⟨[(.object "java/lang/String"), .int, .int, .int, .char, .char, .char, .int, .char, .char, .char], some .boolean⟩ by decide +kernel) rfl (okA_met hw hcs hfm (rs := [(108 : Int32), (111 : Int32), (99 : Int32), (107 : Int32), (58 : Int32), (123 : Int32), n0, n1, (125 : Int32)]) (n := 3) (j := 3) (((S41.ext E50).ext E56).ext E62) (nle rfl) (by decide) (by decide) (by decide) (by decide) (nle rfl) rfl) (fun _ q => nomatch q) rfl rfl rfl (by decide) ⟨⟨nle rfl, nle rfl⟩, nle rfl, nle rfl⟩ ?_
  intro v65 h66 hq67 _
  obtain ⟨rfl, E68⟩ := hq67
  have B69 : Ext h h66 := extTr B63 E68
  have B70 : Ext h9 h66 := extTr B64 E68
  show WlO _ _ _ _ _ _ _ _ _ _ _ _ _ _ _ _ _ _ [.int (1 : Int32)]
  refine Wl.ifN 255 at_252 (feq (by decide)).1 ?_
  refine Wl.aload 257 at_255 rfl rfl ?_
  refine Wl.iconst 258 (4 : Int32) at_257 (by decide) ?_
  refine Wl.iload 260 at_258 rfl ?_
  refine Wl.iload_n 261 at_260 rfl ?_
  refine Wl.iload 263 at_261 rfl ?_
  refine Wl.iload 265 at_263 rfl ?_
  refine Wl.iload 267 at_265 rfl ?_
  refine Wl.iload 269 at_267 rfl ?_
  refine Wl.iload 271 at_269 rfl ?_
  refine Wl.iload 273 at_271 rfl ?_
  refine Wl.iload 275 at_273 rfl ?_
  refine Wl.static 278 (argsL := [.ref s39, .int (4 : Int32), .int (9 : Int32), .int (0 : Int32), .int p0, .int p1, .int p2, .int (2 : Int32), .int n0, .int n1, .int n2]) at_275 (w240 hw) (w241 hw) (w2 hw) (w242 hw) (show parseMethodDescriptor "(Ljava/lang/String;IIICCCICCC)Z" = some ⟨[(.object "java/lang/String"), .int, .int, .int, .char, .char, .char, .int, .char, .char, .char], some .boolean⟩ by decide +kernel) rfl (okA_met hw hcs hfm (rs := [(108 : Int32), (111 : Int32), (99 : Int32), (107 : Int32), (58 : Int32), (123 : Int32), n0, n1, (125 : Int32)]) (n := 4) (j := 4) ((((S41.ext E50).ext E56).ext E62).ext E68) (nle rfl) (by decide) (by decide) (by decide) (by decide) (nle rfl) rfl) (fun _ q => nomatch q) rfl rfl rfl (by decide) ⟨⟨nle rfl, nle rfl⟩, nle rfl, nle rfl⟩ ?_
  intro v71 h72 hq73 _
  obtain ⟨rfl, E74⟩ := hq73
  have B75 : Ext h h72 := extTr B69 E74
  have B76 : Ext h9 h72 := extTr B70 E74
  show WlO _ _ _ _ _ _ _ _ _ _ _ _ _ _ _ _ _ _ [.int (1 : Int32)]
  refine Wl.ifN 281 at_278 (feq (by decide)).1 ?_
  refine Wl.aload 283 at_281 rfl rfl ?_
  refine Wl.iconst 284 (5 : Int32) at_283 (by decide) ?_
  refine Wl.iload 286 at_284 rfl ?_
  refine Wl.iload_n 287 at_286 rfl ?_
  refine Wl.iload 289 at_287 rfl ?_
  refine Wl.iload 291 at_289 rfl ?_
  refine Wl.iload 293 at_291 rfl ?_
  refine Wl.iload 295 at_293 rfl ?_
  refine Wl.iload 297 at_295 rfl ?_
  refine Wl.iload 299 at_297 rfl ?_
  refine Wl.iload 301 at_299 rfl ?_
  refine Wl.static 304 (argsL := [.ref s39, .int (5 : Int32), .int (9 : Int32), .int (0 : Int32), .int p0, .int p1, .int p2, .int (2 : Int32), .int n0, .int n1, .int n2]) at_301 (w240 hw) (w241 hw) (w2 hw) (w242 hw) (show parseMethodDescriptor "(Ljava/lang/String;IIICCCICCC)Z" = some ⟨[(.object "java/lang/String"), .int, .int, .int, .char, .char, .char, .int, .char, .char, .char], some .boolean⟩ by decide +kernel) rfl (okB_met hw hcs hfm (rs := [(108 : Int32), (111 : Int32), (99 : Int32), (107 : Int32), (58 : Int32), (123 : Int32), n0, n1, (125 : Int32)]) (n := 5) (((((S41.ext E50).ext E56).ext E62).ext E68).ext E74) (nle rfl) (by decide) (by decide) lp0 lp1 lp2 ln0 ln1 ln2 (show (123 : Int32) = expI (5 : Int32) (0 : Int32) p0 p1 p2 (2 : Int32) n0 n1 n2 by rw [expI, if_neg (by decide), if_pos (by decide)])) (fun _ q => nomatch q) rfl rfl rfl (by decide) ⟨⟨nle rfl, nle rfl⟩, nle rfl, nle rfl⟩ ?_
  intro v77 h78 hq79 _
  obtain ⟨rfl, rfl⟩ := hq79
  show WlO _ _ _ _ _ _ _ _ _ _ _ _ _ _ _ _ _ _ [.int (1 : Int32)]
  refine Wl.ifN 307 at_304 (feq (by decide)).1 ?_
  refine Wl.aload 309 at_307 rfl rfl ?_
  refine Wl.bipush 311 (6 : Int32) at_309 (by decide) ?_
  refine Wl.iload 313 at_311 rfl ?_
  refine Wl.iload_n 314 at_313 rfl ?_
  refine Wl.iload 316 at_314 rfl ?_
  refine Wl.iload 318 at_316 rfl ?_
  refine Wl.iload 320 at_318 rfl ?_
  refine Wl.iload 322 at_320 rfl ?_
  refine Wl.iload 324 at_322 rfl ?_
  refine Wl.iload 326 at_324 rfl ?_
  refine Wl.iload 328 at_326 rfl ?_
  refine Wl.static 331 (argsL := [.ref s39, .int (6 : Int32), .int (9 : Int32), .int (0 : Int32), .int p0, .int p1, .int p2, .int (2 : Int32), .int n0, .int n1, .int n2]) at_328 (w240 hw) (w241 hw) (w2 hw) (w242 hw) (show parseMethodDescriptor "(Ljava/lang/String;IIICCCICCC)Z" = some ⟨[(.object "java/lang/String"), .int, .int, .int, .char, .char, .char, .int, .char, .char, .char], some .boolean⟩ by decide +kernel) rfl (okB_met hw hcs hfm (rs := [(108 : Int32), (111 : Int32), (99 : Int32), (107 : Int32), (58 : Int32), (123 : Int32), n0, n1, (125 : Int32)]) (n := 6) (((((S41.ext E50).ext E56).ext E62).ext E68).ext E74) (nle rfl) (by decide) (by decide) lp0 lp1 lp2 ln0 ln1 ln2 (show n0 = expI (6 : Int32) (0 : Int32) p0 p1 p2 (2 : Int32) n0 n1 n2 by rw [expI, if_neg (by decide), if_neg (by decide), if_pos (by decide), if_pos (by decide)])) (fun _ q => nomatch q) rfl rfl rfl (by decide) ⟨⟨nle rfl, nle rfl⟩, nle rfl, nle rfl⟩ ?_
  intro v80 h81 hq82 _
  obtain ⟨rfl, rfl⟩ := hq82
  show WlO _ _ _ _ _ _ _ _ _ _ _ _ _ _ _ _ _ _ [.int (1 : Int32)]
  refine Wl.ifN 334 at_331 (feq (by decide)).1 ?_
  refine Wl.aload 336 at_334 rfl rfl ?_
  refine Wl.bipush 338 (7 : Int32) at_336 (by decide) ?_
  refine Wl.iload 340 at_338 rfl ?_
  refine Wl.iload_n 341 at_340 rfl ?_
  refine Wl.iload 343 at_341 rfl ?_
  refine Wl.iload 345 at_343 rfl ?_
  refine Wl.iload 347 at_345 rfl ?_
  refine Wl.iload 349 at_347 rfl ?_
  refine Wl.iload 351 at_349 rfl ?_
  refine Wl.iload 353 at_351 rfl ?_
  refine Wl.iload 355 at_353 rfl ?_
  refine Wl.static 358 (argsL := [.ref s39, .int (7 : Int32), .int (9 : Int32), .int (0 : Int32), .int p0, .int p1, .int p2, .int (2 : Int32), .int n0, .int n1, .int n2]) at_355 (w240 hw) (w241 hw) (w2 hw) (w242 hw) (show parseMethodDescriptor "(Ljava/lang/String;IIICCCICCC)Z" = some ⟨[(.object "java/lang/String"), .int, .int, .int, .char, .char, .char, .int, .char, .char, .char], some .boolean⟩ by decide +kernel) rfl (okB_met hw hcs hfm (rs := [(108 : Int32), (111 : Int32), (99 : Int32), (107 : Int32), (58 : Int32), (123 : Int32), n0, n1, (125 : Int32)]) (n := 7) (((((S41.ext E50).ext E56).ext E62).ext E68).ext E74) (nle rfl) (by decide) (by decide) lp0 lp1 lp2 ln0 ln1 ln2 (show n1 = expI (7 : Int32) (0 : Int32) p0 p1 p2 (2 : Int32) n0 n1 n2 by rw [expI, if_neg (by decide), if_neg (by decide), if_pos (by decide), if_neg (by decide), if_pos (by decide)])) (fun _ q => nomatch q) rfl rfl rfl (by decide) ⟨⟨nle rfl, nle rfl⟩, nle rfl, nle rfl⟩ ?_
  intro v83 h84 hq85 _
  obtain ⟨rfl, rfl⟩ := hq85
  show WlO _ _ _ _ _ _ _ _ _ _ _ _ _ _ _ _ _ _ [.int (1 : Int32)]
  refine Wl.ifN 361 at_358 (feq (by decide)).1 ?_
  refine Wl.aload 363 at_361 rfl rfl ?_
  refine Wl.bipush 365 (8 : Int32) at_363 (by decide) ?_
  refine Wl.iload 367 at_365 rfl ?_
  refine Wl.iload_n 368 at_367 rfl ?_
  refine Wl.iload 370 at_368 rfl ?_
  refine Wl.iload 372 at_370 rfl ?_
  refine Wl.iload 374 at_372 rfl ?_
  refine Wl.iload 376 at_374 rfl ?_
  refine Wl.iload 378 at_376 rfl ?_
  refine Wl.iload 380 at_378 rfl ?_
  refine Wl.iload 382 at_380 rfl ?_
  refine Wl.static 385 (argsL := [.ref s39, .int (8 : Int32), .int (9 : Int32), .int (0 : Int32), .int p0, .int p1, .int p2, .int (2 : Int32), .int n0, .int n1, .int n2]) at_382 (w240 hw) (w241 hw) (w2 hw) (w242 hw) (show parseMethodDescriptor "(Ljava/lang/String;IIICCCICCC)Z" = some ⟨[(.object "java/lang/String"), .int, .int, .int, .char, .char, .char, .int, .char, .char, .char], some .boolean⟩ by decide +kernel) rfl (okB_met hw hcs hfm (rs := [(108 : Int32), (111 : Int32), (99 : Int32), (107 : Int32), (58 : Int32), (123 : Int32), n0, n1, (125 : Int32)]) (n := 8) (((((S41.ext E50).ext E56).ext E62).ext E68).ext E74) (nle rfl) (by decide) (by decide) lp0 lp1 lp2 ln0 ln1 ln2 (show (125 : Int32) = expI (8 : Int32) (0 : Int32) p0 p1 p2 (2 : Int32) n0 n1 n2 by rw [expI, if_neg (by decide), if_neg (by decide), if_neg (by decide)])) (fun _ q => nomatch q) rfl rfl rfl (by decide) ⟨⟨nle rfl, nle rfl⟩, nle rfl, nle rfl⟩ ?_
  intro v86 h87 hq88 _
  obtain ⟨rfl, rfl⟩ := hq88
  show WlO _ _ _ _ _ _ _ _ _ _ _ _ _ _ _ _ _ _ [.int (1 : Int32)]
  refine Wl.ifN 388 at_385 (feq (by decide)).1 ?_
  refine Wl.aload 390 at_388 rfl rfl ?_
  refine Wl.bipush 392 (9 : Int32) at_390 (by decide) ?_
  refine Wl.iload 394 at_392 rfl ?_
  refine Wl.iload_n 395 at_394 rfl ?_
  refine Wl.iload 397 at_395 rfl ?_
  refine Wl.iload 399 at_397 rfl ?_
  refine Wl.iload 401 at_399 rfl ?_
  refine Wl.iload 403 at_401 rfl ?_
  refine Wl.iload 405 at_403 rfl ?_
  refine Wl.iload 407 at_405 rfl ?_
  refine Wl.iload 409 at_407 rfl ?_
  refine Wl.static 412 (argsL := [.ref s39, .int (9 : Int32), .int (9 : Int32), .int (0 : Int32), .int p0, .int p1, .int p2, .int (2 : Int32), .int n0, .int n1, .int n2]) at_409 (w240 hw) (w241 hw) (w2 hw) (w242 hw) (show parseMethodDescriptor "(Ljava/lang/String;IIICCCICCC)Z" = some ⟨[(.object "java/lang/String"), .int, .int, .int, .char, .char, .char, .int, .char, .char, .char], some .boolean⟩ by decide +kernel) rfl (okC_met hw (by decide)) (fun _ q => nomatch q) rfl rfl rfl (by decide) ⟨⟨nle rfl, nle rfl⟩, nle rfl, nle rfl⟩ ?_
  intro v89 h90 hq91 _
  obtain ⟨rfl, rfl⟩ := hq91
  show WlO _ _ _ _ _ _ _ _ _ _ _ _ _ _ _ _ _ _ [.int (1 : Int32)]
  refine Wl.ifN 415 at_412 (feq (by decide)).1 ?_
  refine Wl.aload 417 at_415 rfl rfl ?_
  refine Wl.bipush 419 (10 : Int32) at_417 (by decide) ?_
  refine Wl.iload 421 at_419 rfl ?_
  refine Wl.iload_n 422 at_421 rfl ?_
  refine Wl.iload 424 at_422 rfl ?_
  refine Wl.iload 426 at_424 rfl ?_
  refine Wl.iload 428 at_426 rfl ?_
  refine Wl.iload 430 at_428 rfl ?_
  refine Wl.iload 432 at_430 rfl ?_
  refine Wl.iload 434 at_432 rfl ?_
  refine Wl.iload 436 at_434 rfl ?_
  refine Wl.static 439 (argsL := [.ref s39, .int (10 : Int32), .int (9 : Int32), .int (0 : Int32), .int p0, .int p1, .int p2, .int (2 : Int32), .int n0, .int n1, .int n2]) at_436 (w240 hw) (w241 hw) (w2 hw) (w242 hw) (show parseMethodDescriptor "(Ljava/lang/String;IIICCCICCC)Z" = some ⟨[(.object "java/lang/String"), .int, .int, .int, .char, .char, .char, .int, .char, .char, .char], some .boolean⟩ by decide +kernel) rfl (okC_met hw (by decide)) (fun _ q => nomatch q) rfl rfl rfl (by decide) ⟨⟨nle rfl, nle rfl⟩, nle rfl, nle rfl⟩ ?_
  intro v92 h93 hq94 _
  obtain ⟨rfl, rfl⟩ := hq94
  show WlO _ _ _ _ _ _ _ _ _ _ _ _ _ _ _ _ _ _ [.int (1 : Int32)]
  refine Wl.ifN 442 at_439 (feq (by decide)).1 ?_
  refine Wl.aload 444 at_442 rfl rfl ?_
  refine Wl.bipush 446 (11 : Int32) at_444 (by decide) ?_
  refine Wl.iload 448 at_446 rfl ?_
  refine Wl.iload_n 449 at_448 rfl ?_
  refine Wl.iload 451 at_449 rfl ?_
  refine Wl.iload 453 at_451 rfl ?_
  refine Wl.iload 455 at_453 rfl ?_
  refine Wl.iload 457 at_455 rfl ?_
  refine Wl.iload 459 at_457 rfl ?_
  refine Wl.iload 461 at_459 rfl ?_
  refine Wl.iload 463 at_461 rfl ?_
  refine Wl.static 466 (argsL := [.ref s39, .int (11 : Int32), .int (9 : Int32), .int (0 : Int32), .int p0, .int p1, .int p2, .int (2 : Int32), .int n0, .int n1, .int n2]) at_463 (w240 hw) (w241 hw) (w2 hw) (w242 hw) (show parseMethodDescriptor "(Ljava/lang/String;IIICCCICCC)Z" = some ⟨[(.object "java/lang/String"), .int, .int, .int, .char, .char, .char, .int, .char, .char, .char], some .boolean⟩ by decide +kernel) rfl (okC_met hw (by decide)) (fun _ q => nomatch q) rfl rfl rfl (by decide) ⟨⟨nle rfl, nle rfl⟩, nle rfl, nle rfl⟩ ?_
  intro v95 h96 hq97 _
  obtain ⟨rfl, rfl⟩ := hq97
  show WlO _ _ _ _ _ _ _ _ _ _ _ _ _ _ _ _ _ _ [.int (1 : Int32)]
  refine Wl.ifN 469 at_466 (feq (by decide)).1 ?_
  refine Wl.aload 471 at_469 rfl rfl ?_
  refine Wl.bipush 473 (12 : Int32) at_471 (by decide) ?_
  refine Wl.iload 475 at_473 rfl ?_
  refine Wl.iload_n 476 at_475 rfl ?_
  refine Wl.iload 478 at_476 rfl ?_
  refine Wl.iload 480 at_478 rfl ?_
  refine Wl.iload 482 at_480 rfl ?_
  refine Wl.iload 484 at_482 rfl ?_
  refine Wl.iload 486 at_484 rfl ?_
  refine Wl.iload 488 at_486 rfl ?_
  refine Wl.iload 490 at_488 rfl ?_
  refine Wl.static 493 (argsL := [.ref s39, .int (12 : Int32), .int (9 : Int32), .int (0 : Int32), .int p0, .int p1, .int p2, .int (2 : Int32), .int n0, .int n1, .int n2]) at_490 (w240 hw) (w241 hw) (w2 hw) (w242 hw) (show parseMethodDescriptor "(Ljava/lang/String;IIICCCICCC)Z" = some ⟨[(.object "java/lang/String"), .int, .int, .int, .char, .char, .char, .int, .char, .char, .char], some .boolean⟩ by decide +kernel) rfl (okC_met hw (by decide)) (fun _ q => nomatch q) rfl rfl rfl (by decide) ⟨⟨nle rfl, nle rfl⟩, nle rfl, nle rfl⟩ ?_
  intro v98 h99 hq100 _
  obtain ⟨rfl, rfl⟩ := hq100
  show WlO _ _ _ _ _ _ _ _ _ _ _ _ _ _ _ _ _ _ [.int (1 : Int32)]
  refine Wl.ifN 496 at_493 (feq (by decide)).1 ?_
  refine Wl.iconst 497 (1 : Int32) at_496 (by decide) ?_
  refine Wl.goto 501 at_497 ?_
  exact Wl.ireturn at_501 rfl rfl (by simp) (nle rfl) (nle rfl) rfl
set_option maxRecDepth 65536 in
set_option maxHeartbeats 40000000 in
theorem law_t03 {l : Launch} {Z : State} {a0 : Array Value} (hw : ∀ d ∈ tables_1, d.before a0 Z = true) (hcs : CSon Z) (hfm : Fmt Z) {as : Array Value} {h : Heap} {i0 i1 i2 p0 p1 p2 n0 n1 n2 : Int32} (lp0 : Lat p0) (lp1 : Lat p1) (lp2 : Lat p2) (ln0 : Lat n0) (ln1 : Lat n1) (ln2 : Lat n2) (p0123 : p0 ≠ 123) (p0125 : p0 ≠ 125) (p1123 : p1 ≠ 123) (p1125 : p1 ≠ 125) (p2123 : p2 ≠ 123) (p2125 : p2 ≠ 125) (hn0 : ¬ n0 = (125 : Int32)) :
    Wl l Z a0 consts_1 x code maxLocals ret room_1 as (fun v h' => v = some (.int 1)) [] h 0 0 80 #[.val (.int i0), .val (.int i1), .val (.int i2), .val (.int (0 : Int32)), .val (.int (3 : Int32)), .val (.int p0), .val (.int p1), .val (.int p2), .val (.int n0), .val (.int n1), .val (.int n2), .unset, .unset, .unset, .unset, .unset] [] := by
  refine Wl.iload_n 81 at_80 rfl ?_
  refine Wl.iload 83 at_81 rfl ?_
  refine Wl.iload 85 at_83 rfl ?_
  refine Wl.iload 87 at_85 rfl ?_
  refine Wl.static 90 (argsL := [.int (0 : Int32), .int p0, .int p1, .int p2]) at_87 (w4 hw) (w5 hw) (w2 hw) (w6 hw) (show parseMethodDescriptor "(ICCC)Ljava/lang/String;" = some ⟨[.int, .char, .char, .char], some (.object "java/lang/String")⟩ by decide +kernel) rfl (mk0_met hw hcs lp0 lp1 lp2) (fun _ q => nomatch q) rfl rfl rfl (by decide) ⟨⟨nle rfl, nle rfl⟩, nle rfl, nle rfl⟩ ?_
  intro v1 h2 hq3 _
  obtain ⟨a4, rfl, E5, S6⟩ := hq3
  have B7 : Ext h h2 := E5
  show WlO _ _ _ _ _ _ _ _ _ _ _ _ _ _ _ _ _ _ [.ref a4]
  refine Wl.astore 92 #[.val (.int i0), .val (.int i1), .val (.int i2), .val (.int (0 : Int32)), .val (.int (3 : Int32)), .val (.int p0), .val (.int p1), .val (.int p2), .val (.int n0), .val (.int n1), .val (.int n2), .val (.ref a4), .unset, .unset, .unset, .unset] at_90 rfl rfl ?_
  refine Wl.iload 94 at_92 rfl ?_
  refine Wl.iload 96 at_94 rfl ?_
  refine Wl.iload 98 at_96 rfl ?_
  refine Wl.iload 100 at_98 rfl ?_
  refine Wl.static 103 (argsL := [.int (3 : Int32), .int n0, .int n1, .int n2]) at_100 (w4 hw) (w5 hw) (w2 hw) (w6 hw) (show parseMethodDescriptor "(ICCC)Ljava/lang/String;" = some ⟨[.int, .char, .char, .char], some (.object "java/lang/String")⟩ by decide +kernel) rfl (mk3_met hw hcs ln0 ln1 ln2) (fun _ q => nomatch q) rfl rfl rfl (by decide) ⟨⟨nle rfl, nle rfl⟩, nle rfl, nle rfl⟩ ?_
  intro v8 h9 hq10 _
  obtain ⟨a11, rfl, E12, S13⟩ := hq10
  have B14 : Ext h h9 := extTr B7 E12
  show WlO _ _ _ _ _ _ _ _ _ _ _ _ _ _ _ _ _ _ [.ref a11]
  refine Wl.astore 105 #[.val (.int i0), .val (.int i1), .val (.int i2), .val (.int (0 : Int32)), .val (.int (3 : Int32)), .val (.int p0), .val (.int p1), .val (.int p2), .val (.int n0), .val (.int n1), .val (.int n2), .val (.ref a4), .val (.ref a11), .unset, .unset, .unset] at_103 rfl rfl ?_
  refine Wl.new 108 at_105 (w51 hw) (w52 hw) (w53 hw) (nle rfl) (nle rfl) ?_
  intro a15 h16 q17 E18 X19 D20
  have z21 : h.size ≤ a15 := Nat.le_trans B14.1 (Nat.le_of_eq q17.symm)
  have z22 : h9.size ≤ a15 := Nat.le_of_eq q17.symm
  have ne23 : a4 ≠ a15 := Nat.ne_of_lt (by rw [q17]; exact (((S6).exa.ext E12)).lt)
  have ne24 : a11 ≠ a15 := Nat.ne_of_lt (by rw [q17]; exact ((S13).exa).lt)
  have B25 : Ext h h16 := extTr B14 E18
  have B26 : Ext h9 h16 := E18
  have F27 : Fld Z h16 a15 "com/example/portunus/portunus/LockKeys" "prefix" "Ljava/lang/String;" (.null) := D20 (Or.inr (w107 hw)) (ty := (.object "java/lang/String")) (by decide)
  refine Wl.dup 109 at_108 rfl ?_
  refine Wl.aload 111 at_109 rfl rfl ?_
  refine Wl.special 114 (argsL := [.ref a4]) at_111 (w54 hw) (w55 hw) (w53 hw) (w56 hw) (show parseMethodDescriptor "(Ljava/lang/String;)V" = some ⟨[(.object "java/lang/String")], none⟩ by decide +kernel) rfl (keys_met hw hcs X19 F27 (cs := []) ((S6.ext E12).ext E18) neN neN) (allS (List.mem_of_getElem? (i := 0) rfl) (fun _ q => nomatch q)) rfl rfl rfl rfl (by decide) ⟨⟨nle rfl, nle rfl⟩, nle rfl, nle rfl⟩ ?_
  intro v28 h29 hq30 _
  obtain ⟨rfl, K31, X32, F33⟩ := hq30
  have B34 : Ext h h29 := extKeep B25 K31 (allS z21 all0)
  have B35 : Ext h9 h29 := extKeep B26 K31 (allS z22 all0)
  show WlO _ _ _ _ _ _ _ _ _ _ _ _ _ _ _ _ _ _ [.ref a15]
  refine Wl.astore 116 #[.val (.int i0), .val (.int i1), .val (.int i2), .val (.int (0 : Int32)), .val (.int (3 : Int32)), .val (.int p0), .val (.int p1), .val (.int p2), .val (.int n0), .val (.int n1), .val (.int n2), .val (.ref a4), .val (.ref a11), .val (.ref a15), .unset, .unset] at_114 rfl rfl ?_
  refine Wl.aload 118 at_116 rfl rfl ?_
  refine Wl.aload 120 at_118 rfl rfl ?_
  refine Wl.virtual 123 (argsL := [.ref a11]) at_120 (w108 hw) (w109 hw) (w111 hw) (w110 hw) (w53 hw) (w112 hw) (nf_sel (w111 hw) rfl) X32 (show parseMethodDescriptor "(Ljava/lang/String;)Ljava/lang/String;" = some ⟨[(.object "java/lang/String")], some (.object "java/lang/String")⟩ by decide +kernel) rfl (key_met hw hcs hfm (cs := [n0, n1, n2]) (ps := []) F33 ((S6.ext E12).ext B35) (nle rfl) (S13.ext B35) (by simp) (nle rfl) hn0 (nle rfl)) (fun _ q => nomatch q) rfl rfl rfl (by decide) ⟨⟨nle rfl, nle rfl⟩, nle rfl, nle rfl⟩ ?_
  intro v36 h37 hq38 _
  obtain ⟨s39, rfl, E40, S41⟩ := hq38
  have S41 : Stl Z h37 s39 [(108 : Int32), (111 : Int32), (99 : Int32), (107 : Int32), (58 : Int32), (123 : Int32), n0, n1, n2, (125 : Int32)] := S41
  have B42 : Ext h h37 := extTr B34 E40
  have B43 : Ext h9 h37 := extTr B35 E40
  show WlO _ _ _ _ _ _ _ _ _ _ _ _ _ _ _ _ _ _ [.ref s39]
  refine Wl.astore 125 #[.val (.int i0), .val (.int i1), .val (.int i2), .val (.int (0 : Int32)), .val (.int (3 : Int32)), .val (.int p0), .val (.int p1), .val (.int p2), .val (.int n0), .val (.int n1), .val (.int n2), .val (.ref a4), .val (.ref a11), .val (.ref a15), .val (.ref s39), .unset] at_123 rfl rfl ?_
  refine Wl.iload_n 126 at_125 rfl ?_
  refine Wl.iload 128 at_126 rfl ?_
  refine Wl.iadd 129 at_128 ?_
  show WlO _ _ _ _ _ _ _ _ _ _ _ _ _ _ _ _ _ _ [.int (3 : Int32)]
  refine Wl.bipush 131 (7 : Int32) at_129 (by decide) ?_
  refine Wl.iadd 132 at_131 ?_
  show WlO _ _ _ _ _ _ _ _ _ _ _ _ _ _ _ _ _ _ [.int (10 : Int32)]
  refine Wl.istore 134 #[.val (.int i0), .val (.int i1), .val (.int i2), .val (.int (0 : Int32)), .val (.int (3 : Int32)), .val (.int p0), .val (.int p1), .val (.int p2), .val (.int n0), .val (.int n1), .val (.int n2), .val (.ref a4), .val (.ref a11), .val (.ref a15), .val (.ref s39), .val (.int (10 : Int32))] at_132 rfl ?_
  refine Wl.aload 136 at_134 rfl rfl ?_
  refine Wl.ifnullN 139 at_136 ?_
  refine Wl.aload 141 at_139 rfl rfl ?_
  refine Wl.virtual 144 (argsL := []) at_141 (w239 hw) (w81 hw) (w83 hw) (w82 hw) (w9 hw) (w84 hw) (nf_sel (w83 hw) rfl) (S41).exa (show parseMethodDescriptor "()I" = some ⟨[], some .int⟩ by decide +kernel) rfl (len_met hw hcs S41) (fun _ q => nomatch q) rfl rfl rfl (by decide) ⟨⟨nle rfl, nle rfl⟩, nle rfl, nle rfl⟩ ?_
  intro v44 h45 hq46 _
  obtain ⟨rfl, rfl⟩ := hq46
  show WlO _ _ _ _ _ _ _ _ _ _ _ _ _ _ _ _ _ _ [.int (10 : Int32)]
  refine Wl.iload 146 at_144 rfl ?_
  refine Wl.icmpY 151 at_146 (teq (by decide)).1 ?_
  refine Wl.aload 153 at_151 rfl rfl ?_
  refine Wl.iconst 154 (0 : Int32) at_153 (by decide) ?_
  refine Wl.iload 156 at_154 rfl ?_
  refine Wl.iload_n 157 at_156 rfl ?_
  refine Wl.iload 159 at_157 rfl ?_
  refine Wl.iload 161 at_159 rfl ?_
  refine Wl.iload 163 at_161 rfl ?_
  refine Wl.iload 165 at_163 rfl ?_
  refine Wl.iload 167 at_165 rfl ?_
  refine Wl.iload 169 at_167 rfl ?_
  refine Wl.iload 171 at_169 rfl ?_
  refine Wl.static 174 (argsL := [.ref s39, .int (0 : Int32), .int (10 : Int32), .int (0 : Int32), .int p0, .int p1, .int p2, .int (3 : Int32), .int n0, .int n1, .int n2]) at_171 (w240 hw) (w241 hw) (w2 hw) (w242 hw) (show parseMethodDescriptor "(Ljava/lang/String;IIICCCICCC)Z" = some ⟨[(.object "java/lang/String"), .int, .int, .int, .char, .char, .char, .int, .char, .char, .char], some .boolean⟩ by decide +kernel) rfl (okA_met hw hcs hfm (rs := [(108 : Int32), (111 : Int32), (99 : Int32), (107 : Int32), (58 : Int32), (123 : Int32), n0, n1, n2, (125 : Int32)]) (n := 0) (j := 0) S41 (nle rfl) (by decide) (by decide) (by decide) (by decide) (nle rfl) rfl) (fun _ q => nomatch q) rfl rfl rfl (by decide) ⟨⟨nle rfl, nle rfl⟩, nle rfl, nle rfl⟩ ?_
  intro v47 h48 hq49 _
  obtain ⟨rfl, E50⟩ := hq49
  have B51 : Ext h h48 := extTr B42 E50
  have B52 : Ext h9 h48 := extTr B43 E50
  show WlO _ _ _ _ _ _ _ _ _ _ _ _ _ _ _ _ _ _ [.int (1 : Int32)]
  refine Wl.ifN 177 at_174 (feq (by decide)).1 ?_
  refine Wl.aload 179 at_177 rfl rfl ?_
  refine Wl.iconst 180 (1 : Int32) at_179 (by decide) ?_
  refine Wl.iload 182 at_180 rfl ?_
  refine Wl.iload_n 183 at_182 rfl ?_
  refine Wl.iload 185 at_183 rfl ?_
  refine Wl.iload 187 at_185 rfl ?_
  refine Wl.iload 189 at_187 rfl ?_
  refine Wl.iload 191 at_189 rfl ?_
  refine Wl.iload 193 at_191 rfl ?_
  refine Wl.iload 195 at_193 rfl ?_
  refine Wl.iload 197 at_195 rfl ?_
  refine Wl.static 200 (argsL := [.ref s39, .int (1 : Int32), .int (10 : Int32), .int (0 : Int32), .int p0, .int p1, .int p2, .int (3 : Int32), .int n0, .int n1, .int n2]) at_197 (w240 hw) (w241 hw) (w2 hw) (w242 hw) (show parseMethodDescriptor "(Ljava/lang/String;IIICCCICCC)Z" = some ⟨[(.object "java/lang/String"), .int, .int, .int, .char, .char, .char, .int, .char, .char, .char], some .boolean⟩ by decide +kernel) rfl (okA_met hw hcs hfm (rs := [(108 : Int32), (111 : Int32), (99 : Int32), (107 : Int32), (58 : Int32), (123 : Int32), n0, n1, n2, (125 : Int32)]) (n := 1) (j := 1) (S41.ext E50) (nle rfl) (by decide) (by decide) (by decide) (by decide) (nle rfl) rfl) (fun _ q => nomatch q) rfl rfl rfl (by decide) ⟨⟨nle rfl, nle rfl⟩, nle rfl, nle rfl⟩ ?_
  intro v53 h54 hq55 _
  obtain ⟨rfl, E56⟩ := hq55
  have B57 : Ext h h54 := extTr B51 E56
  have B58 : Ext h9 h54 := extTr B52 E56
  show WlO _ _ _ _ _ _ _ _ _ _ _ _ _ _ _ _ _ _ [.int (1 : Int32)]
  refine Wl.ifN 203 at_200 (feq (by decide)).1 ?_
  refine Wl.aload 205 at_203 rfl rfl ?_
  refine Wl.iconst 206 (2 : Int32) at_205 (by decide) ?_
  refine Wl.iload 208 at_206 rfl ?_
  refine Wl.iload_n 209 at_208 rfl ?_
  refine Wl.iload 211 at_209 rfl ?_
  refine Wl.iload 213 at_211 rfl ?_
  refine Wl.iload 215 at_213 rfl ?_
  refine Wl.iload 217 at_215 rfl ?_
  refine Wl.iload 219 at_217 rfl ?_
  refine Wl.iload 221 at_219 rfl ?_
  refine Wl.iload 223 at_221 rfl ?_
  refine Wl.static 226 (argsL := [.ref s39, .int (2 : Int32), .int (10 : Int32), .int (0 : Int32), .int p0, .int p1, .int p2, .int (3 : Int32), .int n0, .int n1, .int n2]) at_223 (w240 hw) (w241 hw) (w2 hw) (w242 hw) (show parseMethodDescriptor "(Ljava/lang/String;IIICCCICCC)Z" = some ⟨[(.object "java/lang/String"), .int, .int, .int, .char, .char, .char, .int, .char, .char, .char], some .boolean⟩ by decide +kernel) rfl (okA_met hw hcs hfm (rs := [(108 : Int32), (111 : Int32), (99 : Int32), (107 : Int32), (58 : Int32), (123 : Int32), n0, n1, n2, (125 : Int32)]) (n := 2) (j := 2) ((S41.ext E50).ext E56) (nle rfl) (by decide) (by decide) (by decide) (by decide) (nle rfl) rfl) (fun _ q => nomatch q) rfl rfl rfl (by decide) ⟨⟨nle rfl, nle rfl⟩, nle rfl, nle rfl⟩ ?_
  intro v59 h60 hq61 _
  obtain ⟨rfl, E62⟩ := hq61
  have B63 : Ext h h60 := extTr B57 E62
  have B64 : Ext h9 h60 := extTr B58 E62
  show WlO _ _ _ _ _ _ _ _ _ _ _ _ _ _ _ _ _ _ [.int (1 : Int32)]
  refine Wl.ifN 229 at_226 (feq (by decide)).1 ?_
  refine Wl.aload 231 at_229 rfl rfl ?_
  refine Wl.iconst 232 (3 : Int32) at_231 (by decide) ?_
  refine Wl.iload 234 at_232 rfl ?_
  refine Wl.iload_n 235 at_234 rfl ?_
  refine Wl.iload 237 at_235 rfl ?_
  refine Wl.iload 239 at_237 rfl ?_
  refine Wl.iload 241 at_239 rfl ?_
  refine Wl.iload 243 at_241 rfl ?_
  refine Wl.iload 245 at_243 rfl ?_
  refine Wl.iload 247 at_245 rfl ?_
  refine Wl.iload 249 at_247 rfl ?_
  refine Wl.static 252 (argsL := [.ref s39, .int (3 : Int32), .int (10 : Int32), .int (0 : Int32), .int p0, .int p1, .int p2, .int (3 : Int32), .int n0, .int n1, .int n2]) at_249 (w240 hw) (w241 hw) (w2 hw) (w242 hw) (show parseMethodDescriptor "(Ljava/lang/String;IIICCCICCC)Z" = some ⟨[(.object "java/lang/String"), .int, .int, .int, .char, .char, .char, .int, .char, .char, .char], some .boolean⟩ by decide +kernel) rfl (okA_met hw hcs hfm (rs := [(108 : Int32), (111 : Int32), (99 : Int32), (107 : Int32), (58 : Int32), (123 : Int32), n0, n1, n2, (125 : Int32)]) (n := 3) (j := 3) (((S41.ext E50).ext E56).ext E62) (nle rfl) (by decide) (by decide) (by decide) (by decide) (nle rfl) rfl) (fun _ q => nomatch q) rfl rfl rfl (by decide) ⟨⟨nle rfl, nle rfl⟩, nle rfl, nle rfl⟩ ?_
  intro v65 h66 hq67 _
  obtain ⟨rfl, E68⟩ := hq67
  have B69 : Ext h h66 := extTr B63 E68
  have B70 : Ext h9 h66 := extTr B64 E68
  show WlO _ _ _ _ _ _ _ _ _ _ _ _ _ _ _ _ _ _ [.int (1 : Int32)]
  refine Wl.ifN 255 at_252 (feq (by decide)).1 ?_
  refine Wl.aload 257 at_255 rfl rfl ?_
  refine Wl.iconst 258 (4 : Int32) at_257 (by decide) ?_
  refine Wl.iload 260 at_258 rfl ?_
  refine Wl.iload_n 261 at_260 rfl ?_
  refine Wl.iload 263 at_261 rfl ?_
  refine Wl.iload 265 at_263 rfl ?_
  refine Wl.iload 267 at_265 rfl ?_
  refine Wl.iload 269 at_267 rfl ?_
  refine Wl.iload 271 at_269 rfl ?_
  refine Wl.iload 273 at_271 rfl ?_
  refine Wl.iload 275 at_273 rfl ?_
  refine Wl.static 278 (argsL := [.ref s39, .int (4 : Int32), .int (10 : Int32), .int (0 : Int32), .int p0, .int p1, .int p2, .int (3 : Int32), .int n0, .int n1, .int n2]) at_275 (w240 hw) (w241 hw) (w2 hw) (w242 hw) (show parseMethodDescriptor "(Ljava/lang/String;IIICCCICCC)Z" = some ⟨[(.object "java/lang/String"), .int, .int, .int, .char, .char, .char, .int, .char, .char, .char], some .boolean⟩ by decide +kernel) rfl (okA_met hw hcs hfm (rs := [(108 : Int32), (111 : Int32), (99 : Int32), (107 : Int32), (58 : Int32), (123 : Int32), n0, n1, n2, (125 : Int32)]) (n := 4) (j := 4) ((((S41.ext E50).ext E56).ext E62).ext E68) (nle rfl) (by decide) (by decide) (by decide) (by decide) (nle rfl) rfl) (fun _ q => nomatch q) rfl rfl rfl (by decide) ⟨⟨nle rfl, nle rfl⟩, nle rfl, nle rfl⟩ ?_
  intro v71 h72 hq73 _
  obtain ⟨rfl, E74⟩ := hq73
  have B75 : Ext h h72 := extTr B69 E74
  have B76 : Ext h9 h72 := extTr B70 E74
  show WlO _ _ _ _ _ _ _ _ _ _ _ _ _ _ _ _ _ _ [.int (1 : Int32)]
  refine Wl.ifN 281 at_278 (feq (by decide)).1 ?_
  refine Wl.aload 283 at_281 rfl rfl ?_
  refine Wl.iconst 284 (5 : Int32) at_283 (by decide) ?_
  refine Wl.iload 286 at_284 rfl ?_
  refine Wl.iload_n 287 at_286 rfl ?_
  refine Wl.iload 289 at_287 rfl ?_
  refine Wl.iload 291 at_289 rfl ?_
  refine Wl.iload 293 at_291 rfl ?_
  refine Wl.iload 295 at_293 rfl ?_
  refine Wl.iload 297 at_295 rfl ?_
  refine Wl.iload 299 at_297 rfl ?_
  refine Wl.iload 301 at_299 rfl ?_
  refine Wl.static 304 (argsL := [.ref s39, .int (5 : Int32), .int (10 : Int32), .int (0 : Int32), .int p0, .int p1, .int p2, .int (3 : Int32), .int n0, .int n1, .int n2]) at_301 (w240 hw) (w241 hw) (w2 hw) (w242 hw) (show parseMethodDescriptor "(Ljava/lang/String;IIICCCICCC)Z" = some ⟨[(.object "java/lang/String"), .int, .int, .int, .char, .char, .char, .int, .char, .char, .char], some .boolean⟩ by decide +kernel) rfl (okB_met hw hcs hfm (rs := [(108 : Int32), (111 : Int32), (99 : Int32), (107 : Int32), (58 : Int32), (123 : Int32), n0, n1, n2, (125 : Int32)]) (n := 5) (((((S41.ext E50).ext E56).ext E62).ext E68).ext E74) (nle rfl) (by decide) (by decide) lp0 lp1 lp2 ln0 ln1 ln2 (show (123 : Int32) = expI (5 : Int32) (0 : Int32) p0 p1 p2 (3 : Int32) n0 n1 n2 by rw [expI, if_neg (by decide), if_pos (by decide)])) (fun _ q => nomatch q) rfl rfl rfl (by decide) ⟨⟨nle rfl, nle rfl⟩, nle rfl, nle rfl⟩ ?_
  intro v77 h78 hq79 _
  obtain ⟨rfl, rfl⟩ := hq79
  show WlO _ _ _ _ _ _ _ _ _ _ _ _ _ _ _ _ _ _ [.int (1 : Int32)]
  refine Wl.ifN 307 at_304 (feq (by decide)).1 ?_
  refine Wl.aload 309 at_307 rfl rfl ?_
  refine Wl.bipush 311 (6 : Int32) at_309 (by decide) ?_
  refine Wl.iload 313 at_311 rfl ?_
  refine Wl.iload_n 314 at_313 rfl ?_
  refine Wl.iload 316 at_314 rfl ?_
  refine Wl.iload 318 at_316 rfl ?_
  refine Wl.iload 320 at_318 rfl ?_
  refine Wl.iload 322 at_320 rfl ?_
  refine Wl.iload 324 at_322 rfl ?_
  refine Wl.iload 326 at_324 rfl ?_
  refine Wl.iload 328 at_326 rfl ?_
  refine Wl.static 331 (argsL := [.ref s39, .int (6 : Int32), .int (10 : Int32), .int (0 : Int32), .int p0, .int p1, .int p2, .int (3 : Int32), .int n0, .int n1, .int n2]) at_328 (w240 hw) (w241 hw) (w2 hw) (w242 hw) (show parseMethodDescriptor "(Ljava/lang/String;IIICCCICCC)Z" = some ⟨[(.object "java/lang/String"), .int, .int, .int, .char, .char, .char, .int, .char, .char, .char], some .boolean⟩ by decide +kernel) rfl (okB_met hw hcs hfm (rs := [(108 : Int32), (111 : Int32), (99 : Int32), (107 : Int32), (58 : Int32), (123 : Int32), n0, n1, n2, (125 : Int32)]) (n := 6) (((((S41.ext E50).ext E56).ext E62).ext E68).ext E74) (nle rfl) (by decide) (by decide) lp0 lp1 lp2 ln0 ln1 ln2 (show n0 = expI (6 : Int32) (0 : Int32) p0 p1 p2 (3 : Int32) n0 n1 n2 by rw [expI, if_neg (by decide), if_neg (by decide), if_pos (by decide), if_pos (by decide)])) (fun _ q => nomatch q) rfl rfl rfl (by decide) ⟨⟨nle rfl, nle rfl⟩, nle rfl, nle rfl⟩ ?_
  intro v80 h81 hq82 _
  obtain ⟨rfl, rfl⟩ := hq82
  show WlO _ _ _ _ _ _ _ _ _ _ _ _ _ _ _ _ _ _ [.int (1 : Int32)]
  refine Wl.ifN 334 at_331 (feq (by decide)).1 ?_
  refine Wl.aload 336 at_334 rfl rfl ?_
  refine Wl.bipush 338 (7 : Int32) at_336 (by decide) ?_
  refine Wl.iload 340 at_338 rfl ?_
  refine Wl.iload_n 341 at_340 rfl ?_
  refine Wl.iload 343 at_341 rfl ?_
  refine Wl.iload 345 at_343 rfl ?_
  refine Wl.iload 347 at_345 rfl ?_
  refine Wl.iload 349 at_347 rfl ?_
  refine Wl.iload 351 at_349 rfl ?_
  refine Wl.iload 353 at_351 rfl ?_
  refine Wl.iload 355 at_353 rfl ?_
  refine Wl.static 358 (argsL := [.ref s39, .int (7 : Int32), .int (10 : Int32), .int (0 : Int32), .int p0, .int p1, .int p2, .int (3 : Int32), .int n0, .int n1, .int n2]) at_355 (w240 hw) (w241 hw) (w2 hw) (w242 hw) (show parseMethodDescriptor "(Ljava/lang/String;IIICCCICCC)Z" = some ⟨[(.object "java/lang/String"), .int, .int, .int, .char, .char, .char, .int, .char, .char, .char], some .boolean⟩ by decide +kernel) rfl (okB_met hw hcs hfm (rs := [(108 : Int32), (111 : Int32), (99 : Int32), (107 : Int32), (58 : Int32), (123 : Int32), n0, n1, n2, (125 : Int32)]) (n := 7) (((((S41.ext E50).ext E56).ext E62).ext E68).ext E74) (nle rfl) (by decide) (by decide) lp0 lp1 lp2 ln0 ln1 ln2 (show n1 = expI (7 : Int32) (0 : Int32) p0 p1 p2 (3 : Int32) n0 n1 n2 by rw [expI, if_neg (by decide), if_neg (by decide), if_pos (by decide), if_neg (by decide), if_pos (by decide)])) (fun _ q => nomatch q) rfl rfl rfl (by decide) ⟨⟨nle rfl, nle rfl⟩, nle rfl, nle rfl⟩ ?_
  intro v83 h84 hq85 _
  obtain ⟨rfl, rfl⟩ := hq85
  show WlO _ _ _ _ _ _ _ _ _ _ _ _ _ _ _ _ _ _ [.int (1 : Int32)]
  refine Wl.ifN 361 at_358 (feq (by decide)).1 ?_
  refine Wl.aload 363 at_361 rfl rfl ?_
  refine Wl.bipush 365 (8 : Int32) at_363 (by decide) ?_
  refine Wl.iload 367 at_365 rfl ?_
  refine Wl.iload_n 368 at_367 rfl ?_
  refine Wl.iload 370 at_368 rfl ?_
  refine Wl.iload 372 at_370 rfl ?_
  refine Wl.iload 374 at_372 rfl ?_
  refine Wl.iload 376 at_374 rfl ?_
  refine Wl.iload 378 at_376 rfl ?_
  refine Wl.iload 380 at_378 rfl ?_
  refine Wl.iload 382 at_380 rfl ?_
  refine Wl.static 385 (argsL := [.ref s39, .int (8 : Int32), .int (10 : Int32), .int (0 : Int32), .int p0, .int p1, .int p2, .int (3 : Int32), .int n0, .int n1, .int n2]) at_382 (w240 hw) (w241 hw) (w2 hw) (w242 hw) (show parseMethodDescriptor "(Ljava/lang/String;IIICCCICCC)Z" = some ⟨[(.object "java/lang/String"), .int, .int, .int, .char, .char, .char, .int, .char, .char, .char], some .boolean⟩ by decide +kernel) rfl (okB_met hw hcs hfm (rs := [(108 : Int32), (111 : Int32), (99 : Int32), (107 : Int32), (58 : Int32), (123 : Int32), n0, n1, n2, (125 : Int32)]) (n := 8) (((((S41.ext E50).ext E56).ext E62).ext E68).ext E74) (nle rfl) (by decide) (by decide) lp0 lp1 lp2 ln0 ln1 ln2 (show n2 = expI (8 : Int32) (0 : Int32) p0 p1 p2 (3 : Int32) n0 n1 n2 by rw [expI, if_neg (by decide), if_neg (by decide), if_pos (by decide), if_neg (by decide), if_neg (by decide)])) (fun _ q => nomatch q) rfl rfl rfl (by decide) ⟨⟨nle rfl, nle rfl⟩, nle rfl, nle rfl⟩ ?_
  intro v86 h87 hq88 _
  obtain ⟨rfl, rfl⟩ := hq88
  show WlO _ _ _ _ _ _ _ _ _ _ _ _ _ _ _ _ _ _ [.int (1 : Int32)]
  refine Wl.ifN 388 at_385 (feq (by decide)).1 ?_
  refine Wl.aload 390 at_388 rfl rfl ?_
  refine Wl.bipush 392 (9 : Int32) at_390 (by decide) ?_
  refine Wl.iload 394 at_392 rfl ?_
  refine Wl.iload_n 395 at_394 rfl ?_
  refine Wl.iload 397 at_395 rfl ?_
  refine Wl.iload 399 at_397 rfl ?_
  refine Wl.iload 401 at_399 rfl ?_
  refine Wl.iload 403 at_401 rfl ?_
  refine Wl.iload 405 at_403 rfl ?_
  refine Wl.iload 407 at_405 rfl ?_
  refine Wl.iload 409 at_407 rfl ?_
  refine Wl.static 412 (argsL := [.ref s39, .int (9 : Int32), .int (10 : Int32), .int (0 : Int32), .int p0, .int p1, .int p2, .int (3 : Int32), .int n0, .int n1, .int n2]) at_409 (w240 hw) (w241 hw) (w2 hw) (w242 hw) (show parseMethodDescriptor "(Ljava/lang/String;IIICCCICCC)Z" = some ⟨[(.object "java/lang/String"), .int, .int, .int, .char, .char, .char, .int, .char, .char, .char], some .boolean⟩ by decide +kernel) rfl (okB_met hw hcs hfm (rs := [(108 : Int32), (111 : Int32), (99 : Int32), (107 : Int32), (58 : Int32), (123 : Int32), n0, n1, n2, (125 : Int32)]) (n := 9) (((((S41.ext E50).ext E56).ext E62).ext E68).ext E74) (nle rfl) (by decide) (by decide) lp0 lp1 lp2 ln0 ln1 ln2 (show (125 : Int32) = expI (9 : Int32) (0 : Int32) p0 p1 p2 (3 : Int32) n0 n1 n2 by rw [expI, if_neg (by decide), if_neg (by decide), if_neg (by decide)])) (fun _ q => nomatch q) rfl rfl rfl (by decide) ⟨⟨nle rfl, nle rfl⟩, nle rfl, nle rfl⟩ ?_
  intro v89 h90 hq91 _
  obtain ⟨rfl, rfl⟩ := hq91
  show WlO _ _ _ _ _ _ _ _ _ _ _ _ _ _ _ _ _ _ [.int (1 : Int32)]
  refine Wl.ifN 415 at_412 (feq (by decide)).1 ?_
  refine Wl.aload 417 at_415 rfl rfl ?_
  refine Wl.bipush 419 (10 : Int32) at_417 (by decide) ?_
  refine Wl.iload 421 at_419 rfl ?_
  refine Wl.iload_n 422 at_421 rfl ?_
  refine Wl.iload 424 at_422 rfl ?_
  refine Wl.iload 426 at_424 rfl ?_
  refine Wl.iload 428 at_426 rfl ?_
  refine Wl.iload 430 at_428 rfl ?_
  refine Wl.iload 432 at_430 rfl ?_
  refine Wl.iload 434 at_432 rfl ?_
  refine Wl.iload 436 at_434 rfl ?_
  refine Wl.static 439 (argsL := [.ref s39, .int (10 : Int32), .int (10 : Int32), .int (0 : Int32), .int p0, .int p1, .int p2, .int (3 : Int32), .int n0, .int n1, .int n2]) at_436 (w240 hw) (w241 hw) (w2 hw) (w242 hw) (show parseMethodDescriptor "(Ljava/lang/String;IIICCCICCC)Z" = some ⟨[(.object "java/lang/String"), .int, .int, .int, .char, .char, .char, .int, .char, .char, .char], some .boolean⟩ by decide +kernel) rfl (okC_met hw (by decide)) (fun _ q => nomatch q) rfl rfl rfl (by decide) ⟨⟨nle rfl, nle rfl⟩, nle rfl, nle rfl⟩ ?_
  intro v92 h93 hq94 _
  obtain ⟨rfl, rfl⟩ := hq94
  show WlO _ _ _ _ _ _ _ _ _ _ _ _ _ _ _ _ _ _ [.int (1 : Int32)]
  refine Wl.ifN 442 at_439 (feq (by decide)).1 ?_
  refine Wl.aload 444 at_442 rfl rfl ?_
  refine Wl.bipush 446 (11 : Int32) at_444 (by decide) ?_
  refine Wl.iload 448 at_446 rfl ?_
  refine Wl.iload_n 449 at_448 rfl ?_
  refine Wl.iload 451 at_449 rfl ?_
  refine Wl.iload 453 at_451 rfl ?_
  refine Wl.iload 455 at_453 rfl ?_
  refine Wl.iload 457 at_455 rfl ?_
  refine Wl.iload 459 at_457 rfl ?_
  refine Wl.iload 461 at_459 rfl ?_
  refine Wl.iload 463 at_461 rfl ?_
  refine Wl.static 466 (argsL := [.ref s39, .int (11 : Int32), .int (10 : Int32), .int (0 : Int32), .int p0, .int p1, .int p2, .int (3 : Int32), .int n0, .int n1, .int n2]) at_463 (w240 hw) (w241 hw) (w2 hw) (w242 hw) (show parseMethodDescriptor "(Ljava/lang/String;IIICCCICCC)Z" = some ⟨[(.object "java/lang/String"), .int, .int, .int, .char, .char, .char, .int, .char, .char, .char], some .boolean⟩ by decide +kernel) rfl (okC_met hw (by decide)) (fun _ q => nomatch q) rfl rfl rfl (by decide) ⟨⟨nle rfl, nle rfl⟩, nle rfl, nle rfl⟩ ?_
  intro v95 h96 hq97 _
  obtain ⟨rfl, rfl⟩ := hq97
  show WlO _ _ _ _ _ _ _ _ _ _ _ _ _ _ _ _ _ _ [.int (1 : Int32)]
  refine Wl.ifN 469 at_466 (feq (by decide)).1 ?_
  refine Wl.aload 471 at_469 rfl rfl ?_
  refine Wl.bipush 473 (12 : Int32) at_471 (by decide) ?_
  refine Wl.iload 475 at_473 rfl ?_
  refine Wl.iload_n 476 at_475 rfl ?_
  refine Wl.iload 478 at_476 rfl ?_
  refine Wl.iload 480 at_478 rfl ?_
  refine Wl.iload 482 at_480 rfl ?_
  refine Wl.iload 484 at_482 rfl ?_
  refine Wl.iload 486 at_484 rfl ?_
  refine Wl.iload 488 at_486 rfl ?_
  refine Wl.iload 490 at_488 rfl ?_
  refine Wl.static 493 (argsL := [.ref s39, .int (12 : Int32), .int (10 : Int32), .int (0 : Int32), .int p0, .int p1, .int p2, .int (3 : Int32), .int n0, .int n1, .int n2]) at_490 (w240 hw) (w241 hw) (w2 hw) (w242 hw) (show parseMethodDescriptor "(Ljava/lang/String;IIICCCICCC)Z" = some ⟨[(.object "java/lang/String"), .int, .int, .int, .char, .char, .char, .int, .char, .char, .char], some .boolean⟩ by decide +kernel) rfl (okC_met hw (by decide)) (fun _ q => nomatch q) rfl rfl rfl (by decide) ⟨⟨nle rfl, nle rfl⟩, nle rfl, nle rfl⟩ ?_
  intro v98 h99 hq100 _
  obtain ⟨rfl, rfl⟩ := hq100
  show WlO _ _ _ _ _ _ _ _ _ _ _ _ _ _ _ _ _ _ [.int (1 : Int32)]
  refine Wl.ifN 496 at_493 (feq (by decide)).1 ?_
  refine Wl.iconst 497 (1 : Int32) at_496 (by decide) ?_
  refine Wl.goto 501 at_497 ?_
  exact Wl.ireturn at_501 rfl rfl (by simp) (nle rfl) (nle rfl) rfl
set_option maxRecDepth 65536 in
set_option maxHeartbeats 40000000 in
theorem law_t11 {l : Launch} {Z : State} {a0 : Array Value} (hw : ∀ d ∈ tables_1, d.before a0 Z = true) (hcs : CSon Z) (hfm : Fmt Z) {as : Array Value} {h : Heap} {i0 i1 i2 p0 p1 p2 n0 n1 n2 : Int32} (lp0 : Lat p0) (lp1 : Lat p1) (lp2 : Lat p2) (ln0 : Lat n0) (ln1 : Lat n1) (ln2 : Lat n2) (p0123 : p0 ≠ 123) (p0125 : p0 ≠ 125) (p1123 : p1 ≠ 123) (p1125 : p1 ≠ 125) (p2123 : p2 ≠ 123) (p2125 : p2 ≠ 125) (hn0 : ¬ n0 = (125 : Int32)) :
    Wl l Z a0 consts_1 x code maxLocals ret room_1 as (fun v h' => v = some (.int 1)) [] h 0 0 80 #[.val (.int i0), .val (.int i1), .val (.int i2), .val (.int (1 : Int32)), .val (.int (1 : Int32)), .val (.int p0), .val (.int p1), .val (.int p2), .val (.int n0), .val (.int n1), .val (.int n2), .unset, .unset, .unset, .unset, .unset] [] := by
  refine Wl.iload_n 81 at_80 rfl ?_
  refine Wl.iload 83 at_81 rfl ?_
  refine Wl.iload 85 at_83 rfl ?_
  refine Wl.iload 87 at_85 rfl ?_
  refine Wl.static 90 (argsL := [.int (1 : Int32), .int p0, .int p1, .int p2]) at_87 (w4 hw) (w5 hw) (w2 hw) (w6 hw) (show parseMethodDescriptor "(ICCC)Ljava/lang/String;" = some ⟨[.int, .char, .char, .char], some (.object "java/lang/String")⟩ by decide +kernel) rfl (mk1_met hw hcs lp0 lp1 lp2) (fun _ q => nomatch q) rfl rfl rfl (by decide) ⟨⟨nle rfl, nle rfl⟩, nle rfl, nle rfl⟩ ?_
  intro v1 h2 hq3 _
  obtain ⟨a4, rfl, E5, S6⟩ := hq3
  have B7 : Ext h h2 := E5
  show WlO _ _ _ _ _ _ _ _ _ _ _ _ _ _ _ _ _ _ [.ref a4]
  refine Wl.astore 92 #[.val (.int i0), .val (.int i1), .val (.int i2), .val (.int (1 : Int32)), .val (.int (1 : Int32)), .val (.int p0), .val (.int p1), .val (.int p2), .val (.int n0), .val (.int n1), .val (.int n2), .val (.ref a4), .unset, .unset, .unset, .unset] at_90 rfl rfl ?_
  refine Wl.iload 94 at_92 rfl ?_
  refine Wl.iload 96 at_94 rfl ?_
  refine Wl.iload 98 at_96 rfl ?_
  refine Wl.iload 100 at_98 rfl ?_
  refine Wl.static 103 (argsL := [.int (1 : Int32), .int n0, .int n1, .int n2]) at_100 (w4 hw) (w5 hw) (w2 hw) (w6 hw) (show parseMethodDescriptor "(ICCC)Ljava/lang/String;" = some ⟨[.int, .char, .char, .char], some (.object "java/lang/String")⟩ by decide +kernel) rfl (mk1_met hw hcs ln0 ln1 ln2) (fun _ q => nomatch q) rfl rfl rfl (by decide) ⟨⟨nle rfl, nle rfl⟩, nle rfl, nle rfl⟩ ?_
  intro v8 h9 hq10 _
  obtain ⟨a11, rfl, E12, S13⟩ := hq10
  have B14 : Ext h h9 := extTr B7 E12
  show WlO _ _ _ _ _ _ _ _ _ _ _ _ _ _ _ _ _ _ [.ref a11]
  refine Wl.astore 105 #[.val (.int i0), .val (.int i1), .val (.int i2), .val (.int (1 : Int32)), .val (.int (1 : Int32)), .val (.int p0), .val (.int p1), .val (.int p2), .val (.int n0), .val (.int n1), .val (.int n2), .val (.ref a4), .val (.ref a11), .unset, .unset, .unset] at_103 rfl rfl ?_
  refine Wl.new 108 at_105 (w51 hw) (w52 hw) (w53 hw) (nle rfl) (nle rfl) ?_
  intro a15 h16 q17 E18 X19 D20
  have z21 : h.size ≤ a15 := Nat.le_trans B14.1 (Nat.le_of_eq q17.symm)
  have z22 : h9.size ≤ a15 := Nat.le_of_eq q17.symm
  have ne23 : a4 ≠ a15 := Nat.ne_of_lt (by rw [q17]; exact (((S6).exa.ext E12)).lt)
  have ne24 : a11 ≠ a15 := Nat.ne_of_lt (by rw [q17]; exact ((S13).exa).lt)
  have B25 : Ext h h16 := extTr B14 E18
  have B26 : Ext h9 h16 := E18
  have F27 : Fld Z h16 a15 "com/example/portunus/portunus/LockKeys" "prefix" "Ljava/lang/String;" (.null) := D20 (Or.inr (w107 hw)) (ty := (.object "java/lang/String")) (by decide)
  refine Wl.dup 109 at_108 rfl ?_
  refine Wl.aload 111 at_109 rfl rfl ?_
  refine Wl.special 114 (argsL := [.ref a4]) at_111 (w54 hw) (w55 hw) (w53 hw) (w56 hw) (show parseMethodDescriptor "(Ljava/lang/String;)V" = some ⟨[(.object "java/lang/String")], none⟩ by decide +kernel) rfl (keys_met hw hcs X19 F27 (cs := [p0]) ((S6.ext E12).ext E18) (neC p0123 neN) (neC p0125 neN)) (allS (List.mem_of_getElem? (i := 0) rfl) (fun _ q => nomatch q)) rfl rfl rfl rfl (by decide) ⟨⟨nle rfl, nle rfl⟩, nle rfl, nle rfl⟩ ?_
  intro v28 h29 hq30 _
  obtain ⟨rfl, K31, X32, F33⟩ := hq30
  have B34 : Ext h h29 := extKeep B25 K31 (allS z21 all0)
  have B35 : Ext h9 h29 := extKeep B26 K31 (allS z22 all0)
  show WlO _ _ _ _ _ _ _ _ _ _ _ _ _ _ _ _ _ _ [.ref a15]
  refine Wl.astore 116 #[.val (.int i0), .val (.int i1), .val (.int i2), .val (.int (1 : Int32)), .val (.int (1 : Int32)), .val (.int p0), .val (.int p1), .val (.int p2), .val (.int n0), .val (.int n1), .val (.int n2), .val (.ref a4), .val (.ref a11), .val (.ref a15), .unset, .unset] at_114 rfl rfl ?_
  refine Wl.aload 118 at_116 rfl rfl ?_
  refine Wl.aload 120 at_118 rfl rfl ?_
  refine Wl.virtual 123 (argsL := [.ref a11]) at_120 (w108 hw) (w109 hw) (w111 hw) (w110 hw) (w53 hw) (w112 hw) (nf_sel (w111 hw) rfl) X32 (show parseMethodDescriptor "(Ljava/lang/String;)Ljava/lang/String;" = some ⟨[(.object "java/lang/String")], some (.object "java/lang/String")⟩ by decide +kernel) rfl (key_met hw hcs hfm (cs := [n0]) (ps := [p0]) F33 ((S6.ext E12).ext B35) (nle rfl) (S13.ext B35) (by simp) (nle rfl) hn0 (nle rfl)) (fun _ q => nomatch q) rfl rfl rfl (by decide) ⟨⟨nle rfl, nle rfl⟩, nle rfl, nle rfl⟩ ?_
  intro v36 h37 hq38 _
  obtain ⟨s39, rfl, E40, S41⟩ := hq38
  have S41 : Stl Z h37 s39 [p0, (108 : Int32), (111 : Int32), (99 : Int32), (107 : Int32), (58 : Int32), (123 : Int32), n0, (125 : Int32)] := S41
  have B42 : Ext h h37 := extTr B34 E40
  have B43 : Ext h9 h37 := extTr B35 E40
  show WlO _ _ _ _ _ _ _ _ _ _ _ _ _ _ _ _ _ _ [.ref s39]
  refine Wl.astore 125 #[.val (.int i0), .val (.int i1), .val (.int i2), .val (.int (1 : Int32)), .val (.int (1 : Int32)), .val (.int p0), .val (.int p1), .val (.int p2), .val (.int n0), .val (.int n1), .val (.int n2), .val (.ref a4), .val (.ref a11), .val (.ref a15), .val (.ref s39), .unset] at_123 rfl rfl ?_
  refine Wl.iload_n 126 at_125 rfl ?_
  refine Wl.iload 128 at_126 rfl ?_
  refine Wl.iadd 129 at_128 ?_
  show WlO _ _ _ _ _ _ _ _ _ _ _ _ _ _ _ _ _ _ [.int (2 : Int32)]
  refine Wl.bipush 131 (7 : Int32) at_129 (by decide) ?_
  refine Wl.iadd 132 at_131 ?_
  show WlO _ _ _ _ _ _ _ _ _ _ _ _ _ _ _ _ _ _ [.int (9 : Int32)]
  refine Wl.istore 134 #[.val (.int i0), .val (.int i1), .val (.int i2), .val (.int (1 : Int32)), .val (.int (1 : Int32)), .val (.int p0), .val (.int p1), .val (.int p2), .val (.int n0), .val (.int n1), .val (.int n2), .val (.ref a4), .val (.ref a11), .val (.ref a15), .val (.ref s39), .val (.int (9 : Int32))] at_132 rfl ?_
  refine Wl.aload 136 at_134 rfl rfl ?_
  refine Wl.ifnullN 139 at_136 ?_
  refine Wl.aload 141 at_139 rfl rfl ?_
  refine Wl.virtual 144 (argsL := []) at_141 (w239 hw) (w81 hw) (w83 hw) (w82 hw) (w9 hw) (w84 hw) (nf_sel (w83 hw) rfl) (S41).exa (show parseMethodDescriptor "()I" = some ⟨[], some .int⟩ by decide +kernel) rfl (len_met hw hcs S41) (fun _ q => nomatch q) rfl rfl rfl (by decide) ⟨⟨nle rfl, nle rfl⟩, nle rfl, nle rfl⟩ ?_
  intro v44 h45 hq46 _
  obtain ⟨rfl, rfl⟩ := hq46
  show WlO _ _ _ _ _ _ _ _ _ _ _ _ _ _ _ _ _ _ [.int (9 : Int32)]
  refine Wl.iload 146 at_144 rfl ?_
  refine Wl.icmpY 151 at_146 (teq (by decide)).1 ?_
  refine Wl.aload 153 at_151 rfl rfl ?_
  refine Wl.iconst 154 (0 : Int32) at_153 (by decide) ?_
  refine Wl.iload 156 at_154 rfl ?_
  refine Wl.iload_n 157 at_156 rfl ?_
  refine Wl.iload 159 at_157 rfl ?_
  refine Wl.iload 161 at_159 rfl ?_
  refine Wl.iload 163 at_161 rfl ?_
  refine Wl.iload 165 at_163 rfl ?_
  refine Wl.iload 167 at_165 rfl ?_
  refine Wl.iload 169 at_167 rfl ?_
  refine Wl.iload 171 at_169 rfl ?_
  refine Wl.static 174 (argsL := [.ref s39, .int (0 : Int32), .int (9 : Int32), .int (1 : Int32), .int p0, .int p1, .int p2, .int (1 : Int32), .int n0, .int n1, .int n2]) at_171 (w240 hw) (w241 hw) (w2 hw) (w242 hw) (show parseMethodDescriptor "(Ljava/lang/String;IIICCCICCC)Z" = some ⟨[(.object "java/lang/String"), .int, .int, .int, .char, .char, .char, .int, .char, .char, .char], some .boolean⟩ by decide +kernel) rfl (okB_met hw hcs hfm (rs := [p0, (108 : Int32), (111 : Int32), (99 : Int32), (107 : Int32), (58 : Int32), (123 : Int32), n0, (125 : Int32)]) (n := 0) S41 (nle rfl) (by decide) (by decide) lp0 lp1 lp2 ln0 ln1 ln2 (show p0 = expI (0 : Int32) (1 : Int32) p0 p1 p2 (1 : Int32) n0 n1 n2 by rw [expI, if_pos (by decide), if_pos (by decide)])) (fun _ q => nomatch q) rfl rfl rfl (by decide) ⟨⟨nle rfl, nle rfl⟩, nle rfl, nle rfl⟩ ?_
  intro v47 h48 hq49 _
  obtain ⟨rfl, rfl⟩ := hq49
  show WlO _ _ _ _ _ _ _ _ _ _ _ _ _ _ _ _ _ _ [.int (1 : Int32)]
  refine Wl.ifN 177 at_174 (feq (by decide)).1 ?_
  refine Wl.aload 179 at_177 rfl rfl ?_
  refine Wl.iconst 180 (1 : Int32) at_179 (by decide) ?_
  refine Wl.iload 182 at_180 rfl ?_
  refine Wl.iload_n 183 at_182 rfl ?_
  refine Wl.iload 185 at_183 rfl ?_
  refine Wl.iload 187 at_185 rfl ?_
  refine Wl.iload 189 at_187 rfl ?_
  refine Wl.iload 191 at_189 rfl ?_
  refine Wl.iload 193 at_191 rfl ?_
  refine Wl.iload 195 at_193 rfl ?_
  refine Wl.iload 197 at_195 rfl ?_
  refine Wl.static 200 (argsL := [.ref s39, .int (1 : Int32), .int (9 : Int32), .int (1 : Int32), .int p0, .int p1, .int p2, .int (1 : Int32), .int n0, .int n1, .int n2]) at_197 (w240 hw) (w241 hw) (w2 hw) (w242 hw) (show parseMethodDescriptor "(Ljava/lang/String;IIICCCICCC)Z" = some ⟨[(.object "java/lang/String"), .int, .int, .int, .char, .char, .char, .int, .char, .char, .char], some .boolean⟩ by decide +kernel) rfl (okA_met hw hcs hfm (rs := [p0, (108 : Int32), (111 : Int32), (99 : Int32), (107 : Int32), (58 : Int32), (123 : Int32), n0, (125 : Int32)]) (n := 1) (j := 0) S41 (nle rfl) (by decide) (by decide) (by decide) (by decide) (nle rfl) rfl) (fun _ q => nomatch q) rfl rfl rfl (by decide) ⟨⟨nle rfl, nle rfl⟩, nle rfl, nle rfl⟩ ?_
  intro v50 h51 hq52 _
  obtain ⟨rfl, E53⟩ := hq52
  have B54 : Ext h h51 := extTr B42 E53
  have B55 : Ext h9 h51 := extTr B43 E53
  show WlO _ _ _ _ _ _ _ _ _ _ _ _ _ _ _ _ _ _ [.int (1 : Int32)]
  refine Wl.ifN 203 at_200 (feq (by decide)).1 ?_
  refine Wl.aload 205 at_203 rfl rfl ?_
  refine Wl.iconst 206 (2 : Int32) at_205 (by decide) ?_
  refine Wl.iload 208 at_206 rfl ?_
  refine Wl.iload_n 209 at_208 rfl ?_
  refine Wl.iload 211 at_209 rfl ?_
  refine Wl.iload 213 at_211 rfl ?_
  refine Wl.iload 215 at_213 rfl ?_
  refine Wl.iload 217 at_215 rfl ?_
  refine Wl.iload 219 at_217 rfl ?_
  refine Wl.iload 221 at_219 rfl ?_
  refine Wl.iload 223 at_221 rfl ?_
  refine Wl.static 226 (argsL := [.ref s39, .int (2 : Int32), .int (9 : Int32), .int (1 : Int32), .int p0, .int p1, .int p2, .int (1 : Int32), .int n0, .int n1, .int n2]) at_223 (w240 hw) (w241 hw) (w2 hw) (w242 hw) (show parseMethodDescriptor "(Ljava/lang/String;IIICCCICCC)Z" = some ⟨[(.object "java/lang/String"), .int, .int, .int, .char, .char, .char, .int, .char, .char, .char], some .boolean⟩ by decide +kernel) rfl (okA_met hw hcs hfm (rs := [p0, (108 : Int32), (111 : Int32), (99 : Int32), (107 : Int32), (58 : Int32), (123 : Int32), n0, (125 : Int32)]) (n := 2) (j := 1) (S41.ext E53) (nle rfl) (by decide) (by decide) (by decide) (by decide) (nle rfl) rfl) (fun _ q => nomatch q) rfl rfl rfl (by decide) ⟨⟨nle rfl, nle rfl⟩, nle rfl, nle rfl⟩ ?_
  intro v56 h57 hq58 _
  obtain ⟨rfl, E59⟩ := hq58
  have B60 : Ext h h57 := extTr B54 E59
  have B61 : Ext h9 h57 := extTr B55 E59
  show WlO _ _ _ _ _ _ _ _ _ _ _ _ _ _ _ _ _ _ [.int (1 : Int32)]
  refine Wl.ifN 229 at_226 (feq (by decide)).1 ?_
  refine Wl.aload 231 at_229 rfl rfl ?_
  refine Wl.iconst 232 (3 : Int32) at_231 (by decide) ?_
  refine Wl.iload 234 at_232 rfl ?_
  refine Wl.iload_n 235 at_234 rfl ?_
  refine Wl.iload 237 at_235 rfl ?_
  refine Wl.iload 239 at_237 rfl ?_
  refine Wl.iload 241 at_239 rfl ?_
  refine Wl.iload 243 at_241 rfl ?_
  refine Wl.iload 245 at_243 rfl ?_
  refine Wl.iload 247 at_245 rfl ?_
  refine Wl.iload 249 at_247 rfl ?_
  refine Wl.static 252 (argsL := [.ref s39, .int (3 : Int32), .int (9 : Int32), .int (1 : Int32), .int p0, .int p1, .int p2, .int (1 : Int32), .int n0, .int n1, .int n2]) at_249 (w240 hw) (w241 hw) (w2 hw) (w242 hw) (show parseMethodDescriptor "(Ljava/lang/String;IIICCCICCC)Z" = some ⟨[(.object "java/lang/String"), .int, .int, .int, .char, .char, .char, .int, .char, .char, .char], some .boolean⟩ by decide +kernel) rfl (okA_met hw hcs hfm (rs := [p0, (108 : Int32), (111 : Int32), (99 : Int32), (107 : Int32), (58 : Int32), (123 : Int32), n0, (125 : Int32)]) (n := 3) (j := 2) ((S41.ext E53).ext E59) (nle rfl) (by decide) (by decide) (by decide) (by decide) (nle rfl) rfl) (fun _ q => nomatch q) rfl rfl rfl (by decide) ⟨⟨nle rfl, nle rfl⟩, nle rfl, nle rfl⟩ ?_
  intro v62 h63 hq64 _
  obtain ⟨rfl, E65⟩ := hq64
  have B66 : Ext h h63 := extTr B60 E65
  have B67 : Ext h9 h63 := extTr B61 E65
  show WlO _ _ _ _ _ _ _ _ _ _ _ _ _ _ _ _ _ _ [.int (1 : Int32)]
  refine Wl.ifN 255 at_252 (feq (by decide)).1 ?_
  refine Wl.aload 257 at_255 rfl rfl ?_
  refine Wl.iconst 258 (4 : Int32) at_257 (by decide) ?_
  refine Wl.iload 260 at_258 rfl ?_
  refine Wl.iload_n 261 at_260 rfl ?_
  refine Wl.iload 263 at_261 rfl ?_
  refine Wl.iload 265 at_263 rfl ?_
  refine Wl.iload 267 at_265 rfl ?_
  refine Wl.iload 269 at_267 rfl ?_
  refine Wl.iload 271 at_269 rfl ?_
  refine Wl.iload 273 at_271 rfl ?_
  refine Wl.iload 275 at_273 rfl ?_
  refine Wl.static 278 (argsL := [.ref s39, .int (4 : Int32), .int (9 : Int32), .int (1 : Int32), .int p0, .int p1, .int p2, .int (1 : Int32), .int n0, .int n1, .int n2]) at_275 (w240 hw) (w241 hw) (w2 hw) (w242 hw) (show parseMethodDescriptor "(Ljava/lang/String;IIICCCICCC)Z" = some ⟨[(.object "java/lang/String"), .int, .int, .int, .char, .char, .char, .int, .char, .char, .char], some .boolean⟩ by decide +kernel) rfl (okA_met hw hcs hfm (rs := [p0, (108 : Int32), (111 : Int32), (99 : Int32), (107 : Int32), (58 : Int32), (123 : Int32), n0, (125 : Int32)]) (n := 4) (j := 3) (((S41.ext E53).ext E59).ext E65) (nle rfl) (by decide) (by decide) (by decide) (by decide) (nle rfl) rfl) (fun _ q => nomatch q) rfl rfl rfl (by decide) ⟨⟨nle rfl, nle rfl⟩, nle rfl, nle rfl⟩ ?_
  intro v68 h69 hq70 _
  obtain ⟨rfl, E71⟩ := hq70
  have B72 : Ext h h69 := extTr B66 E71
  have B73 : Ext h9 h69 := extTr B67 E71
  show WlO _ _ _ _ _ _ _ _ _ _ _ _ _ _ _ _ _ _ [.int (1 : Int32)]
  refine Wl.ifN 281 at_278 (feq (by decide)).1 ?_
  refine Wl.aload 283 at_281 rfl rfl ?_
  refine Wl.iconst 284 (5 : Int32) at_283 (by decide) ?_
  refine Wl.iload 286 at_284 rfl ?_
  refine Wl.iload_n 287 at_286 rfl ?_
  refine Wl.iload 289 at_287 rfl ?_
  refine Wl.iload 291 at_289 rfl ?_
  refine Wl.iload 293 at_291 rfl ?_
  refine Wl.iload 295 at_293 rfl ?_
  refine Wl.iload 297 at_295 rfl ?_
  refine Wl.iload 299 at_297 rfl ?_
  refine Wl.iload 301 at_299 rfl ?_
  refine Wl.static 304 (argsL := [.ref s39, .int (5 : Int32), .int (9 : Int32), .int (1 : Int32), .int p0, .int p1, .int p2, .int (1 : Int32), .int n0, .int n1, .int n2]) at_301 (w240 hw) (w241 hw) (w2 hw) (w242 hw) (show parseMethodDescriptor "(Ljava/lang/String;IIICCCICCC)Z" = some ⟨[(.object "java/lang/String"), .int, .int, .int, .char, .char, .char, .int, .char, .char, .char], some .boolean⟩ by decide +kernel) rfl (okA_met hw hcs hfm (rs := [p0, (108 : Int32), (111 : Int32), (99 : Int32), (107 : Int32), (58 : Int32), (123 : Int32), n0, (125 : Int32)]) (n := 5) (j := 4) ((((S41.ext E53).ext E59).ext E65).ext E71) (nle rfl) (by decide) (by decide) (by decide) (by decide) (nle rfl) rfl) (fun _ q => nomatch q) rfl rfl rfl (by decide) ⟨⟨nle rfl, nle rfl⟩, nle rfl, nle rfl⟩ ?_
  intro v74 h75 hq76 _
  obtain ⟨rfl, E77⟩ := hq76
  have B78 : Ext h h75 := extTr B72 E77
  have B79 : Ext h9 h75 := extTr B73 E77
  show WlO _ _ _ _ _ _ _ _ _ _ _ _ _ _ _ _ _ _ [.int (1 : Int32)]
  refine Wl.ifN 307 at_304 (feq (by decide)).1 ?_
  refine Wl.aload 309 at_307 rfl rfl ?_
  refine Wl.bipush 311 (6 : Int32) at_309 (by decide) ?_
  refine Wl.iload 313 at_311 rfl ?_
  refine Wl.iload_n 314 at_313 rfl ?_
  refine Wl.iload 316 at_314 rfl ?_
  refine Wl.iload 318 at_316 rfl ?_
  refine Wl.iload 320 at_318 rfl ?_
  refine Wl.iload 322 at_320 rfl ?_
  refine Wl.iload 324 at_322 rfl ?_
  refine Wl.iload 326 at_324 rfl ?_
  refine Wl.iload 328 at_326 rfl ?_
  refine Wl.static 331 (argsL := [.ref s39, .int (6 : Int32), .int (9 : Int32), .int (1 : Int32), .int p0, .int p1, .int p2, .int (1 : Int32), .int n0, .int n1, .int n2]) at_328 (w240 hw) (w241 hw) (w2 hw) (w242 hw) (show parseMethodDescriptor "(Ljava/lang/String;IIICCCICCC)Z" = some ⟨[(.object "java/lang/String"), .int, .int, .int, .char, .char, .char, .int, .char, .char, .char], some .boolean⟩ by decide +kernel) rfl (okB_met hw hcs hfm (rs := [p0, (108 : Int32), (111 : Int32), (99 : Int32), (107 : Int32), (58 : Int32), (123 : Int32), n0, (125 : Int32)]) (n := 6) (((((S41.ext E53).ext E59).ext E65).ext E71).ext E77) (nle rfl) (by decide) (by decide) lp0 lp1 lp2 ln0 ln1 ln2 (show (123 : Int32) = expI (6 : Int32) (1 : Int32) p0 p1 p2 (1 : Int32) n0 n1 n2 by rw [expI, if_neg (by decide), if_pos (by decide)])) (fun _ q => nomatch q) rfl rfl rfl (by decide) ⟨⟨nle rfl, nle rfl⟩, nle rfl, nle rfl⟩ ?_
  intro v80 h81 hq82 _
  obtain ⟨rfl, rfl⟩ := hq82
  show WlO _ _ _ _ _ _ _ _ _ _ _ _ _ _ _ _ _ _ [.int (1 : Int32)]
  refine Wl.ifN 334 at_331 (feq (by decide)).1 ?_
  refine Wl.aload 336 at_334 rfl rfl ?_
  refine Wl.bipush 338 (7 : Int32) at_336 (by decide) ?_
  refine Wl.iload 340 at_338 rfl ?_
  refine Wl.iload_n 341 at_340 rfl ?_
  refine Wl.iload 343 at_341 rfl ?_
  refine Wl.iload 345 at_343 rfl ?_
  refine Wl.iload 347 at_345 rfl ?_
  refine Wl.iload 349 at_347 rfl ?_
  refine Wl.iload 351 at_349 rfl ?_
  refine Wl.iload 353 at_351 rfl ?_
  refine Wl.iload 355 at_353 rfl ?_
  refine Wl.static 358 (argsL := [.ref s39, .int (7 : Int32), .int (9 : Int32), .int (1 : Int32), .int p0, .int p1, .int p2, .int (1 : Int32), .int n0, .int n1, .int n2]) at_355 (w240 hw) (w241 hw) (w2 hw) (w242 hw) (show parseMethodDescriptor "(Ljava/lang/String;IIICCCICCC)Z" = some ⟨[(.object "java/lang/String"), .int, .int, .int, .char, .char, .char, .int, .char, .char, .char], some .boolean⟩ by decide +kernel) rfl (okB_met hw hcs hfm (rs := [p0, (108 : Int32), (111 : Int32), (99 : Int32), (107 : Int32), (58 : Int32), (123 : Int32), n0, (125 : Int32)]) (n := 7) (((((S41.ext E53).ext E59).ext E65).ext E71).ext E77) (nle rfl) (by decide) (by decide) lp0 lp1 lp2 ln0 ln1 ln2 (show n0 = expI (7 : Int32) (1 : Int32) p0 p1 p2 (1 : Int32) n0 n1 n2 by rw [expI, if_neg (by decide), if_neg (by decide), if_pos (by decide), if_pos (by decide)])) (fun _ q => nomatch q) rfl rfl rfl (by decide) ⟨⟨nle rfl, nle rfl⟩, nle rfl, nle rfl⟩ ?_
  intro v83 h84 hq85 _
  obtain ⟨rfl, rfl⟩ := hq85
  show WlO _ _ _ _ _ _ _ _ _ _ _ _ _ _ _ _ _ _ [.int (1 : Int32)]
  refine Wl.ifN 361 at_358 (feq (by decide)).1 ?_
  refine Wl.aload 363 at_361 rfl rfl ?_
  refine Wl.bipush 365 (8 : Int32) at_363 (by decide) ?_
  refine Wl.iload 367 at_365 rfl ?_
  refine Wl.iload_n 368 at_367 rfl ?_
  refine Wl.iload 370 at_368 rfl ?_
  refine Wl.iload 372 at_370 rfl ?_
  refine Wl.iload 374 at_372 rfl ?_
  refine Wl.iload 376 at_374 rfl ?_
  refine Wl.iload 378 at_376 rfl ?_
  refine Wl.iload 380 at_378 rfl ?_
  refine Wl.iload 382 at_380 rfl ?_
  refine Wl.static 385 (argsL := [.ref s39, .int (8 : Int32), .int (9 : Int32), .int (1 : Int32), .int p0, .int p1, .int p2, .int (1 : Int32), .int n0, .int n1, .int n2]) at_382 (w240 hw) (w241 hw) (w2 hw) (w242 hw) (show parseMethodDescriptor "(Ljava/lang/String;IIICCCICCC)Z" = some ⟨[(.object "java/lang/String"), .int, .int, .int, .char, .char, .char, .int, .char, .char, .char], some .boolean⟩ by decide +kernel) rfl (okB_met hw hcs hfm (rs := [p0, (108 : Int32), (111 : Int32), (99 : Int32), (107 : Int32), (58 : Int32), (123 : Int32), n0, (125 : Int32)]) (n := 8) (((((S41.ext E53).ext E59).ext E65).ext E71).ext E77) (nle rfl) (by decide) (by decide) lp0 lp1 lp2 ln0 ln1 ln2 (show (125 : Int32) = expI (8 : Int32) (1 : Int32) p0 p1 p2 (1 : Int32) n0 n1 n2 by rw [expI, if_neg (by decide), if_neg (by decide), if_neg (by decide)])) (fun _ q => nomatch q) rfl rfl rfl (by decide) ⟨⟨nle rfl, nle rfl⟩, nle rfl, nle rfl⟩ ?_
  intro v86 h87 hq88 _
  obtain ⟨rfl, rfl⟩ := hq88
  show WlO _ _ _ _ _ _ _ _ _ _ _ _ _ _ _ _ _ _ [.int (1 : Int32)]
  refine Wl.ifN 388 at_385 (feq (by decide)).1 ?_
  refine Wl.aload 390 at_388 rfl rfl ?_
  refine Wl.bipush 392 (9 : Int32) at_390 (by decide) ?_
  refine Wl.iload 394 at_392 rfl ?_
  refine Wl.iload_n 395 at_394 rfl ?_
  refine Wl.iload 397 at_395 rfl ?_
  refine Wl.iload 399 at_397 rfl ?_
  refine Wl.iload 401 at_399 rfl ?_
  refine Wl.iload 403 at_401 rfl ?_
  refine Wl.iload 405 at_403 rfl ?_
  refine Wl.iload 407 at_405 rfl ?_
  refine Wl.iload 409 at_407 rfl ?_
  refine Wl.static 412 (argsL := [.ref s39, .int (9 : Int32), .int (9 : Int32), .int (1 : Int32), .int p0, .int p1, .int p2, .int (1 : Int32), .int n0, .int n1, .int n2]) at_409 (w240 hw) (w241 hw) (w2 hw) (w242 hw) (show parseMethodDescriptor "(Ljava/lang/String;IIICCCICCC)Z" = some ⟨[(.object "java/lang/String"), .int, .int, .int, .char, .char, .char, .int, .char, .char, .char], some .boolean⟩ by decide +kernel) rfl (okC_met hw (by decide)) (fun _ q => nomatch q) rfl rfl rfl (by decide) ⟨⟨nle rfl, nle rfl⟩, nle rfl, nle rfl⟩ ?_
  intro v89 h90 hq91 _
  obtain ⟨rfl, rfl⟩ := hq91
  show WlO _ _ _ _ _ _ _ _ _ _ _ _ _ _ _ _ _ _ [.int (1 : Int32)]
  refine Wl.ifN 415 at_412 (feq (by decide)).1 ?_
  refine Wl.aload 417 at_415 rfl rfl ?_
  refine Wl.bipush 419 (10 : Int32) at_417 (by decide) ?_
  refine Wl.iload 421 at_419 rfl ?_
  refine Wl.iload_n 422 at_421 rfl ?_
  refine Wl.iload 424 at_422 rfl ?_
  refine Wl.iload 426 at_424 rfl ?_
  refine Wl.iload 428 at_426 rfl ?_
  refine Wl.iload 430 at_428 rfl ?_
  refine Wl.iload 432 at_430 rfl ?_
  refine Wl.iload 434 at_432 rfl ?_
  refine Wl.iload 436 at_434 rfl ?_
  refine Wl.static 439 (argsL := [.ref s39, .int (10 : Int32), .int (9 : Int32), .int (1 : Int32), .int p0, .int p1, .int p2, .int (1 : Int32), .int n0, .int n1, .int n2]) at_436 (w240 hw) (w241 hw) (w2 hw) (w242 hw) (show parseMethodDescriptor "(Ljava/lang/String;IIICCCICCC)Z" = some ⟨[(.object "java/lang/String"), .int, .int, .int, .char, .char, .char, .int, .char, .char, .char], some .boolean⟩ by decide +kernel) rfl (okC_met hw (by decide)) (fun _ q => nomatch q) rfl rfl rfl (by decide) ⟨⟨nle rfl, nle rfl⟩, nle rfl, nle rfl⟩ ?_
  intro v92 h93 hq94 _
  obtain ⟨rfl, rfl⟩ := hq94
  show WlO _ _ _ _ _ _ _ _ _ _ _ _ _ _ _ _ _ _ [.int (1 : Int32)]
  refine Wl.ifN 442 at_439 (feq (by decide)).1 ?_
  refine Wl.aload 444 at_442 rfl rfl ?_
  refine Wl.bipush 446 (11 : Int32) at_444 (by decide) ?_
  refine Wl.iload 448 at_446 rfl ?_
  refine Wl.iload_n 449 at_448 rfl ?_
  refine Wl.iload 451 at_449 rfl ?_
  refine Wl.iload 453 at_451 rfl ?_
  refine Wl.iload 455 at_453 rfl ?_
  refine Wl.iload 457 at_455 rfl ?_
  refine Wl.iload 459 at_457 rfl ?_
  refine Wl.iload 461 at_459 rfl ?_
  refine Wl.iload 463 at_461 rfl ?_
  refine Wl.static 466 (argsL := [.ref s39, .int (11 : Int32), .int (9 : Int32), .int (1 : Int32), .int p0, .int p1, .int p2, .int (1 : Int32), .int n0, .int n1, .int n2]) at_463 (w240 hw) (w241 hw) (w2 hw) (w242 hw) (show parseMethodDescriptor "(Ljava/lang/String;IIICCCICCC)Z" = some ⟨[(.object "java/lang/String"), .int, .int, .int, .char, .char, .char, .int, .char, .char, .char], some .boolean⟩ by decide +kernel) rfl (okC_met hw (by decide)) (fun _ q => nomatch q) rfl rfl rfl (by decide) ⟨⟨nle rfl, nle rfl⟩, nle rfl, nle rfl⟩ ?_
  intro v95 h96 hq97 _
  obtain ⟨rfl, rfl⟩ := hq97
  show WlO _ _ _ _ _ _ _ _ _ _ _ _ _ _ _ _ _ _ [.int (1 : Int32)]
  refine Wl.ifN 469 at_466 (feq (by decide)).1 ?_
  refine Wl.aload 471 at_469 rfl rfl ?_
  refine Wl.bipush 473 (12 : Int32) at_471 (by decide) ?_
  refine Wl.iload 475 at_473 rfl ?_
  refine Wl.iload_n 476 at_475 rfl ?_
  refine Wl.iload 478 at_476 rfl ?_
  refine Wl.iload 480 at_478 rfl ?_
  refine Wl.iload 482 at_480 rfl ?_
  refine Wl.iload 484 at_482 rfl ?_
  refine Wl.iload 486 at_484 rfl ?_
  refine Wl.iload 488 at_486 rfl ?_
  refine Wl.iload 490 at_488 rfl ?_
  refine Wl.static 493 (argsL := [.ref s39, .int (12 : Int32), .int (9 : Int32), .int (1 : Int32), .int p0, .int p1, .int p2, .int (1 : Int32), .int n0, .int n1, .int n2]) at_490 (w240 hw) (w241 hw) (w2 hw) (w242 hw) (show parseMethodDescriptor "(Ljava/lang/String;IIICCCICCC)Z" = some ⟨[(.object "java/lang/String"), .int, .int, .int, .char, .char, .char, .int, .char, .char, .char], some .boolean⟩ by decide +kernel) rfl (okC_met hw (by decide)) (fun _ q => nomatch q) rfl rfl rfl (by decide) ⟨⟨nle rfl, nle rfl⟩, nle rfl, nle rfl⟩ ?_
  intro v98 h99 hq100 _
  obtain ⟨rfl, rfl⟩ := hq100
  show WlO _ _ _ _ _ _ _ _ _ _ _ _ _ _ _ _ _ _ [.int (1 : Int32)]
  refine Wl.ifN 496 at_493 (feq (by decide)).1 ?_
  refine Wl.iconst 497 (1 : Int32) at_496 (by decide) ?_
  refine Wl.goto 501 at_497 ?_
  exact Wl.ireturn at_501 rfl rfl (by simp) (nle rfl) (nle rfl) rfl
set_option maxRecDepth 65536 in
set_option maxHeartbeats 40000000 in
theorem law_t12 {l : Launch} {Z : State} {a0 : Array Value} (hw : ∀ d ∈ tables_1, d.before a0 Z = true) (hcs : CSon Z) (hfm : Fmt Z) {as : Array Value} {h : Heap} {i0 i1 i2 p0 p1 p2 n0 n1 n2 : Int32} (lp0 : Lat p0) (lp1 : Lat p1) (lp2 : Lat p2) (ln0 : Lat n0) (ln1 : Lat n1) (ln2 : Lat n2) (p0123 : p0 ≠ 123) (p0125 : p0 ≠ 125) (p1123 : p1 ≠ 123) (p1125 : p1 ≠ 125) (p2123 : p2 ≠ 123) (p2125 : p2 ≠ 125) (hn0 : ¬ n0 = (125 : Int32)) :
    Wl l Z a0 consts_1 x code maxLocals ret room_1 as (fun v h' => v = some (.int 1)) [] h 0 0 80 #[.val (.int i0), .val (.int i1), .val (.int i2), .val (.int (1 : Int32)), .val (.int (2 : Int32)), .val (.int p0), .val (.int p1), .val (.int p2), .val (.int n0), .val (.int n1), .val (.int n2), .unset, .unset, .unset, .unset, .unset] [] := by
  refine Wl.iload_n 81 at_80 rfl ?_
  refine Wl.iload 83 at_81 rfl ?_
  refine Wl.iload 85 at_83 rfl ?_
  refine Wl.iload 87 at_85 rfl ?_
  refine Wl.static 90 (argsL := [.int (1 : Int32), .int p0, .int p1, .int p2]) at_87 (w4 hw) (w5 hw) (w2 hw) (w6 hw) (show parseMethodDescriptor "(ICCC)Ljava/lang/String;" = some ⟨[.int, .char, .char, .char], some (.object "java/lang/String")⟩ by decide +kernel) rfl (mk1_met hw hcs lp0 lp1 lp2) (fun _ q => nomatch q) rfl rfl rfl (by decide) ⟨⟨nle rfl, nle rfl⟩, nle rfl, nle rfl⟩ ?_
  intro v1 h2 hq3 _
  obtain ⟨a4, rfl, E5, S6⟩ := hq3
  have B7 : Ext h h2 := E5
  show WlO _ _ _ _ _ _ _ _ _ _ _ _ _ _ _ _ _ _ [.ref a4]
  refine Wl.astore 92 #[.val (.int i0), .val (.int i1), .val (.int i2), .val (.int (1 : Int32)), .val (.int (2 : Int32)), .val (.int p0), .val (.int p1), .val (.int p2), .val (.int n0), .val (.int n1), .val (.int n2), .val (.ref a4), .unset, .unset, .unset, .unset] at_90 rfl rfl ?_
  refine Wl.iload 94 at_92 rfl ?_
  refine Wl.iload 96 at_94 rfl ?_
  refine Wl.iload 98 at_96 rfl ?_
  refine Wl.iload 100 at_98 rfl ?_
  refine Wl.static 103 (argsL := [.int (2 : Int32), .int n0, .int n1, .int n2]) at_100 (w4 hw) (w5 hw) (w2 hw) (w6 hw) (show parseMethodDescriptor "(ICCC)Ljava/lang/String;" = some ⟨[.int, .char, .char, .char], some (.object "java/lang/String")⟩ by decide +kernel) rfl (mk2_met hw hcs ln0 ln1 ln2) (fun _ q => nomatch q) rfl rfl rfl (by decide) ⟨⟨nle rfl, nle rfl⟩, nle rfl, nle rfl⟩ ?_
  intro v8 h9 hq10 _
  obtain ⟨a11, rfl, E12, S13⟩ := hq10
  have B14 : Ext h h9 := extTr B7 E12
  show WlO _ _ _ _ _ _ _ _ _ _ _ _ _ _ _ _ _ _ [.ref a11]
  refine Wl.astore 105 #[.val (.int i0), .val (.int i1), .val (.int i2), .val (.int (1 : Int32)), .val (.int (2 : Int32)), .val (.int p0), .val (.int p1), .val (.int p2), .val (.int n0), .val (.int n1), .val (.int n2), .val (.ref a4), .val (.ref a11), .unset, .unset, .unset] at_103 rfl rfl ?_
  refine Wl.new 108 at_105 (w51 hw) (w52 hw) (w53 hw) (nle rfl) (nle rfl) ?_
  intro a15 h16 q17 E18 X19 D20
  have z21 : h.size ≤ a15 := Nat.le_trans B14.1 (Nat.le_of_eq q17.symm)
  have z22 : h9.size ≤ a15 := Nat.le_of_eq q17.symm
  have ne23 : a4 ≠ a15 := Nat.ne_of_lt (by rw [q17]; exact (((S6).exa.ext E12)).lt)
  have ne24 : a11 ≠ a15 := Nat.ne_of_lt (by rw [q17]; exact ((S13).exa).lt)
  have B25 : Ext h h16 := extTr B14 E18
  have B26 : Ext h9 h16 := E18
  have F27 : Fld Z h16 a15 "com/example/portunus/portunus/LockKeys" "prefix" "Ljava/lang/String;" (.null) := D20 (Or.inr (w107 hw)) (ty := (.object "java/lang/String")) (by decide)
  refine Wl.dup 109 at_108 rfl ?_
  refine Wl.aload 111 at_109 rfl rfl ?_
  refine Wl.special 114 (argsL := [.ref a4]) at_111 (w54 hw) (w55 hw) (w53 hw) (w56 hw) (show parseMethodDescriptor "(Ljava/lang/String;)V" = some ⟨[(.object "java/lang/String")], none⟩ by decide +kernel) rfl (keys_met hw hcs X19 F27 (cs := [p0]) ((S6.ext E12).ext E18) (neC p0123 neN) (neC p0125 neN)) (allS (List.mem_of_getElem? (i := 0) rfl) (fun _ q => nomatch q)) rfl rfl rfl rfl (by decide) ⟨⟨nle rfl, nle rfl⟩, nle rfl, nle rfl⟩ ?_
  intro v28 h29 hq30 _
  obtain ⟨rfl, K31, X32, F33⟩ := hq30
  have B34 : Ext h h29 := extKeep B25 K31 (allS z21 all0)
  have B35 : Ext h9 h29 := extKeep B26 K31 (allS z22 all0)
  show WlO _ _ _ _ _ _ _ _ _ _ _ _ _ _ _ _ _ _ [.ref a15]
  refine Wl.astore 116 #[.val (.int i0), .val (.int i1), .val (.int i2), .val (.int (1 : Int32)), .val (.int (2 : Int32)), .val (.int p0), .val (.int p1), .val (.int p2), .val (.int n0), .val (.int n1), .val (.int n2), .val (.ref a4), .val (.ref a11), .val (.ref a15), .unset, .unset] at_114 rfl rfl ?_
  refine Wl.aload 118 at_116 rfl rfl ?_
  refine Wl.aload 120 at_118 rfl rfl ?_
  refine Wl.virtual 123 (argsL := [.ref a11]) at_120 (w108 hw) (w109 hw) (w111 hw) (w110 hw) (w53 hw) (w112 hw) (nf_sel (w111 hw) rfl) X32 (show parseMethodDescriptor "(Ljava/lang/String;)Ljava/lang/String;" = some ⟨[(.object "java/lang/String")], some (.object "java/lang/String")⟩ by decide +kernel) rfl (key_met hw hcs hfm (cs := [n0, n1]) (ps := [p0]) F33 ((S6.ext E12).ext B35) (nle rfl) (S13.ext B35) (by simp) (nle rfl) hn0 (nle rfl)) (fun _ q => nomatch q) rfl rfl rfl (by decide) ⟨⟨nle rfl, nle rfl⟩, nle rfl, nle rfl⟩ ?_
  intro v36 h37 hq38 _
  obtain ⟨s39, rfl, E40, S41⟩ := hq38
  have S41 : Stl Z h37 s39 [p0, (108 : Int32), (111 : Int32), (99 : Int32), (107 : Int32), (58 : Int32), (123 : Int32), n0, n1, (125 : Int32)] := S41
  have B42 : Ext h h37 := extTr B34 E40
  have B43 : Ext h9 h37 := extTr B35 E40
  show WlO _ _ _ _ _ _ _ _ _ _ _ _ _ _ _ _ _ _ [.ref s39]
  refine Wl.astore 125 #[.val (.int i0), .val (.int i1), .val (.int i2), .val (.int (1 : Int32)), .val (.int (2 : Int32)), .val (.int p0), .val (.int p1), .val (.int p2), .val (.int n0), .val (.int n1), .val (.int n2), .val (.ref a4), .val (.ref a11), .val (.ref a15), .val (.ref s39), .unset] at_123 rfl rfl ?_
  refine Wl.iload_n 126 at_125 rfl ?_
  refine Wl.iload 128 at_126 rfl ?_
  refine Wl.iadd 129 at_128 ?_
  show WlO _ _ _ _ _ _ _ _ _ _ _ _ _ _ _ _ _ _ [.int (3 : Int32)]
  refine Wl.bipush 131 (7 : Int32) at_129 (by decide) ?_
  refine Wl.iadd 132 at_131 ?_
  show WlO _ _ _ _ _ _ _ _ _ _ _ _ _ _ _ _ _ _ [.int (10 : Int32)]
  refine Wl.istore 134 #[.val (.int i0), .val (.int i1), .val (.int i2), .val (.int (1 : Int32)), .val (.int (2 : Int32)), .val (.int p0), .val (.int p1), .val (.int p2), .val (.int n0), .val (.int n1), .val (.int n2), .val (.ref a4), .val (.ref a11), .val (.ref a15), .val (.ref s39), .val (.int (10 : Int32))] at_132 rfl ?_
  refine Wl.aload 136 at_134 rfl rfl ?_
  refine Wl.ifnullN 139 at_136 ?_
  refine Wl.aload 141 at_139 rfl rfl ?_
  refine Wl.virtual 144 (argsL := []) at_141 (w239 hw) (w81 hw) (w83 hw) (w82 hw) (w9 hw) (w84 hw) (nf_sel (w83 hw) rfl) (S41).exa (show parseMethodDescriptor "()I" = some ⟨[], some .int⟩ by decide +kernel) rfl (len_met hw hcs S41) (fun _ q => nomatch q) rfl rfl rfl (by decide) ⟨⟨nle rfl, nle rfl⟩, nle rfl, nle rfl⟩ ?_
  intro v44 h45 hq46 _
  obtain ⟨rfl, rfl⟩ := hq46
  show WlO _ _ _ _ _ _ _ _ _ _ _ _ _ _ _ _ _ _ [.int (10 : Int32)]
  refine Wl.iload 146 at_144 rfl ?_
  refine Wl.icmpY 151 at_146 (teq (by decide)).1 ?_
  refine Wl.aload 153 at_151 rfl rfl ?_
  refine Wl.iconst 154 (0 : Int32) at_153 (by decide) ?_
  refine Wl.iload 156 at_154 rfl ?_
  refine Wl.iload_n 157 at_156 rfl ?_
  refine Wl.iload 159 at_157 rfl ?_
  refine Wl.iload 161 at_159 rfl ?_
  refine Wl.iload 163 at_161 rfl ?_
  refine Wl.iload 165 at_163 rfl ?_
  refine Wl.iload 167 at_165 rfl ?_
  refine Wl.iload 169 at_167 rfl ?_
  refine Wl.iload 171 at_169 rfl ?_
  refine Wl.static 174 (argsL := [.ref s39, .int (0 : Int32), .int (10 : Int32), .int (1 : Int32), .int p0, .int p1, .int p2, .int (2 : Int32), .int n0, .int n1, .int n2]) at_171 (w240 hw) (w241 hw) (w2 hw) (w242 hw) (show parseMethodDescriptor "(Ljava/lang/String;IIICCCICCC)Z" = some ⟨[(.object "java/lang/String"), .int, .int, .int, .char, .char, .char, .int, .char, .char, .char], some .boolean⟩ by decide +kernel) rfl (okB_met hw hcs hfm (rs := [p0, (108 : Int32), (111 : Int32), (99 : Int32), (107 : Int32), (58 : Int32), (123 : Int32), n0, n1, (125 : Int32)]) (n := 0) S41 (nle rfl) (by decide) (by decide) lp0 lp1 lp2 ln0 ln1 ln2 (show p0 = expI (0 : Int32) (1 : Int32) p0 p1 p2 (2 : Int32) n0 n1 n2 by rw [expI, if_pos (by decide), if_pos (by decide)])) (fun _ q => nomatch q) rfl rfl rfl (by decide) ⟨⟨nle rfl, nle rfl⟩, nle rfl, nle rfl⟩ ?_
  intro v47 h48 hq49 _
  obtain ⟨rfl, rfl⟩ := hq49
  show WlO _ _ _ _ _ _ _ _ _ _ _ _ _ _ _ _ _ _ [.int (1 : Int32)]
  refine Wl.ifN 177 at_174 (feq (by decide)).1 ?_
  refine Wl.aload 179 at_177 rfl rfl ?_
  refine Wl.iconst 180 (1 : Int32) at_179 (by decide) ?_
  refine Wl.iload 182 at_180 rfl ?_
  refine Wl.iload_n 183 at_182 rfl ?_
  refine Wl.iload 185 at_183 rfl ?_
  refine Wl.iload 187 at_185 rfl ?_
  refine Wl.iload 189 at_187 rfl ?_
  refine Wl.iload 191 at_189 rfl ?_
  refine Wl.iload 193 at_191 rfl ?_
  refine Wl.iload 195 at_193 rfl ?_
  refine Wl.iload 197 at_195 rfl ?_
  refine Wl.static 200 (argsL := [.ref s39, .int (1 : Int32), .int (10 : Int32), .int (1 : Int32), .int p0, .int p1, .int p2, .int (2 : Int32), .int n0, .int n1, .int n2]) at_197 (w240 hw) (w241 hw) (w2 hw) (w242 hw) (show parseMethodDescriptor "(Ljava/lang/String;IIICCCICCC)Z" = some ⟨[(.object "java/lang/String"), .int, .int, .int, .char, .char, .char, .int, .char, .char, .char], some .boolean⟩ by decide +kernel) rfl (okA_met hw hcs hfm (rs := [p0, (108 : Int32), (111 : Int32), (99 : Int32), (107 : Int32), (58 : Int32), (123 : Int32), n0, n1, (125 : Int32)]) (n := 1) (j := 0) S41 (nle rfl) (by decide) (by decide) (by decide) (by decide) (nle rfl) rfl) (fun _ q => nomatch q) rfl rfl rfl (by decide) ⟨⟨nle rfl, nle rfl⟩, nle rfl, nle rfl⟩ ?_
  intro v50 h51 hq52 _
  obtain ⟨rfl, E53⟩ := hq52
  have B54 : Ext h h51 := extTr B42 E53
  have B55 : Ext h9 h51 := extTr B43 E53
  show WlO _ _ _ _ _ _ _ _ _ _ _ _ _ _ _ _ _ _ [.int (1 : Int32)]
  refine Wl.ifN 203 at_200 (feq (by decide)).1 ?_
  refine Wl.aload 205 at_203 rfl rfl ?_
  refine Wl.iconst 206 (2 : Int32) at_205 (by decide) ?_
  refine Wl.iload 208 at_206 rfl ?_
  refine Wl.iload_n 209 at_208 rfl ?_
  refine Wl.iload 211 at_209 rfl ?_
  refine Wl.iload 213 at_211 rfl ?_
  refine Wl.iload 215 at_213 rfl ?_
  refine Wl.iload 217 at_215 rfl ?_
  refine Wl.iload 219 at_217 rfl ?_
  refine Wl.iload 221 at_219 rfl ?_
  refine Wl.iload 223 at_221 rfl ?_
  refine Wl.static 226 (argsL := [.ref s39, .int (2 : Int32), .int (10 : Int32), .int (1 : Int32), .int p0, .int p1, .int p2, .int (2 : Int32), .int n0, .int n1, .int n2]) at_223 (w240 hw) (w241 hw) (w2 hw) (w242 hw) (show parseMethodDescriptor "(Ljava/lang/String;IIICCCICCC)Z" = some ⟨[(.object "java/lang/String"), .int, .int, .int, .char, .char, .char, .int, .char, .char, .char], some .boolean⟩ by decide +kernel) rfl (okA_met hw hcs hfm (rs := [p0, (108 : Int32), (111 : Int32), (99 : Int32), (107 : Int32), (58 : Int32), (123 : Int32), n0, n1, (125 : Int32)]) (n := 2) (j := 1) (S41.ext E53) (nle rfl) (by decide) (by decide) (by decide) (by decide) (nle rfl) rfl) (fun _ q => nomatch q) rfl rfl rfl (by decide) ⟨⟨nle rfl, nle rfl⟩, nle rfl, nle rfl⟩ ?_
  intro v56 h57 hq58 _
  obtain ⟨rfl, E59⟩ := hq58
  have B60 : Ext h h57 := extTr B54 E59
  have B61 : Ext h9 h57 := extTr B55 E59
  show WlO _ _ _ _ _ _ _ _ _ _ _ _ _ _ _ _ _ _ [.int (1 : Int32)]
  refine Wl.ifN 229 at_226 (feq (by decide)).1 ?_
  refine Wl.aload 231 at_229 rfl rfl ?_
  refine Wl.iconst 232 (3 : Int32) at_231 (by decide) ?_
  refine Wl.iload 234 at_232 rfl ?_
  refine Wl.iload_n 235 at_234 rfl ?_
  refine Wl.iload 237 at_235 rfl ?_
  refine Wl.iload 239 at_237 rfl ?_
  refine Wl.iload 241 at_239 rfl ?_
  refine Wl.iload 243 at_241 rfl ?_
  refine Wl.iload 245 at_243 rfl ?_
  refine Wl.iload 247 at_245 rfl ?_
  refine Wl.iload 249 at_247 rfl ?_
  refine Wl.static 252 (argsL := [.ref s39, .int (3 : Int32), .int (10 : Int32), .int (1 : Int32), .int p0, .int p1, .int p2, .int (2 : Int32), .int n0, .int n1, .int n2]) at_249 (w240 hw) (w241 hw) (w2 hw) (w242 hw) (show parseMethodDescriptor "(Ljava/lang/String;IIICCCICCC)Z" = some ⟨[(.object "java/lang/String"), .int, .int, .int, .char, .char, .char, .int, .char, .char, .char], some .boolean⟩ by decide +kernel) rfl (okA_met hw hcs hfm (rs := [p0, (108 : Int32), (111 : Int32), (99 : Int32), (107 : Int32), (58 : Int32), (123 : Int32), n0, n1, (125 : Int32)]) (n := 3) (j := 2) ((S41.ext E53).ext E59) (nle rfl) (by decide) (by decide) (by decide) (by decide) (nle rfl) rfl) (fun _ q => nomatch q) rfl rfl rfl (by decide) ⟨⟨nle rfl, nle rfl⟩, nle rfl, nle rfl⟩ ?_
  intro v62 h63 hq64 _
  obtain ⟨rfl, E65⟩ := hq64
  have B66 : Ext h h63 := extTr B60 E65
  have B67 : Ext h9 h63 := extTr B61 E65
  show WlO _ _ _ _ _ _ _ _ _ _ _ _ _ _ _ _ _ _ [.int (1 : Int32)]
  refine Wl.ifN 255 at_252 (feq (by decide)).1 ?_
  refine Wl.aload 257 at_255 rfl rfl ?_
  refine Wl.iconst 258 (4 : Int32) at_257 (by decide) ?_
  refine Wl.iload 260 at_258 rfl ?_
  refine Wl.iload_n 261 at_260 rfl ?_
  refine Wl.iload 263 at_261 rfl ?_
  refine Wl.iload 265 at_263 rfl ?_
  refine Wl.iload 267 at_265 rfl ?_
  refine Wl.iload 269 at_267 rfl ?_
  refine Wl.iload 271 at_269 rfl ?_
  refine Wl.iload 273 at_271 rfl ?_
  refine Wl.iload 275 at_273 rfl ?_
  refine Wl.static 278 (argsL := [.ref s39, .int (4 : Int32), .int (10 : Int32), .int (1 : Int32), .int p0, .int p1, .int p2, .int (2 : Int32), .int n0, .int n1, .int n2]) at_275 (w240 hw) (w241 hw) (w2 hw) (w242 hw) (show parseMethodDescriptor "(Ljava/lang/String;IIICCCICCC)Z" = some ⟨[(.object "java/lang/String"), .int, .int, .int, .char, .char, .char, .int, .char, .char, .char], some .boolean⟩ by decide +kernel) rfl (okA_met hw hcs hfm (rs := [p0, (108 : Int32), (111 : Int32), (99 : Int32), (107 : Int32), (58 : Int32), (123 : Int32), n0, n1, (125 : Int32)]) (n := 4) (j := 3) (((S41.ext E53).ext E59).ext E65) (nle rfl) (by decide) (by decide) (by decide) (by decide) (nle rfl) rfl) (fun _ q => nomatch q) rfl rfl rfl (by decide) ⟨⟨nle rfl, nle rfl⟩, nle rfl, nle rfl⟩ ?_
  intro v68 h69 hq70 _
  obtain ⟨rfl, E71⟩ := hq70
  have B72 : Ext h h69 := extTr B66 E71
  have B73 : Ext h9 h69 := extTr B67 E71
  show WlO _ _ _ _ _ _ _ _ _ _ _ _ _ _ _ _ _ _ [.int (1 : Int32)]
  refine Wl.ifN 281 at_278 (feq (by decide)).1 ?_
  refine Wl.aload 283 at_281 rfl rfl ?_
  refine Wl.iconst 284 (5 : Int32) at_283 (by decide) ?_
  refine Wl.iload 286 at_284 rfl ?_
  refine Wl.iload_n 287 at_286 rfl ?_
  refine Wl.iload 289 at_287 rfl ?_
  refine Wl.iload 291 at_289 rfl ?_
  refine Wl.iload 293 at_291 rfl ?_
  refine Wl.iload 295 at_293 rfl ?_
  refine Wl.iload 297 at_295 rfl ?_
  refine Wl.iload 299 at_297 rfl ?_
  refine Wl.iload 301 at_299 rfl ?_
  refine Wl.static 304 (argsL := [.ref s39, .int (5 : Int32), .int (10 : Int32), .int (1 : Int32), .int p0, .int p1, .int p2, .int (2 : Int32), .int n0, .int n1, .int n2]) at_301 (w240 hw) (w241 hw) (w2 hw) (w242 hw) (show parseMethodDescriptor "(Ljava/lang/String;IIICCCICCC)Z" = some ⟨[(.object "java/lang/String"), .int, .int, .int, .char, .char, .char, .int, .char, .char, .char], some .boolean⟩ by decide +kernel) rfl (okA_met hw hcs hfm (rs := [p0, (108 : Int32), (111 : Int32), (99 : Int32), (107 : Int32), (58 : Int32), (123 : Int32), n0, n1, (125 : Int32)]) (n := 5) (j := 4) ((((S41.ext E53).ext E59).ext E65).ext E71) (nle rfl) (by decide) (by decide) (by decide) (by decide) (nle rfl) rfl) (fun _ q => nomatch q) rfl rfl rfl (by decide) ⟨⟨nle rfl, nle rfl⟩, nle rfl, nle rfl⟩ ?_
  intro v74 h75 hq76 _
  obtain ⟨rfl, E77⟩ := hq76
  have B78 : Ext h h75 := extTr B72 E77
  have B79 : Ext h9 h75 := extTr B73 E77
  show WlO _ _ _ _ _ _ _ _ _ _ _ _ _ _ _ _ _ _ [.int (1 : Int32)]
  refine Wl.ifN 307 at_304 (feq (by decide)).1 ?_
  refine Wl.aload 309 at_307 rfl rfl ?_
  refine Wl.bipush 311 (6 : Int32) at_309 (by decide) ?_
  refine Wl.iload 313 at_311 rfl ?_
  refine Wl.iload_n 314 at_313 rfl ?_
  refine Wl.iload 316 at_314 rfl ?_
  refine Wl.iload 318 at_316 rfl ?_
  refine Wl.iload 320 at_318 rfl ?_
  refine Wl.iload 322 at_320 rfl ?_
  refine Wl.iload 324 at_322 rfl ?_
  refine Wl.iload 326 at_324 rfl ?_
  refine Wl.iload 328 at_326 rfl ?_
  refine Wl.static 331 (argsL := [.ref s39, .int (6 : Int32), .int (10 : Int32), .int (1 : Int32), .int p0, .int p1, .int p2, .int (2 : Int32), .int n0, .int n1, .int n2]) at_328 (w240 hw) (w241 hw) (w2 hw) (w242 hw) (show parseMethodDescriptor "(Ljava/lang/String;IIICCCICCC)Z" = some ⟨[(.object "java/lang/String"), .int, .int, .int, .char, .char, .char, .int, .char, .char, .char], some .boolean⟩ by decide +kernel) rfl (okB_met hw hcs hfm (rs := [p0, (108 : Int32), (111 : Int32), (99 : Int32), (107 : Int32), (58 : Int32), (123 : Int32), n0, n1, (125 : Int32)]) (n := 6) (((((S41.ext E53).ext E59).ext E65).ext E71).ext E77) (nle rfl) (by decide) (by decide) lp0 lp1 lp2 ln0 ln1 ln2 (show (123 : Int32) = expI (6 : Int32) (1 : Int32) p0 p1 p2 (2 : Int32) n0 n1 n2 by rw [expI, if_neg (by decide), if_pos (by decide)])) (fun _ q => nomatch q) rfl rfl rfl (by decide) ⟨⟨nle rfl, nle rfl⟩, nle rfl, nle rfl⟩ ?_
  intro v80 h81 hq82 _
  obtain ⟨rfl, rfl⟩ := hq82
  show WlO _ _ _ _ _ _ _ _ _ _ _ _ _ _ _ _ _ _ [.int (1 : Int32)]
  refine Wl.ifN 334 at_331 (feq (by decide)).1 ?_
  refine Wl.aload 336 at_334 rfl rfl ?_
  refine Wl.bipush 338 (7 : Int32) at_336 (by decide) ?_
  refine Wl.iload 340 at_338 rfl ?_
  refine Wl.iload_n 341 at_340 rfl ?_
  refine Wl.iload 343 at_341 rfl ?_
  refine Wl.iload 345 at_343 rfl ?_
  refine Wl.iload 347 at_345 rfl ?_
  refine Wl.iload 349 at_347 rfl ?_
  refine Wl.iload 351 at_349 rfl ?_
  refine Wl.iload 353 at_351 rfl ?_
  refine Wl.iload 355 at_353 rfl ?_
  refine Wl.static 358 (argsL := [.ref s39, .int (7 : Int32), .int (10 : Int32), .int (1 : Int32), .int p0, .int p1, .int p2, .int (2 : Int32), .int n0, .int n1, .int n2]) at_355 (w240 hw) (w241 hw) (w2 hw) (w242 hw) (show parseMethodDescriptor "(Ljava/lang/String;IIICCCICCC)Z" = some ⟨[(.object "java/lang/String"), .int, .int, .int, .char, .char, .char, .int, .char, .char, .char], some .boolean⟩ by decide +kernel) rfl (okB_met hw hcs hfm (rs := [p0, (108 : Int32), (111 : Int32), (99 : Int32), (107 : Int32), (58 : Int32), (123 : Int32), n0, n1, (125 : Int32)]) (n := 7) (((((S41.ext E53).ext E59).ext E65).ext E71).ext E77) (nle rfl) (by decide) (by decide) lp0 lp1 lp2 ln0 ln1 ln2 (show n0 = expI (7 : Int32) (1 : Int32) p0 p1 p2 (2 : Int32) n0 n1 n2 by rw [expI, if_neg (by decide), if_neg (by decide), if_pos (by decide), if_pos (by decide)])) (fun _ q => nomatch q) rfl rfl rfl (by decide) ⟨⟨nle rfl, nle rfl⟩, nle rfl, nle rfl⟩ ?_
  intro v83 h84 hq85 _
  obtain ⟨rfl, rfl⟩ := hq85
  show WlO _ _ _ _ _ _ _ _ _ _ _ _ _ _ _ _ _ _ [.int (1 : Int32)]
  refine Wl.ifN 361 at_358 (feq (by decide)).1 ?_
  refine Wl.aload 363 at_361 rfl rfl ?_
  refine Wl.bipush 365 (8 : Int32) at_363 (by decide) ?_
  refine Wl.iload 367 at_365 rfl ?_
  refine Wl.iload_n 368 at_367 rfl ?_
  refine Wl.iload 370 at_368 rfl ?_
  refine Wl.iload 372 at_370 rfl ?_
  refine Wl.iload 374 at_372 rfl ?_
  refine Wl.iload 376 at_374 rfl ?_
  refine Wl.iload 378 at_376 rfl ?_
  refine Wl.iload 380 at_378 rfl ?_
  refine Wl.iload 382 at_380 rfl ?_
  refine Wl.static 385 (argsL := [.ref s39, .int (8 : Int32), .int (10 : Int32), .int (1 : Int32), .int p0, .int p1, .int p2, .int (2 : Int32), .int n0, .int n1, .int n2]) at_382 (w240 hw) (w241 hw) (w2 hw) (w242 hw) (show parseMethodDescriptor "(Ljava/lang/String;IIICCCICCC)Z" = some ⟨[(.object "java/lang/String"), .int, .int, .int, .char, .char, .char, .int, .char, .char, .char], some .boolean⟩ by decide +kernel) rfl (okB_met hw hcs hfm (rs := [p0, (108 : Int32), (111 : Int32), (99 : Int32), (107 : Int32), (58 : Int32), (123 : Int32), n0, n1, (125 : Int32)]) (n := 8) (((((S41.ext E53).ext E59).ext E65).ext E71).ext E77) (nle rfl) (by decide) (by decide) lp0 lp1 lp2 ln0 ln1 ln2 (show n1 = expI (8 : Int32) (1 : Int32) p0 p1 p2 (2 : Int32) n0 n1 n2 by rw [expI, if_neg (by decide), if_neg (by decide), if_pos (by decide), if_neg (by decide), if_pos (by decide)])) (fun _ q => nomatch q) rfl rfl rfl (by decide) ⟨⟨nle rfl, nle rfl⟩, nle rfl, nle rfl⟩ ?_
  intro v86 h87 hq88 _
  obtain ⟨rfl, rfl⟩ := hq88
  show WlO _ _ _ _ _ _ _ _ _ _ _ _ _ _ _ _ _ _ [.int (1 : Int32)]
  refine Wl.ifN 388 at_385 (feq (by decide)).1 ?_
  refine Wl.aload 390 at_388 rfl rfl ?_
  refine Wl.bipush 392 (9 : Int32) at_390 (by decide) ?_
  refine Wl.iload 394 at_392 rfl ?_
  refine Wl.iload_n 395 at_394 rfl ?_
  refine Wl.iload 397 at_395 rfl ?_
  refine Wl.iload 399 at_397 rfl ?_
  refine Wl.iload 401 at_399 rfl ?_
  refine Wl.iload 403 at_401 rfl ?_
  refine Wl.iload 405 at_403 rfl ?_
  refine Wl.iload 407 at_405 rfl ?_
  refine Wl.iload 409 at_407 rfl ?_
  refine Wl.static 412 (argsL := [.ref s39, .int (9 : Int32), .int (10 : Int32), .int (1 : Int32), .int p0, .int p1, .int p2, .int (2 : Int32), .int n0, .int n1, .int n2]) at_409 (w240 hw) (w241 hw) (w2 hw) (w242 hw) (show parseMethodDescriptor "(Ljava/lang/String;IIICCCICCC)Z" = some ⟨[(.object "java/lang/String"), .int, .int, .int, .char, .char, .char, .int, .char, .char, .char], some .boolean⟩ by decide +kernel) rfl (okB_met hw hcs hfm (rs := [p0, (108 : Int32), (111 : Int32), (99 : Int32), (107 : Int32), (58 : Int32), (123 : Int32), n0, n1, (125 : Int32)]) (n := 9) (((((S41.ext E53).ext E59).ext E65).ext E71).ext E77) (nle rfl) (by decide) (by decide) lp0 lp1 lp2 ln0 ln1 ln2 (show (125 : Int32) = expI (9 : Int32) (1 : Int32) p0 p1 p2 (2 : Int32) n0 n1 n2 by rw [expI, if_neg (by decide), if_neg (by decide), if_neg (by decide)])) (fun _ q => nomatch q) rfl rfl rfl (by decide) ⟨⟨nle rfl, nle rfl⟩, nle rfl, nle rfl⟩ ?_
  intro v89 h90 hq91 _
  obtain ⟨rfl, rfl⟩ := hq91
  show WlO _ _ _ _ _ _ _ _ _ _ _ _ _ _ _ _ _ _ [.int (1 : Int32)]
  refine Wl.ifN 415 at_412 (feq (by decide)).1 ?_
  refine Wl.aload 417 at_415 rfl rfl ?_
  refine Wl.bipush 419 (10 : Int32) at_417 (by decide) ?_
  refine Wl.iload 421 at_419 rfl ?_
  refine Wl.iload_n 422 at_421 rfl ?_
  refine Wl.iload 424 at_422 rfl ?_
  refine Wl.iload 426 at_424 rfl ?_
  refine Wl.iload 428 at_426 rfl ?_
  refine Wl.iload 430 at_428 rfl ?_
  refine Wl.iload 432 at_430 rfl ?_
  refine Wl.iload 434 at_432 rfl ?_
  refine Wl.iload 436 at_434 rfl ?_
  refine Wl.static 439 (argsL := [.ref s39, .int (10 : Int32), .int (10 : Int32), .int (1 : Int32), .int p0, .int p1, .int p2, .int (2 : Int32), .int n0, .int n1, .int n2]) at_436 (w240 hw) (w241 hw) (w2 hw) (w242 hw) (show parseMethodDescriptor "(Ljava/lang/String;IIICCCICCC)Z" = some ⟨[(.object "java/lang/String"), .int, .int, .int, .char, .char, .char, .int, .char, .char, .char], some .boolean⟩ by decide +kernel) rfl (okC_met hw (by decide)) (fun _ q => nomatch q) rfl rfl rfl (by decide) ⟨⟨nle rfl, nle rfl⟩, nle rfl, nle rfl⟩ ?_
  intro v92 h93 hq94 _
  obtain ⟨rfl, rfl⟩ := hq94
  show WlO _ _ _ _ _ _ _ _ _ _ _ _ _ _ _ _ _ _ [.int (1 : Int32)]
  refine Wl.ifN 442 at_439 (feq (by decide)).1 ?_
  refine Wl.aload 444 at_442 rfl rfl ?_
  refine Wl.bipush 446 (11 : Int32) at_444 (by decide) ?_
  refine Wl.iload 448 at_446 rfl ?_
  refine Wl.iload_n 449 at_448 rfl ?_
  refine Wl.iload 451 at_449 rfl ?_
  refine Wl.iload 453 at_451 rfl ?_
  refine Wl.iload 455 at_453 rfl ?_
  refine Wl.iload 457 at_455 rfl ?_
  refine Wl.iload 459 at_457 rfl ?_
  refine Wl.iload 461 at_459 rfl ?_
  refine Wl.iload 463 at_461 rfl ?_
  refine Wl.static 466 (argsL := [.ref s39, .int (11 : Int32), .int (10 : Int32), .int (1 : Int32), .int p0, .int p1, .int p2, .int (2 : Int32), .int n0, .int n1, .int n2]) at_463 (w240 hw) (w241 hw) (w2 hw) (w242 hw) (show parseMethodDescriptor "(Ljava/lang/String;IIICCCICCC)Z" = some ⟨[(.object "java/lang/String"), .int, .int, .int, .char, .char, .char, .int, .char, .char, .char], some .boolean⟩ by decide +kernel) rfl (okC_met hw (by decide)) (fun _ q => nomatch q) rfl rfl rfl (by decide) ⟨⟨nle rfl, nle rfl⟩, nle rfl, nle rfl⟩ ?_
  intro v95 h96 hq97 _
  obtain ⟨rfl, rfl⟩ := hq97
  show WlO _ _ _ _ _ _ _ _ _ _ _ _ _ _ _ _ _ _ [.int (1 : Int32)]
  refine Wl.ifN 469 at_466 (feq (by decide)).1 ?_
  refine Wl.aload 471 at_469 rfl rfl ?_
  refine Wl.bipush 473 (12 : Int32) at_471 (by decide) ?_
  refine Wl.iload 475 at_473 rfl ?_
  refine Wl.iload_n 476 at_475 rfl ?_
  refine Wl.iload 478 at_476 rfl ?_
  refine Wl.iload 480 at_478 rfl ?_
  refine Wl.iload 482 at_480 rfl ?_
  refine Wl.iload 484 at_482 rfl ?_
  refine Wl.iload 486 at_484 rfl ?_
  refine Wl.iload 488 at_486 rfl ?_
  refine Wl.iload 490 at_488 rfl ?_
  refine Wl.static 493 (argsL := [.ref s39, .int (12 : Int32), .int (10 : Int32), .int (1 : Int32), .int p0, .int p1, .int p2, .int (2 : Int32), .int n0, .int n1, .int n2]) at_490 (w240 hw) (w241 hw) (w2 hw) (w242 hw) (show parseMethodDescriptor "(Ljava/lang/String;IIICCCICCC)Z" = some ⟨[(.object "java/lang/String"), .int, .int, .int, .char, .char, .char, .int, .char, .char, .char], some .boolean⟩ by decide +kernel) rfl (okC_met hw (by decide)) (fun _ q => nomatch q) rfl rfl rfl (by decide) ⟨⟨nle rfl, nle rfl⟩, nle rfl, nle rfl⟩ ?_
  intro v98 h99 hq100 _
  obtain ⟨rfl, rfl⟩ := hq100
  show WlO _ _ _ _ _ _ _ _ _ _ _ _ _ _ _ _ _ _ [.int (1 : Int32)]
  refine Wl.ifN 496 at_493 (feq (by decide)).1 ?_
  refine Wl.iconst 497 (1 : Int32) at_496 (by decide) ?_
  refine Wl.goto 501 at_497 ?_
  exact Wl.ireturn at_501 rfl rfl (by simp) (nle rfl) (nle rfl) rfl
set_option maxRecDepth 65536 in
set_option maxHeartbeats 40000000 in
theorem law_t13 {l : Launch} {Z : State} {a0 : Array Value} (hw : ∀ d ∈ tables_1, d.before a0 Z = true) (hcs : CSon Z) (hfm : Fmt Z) {as : Array Value} {h : Heap} {i0 i1 i2 p0 p1 p2 n0 n1 n2 : Int32} (lp0 : Lat p0) (lp1 : Lat p1) (lp2 : Lat p2) (ln0 : Lat n0) (ln1 : Lat n1) (ln2 : Lat n2) (p0123 : p0 ≠ 123) (p0125 : p0 ≠ 125) (p1123 : p1 ≠ 123) (p1125 : p1 ≠ 125) (p2123 : p2 ≠ 123) (p2125 : p2 ≠ 125) (hn0 : ¬ n0 = (125 : Int32)) :
    Wl l Z a0 consts_1 x code maxLocals ret room_1 as (fun v h' => v = some (.int 1)) [] h 0 0 80 #[.val (.int i0), .val (.int i1), .val (.int i2), .val (.int (1 : Int32)), .val (.int (3 : Int32)), .val (.int p0), .val (.int p1), .val (.int p2), .val (.int n0), .val (.int n1), .val (.int n2), .unset, .unset, .unset, .unset, .unset] [] := by
  refine Wl.iload_n 81 at_80 rfl ?_
  refine Wl.iload 83 at_81 rfl ?_
  refine Wl.iload 85 at_83 rfl ?_
  refine Wl.iload 87 at_85 rfl ?_
  refine Wl.static 90 (argsL := [.int (1 : Int32), .int p0, .int p1, .int p2]) at_87 (w4 hw) (w5 hw) (w2 hw) (w6 hw) (show parseMethodDescriptor "(ICCC)Ljava/lang/String;" = some ⟨[.int, .char, .char, .char], some (.object "java/lang/String")⟩ by decide +kernel) rfl (mk1_met hw hcs lp0 lp1 lp2) (fun _ q => nomatch q) rfl rfl rfl (by decide) ⟨⟨nle rfl, nle rfl⟩, nle rfl, nle rfl⟩ ?_
  intro v1 h2 hq3 _
  obtain ⟨a4, rfl, E5, S6⟩ := hq3
  have B7 : Ext h h2 := E5
  show WlO _ _ _ _ _ _ _ _ _ _ _ _ _ _ _ _ _ _ [.ref a4]
  refine Wl.astore 92 #[.val (.int i0), .val (.int i1), .val (.int i2), .val (.int (1 : Int32)), .val (.int (3 : Int32)), .val (.int p0), .val (.int p1), .val (.int p2), .val (.int n0), .val (.int n1), .val (.int n2), .val (.ref a4), .unset, .unset, .unset, .unset] at_90 rfl rfl ?_
  refine Wl.iload 94 at_92 rfl ?_
  refine Wl.iload 96 at_94 rfl ?_
  refine Wl.iload 98 at_96 rfl ?_
  refine Wl.iload 100 at_98 rfl ?_
  refine Wl.static 103 (argsL := [.int (3 : Int32), .int n0, .int n1, .int n2]) at_100 (w4 hw) (w5 hw) (w2 hw) (w6 hw) (show parseMethodDescriptor "(ICCC)Ljava/lang/String;" = some ⟨[.int, .char, .char, .char], some (.object "java/lang/String")⟩ by decide +kernel) rfl (mk3_met hw hcs ln0 ln1 ln2) (fun _ q => nomatch q) rfl rfl rfl (by decide) ⟨⟨nle rfl, nle rfl⟩, nle rfl, nle rfl⟩ ?_
  intro v8 h9 hq10 _
  obtain ⟨a11, rfl, E12, S13⟩ := hq10
  have B14 : Ext h h9 := extTr B7 E12
  show WlO _ _ _ _ _ _ _ _ _ _ _ _ _ _ _ _ _ _ [.ref a11]
  refine Wl.astore 105 #[.val (.int i0), .val (.int i1), .val (.int i2), .val (.int (1 : Int32)), .val (.int (3 : Int32)), .val (.int p0), .val (.int p1), .val (.int p2), .val (.int n0), .val (.int n1), .val (.int n2), .val (.ref a4), .val (.ref a11), .unset, .unset, .unset] at_103 rfl rfl ?_
  refine Wl.new 108 at_105 (w51 hw) (w52 hw) (w53 hw) (nle rfl) (nle rfl) ?_
  intro a15 h16 q17 E18 X19 D20
  have z21 : h.size ≤ a15 := Nat.le_trans B14.1 (Nat.le_of_eq q17.symm)
  have z22 : h9.size ≤ a15 := Nat.le_of_eq q17.symm
  have ne23 : a4 ≠ a15 := Nat.ne_of_lt (by rw [q17]; exact (((S6).exa.ext E12)).lt)
  have ne24 : a11 ≠ a15 := Nat.ne_of_lt (by rw [q17]; exact ((S13).exa).lt)
  have B25 : Ext h h16 := extTr B14 E18
  have B26 : Ext h9 h16 := E18
  have F27 : Fld Z h16 a15 "com/example/portunus/portunus/LockKeys" "prefix" "Ljava/lang/String;" (.null) := D20 (Or.inr (w107 hw)) (ty := (.object "java/lang/String")) (by decide)
  refine Wl.dup 109 at_108 rfl ?_
  refine Wl.aload 111 at_109 rfl rfl ?_
  refine Wl.special 114 (argsL := [.ref a4]) at_111 (w54 hw) (w55 hw) (w53 hw) (w56 hw) (show parseMethodDescriptor "(Ljava/lang/String;)V" = some ⟨[(.object "java/lang/String")], none⟩ by decide +kernel) rfl (keys_met hw hcs X19 F27 (cs := [p0]) ((S6.ext E12).ext E18) (neC p0123 neN) (neC p0125 neN)) (allS (List.mem_of_getElem? (i := 0) rfl) (fun _ q => nomatch q)) rfl rfl rfl rfl (by decide) ⟨⟨nle rfl, nle rfl⟩, nle rfl, nle rfl⟩ ?_
  intro v28 h29 hq30 _
  obtain ⟨rfl, K31, X32, F33⟩ := hq30
  have B34 : Ext h h29 := extKeep B25 K31 (allS z21 all0)
  have B35 : Ext h9 h29 := extKeep B26 K31 (allS z22 all0)
  show WlO _ _ _ _ _ _ _ _ _ _ _ _ _ _ _ _ _ _ [.ref a15]
  refine Wl.astore 116 #[.val (.int i0), .val (.int i1), .val (.int i2), .val (.int (1 : Int32)), .val (.int (3 : Int32)), .val (.int p0), .val (.int p1), .val (.int p2), .val (.int n0), .val (.int n1), .val (.int n2), .val (.ref a4), .val (.ref a11), .val (.ref a15), .unset, .unset] at_114 rfl rfl ?_
  refine Wl.aload 118 at_116 rfl rfl ?_
  refine Wl.aload 120 at_118 rfl rfl ?_
  refine Wl.virtual 123 (argsL := [.ref a11]) at_120 (w108 hw) (w109 hw) (w111 hw) (w110 hw) (w53 hw) (w112 hw) (nf_sel (w111 hw) rfl) X32 (show parseMethodDescriptor "(Ljava/lang/String;)Ljava/lang/String;" = some ⟨[(.object "java/lang/String")], some (.object "java/lang/String")⟩ by decide +kernel) rfl (key_met hw hcs hfm (cs := [n0, n1, n2]) (ps := [p0]) F33 ((S6.ext E12).ext B35) (nle rfl) (S13.ext B35) (by simp) (nle rfl) hn0 (nle rfl)) (fun _ q => nomatch q) rfl rfl rfl (by decide) ⟨⟨nle rfl, nle rfl⟩, nle rfl, nle rfl⟩ ?_
  intro v36 h37 hq38 _
  obtain ⟨s39, rfl, E40, S41⟩ := hq38
  have S41 : Stl Z h37 s39 [p0, (108 : Int32), (111 : Int32), (99 : Int32), (107 : Int32), (58 : Int32), (123 : Int32), n0, n1, n2, (125 : Int32)] := S41
  have B42 : Ext h h37 := extTr B34 E40
  have B43 : Ext h9 h37 := extTr B35 E40
  show WlO _ _ _ _ _ _ _ _ _ _ _ _ _ _ _ _ _ _ [.ref s39]
  refine Wl.astore 125 #[.val (.int i0), .val (.int i1), .val (.int i2), .val (.int (1 : Int32)), .val (.int (3 : Int32)), .val (.int p0), .val (.int p1), .val (.int p2), .val (.int n0), .val (.int n1), .val (.int n2), .val (.ref a4), .val (.ref a11), .val (.ref a15), .val (.ref s39), .unset] at_123 rfl rfl ?_
  refine Wl.iload_n 126 at_125 rfl ?_
  refine Wl.iload 128 at_126 rfl ?_
  refine Wl.iadd 129 at_128 ?_
  show WlO _ _ _ _ _ _ _ _ _ _ _ _ _ _ _ _ _ _ [.int (4 : Int32)]
  refine Wl.bipush 131 (7 : Int32) at_129 (by decide) ?_
  refine Wl.iadd 132 at_131 ?_
  show WlO _ _ _ _ _ _ _ _ _ _ _ _ _ _ _ _ _ _ [.int (11 : Int32)]
  refine Wl.istore 134 #[.val (.int i0), .val (.int i1), .val (.int i2), .val (.int (1 : Int32)), .val (.int (3 : Int32)), .val (.int p0), .val (.int p1), .val (.int p2), .val (.int n0), .val (.int n1), .val (.int n2), .val (.ref a4), .val (.ref a11), .val (.ref a15), .val (.ref s39), .val (.int (11 : Int32))] at_132 rfl ?_
  refine Wl.aload 136 at_134 rfl rfl ?_
  refine Wl.ifnullN 139 at_136 ?_
  refine Wl.aload 141 at_139 rfl rfl ?_
  refine Wl.virtual 144 (argsL := []) at_141 (w239 hw) (w81 hw) (w83 hw) (w82 hw) (w9 hw) (w84 hw) (nf_sel (w83 hw) rfl) (S41).exa (show parseMethodDescriptor "()I" = some ⟨[], some .int⟩ by decide +kernel) rfl (len_met hw hcs S41) (fun _ q => nomatch q) rfl rfl rfl (by decide) ⟨⟨nle rfl, nle rfl⟩, nle rfl, nle rfl⟩ ?_
  intro v44 h45 hq46 _
  obtain ⟨rfl, rfl⟩ := hq46
  show WlO _ _ _ _ _ _ _ _ _ _ _ _ _ _ _ _ _ _ [.int (11 : Int32)]
  refine Wl.iload 146 at_144 rfl ?_
  refine Wl.icmpY 151 at_146 (teq (by decide)).1 ?_
  refine Wl.aload 153 at_151 rfl rfl ?_
  refine Wl.iconst 154 (0 : Int32) at_153 (by decide) ?_
  refine Wl.iload 156 at_154 rfl ?_
  refine Wl.iload_n 157 at_156 rfl ?_
  refine Wl.iload 159 at_157 rfl ?_
  refine Wl.iload 161 at_159 rfl ?_
  refine Wl.iload 163 at_161 rfl ?_
  refine Wl.iload 165 at_163 rfl ?_
  refine Wl.iload 167 at_165 rfl ?_
  refine Wl.iload 169 at_167 rfl ?_
  refine Wl.iload 171 at_169 rfl ?_
  refine Wl.static 174 (argsL := [.ref s39, .int (0 : Int32), .int (11 : Int32), .int (1 : Int32), .int p0, .int p1, .int p2, .int (3 : Int32), .int n0, .int n1, .int n2]) at_171 (w240 hw) (w241 hw) (w2 hw) (w242 hw) (show parseMethodDescriptor "(Ljava/lang/String;IIICCCICCC)Z" = some ⟨[(.object "java/lang/String"), .int, .int, .int, .char, .char, .char, .int, .char, .char, .char], some .boolean⟩ by decide +kernel) rfl (okB_met hw hcs hfm (rs := [p0, (108 : Int32), (111 : Int32), (99 : Int32), (107 : Int32), (58 : Int32), (123 : Int32), n0, n1, n2, (125 : Int32)]) (n := 0) S41 (nle rfl) (by decide) (by decide) lp0 lp1 lp2 ln0 ln1 ln2 (show p0 = expI (0 : Int32) (1 : Int32) p0 p1 p2 (3 : Int32) n0 n1 n2 by rw [expI, if_pos (by decide), if_pos (by decide)])) (fun _ q => nomatch q) rfl rfl rfl (by decide) ⟨⟨nle rfl, nle rfl⟩, nle rfl, nle rfl⟩ ?_
  intro v47 h48 hq49 _
  obtain ⟨rfl, rfl⟩ := hq49
  show WlO _ _ _ _ _ _ _ _ _ _ _ _ _ _ _ _ _ _ [.int (1 : Int32)]
  refine Wl.ifN 177 at_174 (feq (by decide)).1 ?_
  refine Wl.aload 179 at_177 rfl rfl ?_
  refine Wl.iconst 180 (1 : Int32) at_179 (by decide) ?_
  refine Wl.iload 182 at_180 rfl ?_
  refine Wl.iload_n 183 at_182 rfl ?_
  refine Wl.iload 185 at_183 rfl ?_
  refine Wl.iload 187 at_185 rfl ?_
  refine Wl.iload 189 at_187 rfl ?_
  refine Wl.iload 191 at_189 rfl ?_
  refine Wl.iload 193 at_191 rfl ?_
  refine Wl.iload 195 at_193 rfl ?_
  refine Wl.iload 197 at_195 rfl ?_
  refine Wl.static 200 (argsL := [.ref s39, .int (1 : Int32), .int (11 : Int32), .int (1 : Int32), .int p0, .int p1, .int p2, .int (3 : Int32), .int n0, .int n1, .int n2]) at_197 (w240 hw) (w241 hw) (w2 hw) (w242 hw) (show parseMethodDescriptor "(Ljava/lang/String;IIICCCICCC)Z" = some ⟨[(.object "java/lang/String"), .int, .int, .int, .char, .char, .char, .int, .char, .char, .char], some .boolean⟩ by decide +kernel) rfl (okA_met hw hcs hfm (rs := [p0, (108 : Int32), (111 : Int32), (99 : Int32), (107 : Int32), (58 : Int32), (123 : Int32), n0, n1, n2, (125 : Int32)]) (n := 1) (j := 0) S41 (nle rfl) (by decide) (by decide) (by decide) (by decide) (nle rfl) rfl) (fun _ q => nomatch q) rfl rfl rfl (by decide) ⟨⟨nle rfl, nle rfl⟩, nle rfl, nle rfl⟩ ?_
  intro v50 h51 hq52 _
  obtain ⟨rfl, E53⟩ := hq52
  have B54 : Ext h h51 := extTr B42 E53
  have B55 : Ext h9 h51 := extTr B43 E53
  show WlO _ _ _ _ _ _ _ _ _ _ _ _ _ _ _ _ _ _ [.int (1 : Int32)]
  refine Wl.ifN 203 at_200 (feq (by decide)).1 ?_
  refine Wl.aload 205 at_203 rfl rfl ?_
  refine Wl.iconst 206 (2 : Int32) at_205 (by decide) ?_
  refine Wl.iload 208 at_206 rfl ?_
  refine Wl.iload_n 209 at_208 rfl ?_
  refine Wl.iload 211 at_209 rfl ?_
  refine Wl.iload 213 at_211 rfl ?_
  refine Wl.iload 215 at_213 rfl ?_
  refine Wl.iload 217 at_215 rfl ?_
  refine Wl.iload 219 at_217 rfl ?_
  refine Wl.iload 221 at_219 rfl ?_
  refine Wl.iload 223 at_221 rfl ?_
  refine Wl.static 226 (argsL := [.ref s39, .int (2 : Int32), .int (11 : Int32), .int (1 : Int32), .int p0, .int p1, .int p2, .int (3 : Int32), .int n0, .int n1, .int n2]) at_223 (w240 hw) (w241 hw) (w2 hw) (w242 hw) (show parseMethodDescriptor "(Ljava/lang/String;IIICCCICCC)Z" = some ⟨[(.object "java/lang/String"), .int, .int, .int, .char, .char, .char, .int, .char, .char, .char], some .boolean⟩ by decide +kernel) rfl (okA_met hw hcs hfm (rs := [p0, (108 : Int32), (111 : Int32), (99 : Int32), (107 : Int32), (58 : Int32), (123 : Int32), n0, n1, n2, (125 : Int32)]) (n := 2) (j := 1) (S41.ext E53) (nle rfl) (by decide) (by decide) (by decide) (by decide) (nle rfl) rfl) (fun _ q => nomatch q) rfl rfl rfl (by decide) ⟨⟨nle rfl, nle rfl⟩, nle rfl, nle rfl⟩ ?_
  intro v56 h57 hq58 _
  obtain ⟨rfl, E59⟩ := hq58
  have B60 : Ext h h57 := extTr B54 E59
  have B61 : Ext h9 h57 := extTr B55 E59
  show WlO _ _ _ _ _ _ _ _ _ _ _ _ _ _ _ _ _ _ [.int (1 : Int32)]
  refine Wl.ifN 229 at_226 (feq (by decide)).1 ?_
  refine Wl.aload 231 at_229 rfl rfl ?_
  refine Wl.iconst 232 (3 : Int32) at_231 (by decide) ?_
  refine Wl.iload 234 at_232 rfl ?_
  refine Wl.iload_n 235 at_234 rfl ?_
  refine Wl.iload 237 at_235 rfl ?_
  refine Wl.iload 239 at_237 rfl ?_
  refine Wl.iload 241 at_239 rfl ?_
  refine Wl.iload 243 at_241 rfl ?_
  refine Wl.iload 245 at_243 rfl ?_
  refine Wl.iload 247 at_245 rfl ?_
  refine Wl.iload 249 at_247 rfl ?_
  refine Wl.static 252 (argsL := [.ref s39, .int (3 : Int32), .int (11 : Int32), .int (1 : Int32), .int p0, .int p1, .int p2, .int (3 : Int32), .int n0, .int n1, .int n2]) at_249 (w240 hw) (w241 hw) (w2 hw) (w242 hw) (show parseMethodDescriptor "(Ljava/lang/String;IIICCCICCC)Z" = some ⟨[(.object "java/lang/String"), .int, .int, .int, .char, .char, .char, .int, .char, .char, .char], some .boolean⟩ by decide +kernel) rfl (okA_met hw hcs hfm (rs := [p0, (108 : Int32), (111 : Int32), (99 : Int32), (107 : Int32), (58 : Int32), (123 : Int32), n0, n1, n2, (125 : Int32)]) (n := 3) (j := 2) ((S41.ext E53).ext E59) (nle rfl) (by decide) (by decide) (by decide) (by decide) (nle rfl) rfl) (fun _ q => nomatch q) rfl rfl rfl (by decide) ⟨⟨nle rfl, nle rfl⟩, nle rfl, nle rfl⟩ ?_
  intro v62 h63 hq64 _
  obtain ⟨rfl, E65⟩ := hq64
  have B66 : Ext h h63 := extTr B60 E65
  have B67 : Ext h9 h63 := extTr B61 E65
  show WlO _ _ _ _ _ _ _ _ _ _ _ _ _ _ _ _ _ _ [.int (1 : Int32)]
  refine Wl.ifN 255 at_252 (feq (by decide)).1 ?_
  refine Wl.aload 257 at_255 rfl rfl ?_
  refine Wl.iconst 258 (4 : Int32) at_257 (by decide) ?_
  refine Wl.iload 260 at_258 rfl ?_
  refine Wl.iload_n 261 at_260 rfl ?_
  refine Wl.iload 263 at_261 rfl ?_
  refine Wl.iload 265 at_263 rfl ?_
  refine Wl.iload 267 at_265 rfl ?_
  refine Wl.iload 269 at_267 rfl ?_
  refine Wl.iload 271 at_269 rfl ?_
  refine Wl.iload 273 at_271 rfl ?_
  refine Wl.iload 275 at_273 rfl ?_
  refine Wl.static 278 (argsL := [.ref s39, .int (4 : Int32), .int (11 : Int32), .int (1 : Int32), .int p0, .int p1, .int p2, .int (3 : Int32), .int n0, .int n1, .int n2]) at_275 (w240 hw) (w241 hw) (w2 hw) (w242 hw) (show parseMethodDescriptor "(Ljava/lang/String;IIICCCICCC)Z" = some ⟨[(.object "java/lang/String"), .int, .int, .int, .char, .char, .char, .int, .char, .char, .char], some .boolean⟩ by decide +kernel) rfl (okA_met hw hcs hfm (rs := [p0, (108 : Int32), (111 : Int32), (99 : Int32), (107 : Int32), (58 : Int32), (123 : Int32), n0, n1, n2, (125 : Int32)]) (n := 4) (j := 3) (((S41.ext E53).ext E59).ext E65) (nle rfl) (by decide) (by decide) (by decide) (by decide) (nle rfl) rfl) (fun _ q => nomatch q) rfl rfl rfl (by decide) ⟨⟨nle rfl, nle rfl⟩, nle rfl, nle rfl⟩ ?_
  intro v68 h69 hq70 _
  obtain ⟨rfl, E71⟩ := hq70
  have B72 : Ext h h69 := extTr B66 E71
  have B73 : Ext h9 h69 := extTr B67 E71
  show WlO _ _ _ _ _ _ _ _ _ _ _ _ _ _ _ _ _ _ [.int (1 : Int32)]
  refine Wl.ifN 281 at_278 (feq (by decide)).1 ?_
  refine Wl.aload 283 at_281 rfl rfl ?_
  refine Wl.iconst 284 (5 : Int32) at_283 (by decide) ?_
  refine Wl.iload 286 at_284 rfl ?_
  refine Wl.iload_n 287 at_286 rfl ?_
  refine Wl.iload 289 at_287 rfl ?_
  refine Wl.iload 291 at_289 rfl ?_
  refine Wl.iload 293 at_291 rfl ?_
  refine Wl.iload 295 at_293 rfl ?_
  refine Wl.iload 297 at_295 rfl ?_
  refine Wl.iload 299 at_297 rfl ?_
  refine Wl.iload 301 at_299 rfl ?_
  refine Wl.static 304 (argsL := [.ref s39, .int (5 : Int32), .int (11 : Int32), .int (1 : Int32), .int p0, .int p1, .int p2, .int (3 : Int32), .int n0, .int n1, .int n2]) at_301 (w240 hw) (w241 hw) (w2 hw) (w242 hw) (show parseMethodDescriptor "(Ljava/lang/String;IIICCCICCC)Z" = some ⟨[(.object "java/lang/String"), .int, .int, .int, .char, .char, .char, .int, .char, .char, .char], some .boolean⟩ by decide +kernel) rfl (okA_met hw hcs hfm (rs := [p0, (108 : Int32), (111 : Int32), (99 : Int32), (107 : Int32), (58 : Int32), (123 : Int32), n0, n1, n2, (125 : Int32)]) (n := 5) (j := 4) ((((S41.ext E53).ext E59).ext E65).ext E71) (nle rfl) (by decide) (by decide) (by decide) (by decide) (nle rfl) rfl) (fun _ q => nomatch q) rfl rfl rfl (by decide) ⟨⟨nle rfl, nle rfl⟩, nle rfl, nle rfl⟩ ?_
  intro v74 h75 hq76 _
  obtain ⟨rfl, E77⟩ := hq76
  have B78 : Ext h h75 := extTr B72 E77
  have B79 : Ext h9 h75 := extTr B73 E77
  show WlO _ _ _ _ _ _ _ _ _ _ _ _ _ _ _ _ _ _ [.int (1 : Int32)]
  refine Wl.ifN 307 at_304 (feq (by decide)).1 ?_
  refine Wl.aload 309 at_307 rfl rfl ?_
  refine Wl.bipush 311 (6 : Int32) at_309 (by decide) ?_
  refine Wl.iload 313 at_311 rfl ?_
  refine Wl.iload_n 314 at_313 rfl ?_
  refine Wl.iload 316 at_314 rfl ?_
  refine Wl.iload 318 at_316 rfl ?_
  refine Wl.iload 320 at_318 rfl ?_
  refine Wl.iload 322 at_320 rfl ?_
  refine Wl.iload 324 at_322 rfl ?_
  refine Wl.iload 326 at_324 rfl ?_
  refine Wl.iload 328 at_326 rfl ?_
  refine Wl.static 331 (argsL := [.ref s39, .int (6 : Int32), .int (11 : Int32), .int (1 : Int32), .int p0, .int p1, .int p2, .int (3 : Int32), .int n0, .int n1, .int n2]) at_328 (w240 hw) (w241 hw) (w2 hw) (w242 hw) (show parseMethodDescriptor "(Ljava/lang/String;IIICCCICCC)Z" = some ⟨[(.object "java/lang/String"), .int, .int, .int, .char, .char, .char, .int, .char, .char, .char], some .boolean⟩ by decide +kernel) rfl (okB_met hw hcs hfm (rs := [p0, (108 : Int32), (111 : Int32), (99 : Int32), (107 : Int32), (58 : Int32), (123 : Int32), n0, n1, n2, (125 : Int32)]) (n := 6) (((((S41.ext E53).ext E59).ext E65).ext E71).ext E77) (nle rfl) (by decide) (by decide) lp0 lp1 lp2 ln0 ln1 ln2 (show (123 : Int32) = expI (6 : Int32) (1 : Int32) p0 p1 p2 (3 : Int32) n0 n1 n2 by rw [expI, if_neg (by decide), if_pos (by decide)])) (fun _ q => nomatch q) rfl rfl rfl (by decide) ⟨⟨nle rfl, nle rfl⟩, nle rfl, nle rfl⟩ ?_
  intro v80 h81 hq82 _
  obtain ⟨rfl, rfl⟩ := hq82
  show WlO _ _ _ _ _ _ _ _ _ _ _ _ _ _ _ _ _ _ [.int (1 : Int32)]
  refine Wl.ifN 334 at_331 (feq (by decide)).1 ?_
  refine Wl.aload 336 at_334 rfl rfl ?_
  refine Wl.bipush 338 (7 : Int32) at_336 (by decide) ?_
  refine Wl.iload 340 at_338 rfl ?_
  refine Wl.iload_n 341 at_340 rfl ?_
  refine Wl.iload 343 at_341 rfl ?_
  refine Wl.iload 345 at_343 rfl ?_
  refine Wl.iload 347 at_345 rfl ?_
  refine Wl.iload 349 at_347 rfl ?_
  refine Wl.iload 351 at_349 rfl ?_
  refine Wl.iload 353 at_351 rfl ?_
  refine Wl.iload 355 at_353 rfl ?_
  refine Wl.static 358 (argsL := [.ref s39, .int (7 : Int32), .int (11 : Int32), .int (1 : Int32), .int p0, .int p1, .int p2, .int (3 : Int32), .int n0, .int n1, .int n2]) at_355 (w240 hw) (w241 hw) (w2 hw) (w242 hw) (show parseMethodDescriptor "(Ljava/lang/String;IIICCCICCC)Z" = some ⟨[(.object "java/lang/String"), .int, .int, .int, .char, .char, .char, .int, .char, .char, .char], some .boolean⟩ by decide +kernel) rfl (okB_met hw hcs hfm (rs := [p0, (108 : Int32), (111 : Int32), (99 : Int32), (107 : Int32), (58 : Int32), (123 : Int32), n0, n1, n2, (125 : Int32)]) (n := 7) (((((S41.ext E53).ext E59).ext E65).ext E71).ext E77) (nle rfl) (by decide) (by decide) lp0 lp1 lp2 ln0 ln1 ln2 (show n0 = expI (7 : Int32) (1 : Int32) p0 p1 p2 (3 : Int32) n0 n1 n2 by rw [expI, if_neg (by decide), if_neg (by decide), if_pos (by decide), if_pos (by decide)])) (fun _ q => nomatch q) rfl rfl rfl (by decide) ⟨⟨nle rfl, nle rfl⟩, nle rfl, nle rfl⟩ ?_
  intro v83 h84 hq85 _
  obtain ⟨rfl, rfl⟩ := hq85
  show WlO _ _ _ _ _ _ _ _ _ _ _ _ _ _ _ _ _ _ [.int (1 : Int32)]
  refine Wl.ifN 361 at_358 (feq (by decide)).1 ?_
  refine Wl.aload 363 at_361 rfl rfl ?_
  refine Wl.bipush 365 (8 : Int32) at_363 (by decide) ?_
  refine Wl.iload 367 at_365 rfl ?_
  refine Wl.iload_n 368 at_367 rfl ?_
  refine Wl.iload 370 at_368 rfl ?_
  refine Wl.iload 372 at_370 rfl ?_
  refine Wl.iload 374 at_372 rfl ?_
  refine Wl.iload 376 at_374 rfl ?_
  refine Wl.iload 378 at_376 rfl ?_
  refine Wl.iload 380 at_378 rfl ?_
  refine Wl.iload 382 at_380 rfl ?_
  refine Wl.static 385 (argsL := [.ref s39, .int (8 : Int32), .int (11 : Int32), .int (1 : Int32), .int p0, .int p1, .int p2, .int (3 : Int32), .int n0, .int n1, .int n2]) at_382 (w240 hw) (w241 hw) (w2 hw) (w242 hw) (show parseMethodDescriptor "(Ljava/lang/String;IIICCCICCC)Z" = some ⟨[(.object "java/lang/String"), .int, .int, .int, .char, .char, .char, .int, .char, .char, .char], some .boolean⟩ by decide +kernel) rfl (okB_met hw hcs hfm (rs := [p0, (108 : Int32), (111 : Int32), (99 : Int32), (107 : Int32), (58 : Int32), (123 : Int32), n0, n1, n2, (125 : Int32)]) (n := 8) (((((S41.ext E53).ext E59).ext E65).ext E71).ext E77) (nle rfl) (by decide) (by decide) lp0 lp1 lp2 ln0 ln1 ln2 (show n1 = expI (8 : Int32) (1 : Int32) p0 p1 p2 (3 : Int32) n0 n1 n2 by rw [expI, if_neg (by decide), if_neg (by decide), if_pos (by decide), if_neg (by decide), if_pos (by decide)])) (fun _ q => nomatch q) rfl rfl rfl (by decide) ⟨⟨nle rfl, nle rfl⟩, nle rfl, nle rfl⟩ ?_
  intro v86 h87 hq88 _
  obtain ⟨rfl, rfl⟩ := hq88
  show WlO _ _ _ _ _ _ _ _ _ _ _ _ _ _ _ _ _ _ [.int (1 : Int32)]
  refine Wl.ifN 388 at_385 (feq (by decide)).1 ?_
  refine Wl.aload 390 at_388 rfl rfl ?_
  refine Wl.bipush 392 (9 : Int32) at_390 (by decide) ?_
  refine Wl.iload 394 at_392 rfl ?_
  refine Wl.iload_n 395 at_394 rfl ?_
  refine Wl.iload 397 at_395 rfl ?_
  refine Wl.iload 399 at_397 rfl ?_
  refine Wl.iload 401 at_399 rfl ?_
  refine Wl.iload 403 at_401 rfl ?_
  refine Wl.iload 405 at_403 rfl ?_
  refine Wl.iload 407 at_405 rfl ?_
  refine Wl.iload 409 at_407 rfl ?_
  refine Wl.static 412 (argsL := [.ref s39, .int (9 : Int32), .int (11 : Int32), .int (1 : Int32), .int p0, .int p1, .int p2, .int (3 : Int32), .int n0, .int n1, .int n2]) at_409 (w240 hw) (w241 hw) (w2 hw) (w242 hw) (show parseMethodDescriptor "(Ljava/lang/String;IIICCCICCC)Z" = some ⟨[(.object "java/lang/String"), .int, .int, .int, .char, .char, .char, .int, .char, .char, .char], some .boolean⟩ by decide +kernel) rfl (okB_met hw hcs hfm (rs := [p0, (108 : Int32), (111 : Int32), (99 : Int32), (107 : Int32), (58 : Int32), (123 : Int32), n0, n1, n2, (125 : Int32)]) (n := 9) (((((S41.ext E53).ext E59).ext E65).ext E71).ext E77) (nle rfl) (by decide) (by decide) lp0 lp1 lp2 ln0 ln1 ln2 (show n2 = expI (9 : Int32) (1 : Int32) p0 p1 p2 (3 : Int32) n0 n1 n2 by rw [expI, if_neg (by decide), if_neg (by decide), if_pos (by decide), if_neg (by decide), if_neg (by decide)])) (fun _ q => nomatch q) rfl rfl rfl (by decide) ⟨⟨nle rfl, nle rfl⟩, nle rfl, nle rfl⟩ ?_
  intro v89 h90 hq91 _
  obtain ⟨rfl, rfl⟩ := hq91
  show WlO _ _ _ _ _ _ _ _ _ _ _ _ _ _ _ _ _ _ [.int (1 : Int32)]
  refine Wl.ifN 415 at_412 (feq (by decide)).1 ?_
  refine Wl.aload 417 at_415 rfl rfl ?_
  refine Wl.bipush 419 (10 : Int32) at_417 (by decide) ?_
  refine Wl.iload 421 at_419 rfl ?_
  refine Wl.iload_n 422 at_421 rfl ?_
  refine Wl.iload 424 at_422 rfl ?_
  refine Wl.iload 426 at_424 rfl ?_
  refine Wl.iload 428 at_426 rfl ?_
  refine Wl.iload 430 at_428 rfl ?_
  refine Wl.iload 432 at_430 rfl ?_
  refine Wl.iload 434 at_432 rfl ?_
  refine Wl.iload 436 at_434 rfl ?_
  refine Wl.static 439 (argsL := [.ref s39, .int (10 : Int32), .int (11 : Int32), .int (1 : Int32), .int p0, .int p1, .int p2, .int (3 : Int32), .int n0, .int n1, .int n2]) at_436 (w240 hw) (w241 hw) (w2 hw) (w242 hw) (show parseMethodDescriptor "(Ljava/lang/String;IIICCCICCC)Z" = some ⟨[(.object "java/lang/String"), .int, .int, .int, .char, .char, .char, .int, .char, .char, .char], some .boolean⟩ by decide +kernel) rfl (okB_met hw hcs hfm (rs := [p0, (108 : Int32), (111 : Int32), (99 : Int32), (107 : Int32), (58 : Int32), (123 : Int32), n0, n1, n2, (125 : Int32)]) (n := 10) (((((S41.ext E53).ext E59).ext E65).ext E71).ext E77) (nle rfl) (by decide) (by decide) lp0 lp1 lp2 ln0 ln1 ln2 (show (125 : Int32) = expI (10 : Int32) (1 : Int32) p0 p1 p2 (3 : Int32) n0 n1 n2 by rw [expI, if_neg (by decide), if_neg (by decide), if_neg (by decide)])) (fun _ q => nomatch q) rfl rfl rfl (by decide) ⟨⟨nle rfl, nle rfl⟩, nle rfl, nle rfl⟩ ?_
  intro v92 h93 hq94 _
  obtain ⟨rfl, rfl⟩ := hq94
  show WlO _ _ _ _ _ _ _ _ _ _ _ _ _ _ _ _ _ _ [.int (1 : Int32)]
  refine Wl.ifN 442 at_439 (feq (by decide)).1 ?_
  refine Wl.aload 444 at_442 rfl rfl ?_
  refine Wl.bipush 446 (11 : Int32) at_444 (by decide) ?_
  refine Wl.iload 448 at_446 rfl ?_
  refine Wl.iload_n 449 at_448 rfl ?_
  refine Wl.iload 451 at_449 rfl ?_
  refine Wl.iload 453 at_451 rfl ?_
  refine Wl.iload 455 at_453 rfl ?_
  refine Wl.iload 457 at_455 rfl ?_
  refine Wl.iload 459 at_457 rfl ?_
  refine Wl.iload 461 at_459 rfl ?_
  refine Wl.iload 463 at_461 rfl ?_
  refine Wl.static 466 (argsL := [.ref s39, .int (11 : Int32), .int (11 : Int32), .int (1 : Int32), .int p0, .int p1, .int p2, .int (3 : Int32), .int n0, .int n1, .int n2]) at_463 (w240 hw) (w241 hw) (w2 hw) (w242 hw) (show parseMethodDescriptor "(Ljava/lang/String;IIICCCICCC)Z" = some ⟨[(.object "java/lang/String"), .int, .int, .int, .char, .char, .char, .int, .char, .char, .char], some .boolean⟩ by decide +kernel) rfl (okC_met hw (by decide)) (fun _ q => nomatch q) rfl rfl rfl (by decide) ⟨⟨nle rfl, nle rfl⟩, nle rfl, nle rfl⟩ ?_
  intro v95 h96 hq97 _
  obtain ⟨rfl, rfl⟩ := hq97
  show WlO _ _ _ _ _ _ _ _ _ _ _ _ _ _ _ _ _ _ [.int (1 : Int32)]
  refine Wl.ifN 469 at_466 (feq (by decide)).1 ?_
  refine Wl.aload 471 at_469 rfl rfl ?_
  refine Wl.bipush 473 (12 : Int32) at_471 (by decide) ?_
  refine Wl.iload 475 at_473 rfl ?_
  refine Wl.iload_n 476 at_475 rfl ?_
  refine Wl.iload 478 at_476 rfl ?_
  refine Wl.iload 480 at_478 rfl ?_
  refine Wl.iload 482 at_480 rfl ?_
  refine Wl.iload 484 at_482 rfl ?_
  refine Wl.iload 486 at_484 rfl ?_
  refine Wl.iload 488 at_486 rfl ?_
  refine Wl.iload 490 at_488 rfl ?_
  refine Wl.static 493 (argsL := [.ref s39, .int (12 : Int32), .int (11 : Int32), .int (1 : Int32), .int p0, .int p1, .int p2, .int (3 : Int32), .int n0, .int n1, .int n2]) at_490 (w240 hw) (w241 hw) (w2 hw) (w242 hw) (show parseMethodDescriptor "(Ljava/lang/String;IIICCCICCC)Z" = some ⟨[(.object "java/lang/String"), .int, .int, .int, .char, .char, .char, .int, .char, .char, .char], some .boolean⟩ by decide +kernel) rfl (okC_met hw (by decide)) (fun _ q => nomatch q) rfl rfl rfl (by decide) ⟨⟨nle rfl, nle rfl⟩, nle rfl, nle rfl⟩ ?_
  intro v98 h99 hq100 _
  obtain ⟨rfl, rfl⟩ := hq100
  show WlO _ _ _ _ _ _ _ _ _ _ _ _ _ _ _ _ _ _ [.int (1 : Int32)]
  refine Wl.ifN 496 at_493 (feq (by decide)).1 ?_
  refine Wl.iconst 497 (1 : Int32) at_496 (by decide) ?_
  refine Wl.goto 501 at_497 ?_
  exact Wl.ireturn at_501 rfl rfl (by simp) (nle rfl) (nle rfl) rfl
set_option maxRecDepth 65536 in
set_option maxHeartbeats 40000000 in
theorem law_t21 {l : Launch} {Z : State} {a0 : Array Value} (hw : ∀ d ∈ tables_1, d.before a0 Z = true) (hcs : CSon Z) (hfm : Fmt Z) {as : Array Value} {h : Heap} {i0 i1 i2 p0 p1 p2 n0 n1 n2 : Int32} (lp0 : Lat p0) (lp1 : Lat p1) (lp2 : Lat p2) (ln0 : Lat n0) (ln1 : Lat n1) (ln2 : Lat n2) (p0123 : p0 ≠ 123) (p0125 : p0 ≠ 125) (p1123 : p1 ≠ 123) (p1125 : p1 ≠ 125) (p2123 : p2 ≠ 123) (p2125 : p2 ≠ 125) (hn0 : ¬ n0 = (125 : Int32)) :
    Wl l Z a0 consts_1 x code maxLocals ret room_1 as (fun v h' => v = some (.int 1)) [] h 0 0 80 #[.val (.int i0), .val (.int i1), .val (.int i2), .val (.int (2 : Int32)), .val (.int (1 : Int32)), .val (.int p0), .val (.int p1), .val (.int p2), .val (.int n0), .val (.int n1), .val (.int n2), .unset, .unset, .unset, .unset, .unset] [] := by
  refine Wl.iload_n 81 at_80 rfl ?_
  refine Wl.iload 83 at_81 rfl ?_
  refine Wl.iload 85 at_83 rfl ?_
  refine Wl.iload 87 at_85 rfl ?_
  refine Wl.static 90 (argsL := [.int (2 : Int32), .int p0, .int p1, .int p2]) at_87 (w4 hw) (w5 hw) (w2 hw) (w6 hw) (show parseMethodDescriptor "(ICCC)Ljava/lang/String;" = some ⟨[.int, .char, .char, .char], some (.object "java/lang/String")⟩ by decide +kernel) rfl (mk2_met hw hcs lp0 lp1 lp2) (fun _ q => nomatch q) rfl rfl rfl (by decide) ⟨⟨nle rfl, nle rfl⟩, nle rfl, nle rfl⟩ ?_
  intro v1 h2 hq3 _
  obtain ⟨a4, rfl, E5, S6⟩ := hq3
  have B7 : Ext h h2 := E5
  show WlO _ _ _ _ _ _ _ _ _ _ _ _ _ _ _ _ _ _ [.ref a4]
  refine Wl.astore 92 #[.val (.int i0), .val (.int i1), .val (.int i2), .val (.int (2 : Int32)), .val (.int (1 : Int32)), .val (.int p0), .val (.int p1), .val (.int p2), .val (.int n0), .val (.int n1), .val (.int n2), .val (.ref a4), .unset, .unset, .unset, .unset] at_90 rfl rfl ?_
  refine Wl.iload 94 at_92 rfl ?_
  refine Wl.iload 96 at_94 rfl ?_
  refine Wl.iload 98 at_96 rfl ?_
  refine Wl.iload 100 at_98 rfl ?_
  refine Wl.static 103 (argsL := [.int (1 : Int32), .int n0, .int n1, .int n2]) at_100 (w4 hw) (w5 hw) (w2 hw) (w6 hw) (show parseMethodDescriptor "(ICCC)Ljava/lang/String;" = some ⟨[.int, .char, .char, .char], some (.object "java/lang/String")⟩ by decide +kernel) rfl (mk1_met hw hcs ln0 ln1 ln2) (fun _ q => nomatch q) rfl rfl rfl (by decide) ⟨⟨nle rfl, nle rfl⟩, nle rfl, nle rfl⟩ ?_
  intro v8 h9 hq10 _
  obtain ⟨a11, rfl, E12, S13⟩ := hq10
  have B14 : Ext h h9 := extTr B7 E12
  show WlO _ _ _ _ _ _ _ _ _ _ _ _ _ _ _ _ _ _ [.ref a11]
  refine Wl.astore 105 #[.val (.int i0), .val (.int i1), .val (.int i2), .val (.int (2 : Int32)), .val (.int (1 : Int32)), .val (.int p0), .val (.int p1), .val (.int p2), .val (.int n0), .val (.int n1), .val (.int n2), .val (.ref a4), .val (.ref a11), .unset, .unset, .unset] at_103 rfl rfl ?_
  refine Wl.new 108 at_105 (w51 hw) (w52 hw) (w53 hw) (nle rfl) (nle rfl) ?_
  intro a15 h16 q17 E18 X19 D20
  have z21 : h.size ≤ a15 := Nat.le_trans B14.1 (Nat.le_of_eq q17.symm)
  have z22 : h9.size ≤ a15 := Nat.le_of_eq q17.symm
  have ne23 : a4 ≠ a15 := Nat.ne_of_lt (by rw [q17]; exact (((S6).exa.ext E12)).lt)
  have ne24 : a11 ≠ a15 := Nat.ne_of_lt (by rw [q17]; exact ((S13).exa).lt)
  have B25 : Ext h h16 := extTr B14 E18
  have B26 : Ext h9 h16 := E18
  have F27 : Fld Z h16 a15 "com/example/portunus/portunus/LockKeys" "prefix" "Ljava/lang/String;" (.null) := D20 (Or.inr (w107 hw)) (ty := (.object "java/lang/String")) (by decide)
  refine Wl.dup 109 at_108 rfl ?_
  refine Wl.aload 111 at_109 rfl rfl ?_
  refine Wl.special 114 (argsL := [.ref a4]) at_111 (w54 hw) (w55 hw) (w53 hw) (w56 hw) (show parseMethodDescriptor "(Ljava/lang/String;)V" = some ⟨[(.object "java/lang/String")], none⟩ by decide +kernel) rfl (keys_met hw hcs X19 F27 (cs := [p0, p1]) ((S6.ext E12).ext E18) (neC p0123 (neC p1123 neN)) (neC p0125 (neC p1125 neN))) (allS (List.mem_of_getElem? (i := 0) rfl) (fun _ q => nomatch q)) rfl rfl rfl rfl (by decide) ⟨⟨nle rfl, nle rfl⟩, nle rfl, nle rfl⟩ ?_
  intro v28 h29 hq30 _
  obtain ⟨rfl, K31, X32, F33⟩ := hq30
  have B34 : Ext h h29 := extKeep B25 K31 (allS z21 all0)
  have B35 : Ext h9 h29 := extKeep B26 K31 (allS z22 all0)
  show WlO _ _ _ _ _ _ _ _ _ _ _ _ _ _ _ _ _ _ [.ref a15]
  refine Wl.astore 116 #[.val (.int i0), .val (.int i1), .val (.int i2), .val (.int (2 : Int32)), .val (.int (1 : Int32)), .val (.int p0), .val (.int p1), .val (.int p2), .val (.int n0), .val (.int n1), .val (.int n2), .val (.ref a4), .val (.ref a11), .val (.ref a15), .unset, .unset] at_114 rfl rfl ?_
  refine Wl.aload 118 at_116 rfl rfl ?_
  refine Wl.aload 120 at_118 rfl rfl ?_
  refine Wl.virtual 123 (argsL := [.ref a11]) at_120 (w108 hw) (w109 hw) (w111 hw) (w110 hw) (w53 hw) (w112 hw) (nf_sel (w111 hw) rfl) X32 (show parseMethodDescriptor "(Ljava/lang/String;)Ljava/lang/String;" = some ⟨[(.object "java/lang/String")], some (.object "java/lang/String")⟩ by decide +kernel) rfl (key_met hw hcs hfm (cs := [n0]) (ps := [p0, p1]) F33 ((S6.ext E12).ext B35) (nle rfl) (S13.ext B35) (by simp) (nle rfl) hn0 (nle rfl)) (fun _ q => nomatch q) rfl rfl rfl (by decide) ⟨⟨nle rfl, nle rfl⟩, nle rfl, nle rfl⟩ ?_
  intro v36 h37 hq38 _
  obtain ⟨s39, rfl, E40, S41⟩ := hq38
  have S41 : Stl Z h37 s39 [p0, p1, (108 : Int32), (111 : Int32), (99 : Int32), (107 : Int32), (58 : Int32), (123 : Int32), n0, (125 : Int32)] := S41
  have B42 : Ext h h37 := extTr B34 E40
  have B43 : Ext h9 h37 := extTr B35 E40
  show WlO _ _ _ _ _ _ _ _ _ _ _ _ _ _ _ _ _ _ [.ref s39]
  refine Wl.astore 125 #[.val (.int i0), .val (.int i1), .val (.int i2), .val (.int (2 : Int32)), .val (.int (1 : Int32)), .val (.int p0), .val (.int p1), .val (.int p2), .val (.int n0), .val (.int n1), .val (.int n2), .val (.ref a4), .val (.ref a11), .val (.ref a15), .val (.ref s39), .unset] at_123 rfl rfl ?_
  refine Wl.iload_n 126 at_125 rfl ?_
  refine Wl.iload 128 at_126 rfl ?_
  refine Wl.iadd 129 at_128 ?_
  show WlO _ _ _ _ _ _ _ _ _ _ _ _ _ _ _ _ _ _ [.int (3 : Int32)]
  refine Wl.bipush 131 (7 : Int32) at_129 (by decide) ?_
  refine Wl.iadd 132 at_131 ?_
  show WlO _ _ _ _ _ _ _ _ _ _ _ _ _ _ _ _ _ _ [.int (10 : Int32)]
  refine Wl.istore 134 #[.val (.int i0), .val (.int i1), .val (.int i2), .val (.int (2 : Int32)), .val (.int (1 : Int32)), .val (.int p0), .val (.int p1), .val (.int p2), .val (.int n0), .val (.int n1), .val (.int n2), .val (.ref a4), .val (.ref a11), .val (.ref a15), .val (.ref s39), .val (.int (10 : Int32))] at_132 rfl ?_
  refine Wl.aload 136 at_134 rfl rfl ?_
  refine Wl.ifnullN 139 at_136 ?_
  refine Wl.aload 141 at_139 rfl rfl ?_
  refine Wl.virtual 144 (argsL := []) at_141 (w239 hw) (w81 hw) (w83 hw) (w82 hw) (w9 hw) (w84 hw) (nf_sel (w83 hw) rfl) (S41).exa (show parseMethodDescriptor "()I" = some ⟨[], some .int⟩ by decide +kernel) rfl (len_met hw hcs S41) (fun _ q => nomatch q) rfl rfl rfl (by decide) ⟨⟨nle rfl, nle rfl⟩, nle rfl, nle rfl⟩ ?_
  intro v44 h45 hq46 _
  obtain ⟨rfl, rfl⟩ := hq46
  show WlO _ _ _ _ _ _ _ _ _ _ _ _ _ _ _ _ _ _ [.int (10 : Int32)]
  refine Wl.iload 146 at_144 rfl ?_
  refine Wl.icmpY 151 at_146 (teq (by decide)).1 ?_
  refine Wl.aload 153 at_151 rfl rfl ?_
  refine Wl.iconst 154 (0 : Int32) at_153 (by decide) ?_
  refine Wl.iload 156 at_154 rfl ?_
  refine Wl.iload_n 157 at_156 rfl ?_
  refine Wl.iload 159 at_157 rfl ?_
  refine Wl.iload 161 at_159 rfl ?_
  refine Wl.iload 163 at_161 rfl ?_
  refine Wl.iload 165 at_163 rfl ?_
  refine Wl.iload 167 at_165 rfl ?_
  refine Wl.iload 169 at_167 rfl ?_
  refine Wl.iload 171 at_169 rfl ?_
  refine Wl.static 174 (argsL := [.ref s39, .int (0 : Int32), .int (10 : Int32), .int (2 : Int32), .int p0, .int p1, .int p2, .int (1 : Int32), .int n0, .int n1, .int n2]) at_171 (w240 hw) (w241 hw) (w2 hw) (w242 hw) (show parseMethodDescriptor "(Ljava/lang/String;IIICCCICCC)Z" = some ⟨[(.object "java/lang/String"), .int, .int, .int, .char, .char, .char, .int, .char, .char, .char], some .boolean⟩ by decide +kernel) rfl (okB_met hw hcs hfm (rs := [p0, p1, (108 : Int32), (111 : Int32), (99 : Int32), (107 : Int32), (58 : Int32), (123 : Int32), n0, (125 : Int32)]) (n := 0) S41 (nle rfl) (by decide) (by decide) lp0 lp1 lp2 ln0 ln1 ln2 (show p0 = expI (0 : Int32) (2 : Int32) p0 p1 p2 (1 : Int32) n0 n1 n2 by rw [expI, if_pos (by decide), if_pos (by decide)])) (fun _ q => nomatch q) rfl rfl rfl (by decide) ⟨⟨nle rfl, nle rfl⟩, nle rfl, nle rfl⟩ ?_
  intro v47 h48 hq49 _
  obtain ⟨rfl, rfl⟩ := hq49
  show WlO _ _ _ _ _ _ _ _ _ _ _ _ _ _ _ _ _ _ [.int (1 : Int32)]
  refine Wl.ifN 177 at_174 (feq (by decide)).1 ?_
  refine Wl.aload 179 at_177 rfl rfl ?_
  refine Wl.iconst 180 (1 : Int32) at_179 (by decide) ?_
  refine Wl.iload 182 at_180 rfl ?_
  refine Wl.iload_n 183 at_182 rfl ?_
  refine Wl.iload 185 at_183 rfl ?_
  refine Wl.iload 187 at_185 rfl ?_
  refine Wl.iload 189 at_187 rfl ?_
  refine Wl.iload 191 at_189 rfl ?_
  refine Wl.iload 193 at_191 rfl ?_
  refine Wl.iload 195 at_193 rfl ?_
  refine Wl.iload 197 at_195 rfl ?_
  refine Wl.static 200 (argsL := [.ref s39, .int (1 : Int32), .int (10 : Int32), .int (2 : Int32), .int p0, .int p1, .int p2, .int (1 : Int32), .int n0, .int n1, .int n2]) at_197 (w240 hw) (w241 hw) (w2 hw) (w242 hw) (show parseMethodDescriptor "(Ljava/lang/String;IIICCCICCC)Z" = some ⟨[(.object "java/lang/String"), .int, .int, .int, .char, .char, .char, .int, .char, .char, .char], some .boolean⟩ by decide +kernel) rfl (okB_met hw hcs hfm (rs := [p0, p1, (108 : Int32), (111 : Int32), (99 : Int32), (107 : Int32), (58 : Int32), (123 : Int32), n0, (125 : Int32)]) (n := 1) S41 (nle rfl) (by decide) (by decide) lp0 lp1 lp2 ln0 ln1 ln2 (show p1 = expI (1 : Int32) (2 : Int32) p0 p1 p2 (1 : Int32) n0 n1 n2 by rw [expI, if_pos (by decide), if_neg (by decide), if_pos (by decide)])) (fun _ q => nomatch q) rfl rfl rfl (by decide) ⟨⟨nle rfl, nle rfl⟩, nle rfl, nle rfl⟩ ?_
  intro v50 h51 hq52 _
  obtain ⟨rfl, rfl⟩ := hq52
  show WlO _ _ _ _ _ _ _ _ _ _ _ _ _ _ _ _ _ _ [.int (1 : Int32)]
  refine Wl.ifN 203 at_200 (feq (by decide)).1 ?_
  refine Wl.aload 205 at_203 rfl rfl ?_
  refine Wl.iconst 206 (2 : Int32) at_205 (by decide) ?_
  refine Wl.iload 208 at_206 rfl ?_
  refine Wl.iload_n 209 at_208 rfl ?_
  refine Wl.iload 211 at_209 rfl ?_
  refine Wl.iload 213 at_211 rfl ?_
  refine Wl.iload 215 at_213 rfl ?_
  refine Wl.iload 217 at_215 rfl ?_
  refine Wl.iload 219 at_217 rfl ?_
  refine Wl.iload 221 at_219 rfl ?_
  refine Wl.iload 223 at_221 rfl ?_
  refine Wl.static 226 (argsL := [.ref s39, .int (2 : Int32), .int (10 : Int32), .int (2 : Int32), .int p0, .int p1, .int p2, .int (1 : Int32), .int n0, .int n1, .int n2]) at_223 (w240 hw) (w241 hw) (w2 hw) (w242 hw) (show parseMethodDescriptor "(Ljava/lang/String;IIICCCICCC)Z" = some ⟨[(.object "java/lang/String"), .int, .int, .int, .char, .char, .char, .int, .char, .char, .char], some .boolean⟩ by decide +kernel) rfl (okA_met hw hcs hfm (rs := [p0, p1, (108 : Int32), (111 : Int32), (99 : Int32), (107 : Int32), (58 : Int32), (123 : Int32), n0, (125 : Int32)]) (n := 2) (j := 0) S41 (nle rfl) (by decide) (by decide) (by decide) (by decide) (nle rfl) rfl) (fun _ q => nomatch q) rfl rfl rfl (by decide) ⟨⟨nle rfl, nle rfl⟩, nle rfl, nle rfl⟩ ?_
  intro v53 h54 hq55 _
  obtain ⟨rfl, E56⟩ := hq55
  have B57 : Ext h h54 := extTr B42 E56
  have B58 : Ext h9 h54 := extTr B43 E56
  show WlO _ _ _ _ _ _ _ _ _ _ _ _ _ _ _ _ _ _ [.int (1 : Int32)]
  refine Wl.ifN 229 at_226 (feq (by decide)).1 ?_
  refine Wl.aload 231 at_229 rfl rfl ?_
  refine Wl.iconst 232 (3 : Int32) at_231 (by decide) ?_
  refine Wl.iload 234 at_232 rfl ?_
  refine Wl.iload_n 235 at_234 rfl ?_
  refine Wl.iload 237 at_235 rfl ?_
  refine Wl.iload 239 at_237 rfl ?_
  refine Wl.iload 241 at_239 rfl ?_
  refine Wl.iload 243 at_241 rfl ?_
  refine Wl.iload 245 at_243 rfl ?_
  refine Wl.iload 247 at_245 rfl ?_
  refine Wl.iload 249 at_247 rfl ?_
  refine Wl.static 252 (argsL := [.ref s39, .int (3 : Int32), .int (10 : Int32), .int (2 : Int32), .int p0, .int p1, .int p2, .int (1 : Int32), .int n0, .int n1, .int n2]) at_249 (w240 hw) (w241 hw) (w2 hw) (w242 hw) (show parseMethodDescriptor "(Ljava/lang/String;IIICCCICCC)Z" = some ⟨[(.object "java/lang/String"), .int, .int, .int, .char, .char, .char, .int, .char, .char, .char], some .boolean⟩ by decide +kernel) rfl (okA_met hw hcs hfm (rs := [p0, p1, (108 : Int32), (111 : Int32), (99 : Int32), (107 : Int32), (58 : Int32), (123 : Int32), n0, (125 : Int32)]) (n := 3) (j := 1) (S41.ext E56) (nle rfl) (by decide) (by decide) (by decide) (by decide) (nle rfl) rfl) (fun _ q => nomatch q) rfl rfl rfl (by decide) ⟨⟨nle rfl, nle rfl⟩, nle rfl, nle rfl⟩ ?_
  intro v59 h60 hq61 _
  obtain ⟨rfl, E62⟩ := hq61
  have B63 : Ext h h60 := extTr B57 E62
  have B64 : Ext h9 h60 := extTr B58 E62
  show WlO _ _ _ _ _ _ _ _ _ _ _ _ _ _ _ _ _ _ [.int (1 : Int32)]
  refine Wl.ifN 255 at_252 (feq (by decide)).1 ?_
  refine Wl.aload 257 at_255 rfl rfl ?_
  refine Wl.iconst 258 (4 : Int32) at_257 (by decide) ?_
  refine Wl.iload 260 at_258 rfl ?_
  refine Wl.iload_n 261 at_260 rfl ?_
  refine Wl.iload 263 at_261 rfl ?_
  refine Wl.iload 265 at_263 rfl ?_
  refine Wl.iload 267 at_265 rfl ?_
  refine Wl.iload 269 at_267 rfl ?_
  refine Wl.iload 271 at_269 rfl ?_
  refine Wl.iload 273 at_271 rfl ?_
  refine Wl.iload 275 at_273 rfl ?_
  refine Wl.static 278 (argsL := [.ref s39, .int (4 : Int32), .int (10 : Int32), .int (2 : Int32), .int p0, .int p1, .int p2, .int (1 : Int32), .int n0, .int n1, .int n2]) at_275 (w240 hw) (w241 hw) (w2 hw) (w242 hw) (show parseMethodDescriptor "(Ljava/lang/String;IIICCCICCC)Z" = some ⟨[(.object "java/lang/String"), .int, .int, .int, .char, .char, .char, .int, .char, .char, .char], some .boolean⟩ by decide +kernel) rfl (okA_met hw hcs hfm (rs := [p0, p1, (108 : Int32), (111 : Int32), (99 : Int32), (107 : Int32), (58 : Int32), (123 : Int32), n0, (125 : Int32)]) (n := 4) (j := 2) ((S41.ext E56).ext E62) (nle rfl) (by decide) (by decide) (by decide) (by decide) (nle rfl) rfl) (fun _ q => nomatch q) rfl rfl rfl (by decide) ⟨⟨nle rfl, nle rfl⟩, nle rfl, nle rfl⟩ ?_
  intro v65 h66 hq67 _
  obtain ⟨rfl, E68⟩ := hq67
  have B69 : Ext h h66 := extTr B63 E68
  have B70 : Ext h9 h66 := extTr B64 E68
  show WlO _ _ _ _ _ _ _ _ _ _ _ _ _ _ _ _ _ _ [.int (1 : Int32)]
  refine Wl.ifN 281 at_278 (feq (by decide)).1 ?_
  refine Wl.aload 283 at_281 rfl rfl ?_
  refine Wl.iconst 284 (5 : Int32) at_283 (by decide) ?_
  refine Wl.iload 286 at_284 rfl ?_
  refine Wl.iload_n 287 at_286 rfl ?_
  refine Wl.iload 289 at_287 rfl ?_
  refine Wl.iload 291 at_289 rfl ?_
  refine Wl.iload 293 at_291 rfl ?_
  refine Wl.iload 295 at_293 rfl ?_
  refine Wl.iload 297 at_295 rfl ?_
  refine Wl.iload 299 at_297 rfl ?_
  refine Wl.iload 301 at_299 rfl ?_
  refine Wl.static 304 (argsL := [.ref s39, .int (5 : Int32), .int (10 : Int32), .int (2 : Int32), .int p0, .int p1, .int p2, .int (1 : Int32), .int n0, .int n1, .int n2]) at_301 (w240 hw) (w241 hw) (w2 hw) (w242 hw) (show parseMethodDescriptor "(Ljava/lang/String;IIICCCICCC)Z" = some ⟨[(.object "java/lang/String"), .int, .int, .int, .char, .char, .char, .int, .char, .char, .char], some .boolean⟩ by decide +kernel) rfl (okA_met hw hcs hfm (rs := [p0, p1, (108 : Int32), (111 : Int32), (99 : Int32), (107 : Int32), (58 : Int32), (123 : Int32), n0, (125 : Int32)]) (n := 5) (j := 3) (((S41.ext E56).ext E62).ext E68) (nle rfl) (by decide) (by decide) (by decide) (by decide) (nle rfl) rfl) (fun _ q => nomatch q) rfl rfl rfl (by decide) ⟨⟨nle rfl, nle rfl⟩, nle rfl, nle rfl⟩ ?_
  intro v71 h72 hq73 _
  obtain ⟨rfl, E74⟩ := hq73
  have B75 : Ext h h72 := extTr B69 E74
  have B76 : Ext h9 h72 := extTr B70 E74
  show WlO _ _ _ _ _ _ _ _ _ _ _ _ _ _ _ _ _ _ [.int (1 : Int32)]
  refine Wl.ifN 307 at_304 (feq (by decide)).1 ?_
  refine Wl.aload 309 at_307 rfl rfl ?_
  refine Wl.bipush 311 (6 : Int32) at_309 (by decide) ?_
  refine Wl.iload 313 at_311 rfl ?_
  refine Wl.iload_n 314 at_313 rfl ?_
  refine Wl.iload 316 at_314 rfl ?_
  refine Wl.iload 318 at_316 rfl ?_
  refine Wl.iload 320 at_318 rfl ?_
  refine Wl.iload 322 at_320 rfl ?_
  refine Wl.iload 324 at_322 rfl ?_
  refine Wl.iload 326 at_324 rfl ?_
  refine Wl.iload 328 at_326 rfl ?_
  refine Wl.static 331 (argsL := [.ref s39, .int (6 : Int32), .int (10 : Int32), .int (2 : Int32), .int p0, .int p1, .int p2, .int (1 : Int32), .int n0, .int n1, .int n2]) at_328 (w240 hw) (w241 hw) (w2 hw) (w242 hw) (show parseMethodDescriptor "(Ljava/lang/String;IIICCCICCC)Z" = some ⟨[(.object "java/lang/String"), .int, .int, .int, .char, .char, .char, .int, .char, .char, .char], some .boolean⟩ by decide +kernel) rfl (okA_met hw hcs hfm (rs := [p0, p1, (108 : Int32), (111 : Int32), (99 : Int32), (107 : Int32), (58 : Int32), (123 : Int32), n0, (125 : Int32)]) (n := 6) (j := 4) ((((S41.ext E56).ext E62).ext E68).ext E74) (nle rfl) (by decide) (by decide) (by decide) (by decide) (nle rfl) rfl) (fun _ q => nomatch q) rfl rfl rfl (by decide) ⟨⟨nle rfl, nle rfl⟩, nle rfl, nle rfl⟩ ?_
  intro v77 h78 hq79 _
  obtain ⟨rfl, E80⟩ := hq79
  have B81 : Ext h h78 := extTr B75 E80
  have B82 : Ext h9 h78 := extTr B76 E80
  show WlO _ _ _ _ _ _ _ _ _ _ _ _ _ _ _ _ _ _ [.int (1 : Int32)]
  refine Wl.ifN 334 at_331 (feq (by decide)).1 ?_
  refine Wl.aload 336 at_334 rfl rfl ?_
  refine Wl.bipush 338 (7 : Int32) at_336 (by decide) ?_
  refine Wl.iload 340 at_338 rfl ?_
  refine Wl.iload_n 341 at_340 rfl ?_
  refine Wl.iload 343 at_341 rfl ?_
  refine Wl.iload 345 at_343 rfl ?_
  refine Wl.iload 347 at_345 rfl ?_
  refine Wl.iload 349 at_347 rfl ?_
  refine Wl.iload 351 at_349 rfl ?_
  refine Wl.iload 353 at_351 rfl ?_
  refine Wl.iload 355 at_353 rfl ?_
  refine Wl.static 358 (argsL := [.ref s39, .int (7 : Int32), .int (10 : Int32), .int (2 : Int32), .int p0, .int p1, .int p2, .int (1 : Int32), .int n0, .int n1, .int n2]) at_355 (w240 hw) (w241 hw) (w2 hw) (w242 hw) (show parseMethodDescriptor "(Ljava/lang/String;IIICCCICCC)Z" = some ⟨[(.object "java/lang/String"), .int, .int, .int, .char, .char, .char, .int, .char, .char, .char], some .boolean⟩ by decide +kernel) rfl (okB_met hw hcs hfm (rs := [p0, p1, (108 : Int32), (111 : Int32), (99 : Int32), (107 : Int32), (58 : Int32), (123 : Int32), n0, (125 : Int32)]) (n := 7) (((((S41.ext E56).ext E62).ext E68).ext E74).ext E80) (nle rfl) (by decide) (by decide) lp0 lp1 lp2 ln0 ln1 ln2 (show (123 : Int32) = expI (7 : Int32) (2 : Int32) p0 p1 p2 (1 : Int32) n0 n1 n2 by rw [expI, if_neg (by decide), if_pos (by decide)])) (fun _ q => nomatch q) rfl rfl rfl (by decide) ⟨⟨nle rfl, nle rfl⟩, nle rfl, nle rfl⟩ ?_
  intro v83 h84 hq85 _
  obtain ⟨rfl, rfl⟩ := hq85
  show WlO _ _ _ _ _ _ _ _ _ _ _ _ _ _ _ _ _ _ [.int (1 : Int32)]
  refine Wl.ifN 361 at_358 (feq (by decide)).1 ?_
  refine Wl.aload 363 at_361 rfl rfl ?_
  refine Wl.bipush 365 (8 : Int32) at_363 (by decide) ?_
  refine Wl.iload 367 at_365 rfl ?_
  refine Wl.iload_n 368 at_367 rfl ?_
  refine Wl.iload 370 at_368 rfl ?_
  refine Wl.iload 372 at_370 rfl ?_
  refine Wl.iload 374 at_372 rfl ?_
  refine Wl.iload 376 at_374 rfl ?_
  refine Wl.iload 378 at_376 rfl ?_
  refine Wl.iload 380 at_378 rfl ?_
  refine Wl.iload 382 at_380 rfl ?_
  refine Wl.static 385 (argsL := [.ref s39, .int (8 : Int32), .int (10 : Int32), .int (2 : Int32), .int p0, .int p1, .int p2, .int (1 : Int32), .int n0, .int n1, .int n2]) at_382 (w240 hw) (w241 hw) (w2 hw) (w242 hw) (show parseMethodDescriptor "(Ljava/lang/String;IIICCCICCC)Z" = some ⟨[(.object "java/lang/String"), .int, .int, .int, .char, .char, .char, .int, .char, .char, .char], some .boolean⟩ by decide +kernel) rfl (okB_met hw hcs hfm (rs := [p0, p1, (108 : Int32), (111 : Int32), (99 : Int32), (107 : Int32), (58 : Int32), (123 : Int32), n0, (125 : Int32)]) (n := 8) (((((S41.ext E56).ext E62).ext E68).ext E74).ext E80) (nle rfl) (by decide) (by decide) lp0 lp1 lp2 ln0 ln1 ln2 (show n0 = expI (8 : Int32) (2 : Int32) p0 p1 p2 (1 : Int32) n0 n1 n2 by rw [expI, if_neg (by decide), if_neg (by decide), if_pos (by decide), if_pos (by decide)])) (fun _ q => nomatch q) rfl rfl rfl (by decide) ⟨⟨nle rfl, nle rfl⟩, nle rfl, nle rfl⟩ ?_
  intro v86 h87 hq88 _
  obtain ⟨rfl, rfl⟩ := hq88
  show WlO _ _ _ _ _ _ _ _ _ _ _ _ _ _ _ _ _ _ [.int (1 : Int32)]
  refine Wl.ifN 388 at_385 (feq (by decide)).1 ?_
  refine Wl.aload 390 at_388 rfl rfl ?_
  refine Wl.bipush 392 (9 : Int32) at_390 (by decide) ?_
  refine Wl.iload 394 at_392 rfl ?_
  refine Wl.iload_n 395 at_394 rfl ?_
  refine Wl.iload 397 at_395 rfl ?_
  refine Wl.iload 399 at_397 rfl ?_
  refine Wl.iload 401 at_399 rfl ?_
  refine Wl.iload 403 at_401 rfl ?_
  refine Wl.iload 405 at_403 rfl ?_
  refine Wl.iload 407 at_405 rfl ?_
  refine Wl.iload 409 at_407 rfl ?_
  refine Wl.static 412 (argsL := [.ref s39, .int (9 : Int32), .int (10 : Int32), .int (2 : Int32), .int p0, .int p1, .int p2, .int (1 : Int32), .int n0, .int n1, .int n2]) at_409 (w240 hw) (w241 hw) (w2 hw) (w242 hw) (show parseMethodDescriptor "(Ljava/lang/String;IIICCCICCC)Z" = some ⟨[(.object "java/lang/String"), .int, .int, .int, .char, .char, .char, .int, .char, .char, .char], some .boolean⟩ by decide +kernel) rfl (okB_met hw hcs hfm (rs := [p0, p1, (108 : Int32), (111 : Int32), (99 : Int32), (107 : Int32), (58 : Int32), (123 : Int32), n0, (125 : Int32)]) (n := 9) (((((S41.ext E56).ext E62).ext E68).ext E74).ext E80) (nle rfl) (by decide) (by decide) lp0 lp1 lp2 ln0 ln1 ln2 (show (125 : Int32) = expI (9 : Int32) (2 : Int32) p0 p1 p2 (1 : Int32) n0 n1 n2 by rw [expI, if_neg (by decide), if_neg (by decide), if_neg (by decide)])) (fun _ q => nomatch q) rfl rfl rfl (by decide) ⟨⟨nle rfl, nle rfl⟩, nle rfl, nle rfl⟩ ?_
  intro v89 h90 hq91 _
  obtain ⟨rfl, rfl⟩ := hq91
  show WlO _ _ _ _ _ _ _ _ _ _ _ _ _ _ _ _ _ _ [.int (1 : Int32)]
  refine Wl.ifN 415 at_412 (feq (by decide)).1 ?_
  refine Wl.aload 417 at_415 rfl rfl ?_
  refine Wl.bipush 419 (10 : Int32) at_417 (by decide) ?_
  refine Wl.iload 421 at_419 rfl ?_
  refine Wl.iload_n 422 at_421 rfl ?_
  refine Wl.iload 424 at_422 rfl ?_
  refine Wl.iload 426 at_424 rfl ?_
  refine Wl.iload 428 at_426 rfl ?_
  refine Wl.iload 430 at_428 rfl ?_
  refine Wl.iload 432 at_430 rfl ?_
  refine Wl.iload 434 at_432 rfl ?_
  refine Wl.iload 436 at_434 rfl ?_
  refine Wl.static 439 (argsL := [.ref s39, .int (10 : Int32), .int (10 : Int32), .int (2 : Int32), .int p0, .int p1, .int p2, .int (1 : Int32), .int n0, .int n1, .int n2]) at_436 (w240 hw) (w241 hw) (w2 hw) (w242 hw) (show parseMethodDescriptor "(Ljava/lang/String;IIICCCICCC)Z" = some ⟨[(.object "java/lang/String"), .int, .int, .int, .char, .char, .char, .int, .char, .char, .char], some .boolean⟩ by decide +kernel) rfl (okC_met hw (by decide)) (fun _ q => nomatch q) rfl rfl rfl (by decide) ⟨⟨nle rfl, nle rfl⟩, nle rfl, nle rfl⟩ ?_
  intro v92 h93 hq94 _
  obtain ⟨rfl, rfl⟩ := hq94
  show WlO _ _ _ _ _ _ _ _ _ _ _ _ _ _ _ _ _ _ [.int (1 : Int32)]
  refine Wl.ifN 442 at_439 (feq (by decide)).1 ?_
  refine Wl.aload 444 at_442 rfl rfl ?_
  refine Wl.bipush 446 (11 : Int32) at_444 (by decide) ?_
  refine Wl.iload 448 at_446 rfl ?_
  refine Wl.iload_n 449 at_448 rfl ?_
  refine Wl.iload 451 at_449 rfl ?_
  refine Wl.iload 453 at_451 rfl ?_
  refine Wl.iload 455 at_453 rfl ?_
  refine Wl.iload 457 at_455 rfl ?_
  refine Wl.iload 459 at_457 rfl ?_
  refine Wl.iload 461 at_459 rfl ?_
  refine Wl.iload 463 at_461 rfl ?_
  refine Wl.static 466 (argsL := [.ref s39, .int (11 : Int32), .int (10 : Int32), .int (2 : Int32), .int p0, .int p1, .int p2, .int (1 : Int32), .int n0, .int n1, .int n2]) at_463 (w240 hw) (w241 hw) (w2 hw) (w242 hw) (show parseMethodDescriptor "(Ljava/lang/String;IIICCCICCC)Z" = some ⟨[(.object "java/lang/String"), .int, .int, .int, .char, .char, .char, .int, .char, .char, .char], some .boolean⟩ by decide +kernel) rfl (okC_met hw (by decide)) (fun _ q => nomatch q) rfl rfl rfl (by decide) ⟨⟨nle rfl, nle rfl⟩, nle rfl, nle rfl⟩ ?_
  intro v95 h96 hq97 _
  obtain ⟨rfl, rfl⟩ := hq97
  show WlO _ _ _ _ _ _ _ _ _ _ _ _ _ _ _ _ _ _ [.int (1 : Int32)]
  refine Wl.ifN 469 at_466 (feq (by decide)).1 ?_
  refine Wl.aload 471 at_469 rfl rfl ?_
  refine Wl.bipush 473 (12 : Int32) at_471 (by decide) ?_
  refine Wl.iload 475 at_473 rfl ?_
  refine Wl.iload_n 476 at_475 rfl ?_
  refine Wl.iload 478 at_476 rfl ?_
  refine Wl.iload 480 at_478 rfl ?_
  refine Wl.iload 482 at_480 rfl ?_
  refine Wl.iload 484 at_482 rfl ?_
  refine Wl.iload 486 at_484 rfl ?_
  refine Wl.iload 488 at_486 rfl ?_
  refine Wl.iload 490 at_488 rfl ?_
  refine Wl.static 493 (argsL := [.ref s39, .int (12 : Int32), .int (10 : Int32), .int (2 : Int32), .int p0, .int p1, .int p2, .int (1 : Int32), .int n0, .int n1, .int n2]) at_490 (w240 hw) (w241 hw) (w2 hw) (w242 hw) (show parseMethodDescriptor "(Ljava/lang/String;IIICCCICCC)Z" = some ⟨[(.object "java/lang/String"), .int, .int, .int, .char, .char, .char, .int, .char, .char, .char], some .boolean⟩ by decide +kernel) rfl (okC_met hw (by decide)) (fun _ q => nomatch q) rfl rfl rfl (by decide) ⟨⟨nle rfl, nle rfl⟩, nle rfl, nle rfl⟩ ?_
  intro v98 h99 hq100 _
  obtain ⟨rfl, rfl⟩ := hq100
  show WlO _ _ _ _ _ _ _ _ _ _ _ _ _ _ _ _ _ _ [.int (1 : Int32)]
  refine Wl.ifN 496 at_493 (feq (by decide)).1 ?_
  refine Wl.iconst 497 (1 : Int32) at_496 (by decide) ?_
  refine Wl.goto 501 at_497 ?_
  exact Wl.ireturn at_501 rfl rfl (by simp) (nle rfl) (nle rfl) rfl
set_option maxRecDepth 65536 in
set_option maxHeartbeats 40000000 in
theorem law_t22 {l : Launch} {Z : State} {a0 : Array Value} (hw : ∀ d ∈ tables_1, d.before a0 Z = true) (hcs : CSon Z) (hfm : Fmt Z) {as : Array Value} {h : Heap} {i0 i1 i2 p0 p1 p2 n0 n1 n2 : Int32} (lp0 : Lat p0) (lp1 : Lat p1) (lp2 : Lat p2) (ln0 : Lat n0) (ln1 : Lat n1) (ln2 : Lat n2) (p0123 : p0 ≠ 123) (p0125 : p0 ≠ 125) (p1123 : p1 ≠ 123) (p1125 : p1 ≠ 125) (p2123 : p2 ≠ 123) (p2125 : p2 ≠ 125) (hn0 : ¬ n0 = (125 : Int32)) :
    Wl l Z a0 consts_1 x code maxLocals ret room_1 as (fun v h' => v = some (.int 1)) [] h 0 0 80 #[.val (.int i0), .val (.int i1), .val (.int i2), .val (.int (2 : Int32)), .val (.int (2 : Int32)), .val (.int p0), .val (.int p1), .val (.int p2), .val (.int n0), .val (.int n1), .val (.int n2), .unset, .unset, .unset, .unset, .unset] [] := by
  refine Wl.iload_n 81 at_80 rfl ?_
  refine Wl.iload 83 at_81 rfl ?_
  refine Wl.iload 85 at_83 rfl ?_
  refine Wl.iload 87 at_85 rfl ?_
  refine Wl.static 90 (argsL := [.int (2 : Int32), .int p0, .int p1, .int p2]) at_87 (w4 hw) (w5 hw) (w2 hw) (w6 hw) (show parseMethodDescriptor "(ICCC)Ljava/lang/String;" = some ⟨[.int, .char, .char, .char], some (.object "java/lang/String")⟩ by decide +kernel) rfl (mk2_met hw hcs lp0 lp1 lp2) (fun _ q => nomatch q) rfl rfl rfl (by decide) ⟨⟨nle rfl, nle rfl⟩, nle rfl, nle rfl⟩ ?_
  intro v1 h2 hq3 _
  obtain ⟨a4, rfl, E5, S6⟩ := hq3
  have B7 : Ext h h2 := E5
  show WlO _ _ _ _ _ _ _ _ _ _ _ _ _ _ _ _ _ _ [.ref a4]
  refine Wl.astore 92 #[.val (.int i0), .val (.int i1), .val (.int i2), .val (.int (2 : Int32)), .val (.int (2 : Int32)), .val (.int p0), .val (.int p1), .val (.int p2), .val (.int n0), .val (.int n1), .val (.int n2), .val (.ref a4), .unset, .unset, .unset, .unset] at_90 rfl rfl ?_
  refine Wl.iload 94 at_92 rfl ?_
  refine Wl.iload 96 at_94 rfl ?_
  refine Wl.iload 98 at_96 rfl ?_
  refine Wl.iload 100 at_98 rfl ?_
  refine Wl.static 103 (argsL := [.int (2 : Int32), .int n0, .int n1, .int n2]) at_100 (w4 hw) (w5 hw) (w2 hw) (w6 hw) (show parseMethodDescriptor "(ICCC)Ljava/lang/String;" = some ⟨[.int, .char, .char, .char], some (.object "java/lang/String")⟩ by decide +kernel) rfl (mk2_met hw hcs ln0 ln1 ln2) (fun _ q => nomatch q) rfl rfl rfl (by decide) ⟨⟨nle rfl, nle rfl⟩, nle rfl, nle rfl⟩ ?_
  intro v8 h9 hq10 _
  obtain ⟨a11, rfl, E12, S13⟩ := hq10
  have B14 : Ext h h9 := extTr B7 E12
  show WlO _ _ _ _ _ _ _ _ _ _ _ _ _ _ _ _ _ _ [.ref a11]
  refine Wl.astore 105 #[.val (.int i0), .val (.int i1), .val (.int i2), .val (.int (2 : Int32)), .val (.int (2 : Int32)), .val (.int p0), .val (.int p1), .val (.int p2), .val (.int n0), .val (.int n1), .val (.int n2), .val (.ref a4), .val (.ref a11), .unset, .unset, .unset] at_103 rfl rfl ?_
  refine Wl.new 108 at_105 (w51 hw) (w52 hw) (w53 hw) (nle rfl) (nle rfl) ?_
  intro a15 h16 q17 E18 X19 D20
  have z21 : h.size ≤ a15 := Nat.le_trans B14.1 (Nat.le_of_eq q17.symm)
  have z22 : h9.size ≤ a15 := Nat.le_of_eq q17.symm
  have ne23 : a4 ≠ a15 := Nat.ne_of_lt (by rw [q17]; exact (((S6).exa.ext E12)).lt)
  have ne24 : a11 ≠ a15 := Nat.ne_of_lt (by rw [q17]; exact ((S13).exa).lt)
  have B25 : Ext h h16 := extTr B14 E18
  have B26 : Ext h9 h16 := E18
  have F27 : Fld Z h16 a15 "com/example/portunus/portunus/LockKeys" "prefix" "Ljava/lang/String;" (.null) := D20 (Or.inr (w107 hw)) (ty := (.object "java/lang/String")) (by decide)
  refine Wl.dup 109 at_108 rfl ?_
  refine Wl.aload 111 at_109 rfl rfl ?_
  refine Wl.special 114 (argsL := [.ref a4]) at_111 (w54 hw) (w55 hw) (w53 hw) (w56 hw) (show parseMethodDescriptor "(Ljava/lang/String;)V" = some ⟨[(.object "java/lang/String")], none⟩ by decide +kernel) rfl (keys_met hw hcs X19 F27 (cs := [p0, p1]) ((S6.ext E12).ext E18) (neC p0123 (neC p1123 neN)) (neC p0125 (neC p1125 neN))) (allS (List.mem_of_getElem? (i := 0) rfl) (fun _ q => nomatch q)) rfl rfl rfl rfl (by decide) ⟨⟨nle rfl, nle rfl⟩, nle rfl, nle rfl⟩ ?_
  intro v28 h29 hq30 _
  obtain ⟨rfl, K31, X32, F33⟩ := hq30
  have B34 : Ext h h29 := extKeep B25 K31 (allS z21 all0)
  have B35 : Ext h9 h29 := extKeep B26 K31 (allS z22 all0)
  show WlO _ _ _ _ _ _ _ _ _ _ _ _ _ _ _ _ _ _ [.ref a15]
  refine Wl.astore 116 #[.val (.int i0), .val (.int i1), .val (.int i2), .val (.int (2 : Int32)), .val (.int (2 : Int32)), .val (.int p0), .val (.int p1), .val (.int p2), .val (.int n0), .val (.int n1), .val (.int n2), .val (.ref a4), .val (.ref a11), .val (.ref a15), .unset, .unset] at_114 rfl rfl ?_
  refine Wl.aload 118 at_116 rfl rfl ?_
  refine Wl.aload 120 at_118 rfl rfl ?_
  refine Wl.virtual 123 (argsL := [.ref a11]) at_120 (w108 hw) (w109 hw) (w111 hw) (w110 hw) (w53 hw) (w112 hw) (nf_sel (w111 hw) rfl) X32 (show parseMethodDescriptor "(Ljava/lang/String;)Ljava/lang/String;" = some ⟨[(.object "java/lang/String")], some (.object "java/lang/String")⟩ by decide +kernel) rfl (key_met hw hcs hfm (cs := [n0, n1]) (ps := [p0, p1]) F33 ((S6.ext E12).ext B35) (nle rfl) (S13.ext B35) (by simp) (nle rfl) hn0 (nle rfl)) (fun _ q => nomatch q) rfl rfl rfl (by decide) ⟨⟨nle rfl, nle rfl⟩, nle rfl, nle rfl⟩ ?_
  intro v36 h37 hq38 _
  obtain ⟨s39, rfl, E40, S41⟩ := hq38
  have S41 : Stl Z h37 s39 [p0, p1, (108 : Int32), (111 : Int32), (99 : Int32), (107 : Int32), (58 : Int32), (123 : Int32), n0, n1, (125 : Int32)] := S41
  have B42 : Ext h h37 := extTr B34 E40
  have B43 : Ext h9 h37 := extTr B35 E40
  show WlO _ _ _ _ _ _ _ _ _ _ _ _ _ _ _ _ _ _ [.ref s39]
  refine Wl.astore 125 #[.val (.int i0), .val (.int i1), .val (.int i2), .val (.int (2 : Int32)), .val (.int (2 : Int32)), .val (.int p0), .val (.int p1), .val (.int p2), .val (.int n0), .val (.int n1), .val (.int n2), .val (.ref a4), .val (.ref a11), .val (.ref a15), .val (.ref s39), .unset] at_123 rfl rfl ?_
  refine Wl.iload_n 126 at_125 rfl ?_
  refine Wl.iload 128 at_126 rfl ?_
  refine Wl.iadd 129 at_128 ?_
  show WlO _ _ _ _ _ _ _ _ _ _ _ _ _ _ _ _ _ _ [.int (4 : Int32)]
  refine Wl.bipush 131 (7 : Int32) at_129 (by decide) ?_
  refine Wl.iadd 132 at_131 ?_
  show WlO _ _ _ _ _ _ _ _ _ _ _ _ _ _ _ _ _ _ [.int (11 : Int32)]
  refine Wl.istore 134 #[.val (.int i0), .val (.int i1), .val (.int i2), .val (.int (2 : Int32)), .val (.int (2 : Int32)), .val (.int p0), .val (.int p1), .val (.int p2), .val (.int n0), .val (.int n1), .val (.int n2), .val (.ref a4), .val (.ref a11), .val (.ref a15), .val (.ref s39), .val (.int (11 : Int32))] at_132 rfl ?_
  refine Wl.aload 136 at_134 rfl rfl ?_
  refine Wl.ifnullN 139 at_136 ?_
  refine Wl.aload 141 at_139 rfl rfl ?_
  refine Wl.virtual 144 (argsL := []) at_141 (w239 hw) (w81 hw) (w83 hw) (w82 hw) (w9 hw) (w84 hw) (nf_sel (w83 hw) rfl) (S41).exa (show parseMethodDescriptor "()I" = some ⟨[], some .int⟩ by decide +kernel) rfl (len_met hw hcs S41) (fun _ q => nomatch q) rfl rfl rfl (by decide) ⟨⟨nle rfl, nle rfl⟩, nle rfl, nle rfl⟩ ?_
  intro v44 h45 hq46 _
  obtain ⟨rfl, rfl⟩ := hq46
  show WlO _ _ _ _ _ _ _ _ _ _ _ _ _ _ _ _ _ _ [.int (11 : Int32)]
  refine Wl.iload 146 at_144 rfl ?_
  refine Wl.icmpY 151 at_146 (teq (by decide)).1 ?_
  refine Wl.aload 153 at_151 rfl rfl ?_
  refine Wl.iconst 154 (0 : Int32) at_153 (by decide) ?_
  refine Wl.iload 156 at_154 rfl ?_
  refine Wl.iload_n 157 at_156 rfl ?_
  refine Wl.iload 159 at_157 rfl ?_
  refine Wl.iload 161 at_159 rfl ?_
  refine Wl.iload 163 at_161 rfl ?_
  refine Wl.iload 165 at_163 rfl ?_
  refine Wl.iload 167 at_165 rfl ?_
  refine Wl.iload 169 at_167 rfl ?_
  refine Wl.iload 171 at_169 rfl ?_
  refine Wl.static 174 (argsL := [.ref s39, .int (0 : Int32), .int (11 : Int32), .int (2 : Int32), .int p0, .int p1, .int p2, .int (2 : Int32), .int n0, .int n1, .int n2]) at_171 (w240 hw) (w241 hw) (w2 hw) (w242 hw) (show parseMethodDescriptor "(Ljava/lang/String;IIICCCICCC)Z" = some ⟨[(.object "java/lang/String"), .int, .int, .int, .char, .char, .char, .int, .char, .char, .char], some .boolean⟩ by decide +kernel) rfl (okB_met hw hcs hfm (rs := [p0, p1, (108 : Int32), (111 : Int32), (99 : Int32), (107 : Int32), (58 : Int32), (123 : Int32), n0, n1, (125 : Int32)]) (n := 0) S41 (nle rfl) (by decide) (by decide) lp0 lp1 lp2 ln0 ln1 ln2 (show p0 = expI (0 : Int32) (2 : Int32) p0 p1 p2 (2 : Int32) n0 n1 n2 by rw [expI, if_pos (by decide), if_pos (by decide)])) (fun _ q => nomatch q) rfl rfl rfl (by decide) ⟨⟨nle rfl, nle rfl⟩, nle rfl, nle rfl⟩ ?_
  intro v47 h48 hq49 _
  obtain ⟨rfl, rfl⟩ := hq49
  show WlO _ _ _ _ _ _ _ _ _ _ _ _ _ _ _ _ _ _ [.int (1 : Int32)]
  refine Wl.ifN 177 at_174 (feq (by decide)).1 ?_
  refine Wl.aload 179 at_177 rfl rfl ?_
  refine Wl.iconst 180 (1 : Int32) at_179 (by decide) ?_
  refine Wl.iload 182 at_180 rfl ?_
  refine Wl.iload_n 183 at_182 rfl ?_
  refine Wl.iload 185 at_183 rfl ?_
  refine Wl.iload 187 at_185 rfl ?_
  refine Wl.iload 189 at_187 rfl ?_
  refine Wl.iload 191 at_189 rfl ?_
  refine Wl.iload 193 at_191 rfl ?_
  refine Wl.iload 195 at_193 rfl ?_
  refine Wl.iload 197 at_195 rfl ?_
  refine Wl.static 200 (argsL := [.ref s39, .int (1 : Int32), .int (11 : Int32), .int (2 : Int32), .int p0, .int p1, .int p2, .int (2 : Int32), .int n0, .int n1, .int n2]) at_197 (w240 hw) (w241 hw) (w2 hw) (w242 hw) (show parseMethodDescriptor "(Ljava/lang/String;IIICCCICCC)Z" = some ⟨[(.object "java/lang/String"), .int, .int, .int, .char, .char, .char, .int, .char, .char, .char], some .boolean⟩ by decide +kernel) rfl (okB_met hw hcs hfm (rs := [p0, p1, (108 : Int32), (111 : Int32), (99 : Int32), (107 : Int32), (58 : Int32), (123 : Int32), n0, n1, (125 : Int32)]) (n := 1) S41 (nle rfl) (by decide) (by decide) lp0 lp1 lp2 ln0 ln1 ln2 (show p1 = expI (1 : Int32) (2 : Int32) p0 p1 p2 (2 : Int32) n0 n1 n2 by rw [expI, if_pos (by decide), if_neg (by decide), if_pos (by decide)])) (fun _ q => nomatch q) rfl rfl rfl (by decide) ⟨⟨nle rfl, nle rfl⟩, nle rfl, nle rfl⟩ ?_
  intro v50 h51 hq52 _
  obtain ⟨rfl, rfl⟩ := hq52
  show WlO _ _ _ _ _ _ _ _ _ _ _ _ _ _ _ _ _ _ [.int (1 : Int32)]
  refine Wl.ifN 203 at_200 (feq (by decide)).1 ?_
  refine Wl.aload 205 at_203 rfl rfl ?_
  refine Wl.iconst 206 (2 : Int32) at_205 (by decide) ?_
  refine Wl.iload 208 at_206 rfl ?_
  refine Wl.iload_n 209 at_208 rfl ?_
  refine Wl.iload 211 at_209 rfl ?_
  refine Wl.iload 213 at_211 rfl ?_
  refine Wl.iload 215 at_213 rfl ?_
  refine Wl.iload 217 at_215 rfl ?_
  refine Wl.iload 219 at_217 rfl ?_
  refine Wl.iload 221 at_219 rfl ?_
  refine Wl.iload 223 at_221 rfl ?_
  refine Wl.static 226 (argsL := [.ref s39, .int (2 : Int32), .int (11 : Int32), .int (2 : Int32), .int p0, .int p1, .int p2, .int (2 : Int32), .int n0, .int n1, .int n2]) at_223 (w240 hw) (w241 hw) (w2 hw) (w242 hw) (show parseMethodDescriptor "(Ljava/lang/String;IIICCCICCC)Z" = some ⟨[(.object "java/lang/String"), .int, .int, .int, .char, .char, .char, .int, .char, .char, .char], some .boolean⟩ by decide +kernel) rfl (okA_met hw hcs hfm (rs := [p0, p1, (108 : Int32), (111 : Int32), (99 : Int32), (107 : Int32), (58 : Int32), (123 : Int32), n0, n1, (125 : Int32)]) (n := 2) (j := 0) S41 (nle rfl) (by decide) (by decide) (by decide) (by decide) (nle rfl) rfl) (fun _ q => nomatch q) rfl rfl rfl (by decide) ⟨⟨nle rfl, nle rfl⟩, nle rfl, nle rfl⟩ ?_
  intro v53 h54 hq55 _
  obtain ⟨rfl, E56⟩ := hq55
  have B57 : Ext h h54 := extTr B42 E56
  have B58 : Ext h9 h54 := extTr B43 E56
  show WlO _ _ _ _ _ _ _ _ _ _ _ _ _ _ _ _ _ _ [.int (1 : Int32)]
  refine Wl.ifN 229 at_226 (feq (by decide)).1 ?_
  refine Wl.aload 231 at_229 rfl rfl ?_
  refine Wl.iconst 232 (3 : Int32) at_231 (by decide) ?_
  refine Wl.iload 234 at_232 rfl ?_
  refine Wl.iload_n 235 at_234 rfl ?_
  refine Wl.iload 237 at_235 rfl ?_
  refine Wl.iload 239 at_237 rfl ?_
  refine Wl.iload 241 at_239 rfl ?_
  refine Wl.iload 243 at_241 rfl ?_
  refine Wl.iload 245 at_243 rfl ?_
  refine Wl.iload 247 at_245 rfl ?_
  refine Wl.iload 249 at_247 rfl ?_
  refine Wl.static 252 (argsL := [.ref s39, .int (3 : Int32), .int (11 : Int32), .int (2 : Int32), .int p0, .int p1, .int p2, .int (2 : Int32), .int n0, .int n1, .int n2]) at_249 (w240 hw) (w241 hw) (w2 hw) (w242 hw) (show parseMethodDescriptor "(Ljava/lang/String;IIICCCICCC)Z" = some ⟨[(.object "java/lang/String"), .int, .int, .int, .char, .char, .char, .int, .char, .char, .char], some .boolean⟩ by decide +kernel) rfl (okA_met hw hcs hfm (rs := [p0, p1, (108 : Int32), (111 : Int32), (99 : Int32), (107 : Int32), (58 : Int32), (123 : Int32), n0, n1, (125 : Int32)]) (n := 3) (j := 1) (S41.ext E56) (nle rfl) (by decide) (by decide) (by decide) (by decide) (nle rfl) rfl) (fun _ q => nomatch q) rfl rfl rfl (by decide) ⟨⟨nle rfl, nle rfl⟩, nle rfl, nle rfl⟩ ?_
  intro v59 h60 hq61 _
  obtain ⟨rfl, E62⟩ := hq61
  have B63 : Ext h h60 := extTr B57 E62
  have B64 : Ext h9 h60 := extTr B58 E62
  show WlO _ _ _ _ _ _ _ _ _ _ _ _ _ _ _ _ _ _ [.int (1 : Int32)]
  refine Wl.ifN 255 at_252 (feq (by decide)).1 ?_
  refine Wl.aload 257 at_255 rfl rfl ?_
  refine Wl.iconst 258 (4 : Int32) at_257 (by decide) ?_
  refine Wl.iload 260 at_258 rfl ?_
  refine Wl.iload_n 261 at_260 rfl ?_
  refine Wl.iload 263 at_261 rfl ?_
  refine Wl.iload 265 at_263 rfl ?_
  refine Wl.iload 267 at_265 rfl ?_
  refine Wl.iload 269 at_267 rfl ?_
  refine Wl.iload 271 at_269 rfl ?_
  refine Wl.iload 273 at_271 rfl ?_
  refine Wl.iload 275 at_273 rfl ?_
  refine Wl.static 278 (argsL := [.ref s39, .int (4 : Int32), .int (11 : Int32), .int (2 : Int32), .int p0, .int p1, .int p2, .int (2 : Int32), .int n0, .int n1, .int n2]) at_275 (w240 hw) (w241 hw) (w2 hw) (w242 hw) (show parseMethodDescriptor "(Ljava/lang/String;IIICCCICCC)Z" = some ⟨[(.object "java/lang/String"), .int, .int, .int, .char, .char, .char, .int, .char, .char, .char], some .boolean⟩ by decide +kernel) rfl (okA_met hw hcs hfm (rs := [p0, p1, (108 : Int32), (111 : Int32), (99 : Int32), (107 : Int32), (58 : Int32), (123 : Int32), n0, n1, (125 : Int32)]) (n := 4) (j := 2) ((S41.ext E56).ext E62) (nle rfl) (by decide) (by decide) (by decide) (by decide) (nle rfl) rfl) (fun _ q => nomatch q) rfl rfl rfl (by decide) ⟨⟨nle rfl, nle rfl⟩, nle rfl, nle rfl⟩ ?_
  intro v65 h66 hq67 _
  obtain ⟨rfl, E68⟩ := hq67
  have B69 : Ext h h66 := extTr B63 E68
  have B70 : Ext h9 h66 := extTr B64 E68
  show WlO _ _ _ _ _ _ _ _ _ _ _ _ _ _ _ _ _ _ [.int (1 : Int32)]
  refine Wl.ifN 281 at_278 (feq (by decide)).1 ?_
  refine Wl.aload 283 at_281 rfl rfl ?_
  refine Wl.iconst 284 (5 : Int32) at_283 (by decide) ?_
  refine Wl.iload 286 at_284 rfl ?_
  refine Wl.iload_n 287 at_286 rfl ?_
  refine Wl.iload 289 at_287 rfl ?_
  refine Wl.iload 291 at_289 rfl ?_
  refine Wl.iload 293 at_291 rfl ?_
  refine Wl.iload 295 at_293 rfl ?_
  refine Wl.iload 297 at_295 rfl ?_
  refine Wl.iload 299 at_297 rfl ?_
  refine Wl.iload 301 at_299 rfl ?_
  refine Wl.static 304 (argsL := [.ref s39, .int (5 : Int32), .int (11 : Int32), .int (2 : Int32), .int p0, .int p1, .int p2, .int (2 : Int32), .int n0, .int n1, .int n2]) at_301 (w240 hw) (w241 hw) (w2 hw) (w242 hw) (show parseMethodDescriptor "(Ljava/lang/String;IIICCCICCC)Z" = some ⟨[(.object "java/lang/String"), .int, .int, .int, .char, .char, .char, .int, .char, .char, .char], some .boolean⟩ by decide +kernel) rfl (okA_met hw hcs hfm (rs := [p0, p1, (108 : Int32), (111 : Int32), (99 : Int32), (107 : Int32), (58 : Int32), (123 : Int32), n0, n1, (125 : Int32)]) (n := 5) (j := 3) (((S41.ext E56).ext E62).ext E68) (nle rfl) (by decide) (by decide) (by decide) (by decide) (nle rfl) rfl) (fun _ q => nomatch q) rfl rfl rfl (by decide) ⟨⟨nle rfl, nle rfl⟩, nle rfl, nle rfl⟩ ?_
  intro v71 h72 hq73 _
  obtain ⟨rfl, E74⟩ := hq73
  have B75 : Ext h h72 := extTr B69 E74
  have B76 : Ext h9 h72 := extTr B70 E74
  show WlO _ _ _ _ _ _ _ _ _ _ _ _ _ _ _ _ _ _ [.int (1 : Int32)]
  refine Wl.ifN 307 at_304 (feq (by decide)).1 ?_
  refine Wl.aload 309 at_307 rfl rfl ?_
  refine Wl.bipush 311 (6 : Int32) at_309 (by decide) ?_
  refine Wl.iload 313 at_311 rfl ?_
  refine Wl.iload_n 314 at_313 rfl ?_
  refine Wl.iload 316 at_314 rfl ?_
  refine Wl.iload 318 at_316 rfl ?_
  refine Wl.iload 320 at_318 rfl ?_
  refine Wl.iload 322 at_320 rfl ?_
  refine Wl.iload 324 at_322 rfl ?_
  refine Wl.iload 326 at_324 rfl ?_
  refine Wl.iload 328 at_326 rfl ?_
  refine Wl.static 331 (argsL := [.ref s39, .int (6 : Int32), .int (11 : Int32), .int (2 : Int32), .int p0, .int p1, .int p2, .int (2 : Int32), .int n0, .int n1, .int n2]) at_328 (w240 hw) (w241 hw) (w2 hw) (w242 hw) (show parseMethodDescriptor "(Ljava/lang/String;IIICCCICCC)Z" = some ⟨[(.object "java/lang/String"), .int, .int, .int, .char, .char, .char, .int, .char, .char, .char], some .boolean⟩ by decide +kernel) rfl (okA_met hw hcs hfm (rs := [p0, p1, (108 : Int32), (111 : Int32), (99 : Int32), (107 : Int32), (58 : Int32), (123 : Int32), n0, n1, (125 : Int32)]) (n := 6) (j := 4) ((((S41.ext E56).ext E62).ext E68).ext E74) (nle rfl) (by decide) (by decide) (by decide) (by decide) (nle rfl) rfl) (fun _ q => nomatch q) rfl rfl rfl (by decide) ⟨⟨nle rfl, nle rfl⟩, nle rfl, nle rfl⟩ ?_
  intro v77 h78 hq79 _
  obtain ⟨rfl, E80⟩ := hq79
  have B81 : Ext h h78 := extTr B75 E80
  have B82 : Ext h9 h78 := extTr B76 E80
  show WlO _ _ _ _ _ _ _ _ _ _ _ _ _ _ _ _ _ _ [.int (1 : Int32)]
  refine Wl.ifN 334 at_331 (feq (by decide)).1 ?_
  refine Wl.aload 336 at_334 rfl rfl ?_
  refine Wl.bipush 338 (7 : Int32) at_336 (by decide) ?_
  refine Wl.iload 340 at_338 rfl ?_
  refine Wl.iload_n 341 at_340 rfl ?_
  refine Wl.iload 343 at_341 rfl ?_
  refine Wl.iload 345 at_343 rfl ?_
  refine Wl.iload 347 at_345 rfl ?_
  refine Wl.iload 349 at_347 rfl ?_
  refine Wl.iload 351 at_349 rfl ?_
  refine Wl.iload 353 at_351 rfl ?_
  refine Wl.iload 355 at_353 rfl ?_
  refine Wl.static 358 (argsL := [.ref s39, .int (7 : Int32), .int (11 : Int32), .int (2 : Int32), .int p0, .int p1, .int p2, .int (2 : Int32), .int n0, .int n1, .int n2]) at_355 (w240 hw) (w241 hw) (w2 hw) (w242 hw) (show parseMethodDescriptor "(Ljava/lang/String;IIICCCICCC)Z" = some ⟨[(.object "java/lang/String"), .int, .int, .int, .char, .char, .char, .int, .char, .char, .char], some .boolean⟩ by decide +kernel) rfl (okB_met hw hcs hfm (rs := [p0, p1, (108 : Int32), (111 : Int32), (99 : Int32), (107 : Int32), (58 : Int32), (123 : Int32), n0, n1, (125 : Int32)]) (n := 7) (((((S41.ext E56).ext E62).ext E68).ext E74).ext E80) (nle rfl) (by decide) (by decide) lp0 lp1 lp2 ln0 ln1 ln2 (show (123 : Int32) = expI (7 : Int32) (2 : Int32) p0 p1 p2 (2 : Int32) n0 n1 n2 by rw [expI, if_neg (by decide), if_pos (by decide)])) (fun _ q => nomatch q) rfl rfl rfl (by decide) ⟨⟨nle rfl, nle rfl⟩, nle rfl, nle rfl⟩ ?_
  intro v83 h84 hq85 _
  obtain ⟨rfl, rfl⟩ := hq85
  show WlO _ _ _ _ _ _ _ _ _ _ _ _ _ _ _ _ _ _ [.int (1 : Int32)]
  refine Wl.ifN 361 at_358 (feq (by decide)).1 ?_
  refine Wl.aload 363 at_361 rfl rfl ?_
  refine Wl.bipush 365 (8 : Int32) at_363 (by decide) ?_
  refine Wl.iload 367 at_365 rfl ?_
  refine Wl.iload_n 368 at_367 rfl ?_
  refine Wl.iload 370 at_368 rfl ?_
  refine Wl.iload 372 at_370 rfl ?_
  refine Wl.iload 374 at_372 rfl ?_
  refine Wl.iload 376 at_374 rfl ?_
  refine Wl.iload 378 at_376 rfl ?_
  refine Wl.iload 380 at_378 rfl ?_
  refine Wl.iload 382 at_380 rfl ?_
  refine Wl.static 385 (argsL := [.ref s39, .int (8 : Int32), .int (11 : Int32), .int (2 : Int32), .int p0, .int p1, .int p2, .int (2 : Int32), .int n0, .int n1, .int n2]) at_382 (w240 hw) (w241 hw) (w2 hw) (w242 hw) (show parseMethodDescriptor "(Ljava/lang/String;IIICCCICCC)Z" = some ⟨[(.object "java/lang/String"), .int, .int, .int, .char, .char, .char, .int, .char, .char, .char], some .boolean⟩ by decide +kernel) rfl (okB_met hw hcs hfm (rs := [p0, p1, (108 : Int32), (111 : Int32), (99 : Int32), (107 : Int32), (58 : Int32), (123 : Int32), n0, n1, (125 : Int32)]) (n := 8) (((((S41.ext E56).ext E62).ext E68).ext E74).ext E80) (nle rfl) (by decide) (by decide) lp0 lp1 lp2 ln0 ln1 ln2 (show n0 = expI (8 : Int32) (2 : Int32) p0 p1 p2 (2 : Int32) n0 n1 n2 by rw [expI, if_neg (by decide), if_neg (by decide), if_pos (by decide), if_pos (by decide)])) (fun _ q => nomatch q) rfl rfl rfl (by decide) ⟨⟨nle rfl, nle rfl⟩, nle rfl, nle rfl⟩ ?_
  intro v86 h87 hq88 _
  obtain ⟨rfl, rfl⟩ := hq88
  show WlO _ _ _ _ _ _ _ _ _ _ _ _ _ _ _ _ _ _ [.int (1 : Int32)]
  refine Wl.ifN 388 at_385 (feq (by decide)).1 ?_
  refine Wl.aload 390 at_388 rfl rfl ?_
  refine Wl.bipush 392 (9 : Int32) at_390 (by decide) ?_
  refine Wl.iload 394 at_392 rfl ?_
  refine Wl.iload_n 395 at_394 rfl ?_
  refine Wl.iload 397 at_395 rfl ?_
  refine Wl.iload 399 at_397 rfl ?_
  refine Wl.iload 401 at_399 rfl ?_
  refine Wl.iload 403 at_401 rfl ?_
  refine Wl.iload 405 at_403 rfl ?_
  refine Wl.iload 407 at_405 rfl ?_
  refine Wl.iload 409 at_407 rfl ?_
  refine Wl.static 412 (argsL := [.ref s39, .int (9 : Int32), .int (11 : Int32), .int (2 : Int32), .int p0, .int p1, .int p2, .int (2 : Int32), .int n0, .int n1, .int n2]) at_409 (w240 hw) (w241 hw) (w2 hw) (w242 hw) (show parseMethodDescriptor "(Ljava/lang/String;IIICCCICCC)Z" = some ⟨[(.object "java/lang/String"), .int, .int, .int, .char, .char, .char, .int, .char, .char, .char], some .boolean⟩ by decide +kernel) rfl (okB_met hw hcs hfm (rs := [p0, p1, (108 : Int32), (111 : Int32), (99 : Int32), (107 : Int32), (58 : Int32), (123 : Int32), n0, n1, (125 : Int32)]) (n := 9) (((((S41.ext E56).ext E62).ext E68).ext E74).ext E80) (nle rfl) (by decide) (by decide) lp0 lp1 lp2 ln0 ln1 ln2 (show n1 = expI (9 : Int32) (2 : Int32) p0 p1 p2 (2 : Int32) n0 n1 n2 by rw [expI, if_neg (by decide), if_neg (by decide), if_pos (by decide), if_neg (by decide), if_pos (by decide)])) (fun _ q => nomatch q) rfl rfl rfl (by decide) ⟨⟨nle rfl, nle rfl⟩, nle rfl, nle rfl⟩ ?_
  intro v89 h90 hq91 _
  obtain ⟨rfl, rfl⟩ := hq91
  show WlO _ _ _ _ _ _ _ _ _ _ _ _ _ _ _ _ _ _ [.int (1 : Int32)]
  refine Wl.ifN 415 at_412 (feq (by decide)).1 ?_
  refine Wl.aload 417 at_415 rfl rfl ?_
  refine Wl.bipush 419 (10 : Int32) at_417 (by decide) ?_
  refine Wl.iload 421 at_419 rfl ?_
  refine Wl.iload_n 422 at_421 rfl ?_
  refine Wl.iload 424 at_422 rfl ?_
  refine Wl.iload 426 at_424 rfl ?_
  refine Wl.iload 428 at_426 rfl ?_
  refine Wl.iload 430 at_428 rfl ?_
  refine Wl.iload 432 at_430 rfl ?_
  refine Wl.iload 434 at_432 rfl ?_
  refine Wl.iload 436 at_434 rfl ?_
  refine Wl.static 439 (argsL := [.ref s39, .int (10 : Int32), .int (11 : Int32), .int (2 : Int32), .int p0, .int p1, .int p2, .int (2 : Int32), .int n0, .int n1, .int n2]) at_436 (w240 hw) (w241 hw) (w2 hw) (w242 hw) (show parseMethodDescriptor "(Ljava/lang/String;IIICCCICCC)Z" = some ⟨[(.object "java/lang/String"), .int, .int, .int, .char, .char, .char, .int, .char, .char, .char], some .boolean⟩ by decide +kernel) rfl (okB_met hw hcs hfm (rs := [p0, p1, (108 : Int32), (111 : Int32), (99 : Int32), (107 : Int32), (58 : Int32), (123 : Int32), n0, n1, (125 : Int32)]) (n := 10) (((((S41.ext E56).ext E62).ext E68).ext E74).ext E80) (nle rfl) (by decide) (by decide) lp0 lp1 lp2 ln0 ln1 ln2 (show (125 : Int32) = expI (10 : Int32) (2 : Int32) p0 p1 p2 (2 : Int32) n0 n1 n2 by rw [expI, if_neg (by decide), if_neg (by decide), if_neg (by decide)])) (fun _ q => nomatch q) rfl rfl rfl (by decide) ⟨⟨nle rfl, nle rfl⟩, nle rfl, nle rfl⟩ ?_
  intro v92 h93 hq94 _
  obtain ⟨rfl, rfl⟩ := hq94
  show WlO _ _ _ _ _ _ _ _ _ _ _ _ _ _ _ _ _ _ [.int (1 : Int32)]
  refine Wl.ifN 442 at_439 (feq (by decide)).1 ?_
  refine Wl.aload 444 at_442 rfl rfl ?_
  refine Wl.bipush 446 (11 : Int32) at_444 (by decide) ?_
  refine Wl.iload 448 at_446 rfl ?_
  refine Wl.iload_n 449 at_448 rfl ?_
  refine Wl.iload 451 at_449 rfl ?_
  refine Wl.iload 453 at_451 rfl ?_
  refine Wl.iload 455 at_453 rfl ?_
  refine Wl.iload 457 at_455 rfl ?_
  refine Wl.iload 459 at_457 rfl ?_
  refine Wl.iload 461 at_459 rfl ?_
  refine Wl.iload 463 at_461 rfl ?_
  refine Wl.static 466 (argsL := [.ref s39, .int (11 : Int32), .int (11 : Int32), .int (2 : Int32), .int p0, .int p1, .int p2, .int (2 : Int32), .int n0, .int n1, .int n2]) at_463 (w240 hw) (w241 hw) (w2 hw) (w242 hw) (show parseMethodDescriptor "(Ljava/lang/String;IIICCCICCC)Z" = some ⟨[(.object "java/lang/String"), .int, .int, .int, .char, .char, .char, .int, .char, .char, .char], some .boolean⟩ by decide +kernel) rfl (okC_met hw (by decide)) (fun _ q => nomatch q) rfl rfl rfl (by decide) ⟨⟨nle rfl, nle rfl⟩, nle rfl, nle rfl⟩ ?_
  intro v95 h96 hq97 _
  obtain ⟨rfl, rfl⟩ := hq97
  show WlO _ _ _ _ _ _ _ _ _ _ _ _ _ _ _ _ _ _ [.int (1 : Int32)]
  refine Wl.ifN 469 at_466 (feq (by decide)).1 ?_
  refine Wl.aload 471 at_469 rfl rfl ?_
  refine Wl.bipush 473 (12 : Int32) at_471 (by decide) ?_
  refine Wl.iload 475 at_473 rfl ?_
  refine Wl.iload_n 476 at_475 rfl ?_
  refine Wl.iload 478 at_476 rfl ?_
  refine Wl.iload 480 at_478 rfl ?_
  refine Wl.iload 482 at_480 rfl ?_
  refine Wl.iload 484 at_482 rfl ?_
  refine Wl.iload 486 at_484 rfl ?_
  refine Wl.iload 488 at_486 rfl ?_
  refine Wl.iload 490 at_488 rfl ?_
  refine Wl.static 493 (argsL := [.ref s39, .int (12 : Int32), .int (11 : Int32), .int (2 : Int32), .int p0, .int p1, .int p2, .int (2 : Int32), .int n0, .int n1, .int n2]) at_490 (w240 hw) (w241 hw) (w2 hw) (w242 hw) (show parseMethodDescriptor "(Ljava/lang/String;IIICCCICCC)Z" = some ⟨[(.object "java/lang/String"), .int, .int, .int, .char, .char, .char, .int, .char, .char, .char], some .boolean⟩ by decide +kernel) rfl (okC_met hw (by decide)) (fun _ q => nomatch q) rfl rfl rfl (by decide) ⟨⟨nle rfl, nle rfl⟩, nle rfl, nle rfl⟩ ?_
  intro v98 h99 hq100 _
  obtain ⟨rfl, rfl⟩ := hq100
  show WlO _ _ _ _ _ _ _ _ _ _ _ _ _ _ _ _ _ _ [.int (1 : Int32)]
  refine Wl.ifN 496 at_493 (feq (by decide)).1 ?_
  refine Wl.iconst 497 (1 : Int32) at_496 (by decide) ?_
  refine Wl.goto 501 at_497 ?_
  exact Wl.ireturn at_501 rfl rfl (by simp) (nle rfl) (nle rfl) rfl
set_option maxRecDepth 65536 in
set_option maxHeartbeats 40000000 in
theorem law_t23 {l : Launch} {Z : State} {a0 : Array Value} (hw : ∀ d ∈ tables_1, d.before a0 Z = true) (hcs : CSon Z) (hfm : Fmt Z) {as : Array Value} {h : Heap} {i0 i1 i2 p0 p1 p2 n0 n1 n2 : Int32} (lp0 : Lat p0) (lp1 : Lat p1) (lp2 : Lat p2) (ln0 : Lat n0) (ln1 : Lat n1) (ln2 : Lat n2) (p0123 : p0 ≠ 123) (p0125 : p0 ≠ 125) (p1123 : p1 ≠ 123) (p1125 : p1 ≠ 125) (p2123 : p2 ≠ 123) (p2125 : p2 ≠ 125) (hn0 : ¬ n0 = (125 : Int32)) :
    Wl l Z a0 consts_1 x code maxLocals ret room_1 as (fun v h' => v = some (.int 1)) [] h 0 0 80 #[.val (.int i0), .val (.int i1), .val (.int i2), .val (.int (2 : Int32)), .val (.int (3 : Int32)), .val (.int p0), .val (.int p1), .val (.int p2), .val (.int n0), .val (.int n1), .val (.int n2), .unset, .unset, .unset, .unset, .unset] [] := by
  refine Wl.iload_n 81 at_80 rfl ?_
  refine Wl.iload 83 at_81 rfl ?_
  refine Wl.iload 85 at_83 rfl ?_
  refine Wl.iload 87 at_85 rfl ?_
  refine Wl.static 90 (argsL := [.int (2 : Int32), .int p0, .int p1, .int p2]) at_87 (w4 hw) (w5 hw) (w2 hw) (w6 hw) (show parseMethodDescriptor "(ICCC)Ljava/lang/String;" = some ⟨[.int, .char, .char, .char], some (.object "java/lang/String")⟩ by decide +kernel) rfl (mk2_met hw hcs lp0 lp1 lp2) (fun _ q => nomatch q) rfl rfl rfl (by decide) ⟨⟨nle rfl, nle rfl⟩, nle rfl, nle rfl⟩ ?_
  intro v1 h2 hq3 _
  obtain ⟨a4, rfl, E5, S6⟩ := hq3
  have B7 : Ext h h2 := E5
  show WlO _ _ _ _ _ _ _ _ _ _ _ _ _ _ _ _ _ _ [.ref a4]
  refine Wl.astore 92 #[.val (.int i0), .val (.int i1), .val (.int i2), .val (.int (2 : Int32)), .val (.int (3 : Int32)), .val (.int p0), .val (.int p1), .val (.int p2), .val (.int n0), .val (.int n1), .val (.int n2), .val (.ref a4), .unset, .unset, .unset, .unset] at_90 rfl rfl ?_
  refine Wl.iload 94 at_92 rfl ?_
  refine Wl.iload 96 at_94 rfl ?_
  refine Wl.iload 98 at_96 rfl ?_
  refine Wl.iload 100 at_98 rfl ?_
  refine Wl.static 103 (argsL := [.int (3 : Int32), .int n0, .int n1, .int n2]) at_100 (w4 hw) (w5 hw) (w2 hw) (w6 hw) (show parseMethodDescriptor "(ICCC)Ljava/lang/String;" = some ⟨[.int, .char, .char, .char], some (.object "java/lang/String")⟩ by decide +kernel) rfl (mk3_met hw hcs ln0 ln1 ln2) (fun _ q => nomatch q) rfl rfl rfl (by decide) ⟨⟨nle rfl, nle rfl⟩, nle rfl, nle rfl⟩ ?_
  intro v8 h9 hq10 _
  obtain ⟨a11, rfl, E12, S13⟩ := hq10
  have B14 : Ext h h9 := extTr B7 E12
  show WlO _ _ _ _ _ _ _ _ _ _ _ _ _ _ _ _ _ _ [.ref a11]
  refine Wl.astore 105 #[.val (.int i0), .val (.int i1), .val (.int i2), .val (.int (2 : Int32)), .val (.int (3 : Int32)), .val (.int p0), .val (.int p1), .val (.int p2), .val (.int n0), .val (.int n1), .val (.int n2), .val (.ref a4), .val (.ref a11), .unset, .unset, .unset] at_103 rfl rfl ?_
  refine Wl.new 108 at_105 (w51 hw) (w52 hw) (w53 hw) (nle rfl) (nle rfl) ?_
  intro a15 h16 q17 E18 X19 D20
  have z21 : h.size ≤ a15 := Nat.le_trans B14.1 (Nat.le_of_eq q17.symm)
  have z22 : h9.size ≤ a15 := Nat.le_of_eq q17.symm
  have ne23 : a4 ≠ a15 := Nat.ne_of_lt (by rw [q17]; exact (((S6).exa.ext E12)).lt)
  have ne24 : a11 ≠ a15 := Nat.ne_of_lt (by rw [q17]; exact ((S13).exa).lt)
  have B25 : Ext h h16 := extTr B14 E18
  have B26 : Ext h9 h16 := E18
  have F27 : Fld Z h16 a15 "com/example/portunus/portunus/LockKeys" "prefix" "Ljava/lang/String;" (.null) := D20 (Or.inr (w107 hw)) (ty := (.object "java/lang/String")) (by decide)
  refine Wl.dup 109 at_108 rfl ?_
  refine Wl.aload 111 at_109 rfl rfl ?_
  refine Wl.special 114 (argsL := [.ref a4]) at_111 (w54 hw) (w55 hw) (w53 hw) (w56 hw) (show parseMethodDescriptor "(Ljava/lang/String;)V" = some ⟨[(.object "java/lang/String")], none⟩ by decide +kernel) rfl (keys_met hw hcs X19 F27 (cs := [p0, p1]) ((S6.ext E12).ext E18) (neC p0123 (neC p1123 neN)) (neC p0125 (neC p1125 neN))) (allS (List.mem_of_getElem? (i := 0) rfl) (fun _ q => nomatch q)) rfl rfl rfl rfl (by decide) ⟨⟨nle rfl, nle rfl⟩, nle rfl, nle rfl⟩ ?_
  intro v28 h29 hq30 _
  obtain ⟨rfl, K31, X32, F33⟩ := hq30
  have B34 : Ext h h29 := extKeep B25 K31 (allS z21 all0)
  have B35 : Ext h9 h29 := extKeep B26 K31 (allS z22 all0)
  show WlO _ _ _ _ _ _ _ _ _ _ _ _ _ _ _ _ _ _ [.ref a15]
  refine Wl.astore 116 #[.val (.int i0), .val (.int i1), .val (.int i2), .val (.int (2 : Int32)), .val (.int (3 : Int32)), .val (.int p0), .val (.int p1), .val (.int p2), .val (.int n0), .val (.int n1), .val (.int n2), .val (.ref a4), .val (.ref a11), .val (.ref a15), .unset, .unset] at_114 rfl rfl ?_
  refine Wl.aload 118 at_116 rfl rfl ?_
  refine Wl.aload 120 at_118 rfl rfl ?_
  refine Wl.virtual 123 (argsL := [.ref a11]) at_120 (w108 hw) (w109 hw) (w111 hw) (w110 hw) (w53 hw) (w112 hw) (nf_sel (w111 hw) rfl) X32 (show parseMethodDescriptor "(Ljava/lang/String;)Ljava/lang/String;" = some ⟨[(.object "java/lang/String")], some (.object "java/lang/String")⟩ by decide +kernel) rfl (key_met hw hcs hfm (cs := [n0, n1, n2]) (ps := [p0, p1]) F33 ((S6.ext E12).ext B35) (nle rfl) (S13.ext B35) (by simp) (nle rfl) hn0 (nle rfl)) (fun _ q => nomatch q) rfl rfl rfl (by decide) ⟨⟨nle rfl, nle rfl⟩, nle rfl, nle rfl⟩ ?_
  intro v36 h37 hq38 _
  obtain ⟨s39, rfl, E40, S41⟩ := hq38
  have S41 : Stl Z h37 s39 [p0, p1, (108 : Int32), (111 : Int32), (99 : Int32), (107 : Int32), (58 : Int32), (123 : Int32), n0, n1, n2, (125 : Int32)] := S41
  have B42 : Ext h h37 := extTr B34 E40
  have B43 : Ext h9 h37 := extTr B35 E40
  show WlO _ _ _ _ _ _ _ _ _ _ _ _ _ _ _ _ _ _ [.ref s39]
  refine Wl.astore 125 #[.val (.int i0), .val (.int i1), .val (.int i2), .val (.int (2 : Int32)), .val (.int (3 : Int32)), .val (.int p0), .val (.int p1), .val (.int p2), .val (.int n0), .val (.int n1), .val (.int n2), .val (.ref a4), .val (.ref a11), .val (.ref a15), .val (.ref s39), .unset] at_123 rfl rfl ?_
  refine Wl.iload_n 126 at_125 rfl ?_
  refine Wl.iload 128 at_126 rfl ?_
  refine Wl.iadd 129 at_128 ?_
  show WlO _ _ _ _ _ _ _ _ _ _ _ _ _ _ _ _ _ _ [.int (5 : Int32)]
  refine Wl.bipush 131 (7 : Int32) at_129 (by decide) ?_
  refine Wl.iadd 132 at_131 ?_
  show WlO _ _ _ _ _ _ _ _ _ _ _ _ _ _ _ _ _ _ [.int (12 : Int32)]
  refine Wl.istore 134 #[.val (.int i0), .val (.int i1), .val (.int i2), .val (.int (2 : Int32)), .val (.int (3 : Int32)), .val (.int p0), .val (.int p1), .val (.int p2), .val (.int n0), .val (.int n1), .val (.int n2), .val (.ref a4), .val (.ref a11), .val (.ref a15), .val (.ref s39), .val (.int (12 : Int32))] at_132 rfl ?_
  refine Wl.aload 136 at_134 rfl rfl ?_
  refine Wl.ifnullN 139 at_136 ?_
  refine Wl.aload 141 at_139 rfl rfl ?_
  refine Wl.virtual 144 (argsL := []) at_141 (w239 hw) (w81 hw) (w83 hw) (w82 hw) (w9 hw) (w84 hw) (nf_sel (w83 hw) rfl) (S41).exa (show parseMethodDescriptor "()I" = some ⟨[], some .int⟩ by decide +kernel) rfl (len_met hw hcs S41) (fun _ q => nomatch q) rfl rfl rfl (by decide) ⟨⟨nle rfl, nle rfl⟩, nle rfl, nle rfl⟩ ?_
  intro v44 h45 hq46 _
  obtain ⟨rfl, rfl⟩ := hq46
  show WlO _ _ _ _ _ _ _ _ _ _ _ _ _ _ _ _ _ _ [.int (12 : Int32)]
  refine Wl.iload 146 at_144 rfl ?_
  refine Wl.icmpY 151 at_146 (teq (by decide)).1 ?_
  refine Wl.aload 153 at_151 rfl rfl ?_
  refine Wl.iconst 154 (0 : Int32) at_153 (by decide) ?_
  refine Wl.iload 156 at_154 rfl ?_
  refine Wl.iload_n 157 at_156 rfl ?_
  refine Wl.iload 159 at_157 rfl ?_
  refine Wl.iload 161 at_159 rfl ?_
  refine Wl.iload 163 at_161 rfl ?_
  refine Wl.iload 165 at_163 rfl ?_
  refine Wl.iload 167 at_165 rfl ?_
  refine Wl.iload 169 at_167 rfl ?_
  refine Wl.iload 171 at_169 rfl ?_
  refine Wl.static 174 (argsL := [.ref s39, .int (0 : Int32), .int (12 : Int32), .int (2 : Int32), .int p0, .int p1, .int p2, .int (3 : Int32), .int n0, .int n1, .int n2]) at_171 (w240 hw) (w241 hw) (w2 hw) (w242 hw) (show parseMethodDescriptor "(Ljava/lang/String;IIICCCICCC)Z" = some ⟨[(.object "java/lang/String"), .int, .int, .int, .char, .char, .char, .int, .char, .char, .char], some .boolean⟩ by decide +kernel) rfl (okB_met hw hcs hfm (rs := [p0, p1, (108 : Int32), (111 : Int32), (99 : Int32), (107 : Int32), (58 : Int32), (123 : Int32), n0, n1, n2, (125 : Int32)]) (n := 0) S41 (nle rfl) (by decide) (by decide) lp0 lp1 lp2 ln0 ln1 ln2 (show p0 = expI (0 : Int32) (2 : Int32) p0 p1 p2 (3 : Int32) n0 n1 n2 by rw [expI, if_pos (by decide), if_pos (by decide)])) (fun _ q => nomatch q) rfl rfl rfl (by decide) ⟨⟨nle rfl, nle rfl⟩, nle rfl, nle rfl⟩ ?_
  intro v47 h48 hq49 _
  obtain ⟨rfl, rfl⟩ := hq49
  show WlO _ _ _ _ _ _ _ _ _ _ _ _ _ _ _ _ _ _ [.int (1 : Int32)]
  refine Wl.ifN 177 at_174 (feq (by decide)).1 ?_
  refine Wl.aload 179 at_177 rfl rfl ?_
  refine Wl.iconst 180 (1 : Int32) at_179 (by decide) ?_
  refine Wl.iload 182 at_180 rfl ?_
  refine Wl.iload_n 183 at_182 rfl ?_
  refine Wl.iload 185 at_183 rfl ?_
  refine Wl.iload 187 at_185 rfl ?_
  refine Wl.iload 189 at_187 rfl ?_
  refine Wl.iload 191 at_189 rfl ?_
  refine Wl.iload 193 at_191 rfl ?_
  refine Wl.iload 195 at_193 rfl ?_
  refine Wl.iload 197 at_195 rfl ?_
  refine Wl.static 200 (argsL := [.ref s39, .int (1 : Int32), .int (12 : Int32), .int (2 : Int32), .int p0, .int p1, .int p2, .int (3 : Int32), .int n0, .int n1, .int n2]) at_197 (w240 hw) (w241 hw) (w2 hw) (w242 hw) (show parseMethodDescriptor "(Ljava/lang/String;IIICCCICCC)Z" = some ⟨[(.object "java/lang/String"), .int, .int, .int, .char, .char, .char, .int, .char, .char, .char], some .boolean⟩ by decide +kernel) rfl (okB_met hw hcs hfm (rs := [p0, p1, (108 : Int32), (111 : Int32), (99 : Int32), (107 : Int32), (58 : Int32), (123 : Int32), n0, n1, n2, (125 : Int32)]) (n := 1) S41 (nle rfl) (by decide) (by decide) lp0 lp1 lp2 ln0 ln1 ln2 (show p1 = expI (1 : Int32) (2 : Int32) p0 p1 p2 (3 : Int32) n0 n1 n2 by rw [expI, if_pos (by decide), if_neg (by decide), if_pos (by decide)])) (fun _ q => nomatch q) rfl rfl rfl (by decide) ⟨⟨nle rfl, nle rfl⟩, nle rfl, nle rfl⟩ ?_
  intro v50 h51 hq52 _
  obtain ⟨rfl, rfl⟩ := hq52
  show WlO _ _ _ _ _ _ _ _ _ _ _ _ _ _ _ _ _ _ [.int (1 : Int32)]
  refine Wl.ifN 203 at_200 (feq (by decide)).1 ?_
  refine Wl.aload 205 at_203 rfl rfl ?_
  refine Wl.iconst 206 (2 : Int32) at_205 (by decide) ?_
  refine Wl.iload 208 at_206 rfl ?_
  refine Wl.iload_n 209 at_208 rfl ?_
  refine Wl.iload 211 at_209 rfl ?_
  refine Wl.iload 213 at_211 rfl ?_
  refine Wl.iload 215 at_213 rfl ?_
  refine Wl.iload 217 at_215 rfl ?_
  refine Wl.iload 219 at_217 rfl ?_
  refine Wl.iload 221 at_219 rfl ?_
  refine Wl.iload 223 at_221 rfl ?_
  refine Wl.static 226 (argsL := [.ref s39, .int (2 : Int32), .int (12 : Int32), .int (2 : Int32), .int p0, .int p1, .int p2, .int (3 : Int32), .int n0, .int n1, .int n2]) at_223 (w240 hw) (w241 hw) (w2 hw) (w242 hw) (show parseMethodDescriptor "(Ljava/lang/String;IIICCCICCC)Z" = some ⟨[(.object "java/lang/String"), .int, .int, .int, .char, .char, .char, .int, .char, .char, .char], some .boolean⟩ by decide +kernel) rfl (okA_met hw hcs hfm (rs := [p0, p1, (108 : Int32), (111 : Int32), (99 : Int32), (107 : Int32), (58 : Int32), (123 : Int32), n0, n1, n2, (125 : Int32)]) (n := 2) (j := 0) S41 (nle rfl) (by decide) (by decide) (by decide) (by decide) (nle rfl) rfl) (fun _ q => nomatch q) rfl rfl rfl (by decide) ⟨⟨nle rfl, nle rfl⟩, nle rfl, nle rfl⟩ ?_
  intro v53 h54 hq55 _
  obtain ⟨rfl, E56⟩ := hq55
  have B57 : Ext h h54 := extTr B42 E56
  have B58 : Ext h9 h54 := extTr B43 E56
  show WlO _ _ _ _ _ _ _ _ _ _ _ _ _ _ _ _ _ _ [.int (1 : Int32)]
  refine Wl.ifN 229 at_226 (feq (by decide)).1 ?_
  refine Wl.aload 231 at_229 rfl rfl ?_
  refine Wl.iconst 232 (3 : Int32) at_231 (by decide) ?_
  refine Wl.iload 234 at_232 rfl ?_
  refine Wl.iload_n 235 at_234 rfl ?_
  refine Wl.iload 237 at_235 rfl ?_
  refine Wl.iload 239 at_237 rfl ?_
  refine Wl.iload 241 at_239 rfl ?_
  refine Wl.iload 243 at_241 rfl ?_
  refine Wl.iload 245 at_243 rfl ?_
  refine Wl.iload 247 at_245 rfl ?_
  refine Wl.iload 249 at_247 rfl ?_
  refine Wl.static 252 (argsL := [.ref s39, .int (3 : Int32), .int (12 : Int32), .int (2 : Int32), .int p0, .int p1, .int p2, .int (3 : Int32), .int n0, .int n1, .int n2]) at_249 (w240 hw) (w241 hw) (w2 hw) (w242 hw) (show parseMethodDescriptor "(Ljava/lang/String;IIICCCICCC)Z" = some ⟨[(.object "java/lang/String"), .int, .int, .int, .char, .char, .char, .int, .char, .char, .char], some .boolean⟩ by decide +kernel) rfl (okA_met hw hcs hfm (rs := [p0, p1, (108 : Int32), (111 : Int32), (99 : Int32), (107 : Int32), (58 : Int32), (123 : Int32), n0, n1, n2, (125 : Int32)]) (n := 3) (j := 1) (S41.ext E56) (nle rfl) (by decide) (by decide) (by decide) (by decide) (nle rfl) rfl) (fun _ q => nomatch q) rfl rfl rfl (by decide) ⟨⟨nle rfl, nle rfl⟩, nle rfl, nle rfl⟩ ?_
  intro v59 h60 hq61 _
  obtain ⟨rfl, E62⟩ := hq61
  have B63 : Ext h h60 := extTr B57 E62
  have B64 : Ext h9 h60 := extTr B58 E62
  show WlO _ _ _ _ _ _ _ _ _ _ _ _ _ _ _ _ _ _ [.int (1 : Int32)]
  refine Wl.ifN 255 at_252 (feq (by decide)).1 ?_
  refine Wl.aload 257 at_255 rfl rfl ?_
  refine Wl.iconst 258 (4 : Int32) at_257 (by decide) ?_
  refine Wl.iload 260 at_258 rfl ?_
  refine Wl.iload_n 261 at_260 rfl ?_
  refine Wl.iload 263 at_261 rfl ?_
  refine Wl.iload 265 at_263 rfl ?_
  refine Wl.iload 267 at_265 rfl ?_
  refine Wl.iload 269 at_267 rfl ?_
  refine Wl.iload 271 at_269 rfl ?_
  refine Wl.iload 273 at_271 rfl ?_
  refine Wl.iload 275 at_273 rfl ?_
  refine Wl.static 278 (argsL := [.ref s39, .int (4 : Int32), .int (12 : Int32), .int (2 : Int32), .int p0, .int p1, .int p2, .int (3 : Int32), .int n0, .int n1, .int n2]) at_275 (w240 hw) (w241 hw) (w2 hw) (w242 hw) (show parseMethodDescriptor "(Ljava/lang/String;IIICCCICCC)Z" = some ⟨[(.object "java/lang/String"), .int, .int, .int, .char, .char, .char, .int, .char, .char, .char], some .boolean⟩ by decide +kernel) rfl (okA_met hw hcs hfm (rs := [p0, p1, (108 : Int32), (111 : Int32), (99 : Int32), (107 : Int32), (58 : Int32), (123 : Int32), n0, n1, n2, (125 : Int32)]) (n := 4) (j := 2) ((S41.ext E56).ext E62) (nle rfl) (by decide) (by decide) (by decide) (by decide) (nle rfl) rfl) (fun _ q => nomatch q) rfl rfl rfl (by decide) ⟨⟨nle rfl, nle rfl⟩, nle rfl, nle rfl⟩ ?_
  intro v65 h66 hq67 _
  obtain ⟨rfl, E68⟩ := hq67
  have B69 : Ext h h66 := extTr B63 E68
  have B70 : Ext h9 h66 := extTr B64 E68
  show WlO _ _ _ _ _ _ _ _ _ _ _ _ _ _ _ _ _ _ [.int (1 : Int32)]
  refine Wl.ifN 281 at_278 (feq (by decide)).1 ?_
  refine Wl.aload 283 at_281 rfl rfl ?_
  refine Wl.iconst 284 (5 : Int32) at_283 (by decide) ?_
  refine Wl.iload 286 at_284 rfl ?_
  refine Wl.iload_n 287 at_286 rfl ?_
  refine Wl.iload 289 at_287 rfl ?_
  refine Wl.iload 291 at_289 rfl ?_
  refine Wl.iload 293 at_291 rfl ?_
  refine Wl.iload 295 at_293 rfl ?_
  refine Wl.iload 297 at_295 rfl ?_
  refine Wl.iload 299 at_297 rfl ?_
  refine Wl.iload 301 at_299 rfl ?_
  refine Wl.static 304 (argsL := [.ref s39, .int (5 : Int32), .int (12 : Int32), .int (2 : Int32), .int p0, .int p1, .int p2, .int (3 : Int32), .int n0, .int n1, .int n2]) at_301 (w240 hw) (w241 hw) (w2 hw) (w242 hw) (show parseMethodDescriptor "(Ljava/lang/String;IIICCCICCC)Z" = some ⟨[(.object "java/lang/String"), .int, .int, .int, .char, .char, .char, .int, .char, .char, .char], some .boolean⟩ by decide +kernel) rfl (okA_met hw hcs hfm (rs := [p0, p1, (108 : Int32), (111 : Int32), (99 : Int32), (107 : Int32), (58 : Int32), (123 : Int32), n0, n1, n2, (125 : Int32)]) (n := 5) (j := 3) (((S41.ext E56).ext E62).ext E68) (nle rfl) (by decide) (by decide) (by decide) (by decide) (nle rfl) rfl) (fun _ q => nomatch q) rfl rfl rfl (by decide) ⟨⟨nle rfl, nle rfl⟩, nle rfl, nle rfl⟩ ?_
  intro v71 h72 hq73 _
  obtain ⟨rfl, E74⟩ := hq73
  have B75 : Ext h h72 := extTr B69 E74
  have B76 : Ext h9 h72 := extTr B70 E74
  show WlO _ _ _ _ _ _ _ _ _ _ _ _ _ _ _ _ _ _ [.int (1 : Int32)]
  refine Wl.ifN 307 at_304 (feq (by decide)).1 ?_
  refine Wl.aload 309 at_307 rfl rfl ?_
  refine Wl.bipush 311 (6 : Int32) at_309 (by decide) ?_
  refine Wl.iload 313 at_311 rfl ?_
  refine Wl.iload_n 314 at_313 rfl ?_
  refine Wl.iload 316 at_314 rfl ?_
  refine Wl.iload 318 at_316 rfl ?_
  refine Wl.iload 320 at_318 rfl ?_
  refine Wl.iload 322 at_320 rfl ?_
  refine Wl.iload 324 at_322 rfl ?_
  refine Wl.iload 326 at_324 rfl ?_
  refine Wl.iload 328 at_326 rfl ?_
  refine Wl.static 331 (argsL := [.ref s39, .int (6 : Int32), .int (12 : Int32), .int (2 : Int32), .int p0, .int p1, .int p2, .int (3 : Int32), .int n0, .int n1, .int n2]) at_328 (w240 hw) (w241 hw) (w2 hw) (w242 hw) (show parseMethodDescriptor "(Ljava/lang/String;IIICCCICCC)Z" = some ⟨[(.object "java/lang/String"), .int, .int, .int, .char, .char, .char, .int, .char, .char, .char], some .boolean⟩ by decide +kernel) rfl (okA_met hw hcs hfm (rs := [p0, p1, (108 : Int32), (111 : Int32), (99 : Int32), (107 : Int32), (58 : Int32), (123 : Int32), n0, n1, n2, (125 : Int32)]) (n := 6) (j := 4) ((((S41.ext E56).ext E62).ext E68).ext E74) (nle rfl) (by decide) (by decide) (by decide) (by decide) (nle rfl) rfl) (fun _ q => nomatch q) rfl rfl rfl (by decide) ⟨⟨nle rfl, nle rfl⟩, nle rfl, nle rfl⟩ ?_
  intro v77 h78 hq79 _
  obtain ⟨rfl, E80⟩ := hq79
  have B81 : Ext h h78 := extTr B75 E80
  have B82 : Ext h9 h78 := extTr B76 E80
  show WlO _ _ _ _ _ _ _ _ _ _ _ _ _ _ _ _ _ _ [.int (1 : Int32)]
  refine Wl.ifN 334 at_331 (feq (by decide)).1 ?_
  refine Wl.aload 336 at_334 rfl rfl ?_
  refine Wl.bipush 338 (7 : Int32) at_336 (by decide) ?_
  refine Wl.iload 340 at_338 rfl ?_
  refine Wl.iload_n 341 at_340 rfl ?_
  refine Wl.iload 343 at_341 rfl ?_
  refine Wl.iload 345 at_343 rfl ?_
  refine Wl.iload 347 at_345 rfl ?_
  refine Wl.iload 349 at_347 rfl ?_
  refine Wl.iload 351 at_349 rfl ?_
  refine Wl.iload 353 at_351 rfl ?_
  refine Wl.iload 355 at_353 rfl ?_
  refine Wl.static 358 (argsL := [.ref s39, .int (7 : Int32), .int (12 : Int32), .int (2 : Int32), .int p0, .int p1, .int p2, .int (3 : Int32), .int n0, .int n1, .int n2]) at_355 (w240 hw) (w241 hw) (w2 hw) (w242 hw) (show parseMethodDescriptor "(Ljava/lang/String;IIICCCICCC)Z" = some ⟨[(.object "java/lang/String"), .int, .int, .int, .char, .char, .char, .int, .char, .char, .char], some .boolean⟩ by decide +kernel) rfl (okB_met hw hcs hfm (rs := [p0, p1, (108 : Int32), (111 : Int32), (99 : Int32), (107 : Int32), (58 : Int32), (123 : Int32), n0, n1, n2, (125 : Int32)]) (n := 7) (((((S41.ext E56).ext E62).ext E68).ext E74).ext E80) (nle rfl) (by decide) (by decide) lp0 lp1 lp2 ln0 ln1 ln2 (show (123 : Int32) = expI (7 : Int32) (2 : Int32) p0 p1 p2 (3 : Int32) n0 n1 n2 by rw [expI, if_neg (by decide), if_pos (by decide)])) (fun _ q => nomatch q) rfl rfl rfl (by decide) ⟨⟨nle rfl, nle rfl⟩, nle rfl, nle rfl⟩ ?_
  intro v83 h84 hq85 _
  obtain ⟨rfl, rfl⟩ := hq85
  show WlO _ _ _ _ _ _ _ _ _ _ _ _ _ _ _ _ _ _ [.int (1 : Int32)]
  refine Wl.ifN 361 at_358 (feq (by decide)).1 ?_
  refine Wl.aload 363 at_361 rfl rfl ?_
  refine Wl.bipush 365 (8 : Int32) at_363 (by decide) ?_
  refine Wl.iload 367 at_365 rfl ?_
  refine Wl.iload_n 368 at_367 rfl ?_
  refine Wl.iload 370 at_368 rfl ?_
  refine Wl.iload 372 at_370 rfl ?_
  refine Wl.iload 374 at_372 rfl ?_
  refine Wl.iload 376 at_374 rfl ?_
  refine Wl.iload 378 at_376 rfl ?_
  refine Wl.iload 380 at_378 rfl ?_
  refine Wl.iload 382 at_380 rfl ?_
  refine Wl.static 385 (argsL := [.ref s39, .int (8 : Int32), .int (12 : Int32), .int (2 : Int32), .int p0, .int p1, .int p2, .int (3 : Int32), .int n0, .int n1, .int n2]) at_382 (w240 hw) (w241 hw) (w2 hw) (w242 hw) (show parseMethodDescriptor "(Ljava/lang/String;IIICCCICCC)Z" = some ⟨[(.object "java/lang/String"), .int, .int, .int, .char, .char, .char, .int, .char, .char, .char], some .boolean⟩ by decide +kernel) rfl (okB_met hw hcs hfm (rs := [p0, p1, (108 : Int32), (111 : Int32), (99 : Int32), (107 : Int32), (58 : Int32), (123 : Int32), n0, n1, n2, (125 : Int32)]) (n := 8) (((((S41.ext E56).ext E62).ext E68).ext E74).ext E80) (nle rfl) (by decide) (by decide) lp0 lp1 lp2 ln0 ln1 ln2 (show n0 = expI (8 : Int32) (2 : Int32) p0 p1 p2 (3 : Int32) n0 n1 n2 by rw [expI, if_neg (by decide), if_neg (by decide), if_pos (by decide), if_pos (by decide)])) (fun _ q => nomatch q) rfl rfl rfl (by decide) ⟨⟨nle rfl, nle rfl⟩, nle rfl, nle rfl⟩ ?_
  intro v86 h87 hq88 _
  obtain ⟨rfl, rfl⟩ := hq88
  show WlO _ _ _ _ _ _ _ _ _ _ _ _ _ _ _ _ _ _ [.int (1 : Int32)]
  refine Wl.ifN 388 at_385 (feq (by decide)).1 ?_
  refine Wl.aload 390 at_388 rfl rfl ?_
  refine Wl.bipush 392 (9 : Int32) at_390 (by decide) ?_
  refine Wl.iload 394 at_392 rfl ?_
  refine Wl.iload_n 395 at_394 rfl ?_
  refine Wl.iload 397 at_395 rfl ?_
  refine Wl.iload 399 at_397 rfl ?_
  refine Wl.iload 401 at_399 rfl ?_
  refine Wl.iload 403 at_401 rfl ?_
  refine Wl.iload 405 at_403 rfl ?_
  refine Wl.iload 407 at_405 rfl ?_
  refine Wl.iload 409 at_407 rfl ?_
  refine Wl.static 412 (argsL := [.ref s39, .int (9 : Int32), .int (12 : Int32), .int (2 : Int32), .int p0, .int p1, .int p2, .int (3 : Int32), .int n0, .int n1, .int n2]) at_409 (w240 hw) (w241 hw) (w2 hw) (w242 hw) (show parseMethodDescriptor "(Ljava/lang/String;IIICCCICCC)Z" = some ⟨[(.object "java/lang/String"), .int, .int, .int, .char, .char, .char, .int, .char, .char, .char], some .boolean⟩ by decide +kernel) rfl (okB_met hw hcs hfm (rs := [p0, p1, (108 : Int32), (111 : Int32), (99 : Int32), (107 : Int32), (58 : Int32), (123 : Int32), n0, n1, n2, (125 : Int32)]) (n := 9) (((((S41.ext E56).ext E62).ext E68).ext E74).ext E80) (nle rfl) (by decide) (by decide) lp0 lp1 lp2 ln0 ln1 ln2 (show n1 = expI (9 : Int32) (2 : Int32) p0 p1 p2 (3 : Int32) n0 n1 n2 by rw [expI, if_neg (by decide), if_neg (by decide), if_pos (by decide), if_neg (by decide), if_pos (by decide)])) (fun _ q => nomatch q) rfl rfl rfl (by decide) ⟨⟨nle rfl, nle rfl⟩, nle rfl, nle rfl⟩ ?_
  intro v89 h90 hq91 _
  obtain ⟨rfl, rfl⟩ := hq91
  show WlO _ _ _ _ _ _ _ _ _ _ _ _ _ _ _ _ _ _ [.int (1 : Int32)]
  refine Wl.ifN 415 at_412 (feq (by decide)).1 ?_
  refine Wl.aload 417 at_415 rfl rfl ?_
  refine Wl.bipush 419 (10 : Int32) at_417 (by decide) ?_
  refine Wl.iload 421 at_419 rfl ?_
  refine Wl.iload_n 422 at_421 rfl ?_
  refine Wl.iload 424 at_422 rfl ?_
  refine Wl.iload 426 at_424 rfl ?_
  refine Wl.iload 428 at_426 rfl ?_
  refine Wl.iload 430 at_428 rfl ?_
  refine Wl.iload 432 at_430 rfl ?_
  refine Wl.iload 434 at_432 rfl ?_
  refine Wl.iload 436 at_434 rfl ?_
  refine Wl.static 439 (argsL := [.ref s39, .int (10 : Int32), .int (12 : Int32), .int (2 : Int32), .int p0, .int p1, .int p2, .int (3 : Int32), .int n0, .int n1, .int n2]) at_436 (w240 hw) (w241 hw) (w2 hw) (w242 hw) (show parseMethodDescriptor "(Ljava/lang/String;IIICCCICCC)Z" = some ⟨[(.object "java/lang/String"), .int, .int, .int, .char, .char, .char, .int, .char, .char, .char], some .boolean⟩ by decide +kernel) rfl (okB_met hw hcs hfm (rs := [p0, p1, (108 : Int32), (111 : Int32), (99 : Int32), (107 : Int32), (58 : Int32), (123 : Int32), n0, n1, n2, (125 : Int32)]) (n := 10) (((((S41.ext E56).ext E62).ext E68).ext E74).ext E80) (nle rfl) (by decide) (by decide) lp0 lp1 lp2 ln0 ln1 ln2 (show n2 = expI (10 : Int32) (2 : Int32) p0 p1 p2 (3 : Int32) n0 n1 n2 by rw [expI, if_neg (by decide), if_neg (by decide), if_pos (by decide), if_neg (by decide), if_neg (by decide)])) (fun _ q => nomatch q) rfl rfl rfl (by decide) ⟨⟨nle rfl, nle rfl⟩, nle rfl, nle rfl⟩ ?_
  intro v92 h93 hq94 _
  obtain ⟨rfl, rfl⟩ := hq94
  show WlO _ _ _ _ _ _ _ _ _ _ _ _ _ _ _ _ _ _ [.int (1 : Int32)]
  refine Wl.ifN 442 at_439 (feq (by decide)).1 ?_
  refine Wl.aload 444 at_442 rfl rfl ?_
  refine Wl.bipush 446 (11 : Int32) at_444 (by decide) ?_
  refine Wl.iload 448 at_446 rfl ?_
  refine Wl.iload_n 449 at_448 rfl ?_
  refine Wl.iload 451 at_449 rfl ?_
  refine Wl.iload 453 at_451 rfl ?_
  refine Wl.iload 455 at_453 rfl ?_
  refine Wl.iload 457 at_455 rfl ?_
  refine Wl.iload 459 at_457 rfl ?_
  refine Wl.iload 461 at_459 rfl ?_
  refine Wl.iload 463 at_461 rfl ?_
  refine Wl.static 466 (argsL := [.ref s39, .int (11 : Int32), .int (12 : Int32), .int (2 : Int32), .int p0, .int p1, .int p2, .int (3 : Int32), .int n0, .int n1, .int n2]) at_463 (w240 hw) (w241 hw) (w2 hw) (w242 hw) (show parseMethodDescriptor "(Ljava/lang/String;IIICCCICCC)Z" = some ⟨[(.object "java/lang/String"), .int, .int, .int, .char, .char, .char, .int, .char, .char, .char], some .boolean⟩ by decide +kernel) rfl (okB_met hw hcs hfm (rs := [p0, p1, (108 : Int32), (111 : Int32), (99 : Int32), (107 : Int32), (58 : Int32), (123 : Int32), n0, n1, n2, (125 : Int32)]) (n := 11) (((((S41.ext E56).ext E62).ext E68).ext E74).ext E80) (nle rfl) (by decide) (by decide) lp0 lp1 lp2 ln0 ln1 ln2 (show (125 : Int32) = expI (11 : Int32) (2 : Int32) p0 p1 p2 (3 : Int32) n0 n1 n2 by rw [expI, if_neg (by decide), if_neg (by decide), if_neg (by decide)])) (fun _ q => nomatch q) rfl rfl rfl (by decide) ⟨⟨nle rfl, nle rfl⟩, nle rfl, nle rfl⟩ ?_
  intro v95 h96 hq97 _
  obtain ⟨rfl, rfl⟩ := hq97
  show WlO _ _ _ _ _ _ _ _ _ _ _ _ _ _ _ _ _ _ [.int (1 : Int32)]
  refine Wl.ifN 469 at_466 (feq (by decide)).1 ?_
  refine Wl.aload 471 at_469 rfl rfl ?_
  refine Wl.bipush 473 (12 : Int32) at_471 (by decide) ?_
  refine Wl.iload 475 at_473 rfl ?_
  refine Wl.iload_n 476 at_475 rfl ?_
  refine Wl.iload 478 at_476 rfl ?_
  refine Wl.iload 480 at_478 rfl ?_
  refine Wl.iload 482 at_480 rfl ?_
  refine Wl.iload 484 at_482 rfl ?_
  refine Wl.iload 486 at_484 rfl ?_
  refine Wl.iload 488 at_486 rfl ?_
  refine Wl.iload 490 at_488 rfl ?_
  refine Wl.static 493 (argsL := [.ref s39, .int (12 : Int32), .int (12 : Int32), .int (2 : Int32), .int p0, .int p1, .int p2, .int (3 : Int32), .int n0, .int n1, .int n2]) at_490 (w240 hw) (w241 hw) (w2 hw) (w242 hw) (show parseMethodDescriptor "(Ljava/lang/String;IIICCCICCC)Z" = some ⟨[(.object "java/lang/String"), .int, .int, .int, .char, .char, .char, .int, .char, .char, .char], some .boolean⟩ by decide +kernel) rfl (okC_met hw (by decide)) (fun _ q => nomatch q) rfl rfl rfl (by decide) ⟨⟨nle rfl, nle rfl⟩, nle rfl, nle rfl⟩ ?_
  intro v98 h99 hq100 _
  obtain ⟨rfl, rfl⟩ := hq100
  show WlO _ _ _ _ _ _ _ _ _ _ _ _ _ _ _ _ _ _ [.int (1 : Int32)]
  refine Wl.ifN 496 at_493 (feq (by decide)).1 ?_
  refine Wl.iconst 497 (1 : Int32) at_496 (by decide) ?_
  refine Wl.goto 501 at_497 ?_
  exact Wl.ireturn at_501 rfl rfl (by simp) (nle rfl) (nle rfl) rfl
set_option maxRecDepth 65536 in
set_option maxHeartbeats 40000000 in
theorem law_t31 {l : Launch} {Z : State} {a0 : Array Value} (hw : ∀ d ∈ tables_1, d.before a0 Z = true) (hcs : CSon Z) (hfm : Fmt Z) {as : Array Value} {h : Heap} {i0 i1 i2 p0 p1 p2 n0 n1 n2 : Int32} (lp0 : Lat p0) (lp1 : Lat p1) (lp2 : Lat p2) (ln0 : Lat n0) (ln1 : Lat n1) (ln2 : Lat n2) (p0123 : p0 ≠ 123) (p0125 : p0 ≠ 125) (p1123 : p1 ≠ 123) (p1125 : p1 ≠ 125) (p2123 : p2 ≠ 123) (p2125 : p2 ≠ 125) (hn0 : ¬ n0 = (125 : Int32)) :
    Wl l Z a0 consts_1 x code maxLocals ret room_1 as (fun v h' => v = some (.int 1)) [] h 0 0 80 #[.val (.int i0), .val (.int i1), .val (.int i2), .val (.int (3 : Int32)), .val (.int (1 : Int32)), .val (.int p0), .val (.int p1), .val (.int p2), .val (.int n0), .val (.int n1), .val (.int n2), .unset, .unset, .unset, .unset, .unset] [] := by
  refine Wl.iload_n 81 at_80 rfl ?_
  refine Wl.iload 83 at_81 rfl ?_
  refine Wl.iload 85 at_83 rfl ?_
  refine Wl.iload 87 at_85 rfl ?_
  refine Wl.static 90 (argsL := [.int (3 : Int32), .int p0, .int p1, .int p2]) at_87 (w4 hw) (w5 hw) (w2 hw) (w6 hw) (show parseMethodDescriptor "(ICCC)Ljava/lang/String;" = some ⟨[.int, .char, .char, .char], some (.object "java/lang/String")⟩ by decide +kernel) rfl (mk3_met hw hcs lp0 lp1 lp2) (fun _ q => nomatch q) rfl rfl rfl (by decide) ⟨⟨nle rfl, nle rfl⟩, nle rfl, nle rfl⟩ ?_
  intro v1 h2 hq3 _
  obtain ⟨a4, rfl, E5, S6⟩ := hq3
  have B7 : Ext h h2 := E5
  show WlO _ _ _ _ _ _ _ _ _ _ _ _ _ _ _ _ _ _ [.ref a4]
  refine Wl.astore 92 #[.val (.int i0), .val (.int i1), .val (.int i2), .val (.int (3 : Int32)), .val (.int (1 : Int32)), .val (.int p0), .val (.int p1), .val (.int p2), .val (.int n0), .val (.int n1), .val (.int n2), .val (.ref a4), .unset, .unset, .unset, .unset] at_90 rfl rfl ?_
  refine Wl.iload 94 at_92 rfl ?_
  refine Wl.iload 96 at_94 rfl ?_
  refine Wl.iload 98 at_96 rfl ?_
  refine Wl.iload 100 at_98 rfl ?_
  refine Wl.static 103 (argsL := [.int (1 : Int32), .int n0, .int n1, .int n2]) at_100 (w4 hw) (w5 hw) (w2 hw) (w6 hw) (show parseMethodDescriptor "(ICCC)Ljava/lang/String;" = some ⟨[.int, .char, .char, .char], some (.object "java/lang/String")⟩ by decide +kernel) rfl (mk1_met hw hcs ln0 ln1 ln2) (fun _ q => nomatch q) rfl rfl rfl (by decide) ⟨⟨nle rfl, nle rfl⟩, nle rfl, nle rfl⟩ ?_
  intro v8 h9 hq10 _
  obtain ⟨a11, rfl, E12, S13⟩ := hq10
  have B14 : Ext h h9 := extTr B7 E12
  show WlO _ _ _ _ _ _ _ _ _ _ _ _ _ _ _ _ _ _ [.ref a11]
  refine Wl.astore 105 #[.val (.int i0), .val (.int i1), .val (.int i2), .val (.int (3 : Int32)), .val (.int (1 : Int32)), .val (.int p0), .val (.int p1), .val (.int p2), .val (.int n0), .val (.int n1), .val (.int n2), .val (.ref a4), .val (.ref a11), .unset, .unset, .unset] at_103 rfl rfl ?_
  refine Wl.new 108 at_105 (w51 hw) (w52 hw) (w53 hw) (nle rfl) (nle rfl) ?_
  intro a15 h16 q17 E18 X19 D20
  have z21 : h.size ≤ a15 := Nat.le_trans B14.1 (Nat.le_of_eq q17.symm)
  have z22 : h9.size ≤ a15 := Nat.le_of_eq q17.symm
  have ne23 : a4 ≠ a15 := Nat.ne_of_lt (by rw [q17]; exact (((S6).exa.ext E12)).lt)
  have ne24 : a11 ≠ a15 := Nat.ne_of_lt (by rw [q17]; exact ((S13).exa).lt)
  have B25 : Ext h h16 := extTr B14 E18
  have B26 : Ext h9 h16 := E18
  have F27 : Fld Z h16 a15 "com/example/portunus/portunus/LockKeys" "prefix" "Ljava/lang/String;" (.null) := D20 (Or.inr (w107 hw)) (ty := (.object "java/lang/String")) (by decide)
  refine Wl.dup 109 at_108 rfl ?_
  refine Wl.aload 111 at_109 rfl rfl ?_
  refine Wl.special 114 (argsL := [.ref a4]) at_111 (w54 hw) (w55 hw) (w53 hw) (w56 hw) (show parseMethodDescriptor "(Ljava/lang/String;)V" = some ⟨[(.object "java/lang/String")], none⟩ by decide +kernel) rfl (keys_met hw hcs X19 F27 (cs := [p0, p1, p2]) ((S6.ext E12).ext E18) (neC p0123 (neC p1123 (neC p2123 neN))) (neC p0125 (neC p1125 (neC p2125 neN)))) (allS (List.mem_of_getElem? (i := 0) rfl) (fun _ q => nomatch q)) rfl rfl rfl rfl (by decide) ⟨⟨nle rfl, nle rfl⟩, nle rfl, nle rfl⟩ ?_
  intro v28 h29 hq30 _
  obtain ⟨rfl, K31, X32, F33⟩ := hq30
  have B34 : Ext h h29 := extKeep B25 K31 (allS z21 all0)
  have B35 : Ext h9 h29 := extKeep B26 K31 (allS z22 all0)
  show WlO _ _ _ _ _ _ _ _ _ _ _ _ _ _ _ _ _ _ [.ref a15]
  refine Wl.astore 116 #[.val (.int i0), .val (.int i1), .val (.int i2), .val (.int (3 : Int32)), .val (.int (1 : Int32)), .val (.int p0), .val (.int p1), .val (.int p2), .val (.int n0), .val (.int n1), .val (.int n2), .val (.ref a4), .val (.ref a11), .val (.ref a15), .unset, .unset] at_114 rfl rfl ?_
  refine Wl.aload 118 at_116 rfl rfl ?_
  refine Wl.aload 120 at_118 rfl rfl ?_
  refine Wl.virtual 123 (argsL := [.ref a11]) at_120 (w108 hw) (w109 hw) (w111 hw) (w110 hw) (w53 hw) (w112 hw) (nf_sel (w111 hw) rfl) X32 (show parseMethodDescriptor "(Ljava/lang/String;)Ljava/lang/String;" = some ⟨[(.object "java/lang/String")], some (.object "java/lang/String")⟩ by decide +kernel) rfl (key_met hw hcs hfm (cs := [n0]) (ps := [p0, p1, p2]) F33 ((S6.ext E12).ext B35) (nle rfl) (S13.ext B35) (by simp) (nle rfl) hn0 (nle rfl)) (fun _ q => nomatch q) rfl rfl rfl (by decide) ⟨⟨nle rfl, nle rfl⟩, nle rfl, nle rfl⟩ ?_
  intro v36 h37 hq38 _
  obtain ⟨s39, rfl, E40, S41⟩ := hq38
  have S41 : Stl Z h37 s39 [p0, p1, p2, (108 : Int32), (111 : Int32), (99 : Int32), (107 : Int32), (58 : Int32), (123 : Int32), n0, (125 : Int32)] := S41
  have B42 : Ext h h37 := extTr B34 E40
  have B43 : Ext h9 h37 := extTr B35 E40
  show WlO _ _ _ _ _ _ _ _ _ _ _ _ _ _ _ _ _ _ [.ref s39]
  refine Wl.astore 125 #[.val (.int i0), .val (.int i1), .val (.int i2), .val (.int (3 : Int32)), .val (.int (1 : Int32)), .val (.int p0), .val (.int p1), .val (.int p2), .val (.int n0), .val (.int n1), .val (.int n2), .val (.ref a4), .val (.ref a11), .val (.ref a15), .val (.ref s39), .unset] at_123 rfl rfl ?_
  refine Wl.iload_n 126 at_125 rfl ?_
  refine Wl.iload 128 at_126 rfl ?_
  refine Wl.iadd 129 at_128 ?_
  show WlO _ _ _ _ _ _ _ _ _ _ _ _ _ _ _ _ _ _ [.int (4 : Int32)]
  refine Wl.bipush 131 (7 : Int32) at_129 (by decide) ?_
  refine Wl.iadd 132 at_131 ?_
  show WlO _ _ _ _ _ _ _ _ _ _ _ _ _ _ _ _ _ _ [.int (11 : Int32)]
  refine Wl.istore 134 #[.val (.int i0), .val (.int i1), .val (.int i2), .val (.int (3 : Int32)), .val (.int (1 : Int32)), .val (.int p0), .val (.int p1), .val (.int p2), .val (.int n0), .val (.int n1), .val (.int n2), .val (.ref a4), .val (.ref a11), .val (.ref a15), .val (.ref s39), .val (.int (11 : Int32))] at_132 rfl ?_
  refine Wl.aload 136 at_134 rfl rfl ?_
  refine Wl.ifnullN 139 at_136 ?_
  refine Wl.aload 141 at_139 rfl rfl ?_
  refine Wl.virtual 144 (argsL := []) at_141 (w239 hw) (w81 hw) (w83 hw) (w82 hw) (w9 hw) (w84 hw) (nf_sel (w83 hw) rfl) (S41).exa (show parseMethodDescriptor "()I" = some ⟨[], some .int⟩ by decide +kernel) rfl (len_met hw hcs S41) (fun _ q => nomatch q) rfl rfl rfl (by decide) ⟨⟨nle rfl, nle rfl⟩, nle rfl, nle rfl⟩ ?_
  intro v44 h45 hq46 _
  obtain ⟨rfl, rfl⟩ := hq46
  show WlO _ _ _ _ _ _ _ _ _ _ _ _ _ _ _ _ _ _ [.int (11 : Int32)]
  refine Wl.iload 146 at_144 rfl ?_
  refine Wl.icmpY 151 at_146 (teq (by decide)).1 ?_
  refine Wl.aload 153 at_151 rfl rfl ?_
  refine Wl.iconst 154 (0 : Int32) at_153 (by decide) ?_
  refine Wl.iload 156 at_154 rfl ?_
  refine Wl.iload_n 157 at_156 rfl ?_
  refine Wl.iload 159 at_157 rfl ?_
  refine Wl.iload 161 at_159 rfl ?_
  refine Wl.iload 163 at_161 rfl ?_
  refine Wl.iload 165 at_163 rfl ?_
  refine Wl.iload 167 at_165 rfl ?_
  refine Wl.iload 169 at_167 rfl ?_
  refine Wl.iload 171 at_169 rfl ?_
  refine Wl.static 174 (argsL := [.ref s39, .int (0 : Int32), .int (11 : Int32), .int (3 : Int32), .int p0, .int p1, .int p2, .int (1 : Int32), .int n0, .int n1, .int n2]) at_171 (w240 hw) (w241 hw) (w2 hw) (w242 hw) (show parseMethodDescriptor "(Ljava/lang/String;IIICCCICCC)Z" = some ⟨[(.object "java/lang/String"), .int, .int, .int, .char, .char, .char, .int, .char, .char, .char], some .boolean⟩ by decide +kernel) rfl (okB_met hw hcs hfm (rs := [p0, p1, p2, (108 : Int32), (111 : Int32), (99 : Int32), (107 : Int32), (58 : Int32), (123 : Int32), n0, (125 : Int32)]) (n := 0) S41 (nle rfl) (by decide) (by decide) lp0 lp1 lp2 ln0 ln1 ln2 (show p0 = expI (0 : Int32) (3 : Int32) p0 p1 p2 (1 : Int32) n0 n1 n2 by rw [expI, if_pos (by decide), if_pos (by decide)])) (fun _ q => nomatch q) rfl rfl rfl (by decide) ⟨⟨nle rfl, nle rfl⟩, nle rfl, nle rfl⟩ ?_
  intro v47 h48 hq49 _
  obtain ⟨rfl, rfl⟩ := hq49
  show WlO _ _ _ _ _ _ _ _ _ _ _ _ _ _ _ _ _ _ [.int (1 : Int32)]
  refine Wl.ifN 177 at_174 (feq (by decide)).1 ?_
  refine Wl.aload 179 at_177 rfl rfl ?_
  refine Wl.iconst 180 (1 : Int32) at_179 (by decide) ?_
  refine Wl.iload 182 at_180 rfl ?_
  refine Wl.iload_n 183 at_182 rfl ?_
  refine Wl.iload 185 at_183 rfl ?_
  refine Wl.iload 187 at_185 rfl ?_
  refine Wl.iload 189 at_187 rfl ?_
  refine Wl.iload 191 at_189 rfl ?_
  refine Wl.iload 193 at_191 rfl ?_
  refine Wl.iload 195 at_193 rfl ?_
  refine Wl.iload 197 at_195 rfl ?_
  refine Wl.static 200 (argsL := [.ref s39, .int (1 : Int32), .int (11 : Int32), .int (3 : Int32), .int p0, .int p1, .int p2, .int (1 : Int32), .int n0, .int n1, .int n2]) at_197 (w240 hw) (w241 hw) (w2 hw) (w242 hw) (show parseMethodDescriptor "(Ljava/lang/String;IIICCCICCC)Z" = some ⟨[(.object "java/lang/String"), .int, .int, .int, .char, .char, .char, .int, .char, .char, .char], some .boolean⟩ by decide +kernel) rfl (okB_met hw hcs hfm (rs := [p0, p1, p2, (108 : Int32), (111 : Int32), (99 : Int32), (107 : Int32), (58 : Int32), (123 : Int32), n0, (125 : Int32)]) (n := 1) S41 (nle rfl) (by decide) (by decide) lp0 lp1 lp2 ln0 ln1 ln2 (show p1 = expI (1 : Int32) (3 : Int32) p0 p1 p2 (1 : Int32) n0 n1 n2 by rw [expI, if_pos (by decide), if_neg (by decide), if_pos (by decide)])) (fun _ q => nomatch q) rfl rfl rfl (by decide) ⟨⟨nle rfl, nle rfl⟩, nle rfl, nle rfl⟩ ?_
  intro v50 h51 hq52 _
  obtain ⟨rfl, rfl⟩ := hq52
  show WlO _ _ _ _ _ _ _ _ _ _ _ _ _ _ _ _ _ _ [.int (1 : Int32)]
  refine Wl.ifN 203 at_200 (feq (by decide)).1 ?_
  refine Wl.aload 205 at_203 rfl rfl ?_
  refine Wl.iconst 206 (2 : Int32) at_205 (by decide) ?_
  refine Wl.iload 208 at_206 rfl ?_
  refine Wl.iload_n 209 at_208 rfl ?_
  refine Wl.iload 211 at_209 rfl ?_
  refine Wl.iload 213 at_211 rfl ?_
  refine Wl.iload 215 at_213 rfl ?_
  refine Wl.iload 217 at_215 rfl ?_
  refine Wl.iload 219 at_217 rfl ?_
  refine Wl.iload 221 at_219 rfl ?_
  refine Wl.iload 223 at_221 rfl ?_
  refine Wl.static 226 (argsL := [.ref s39, .int (2 : Int32), .int (11 : Int32), .int (3 : Int32), .int p0, .int p1, .int p2, .int (1 : Int32), .int n0, .int n1, .int n2]) at_223 (w240 hw) (w241 hw) (w2 hw) (w242 hw) (show parseMethodDescriptor "(Ljava/lang/String;IIICCCICCC)Z" = some ⟨[(.object "java/lang/String"), .int, .int, .int, .char, .char, .char, .int, .char, .char, .char], some .boolean⟩ by decide +kernel) rfl (okB_met hw hcs hfm (rs := [p0, p1, p2, (108 : Int32), (111 : Int32), (99 : Int32), (107 : Int32), (58 : Int32), (123 : Int32), n0, (125 : Int32)]) (n := 2) S41 (nle rfl) (by decide) (by decide) lp0 lp1 lp2 ln0 ln1 ln2 (show p2 = expI (2 : Int32) (3 : Int32) p0 p1 p2 (1 : Int32) n0 n1 n2 by rw [expI, if_pos (by decide), if_neg (by decide), if_neg (by decide)])) (fun _ q => nomatch q) rfl rfl rfl (by decide) ⟨⟨nle rfl, nle rfl⟩, nle rfl, nle rfl⟩ ?_
  intro v53 h54 hq55 _
  obtain ⟨rfl, rfl⟩ := hq55
  show WlO _ _ _ _ _ _ _ _ _ _ _ _ _ _ _ _ _ _ [.int (1 : Int32)]
  refine Wl.ifN 229 at_226 (feq (by decide)).1 ?_
  refine Wl.aload 231 at_229 rfl rfl ?_
  refine Wl.iconst 232 (3 : Int32) at_231 (by decide) ?_
  refine Wl.iload 234 at_232 rfl ?_
  refine Wl.iload_n 235 at_234 rfl ?_
  refine Wl.iload 237 at_235 rfl ?_
  refine Wl.iload 239 at_237 rfl ?_
  refine Wl.iload 241 at_239 rfl ?_
  refine Wl.iload 243 at_241 rfl ?_
  refine Wl.iload 245 at_243 rfl ?_
  refine Wl.iload 247 at_245 rfl ?_
  refine Wl.iload 249 at_247 rfl ?_
  refine Wl.static 252 (argsL := [.ref s39, .int (3 : Int32), .int (11 : Int32), .int (3 : Int32), .int p0, .int p1, .int p2, .int (1 : Int32), .int n0, .int n1, .int n2]) at_249 (w240 hw) (w241 hw) (w2 hw) (w242 hw) (show parseMethodDescriptor "(Ljava/lang/String;IIICCCICCC)Z" = some ⟨[(.object "java/lang/String"), .int, .int, .int, .char, .char, .char, .int, .char, .char, .char], some .boolean⟩ by decide +kernel) rfl (okA_met hw hcs hfm (rs := [p0, p1, p2, (108 : Int32), (111 : Int32), (99 : Int32), (107 : Int32), (58 : Int32), (123 : Int32), n0, (125 : Int32)]) (n := 3) (j := 0) S41 (nle rfl) (by decide) (by decide) (by decide) (by decide) (nle rfl) rfl) (fun _ q => nomatch q) rfl rfl rfl (by decide) ⟨⟨nle rfl, nle rfl⟩, nle rfl, nle rfl⟩ ?_
  intro v56 h57 hq58 _
  obtain ⟨rfl, E59⟩ := hq58
  have B60 : Ext h h57 := extTr B42 E59
  have B61 : Ext h9 h57 := extTr B43 E59
  show WlO _ _ _ _ _ _ _ _ _ _ _ _ _ _ _ _ _ _ [.int (1 : Int32)]
  refine Wl.ifN 255 at_252 (feq (by decide)).1 ?_
  refine Wl.aload 257 at_255 rfl rfl ?_
  refine Wl.iconst 258 (4 : Int32) at_257 (by decide) ?_
  refine Wl.iload 260 at_258 rfl ?_
  refine Wl.iload_n 261 at_260 rfl ?_
  refine Wl.iload 263 at_261 rfl ?_
  refine Wl.iload 265 at_263 rfl ?_
  refine Wl.iload 267 at_265 rfl ?_
  refine Wl.iload 269 at_267 rfl ?_
  refine Wl.iload 271 at_269 rfl ?_
  refine Wl.iload 273 at_271 rfl ?_
  refine Wl.iload 275 at_273 rfl ?_
  refine Wl.static 278 (argsL := [.ref s39, .int (4 : Int32), .int (11 : Int32), .int (3 : Int32), .int p0, .int p1, .int p2, .int (1 : Int32), .int n0, .int n1, .int n2]) at_275 (w240 hw) (w241 hw) (w2 hw) (w242 hw) (show parseMethodDescriptor "(Ljava/lang/String;IIICCCICCC)Z" = some ⟨[(.object "java/lang/String"), .int, .int, .int, .char, .char, .char, .int, .char, .char, .char], some .boolean⟩ by decide +kernel) rfl (okA_met hw hcs hfm (rs := [p0, p1, p2, (108 : Int32), (111 : Int32), (99 : Int32), (107 : Int32), (58 : Int32), (123 : Int32), n0, (125 : Int32)]) (n := 4) (j := 1) (S41.ext E59) (nle rfl) (by decide) (by decide) (by decide) (by decide) (nle rfl) rfl) (fun _ q => nomatch q) rfl rfl rfl (by decide) ⟨⟨nle rfl, nle rfl⟩, nle rfl, nle rfl⟩ ?_
  intro v62 h63 hq64 _
  obtain ⟨rfl, E65⟩ := hq64
  have B66 : Ext h h63 := extTr B60 E65
  have B67 : Ext h9 h63 := extTr B61 E65
  show WlO _ _ _ _ _ _ _ _ _ _ _ _ _ _ _ _ _ _ [.int (1 : Int32)]
  refine Wl.ifN 281 at_278 (feq (by decide)).1 ?_
  refine Wl.aload 283 at_281 rfl rfl ?_
  refine Wl.iconst 284 (5 : Int32) at_283 (by decide) ?_
  refine Wl.iload 286 at_284 rfl ?_
  refine Wl.iload_n 287 at_286 rfl ?_
  refine Wl.iload 289 at_287 rfl ?_
  refine Wl.iload 291 at_289 rfl ?_
  refine Wl.iload 293 at_291 rfl ?_
  refine Wl.iload 295 at_293 rfl ?_
  refine Wl.iload 297 at_295 rfl ?_
  refine Wl.iload 299 at_297 rfl ?_
  refine Wl.iload 301 at_299 rfl ?_
  refine Wl.static 304 (argsL := [.ref s39, .int (5 : Int32), .int (11 : Int32), .int (3 : Int32), .int p0, .int p1, .int p2, .int (1 : Int32), .int n0, .int n1, .int n2]) at_301 (w240 hw) (w241 hw) (w2 hw) (w242 hw) (show parseMethodDescriptor "(Ljava/lang/String;IIICCCICCC)Z" = some ⟨[(.object "java/lang/String"), .int, .int, .int, .char, .char, .char, .int, .char, .char, .char], some .boolean⟩ by decide +kernel) rfl (okA_met hw hcs hfm (rs := [p0, p1, p2, (108 : Int32), (111 : Int32), (99 : Int32), (107 : Int32), (58 : Int32), (123 : Int32), n0, (125 : Int32)]) (n := 5) (j := 2) ((S41.ext E59).ext E65) (nle rfl) (by decide) (by decide) (by decide) (by decide) (nle rfl) rfl) (fun _ q => nomatch q) rfl rfl rfl (by decide) ⟨⟨nle rfl, nle rfl⟩, nle rfl, nle rfl⟩ ?_
  intro v68 h69 hq70 _
  obtain ⟨rfl, E71⟩ := hq70
  have B72 : Ext h h69 := extTr B66 E71
  have B73 : Ext h9 h69 := extTr B67 E71
  show WlO _ _ _ _ _ _ _ _ _ _ _ _ _ _ _ _ _ _ [.int (1 : Int32)]
  refine Wl.ifN 307 at_304 (feq (by decide)).1 ?_
  refine Wl.aload 309 at_307 rfl rfl ?_
  refine Wl.bipush 311 (6 : Int32) at_309 (by decide) ?_
  refine Wl.iload 313 at_311 rfl ?_
  refine Wl.iload_n 314 at_313 rfl ?_
  refine Wl.iload 316 at_314 rfl ?_
  refine Wl.iload 318 at_316 rfl ?_
  refine Wl.iload 320 at_318 rfl ?_
  refine Wl.iload 322 at_320 rfl ?_
  refine Wl.iload 324 at_322 rfl ?_
  refine Wl.iload 326 at_324 rfl ?_
  refine Wl.iload 328 at_326 rfl ?_
  refine Wl.static 331 (argsL := [.ref s39, .int (6 : Int32), .int (11 : Int32), .int (3 : Int32), .int p0, .int p1, .int p2, .int (1 : Int32), .int n0, .int n1, .int n2]) at_328 (w240 hw) (w241 hw) (w2 hw) (w242 hw) (show parseMethodDescriptor "(Ljava/lang/String;IIICCCICCC)Z" = some ⟨[(.object "java/lang/String"), .int, .int, .int, .char, .char, .char, .int, .char, .char, .char], some .boolean⟩ by decide +kernel) rfl (okA_met hw hcs hfm (rs := [p0, p1, p2, (108 : Int32), (111 : Int32), (99 : Int32), (107 : Int32), (58 : Int32), (123 : Int32), n0, (125 : Int32)]) (n := 6) (j := 3) (((S41.ext E59).ext E65).ext E71) (nle rfl) (by decide) (by decide) (by decide) (by decide) (nle rfl) rfl) (fun _ q => nomatch q) rfl rfl rfl (by decide) ⟨⟨nle rfl, nle rfl⟩, nle rfl, nle rfl⟩ ?_
  intro v74 h75 hq76 _
  obtain ⟨rfl, E77⟩ := hq76
  have B78 : Ext h h75 := extTr B72 E77
  have B79 : Ext h9 h75 := extTr B73 E77
  show WlO _ _ _ _ _ _ _ _ _ _ _ _ _ _ _ _ _ _ [.int (1 : Int32)]
  refine Wl.ifN 334 at_331 (feq (by decide)).1 ?_
  refine Wl.aload 336 at_334 rfl rfl ?_
  refine Wl.bipush 338 (7 : Int32) at_336 (by decide) ?_
  refine Wl.iload 340 at_338 rfl ?_
  refine Wl.iload_n 341 at_340 rfl ?_
  refine Wl.iload 343 at_341 rfl ?_
  refine Wl.iload 345 at_343 rfl ?_
  refine Wl.iload 347 at_345 rfl ?_
  refine Wl.iload 349 at_347 rfl ?_
  refine Wl.iload 351 at_349 rfl ?_
  refine Wl.iload 353 at_351 rfl ?_
  refine Wl.iload 355 at_353 rfl ?_
  refine Wl.static 358 (argsL := [.ref s39, .int (7 : Int32), .int (11 : Int32), .int (3 : Int32), .int p0, .int p1, .int p2, .int (1 : Int32), .int n0, .int n1, .int n2]) at_355 (w240 hw) (w241 hw) (w2 hw) (w242 hw) (show parseMethodDescriptor "(Ljava/lang/String;IIICCCICCC)Z" = some ⟨[(.object "java/lang/String"), .int, .int, .int, .char, .char, .char, .int, .char, .char, .char], some .boolean⟩ by decide +kernel) rfl (okA_met hw hcs hfm (rs := [p0, p1, p2, (108 : Int32), (111 : Int32), (99 : Int32), (107 : Int32), (58 : Int32), (123 : Int32), n0, (125 : Int32)]) (n := 7) (j := 4) ((((S41.ext E59).ext E65).ext E71).ext E77) (nle rfl) (by decide) (by decide) (by decide) (by decide) (nle rfl) rfl) (fun _ q => nomatch q) rfl rfl rfl (by decide) ⟨⟨nle rfl, nle rfl⟩, nle rfl, nle rfl⟩ ?_
  intro v80 h81 hq82 _
  obtain ⟨rfl, E83⟩ := hq82
  have B84 : Ext h h81 := extTr B78 E83
  have B85 : Ext h9 h81 := extTr B79 E83
  show WlO _ _ _ _ _ _ _ _ _ _ _ _ _ _ _ _ _ _ [.int (1 : Int32)]
  refine Wl.ifN 361 at_358 (feq (by decide)).1 ?_
  refine Wl.aload 363 at_361 rfl rfl ?_
  refine Wl.bipush 365 (8 : Int32) at_363 (by decide) ?_
  refine Wl.iload 367 at_365 rfl ?_
  refine Wl.iload_n 368 at_367 rfl ?_
  refine Wl.iload 370 at_368 rfl ?_
  refine Wl.iload 372 at_370 rfl ?_
  refine Wl.iload 374 at_372 rfl ?_
  refine Wl.iload 376 at_374 rfl ?_
  refine Wl.iload 378 at_376 rfl ?_
  refine Wl.iload 380 at_378 rfl ?_
  refine Wl.iload 382 at_380 rfl ?_
  refine Wl.static 385 (argsL := [.ref s39, .int (8 : Int32), .int (11 : Int32), .int (3 : Int32), .int p0, .int p1, .int p2, .int (1 : Int32), .int n0, .int n1, .int n2]) at_382 (w240 hw) (w241 hw) (w2 hw) (w242 hw) (show parseMethodDescriptor "(Ljava/lang/String;IIICCCICCC)Z" = some ⟨[(.object "java/lang/String"), .int, .int, .int, .char, .char, .char, .int, .char, .char, .char], some .boolean⟩ by decide +kernel) rfl (okB_met hw hcs hfm (rs := [p0, p1, p2, (108 : Int32), (111 : Int32), (99 : Int32), (107 : Int32), (58 : Int32), (123 : Int32), n0, (125 : Int32)]) (n := 8) (((((S41.ext E59).ext E65).ext E71).ext E77).ext E83) (nle rfl) (by decide) (by decide) lp0 lp1 lp2 ln0 ln1 ln2 (show (123 : Int32) = expI (8 : Int32) (3 : Int32) p0 p1 p2 (1 : Int32) n0 n1 n2 by rw [expI, if_neg (by decide), if_pos (by decide)])) (fun _ q => nomatch q) rfl rfl rfl (by decide) ⟨⟨nle rfl, nle rfl⟩, nle rfl, nle rfl⟩ ?_
  intro v86 h87 hq88 _
  obtain ⟨rfl, rfl⟩ := hq88
  show WlO _ _ _ _ _ _ _ _ _ _ _ _ _ _ _ _ _ _ [.int (1 : Int32)]
  refine Wl.ifN 388 at_385 (feq (by decide)).1 ?_
  refine Wl.aload 390 at_388 rfl rfl ?_
  refine Wl.bipush 392 (9 : Int32) at_390 (by decide) ?_
  refine Wl.iload 394 at_392 rfl ?_
  refine Wl.iload_n 395 at_394 rfl ?_
  refine Wl.iload 397 at_395 rfl ?_
  refine Wl.iload 399 at_397 rfl ?_
  refine Wl.iload 401 at_399 rfl ?_
  refine Wl.iload 403 at_401 rfl ?_
  refine Wl.iload 405 at_403 rfl ?_
  refine Wl.iload 407 at_405 rfl ?_
  refine Wl.iload 409 at_407 rfl ?_
  refine Wl.static 412 (argsL := [.ref s39, .int (9 : Int32), .int (11 : Int32), .int (3 : Int32), .int p0, .int p1, .int p2, .int (1 : Int32), .int n0, .int n1, .int n2]) at_409 (w240 hw) (w241 hw) (w2 hw) (w242 hw) (show parseMethodDescriptor "(Ljava/lang/String;IIICCCICCC)Z" = some ⟨[(.object "java/lang/String"), .int, .int, .int, .char, .char, .char, .int, .char, .char, .char], some .boolean⟩ by decide +kernel) rfl (okB_met hw hcs hfm (rs := [p0, p1, p2, (108 : Int32), (111 : Int32), (99 : Int32), (107 : Int32), (58 : Int32), (123 : Int32), n0, (125 : Int32)]) (n := 9) (((((S41.ext E59).ext E65).ext E71).ext E77).ext E83) (nle rfl) (by decide) (by decide) lp0 lp1 lp2 ln0 ln1 ln2 (show n0 = expI (9 : Int32) (3 : Int32) p0 p1 p2 (1 : Int32) n0 n1 n2 by rw [expI, if_neg (by decide), if_neg (by decide), if_pos (by decide), if_pos (by decide)])) (fun _ q => nomatch q) rfl rfl rfl (by decide) ⟨⟨nle rfl, nle rfl⟩, nle rfl, nle rfl⟩ ?_
  intro v89 h90 hq91 _
  obtain ⟨rfl, rfl⟩ := hq91
  show WlO _ _ _ _ _ _ _ _ _ _ _ _ _ _ _ _ _ _ [.int (1 : Int32)]
  refine Wl.ifN 415 at_412 (feq (by decide)).1 ?_
  refine Wl.aload 417 at_415 rfl rfl ?_
  refine Wl.bipush 419 (10 : Int32) at_417 (by decide) ?_
  refine Wl.iload 421 at_419 rfl ?_
  refine Wl.iload_n 422 at_421 rfl ?_
  refine Wl.iload 424 at_422 rfl ?_
  refine Wl.iload 426 at_424 rfl ?_
  refine Wl.iload 428 at_426 rfl ?_
  refine Wl.iload 430 at_428 rfl ?_
  refine Wl.iload 432 at_430 rfl ?_
  refine Wl.iload 434 at_432 rfl ?_
  refine Wl.iload 436 at_434 rfl ?_
  refine Wl.static 439 (argsL := [.ref s39, .int (10 : Int32), .int (11 : Int32), .int (3 : Int32), .int p0, .int p1, .int p2, .int (1 : Int32), .int n0, .int n1, .int n2]) at_436 (w240 hw) (w241 hw) (w2 hw) (w242 hw) (show parseMethodDescriptor "(Ljava/lang/String;IIICCCICCC)Z" = some ⟨[(.object "java/lang/String"), .int, .int, .int, .char, .char, .char, .int, .char, .char, .char], some .boolean⟩ by decide +kernel) rfl (okB_met hw hcs hfm (rs := [p0, p1, p2, (108 : Int32), (111 : Int32), (99 : Int32), (107 : Int32), (58 : Int32), (123 : Int32), n0, (125 : Int32)]) (n := 10) (((((S41.ext E59).ext E65).ext E71).ext E77).ext E83) (nle rfl) (by decide) (by decide) lp0 lp1 lp2 ln0 ln1 ln2 (show (125 : Int32) = expI (10 : Int32) (3 : Int32) p0 p1 p2 (1 : Int32) n0 n1 n2 by rw [expI, if_neg (by decide), if_neg (by decide), if_neg (by decide)])) (fun _ q => nomatch q) rfl rfl rfl (by decide) ⟨⟨nle rfl, nle rfl⟩, nle rfl, nle rfl⟩ ?_
  intro v92 h93 hq94 _
  obtain ⟨rfl, rfl⟩ := hq94
  show WlO _ _ _ _ _ _ _ _ _ _ _ _ _ _ _ _ _ _ [.int (1 : Int32)]
  refine Wl.ifN 442 at_439 (feq (by decide)).1 ?_
  refine Wl.aload 444 at_442 rfl rfl ?_
  refine Wl.bipush 446 (11 : Int32) at_444 (by decide) ?_
  refine Wl.iload 448 at_446 rfl ?_
  refine Wl.iload_n 449 at_448 rfl ?_
  refine Wl.iload 451 at_449 rfl ?_
  refine Wl.iload 453 at_451 rfl ?_
  refine Wl.iload 455 at_453 rfl ?_
  refine Wl.iload 457 at_455 rfl ?_
  refine Wl.iload 459 at_457 rfl ?_
  refine Wl.iload 461 at_459 rfl ?_
  refine Wl.iload 463 at_461 rfl ?_
  refine Wl.static 466 (argsL := [.ref s39, .int (11 : Int32), .int (11 : Int32), .int (3 : Int32), .int p0, .int p1, .int p2, .int (1 : Int32), .int n0, .int n1, .int n2]) at_463 (w240 hw) (w241 hw) (w2 hw) (w242 hw) (show parseMethodDescriptor "(Ljava/lang/String;IIICCCICCC)Z" = some ⟨[(.object "java/lang/String"), .int, .int, .int, .char, .char, .char, .int, .char, .char, .char], some .boolean⟩ by decide +kernel) rfl (okC_met hw (by decide)) (fun _ q => nomatch q) rfl rfl rfl (by decide) ⟨⟨nle rfl, nle rfl⟩, nle rfl, nle rfl⟩ ?_
  intro v95 h96 hq97 _
  obtain ⟨rfl, rfl⟩ := hq97
  show WlO _ _ _ _ _ _ _ _ _ _ _ _ _ _ _ _ _ _ [.int (1 : Int32)]
  refine Wl.ifN 469 at_466 (feq (by decide)).1 ?_
  refine Wl.aload 471 at_469 rfl rfl ?_
  refine Wl.bipush 473 (12 : Int32) at_471 (by decide) ?_
  refine Wl.iload 475 at_473 rfl ?_
  refine Wl.iload_n 476 at_475 rfl ?_
  refine Wl.iload 478 at_476 rfl ?_
  refine Wl.iload 480 at_478 rfl ?_
  refine Wl.iload 482 at_480 rfl ?_
  refine Wl.iload 484 at_482 rfl ?_
  refine Wl.iload 486 at_484 rfl ?_
  refine Wl.iload 488 at_486 rfl ?_
  refine Wl.iload 490 at_488 rfl ?_
  refine Wl.static 493 (argsL := [.ref s39, .int (12 : Int32), .int (11 : Int32), .int (3 : Int32), .int p0, .int p1, .int p2, .int (1 : Int32), .int n0, .int n1, .int n2]) at_490 (w240 hw) (w241 hw) (w2 hw) (w242 hw) (show parseMethodDescriptor "(Ljava/lang/String;IIICCCICCC)Z" = some ⟨[(.object "java/lang/String"), .int, .int, .int, .char, .char, .char, .int, .char, .char, .char], some .boolean⟩ by decide +kernel) rfl (okC_met hw (by decide)) (fun _ q => nomatch q) rfl rfl rfl (by decide) ⟨⟨nle rfl, nle rfl⟩, nle rfl, nle rfl⟩ ?_
  intro v98 h99 hq100 _
  obtain ⟨rfl, rfl⟩ := hq100
  show WlO _ _ _ _ _ _ _ _ _ _ _ _ _ _ _ _ _ _ [.int (1 : Int32)]
  refine Wl.ifN 496 at_493 (feq (by decide)).1 ?_
  refine Wl.iconst 497 (1 : Int32) at_496 (by decide) ?_
  refine Wl.goto 501 at_497 ?_
  exact Wl.ireturn at_501 rfl rfl (by simp) (nle rfl) (nle rfl) rfl
set_option maxRecDepth 65536 in
set_option maxHeartbeats 40000000 in
theorem law_t32 {l : Launch} {Z : State} {a0 : Array Value} (hw : ∀ d ∈ tables_1, d.before a0 Z = true) (hcs : CSon Z) (hfm : Fmt Z) {as : Array Value} {h : Heap} {i0 i1 i2 p0 p1 p2 n0 n1 n2 : Int32} (lp0 : Lat p0) (lp1 : Lat p1) (lp2 : Lat p2) (ln0 : Lat n0) (ln1 : Lat n1) (ln2 : Lat n2) (p0123 : p0 ≠ 123) (p0125 : p0 ≠ 125) (p1123 : p1 ≠ 123) (p1125 : p1 ≠ 125) (p2123 : p2 ≠ 123) (p2125 : p2 ≠ 125) (hn0 : ¬ n0 = (125 : Int32)) :
    Wl l Z a0 consts_1 x code maxLocals ret room_1 as (fun v h' => v = some (.int 1)) [] h 0 0 80 #[.val (.int i0), .val (.int i1), .val (.int i2), .val (.int (3 : Int32)), .val (.int (2 : Int32)), .val (.int p0), .val (.int p1), .val (.int p2), .val (.int n0), .val (.int n1), .val (.int n2), .unset, .unset, .unset, .unset, .unset] [] := by
  refine Wl.iload_n 81 at_80 rfl ?_
  refine Wl.iload 83 at_81 rfl ?_
  refine Wl.iload 85 at_83 rfl ?_
  refine Wl.iload 87 at_85 rfl ?_
  refine Wl.static 90 (argsL := [.int (3 : Int32), .int p0, .int p1, .int p2]) at_87 (w4 hw) (w5 hw) (w2 hw) (w6 hw) (show parseMethodDescriptor "(ICCC)Ljava/lang/String;" = some ⟨[.int, .char, .char, .char], some (.object "java/lang/String")⟩ by decide +kernel) rfl (mk3_met hw hcs lp0 lp1 lp2) (fun _ q => nomatch q) rfl rfl rfl (by decide) ⟨⟨nle rfl, nle rfl⟩, nle rfl, nle rfl⟩ ?_
  intro v1 h2 hq3 _
  obtain ⟨a4, rfl, E5, S6⟩ := hq3
  have B7 : Ext h h2 := E5
  show WlO _ _ _ _ _ _ _ _ _ _ _ _ _ _ _ _ _ _ [.ref a4]
  refine Wl.astore 92 #[.val (.int i0), .val (.int i1), .val (.int i2), .val (.int (3 : Int32)), .val (.int (2 : Int32)), .val (.int p0), .val (.int p1), .val (.int p2), .val (.int n0), .val (.int n1), .val (.int n2), .val (.ref a4), .unset, .unset, .unset, .unset] at_90 rfl rfl ?_
  refine Wl.iload 94 at_92 rfl ?_
  refine Wl.iload 96 at_94 rfl ?_
  refine Wl.iload 98 at_96 rfl ?_
  refine Wl.iload 100 at_98 rfl ?_
  refine Wl.static 103 (argsL := [.int (2 : Int32), .int n0, .int n1, .int n2]) at_100 (w4 hw) (w5 hw) (w2 hw) (w6 hw) (show parseMethodDescriptor "(ICCC)Ljava/lang/String;" = some ⟨[.int, .char, .char, .char], some (.object "java/lang/String")⟩ by decide +kernel) rfl (mk2_met hw hcs ln0 ln1 ln2) (fun _ q => nomatch q) rfl rfl rfl (by decide) ⟨⟨nle rfl, nle rfl⟩, nle rfl, nle rfl⟩ ?_
  intro v8 h9 hq10 _
  obtain ⟨a11, rfl, E12, S13⟩ := hq10
  have B14 : Ext h h9 := extTr B7 E12
  show WlO _ _ _ _ _ _ _ _ _ _ _ _ _ _ _ _ _ _ [.ref a11]
  refine Wl.astore 105 #[.val (.int i0), .val (.int i1), .val (.int i2), .val (.int (3 : Int32)), .val (.int (2 : Int32)), .val (.int p0), .val (.int p1), .val (.int p2), .val (.int n0), .val (.int n1), .val (.int n2), .val (.ref a4), .val (.ref a11), .unset, .unset, .unset] at_103 rfl rfl ?_
  refine Wl.new 108 at_105 (w51 hw) (w52 hw) (w53 hw) (nle rfl) (nle rfl) ?_
  intro a15 h16 q17 E18 X19 D20
  have z21 : h.size ≤ a15 := Nat.le_trans B14.1 (Nat.le_of_eq q17.symm)
  have z22 : h9.size ≤ a15 := Nat.le_of_eq q17.symm
  have ne23 : a4 ≠ a15 := Nat.ne_of_lt (by rw [q17]; exact (((S6).exa.ext E12)).lt)
  have ne24 : a11 ≠ a15 := Nat.ne_of_lt (by rw [q17]; exact ((S13).exa).lt)
  have B25 : Ext h h16 := extTr B14 E18
  have B26 : Ext h9 h16 := E18
  have F27 : Fld Z h16 a15 "com/example/portunus/portunus/LockKeys" "prefix" "Ljava/lang/String;" (.null) := D20 (Or.inr (w107 hw)) (ty := (.object "java/lang/String")) (by decide)
  refine Wl.dup 109 at_108 rfl ?_
  refine Wl.aload 111 at_109 rfl rfl ?_
  refine Wl.special 114 (argsL := [.ref a4]) at_111 (w54 hw) (w55 hw) (w53 hw) (w56 hw) (show parseMethodDescriptor "(Ljava/lang/String;)V" = some ⟨[(.object "java/lang/String")], none⟩ by decide +kernel) rfl (keys_met hw hcs X19 F27 (cs := [p0, p1, p2]) ((S6.ext E12).ext E18) (neC p0123 (neC p1123 (neC p2123 neN))) (neC p0125 (neC p1125 (neC p2125 neN)))) (allS (List.mem_of_getElem? (i := 0) rfl) (fun _ q => nomatch q)) rfl rfl rfl rfl (by decide) ⟨⟨nle rfl, nle rfl⟩, nle rfl, nle rfl⟩ ?_
  intro v28 h29 hq30 _
  obtain ⟨rfl, K31, X32, F33⟩ := hq30
  have B34 : Ext h h29 := extKeep B25 K31 (allS z21 all0)
  have B35 : Ext h9 h29 := extKeep B26 K31 (allS z22 all0)
  show WlO _ _ _ _ _ _ _ _ _ _ _ _ _ _ _ _ _ _ [.ref a15]
  refine Wl.astore 116 #[.val (.int i0), .val (.int i1), .val (.int i2), .val (.int (3 : Int32)), .val (.int (2 : Int32)), .val (.int p0), .val (.int p1), .val (.int p2), .val (.int n0), .val (.int n1), .val (.int n2), .val (.ref a4), .val (.ref a11), .val (.ref a15), .unset, .unset] at_114 rfl rfl ?_
  refine Wl.aload 118 at_116 rfl rfl ?_
  refine Wl.aload 120 at_118 rfl rfl ?_
  refine Wl.virtual 123 (argsL := [.ref a11]) at_120 (w108 hw) (w109 hw) (w111 hw) (w110 hw) (w53 hw) (w112 hw) (nf_sel (w111 hw) rfl) X32 (show parseMethodDescriptor "(Ljava/lang/String;)Ljava/lang/String;" = some ⟨[(.object "java/lang/String")], some (.object "java/lang/String")⟩ by decide +kernel) rfl (key_met hw hcs hfm (cs := [n0, n1]) (ps := [p0, p1, p2]) F33 ((S6.ext E12).ext B35) (nle rfl) (S13.ext B35) (by simp) (nle rfl) hn0 (nle rfl)) (fun _ q => nomatch q) rfl rfl rfl (by decide) ⟨⟨nle rfl, nle rfl⟩, nle rfl, nle rfl⟩ ?_
  intro v36 h37 hq38 _
  obtain ⟨s39, rfl, E40, S41⟩ := hq38
  have S41 : Stl Z h37 s39 [p0, p1, p2, (108 : Int32), (111 : Int32), (99 : Int32), (107 : Int32), (58 : Int32), (123 : Int32), n0, n1, (125 : Int32)] := S41
  have B42 : Ext h h37 := extTr B34 E40
  have B43 : Ext h9 h37 := extTr B35 E40
  show WlO _ _ _ _ _ _ _ _ _ _ _ _ _ _ _ _ _ _ [.ref s39]
  refine Wl.astore 125 #[.val (.int i0), .val (.int i1), .val (.int i2), .val (.int (3 : Int32)), .val (.int (2 : Int32)), .val (.int p0), .val (.int p1), .val (.int p2), .val (.int n0), .val (.int n1), .val (.int n2), .val (.ref a4), .val (.ref a11), .val (.ref a15), .val (.ref s39), .unset] at_123 rfl rfl ?_
  refine Wl.iload_n 126 at_125 rfl ?_
  refine Wl.iload 128 at_126 rfl ?_
  refine Wl.iadd 129 at_128 ?_
  show WlO _ _ _ _ _ _ _ _ _ _ _ _ _ _ _ _ _ _ [.int (5 : Int32)]
  refine Wl.bipush 131 (7 : Int32) at_129 (by decide) ?_
  refine Wl.iadd 132 at_131 ?_
  show WlO _ _ _ _ _ _ _ _ _ _ _ _ _ _ _ _ _ _ [.int (12 : Int32)]
  refine Wl.istore 134 #[.val (.int i0), .val (.int i1), .val (.int i2), .val (.int (3 : Int32)), .val (.int (2 : Int32)), .val (.int p0), .val (.int p1), .val (.int p2), .val (.int n0), .val (.int n1), .val (.int n2), .val (.ref a4), .val (.ref a11), .val (.ref a15), .val (.ref s39), .val (.int (12 : Int32))] at_132 rfl ?_
  refine Wl.aload 136 at_134 rfl rfl ?_
  refine Wl.ifnullN 139 at_136 ?_
  refine Wl.aload 141 at_139 rfl rfl ?_
  refine Wl.virtual 144 (argsL := []) at_141 (w239 hw) (w81 hw) (w83 hw) (w82 hw) (w9 hw) (w84 hw) (nf_sel (w83 hw) rfl) (S41).exa (show parseMethodDescriptor "()I" = some ⟨[], some .int⟩ by decide +kernel) rfl (len_met hw hcs S41) (fun _ q => nomatch q) rfl rfl rfl (by decide) ⟨⟨nle rfl, nle rfl⟩, nle rfl, nle rfl⟩ ?_
  intro v44 h45 hq46 _
  obtain ⟨rfl, rfl⟩ := hq46
  show WlO _ _ _ _ _ _ _ _ _ _ _ _ _ _ _ _ _ _ [.int (12 : Int32)]
  refine Wl.iload 146 at_144 rfl ?_
  refine Wl.icmpY 151 at_146 (teq (by decide)).1 ?_
  refine Wl.aload 153 at_151 rfl rfl ?_
  refine Wl.iconst 154 (0 : Int32) at_153 (by decide) ?_
  refine Wl.iload 156 at_154 rfl ?_
  refine Wl.iload_n 157 at_156 rfl ?_
  refine Wl.iload 159 at_157 rfl ?_
  refine Wl.iload 161 at_159 rfl ?_
  refine Wl.iload 163 at_161 rfl ?_
  refine Wl.iload 165 at_163 rfl ?_
  refine Wl.iload 167 at_165 rfl ?_
  refine Wl.iload 169 at_167 rfl ?_
  refine Wl.iload 171 at_169 rfl ?_
  refine Wl.static 174 (argsL := [.ref s39, .int (0 : Int32), .int (12 : Int32), .int (3 : Int32), .int p0, .int p1, .int p2, .int (2 : Int32), .int n0, .int n1, .int n2]) at_171 (w240 hw) (w241 hw) (w2 hw) (w242 hw) (show parseMethodDescriptor "(Ljava/lang/String;IIICCCICCC)Z" = some ⟨[(.object "java/lang/String"), .int, .int, .int, .char, .char, .char, .int, .char, .char, .char], some .boolean⟩ by decide +kernel) rfl (okB_met hw hcs hfm (rs := [p0, p1, p2, (108 : Int32), (111 : Int32), (99 : Int32), (107 : Int32), (58 : Int32), (123 : Int32), n0, n1, (125 : Int32)]) (n := 0) S41 (nle rfl) (by decide) (by decide) lp0 lp1 lp2 ln0 ln1 ln2 (show p0 = expI (0 : Int32) (3 : Int32) p0 p1 p2 (2 : Int32) n0 n1 n2 by rw [expI, if_pos (by decide), if_pos (by decide)])) (fun _ q => nomatch q) rfl rfl rfl (by decide) ⟨⟨nle rfl, nle rfl⟩, nle rfl, nle rfl⟩ ?_
  intro v47 h48 hq49 _
  obtain ⟨rfl, rfl⟩ := hq49
  show WlO _ _ _ _ _ _ _ _ _ _ _ _ _ _ _ _ _ _ [.int (1 : Int32)]
  refine Wl.ifN 177 at_174 (feq (by decide)).1 ?_
  refine Wl.aload 179 at_177 rfl rfl ?_
  refine Wl.iconst 180 (1 : Int32) at_179 (by decide) ?_
  refine Wl.iload 182 at_180 rfl ?_
  refine Wl.iload_n 183 at_182 rfl ?_
  refine Wl.iload 185 at_183 rfl ?_
  refine Wl.iload 187 at_185 rfl ?_
  refine Wl.iload 189 at_187 rfl ?_
  refine Wl.iload 191 at_189 rfl ?_
  refine Wl.iload 193 at_191 rfl ?_
  refine Wl.iload 195 at_193 rfl ?_
  refine Wl.iload 197 at_195 rfl ?_
  refine Wl.static 200 (argsL := [.ref s39, .int (1 : Int32), .int (12 : Int32), .int (3 : Int32), .int p0, .int p1, .int p2, .int (2 : Int32), .int n0, .int n1, .int n2]) at_197 (w240 hw) (w241 hw) (w2 hw) (w242 hw) (show parseMethodDescriptor "(Ljava/lang/String;IIICCCICCC)Z" = some ⟨[(.object "java/lang/String"), .int, .int, .int, .char, .char, .char, .int, .char, .char, .char], some .boolean⟩ by decide +kernel) rfl (okB_met hw hcs hfm (rs := [p0, p1, p2, (108 : Int32), (111 : Int32), (99 : Int32), (107 : Int32), (58 : Int32), (123 : Int32), n0, n1, (125 : Int32)]) (n := 1) S41 (nle rfl) (by decide) (by decide) lp0 lp1 lp2 ln0 ln1 ln2 (show p1 = expI (1 : Int32) (3 : Int32) p0 p1 p2 (2 : Int32) n0 n1 n2 by rw [expI, if_pos (by decide), if_neg (by decide), if_pos (by decide)])) (fun _ q => nomatch q) rfl rfl rfl (by decide) ⟨⟨nle rfl, nle rfl⟩, nle rfl, nle rfl⟩ ?_
  intro v50 h51 hq52 _
  obtain ⟨rfl, rfl⟩ := hq52
  show WlO _ _ _ _ _ _ _ _ _ _ _ _ _ _ _ _ _ _ [.int (1 : Int32)]
  refine Wl.ifN 203 at_200 (feq (by decide)).1 ?_
  refine Wl.aload 205 at_203 rfl rfl ?_
  refine Wl.iconst 206 (2 : Int32) at_205 (by decide) ?_
  refine Wl.iload 208 at_206 rfl ?_
  refine Wl.iload_n 209 at_208 rfl ?_
  refine Wl.iload 211 at_209 rfl ?_
  refine Wl.iload 213 at_211 rfl ?_
  refine Wl.iload 215 at_213 rfl ?_
  refine Wl.iload 217 at_215 rfl ?_
  refine Wl.iload 219 at_217 rfl ?_
  refine Wl.iload 221 at_219 rfl ?_
  refine Wl.iload 223 at_221 rfl ?_
  refine Wl.static 226 (argsL := [.ref s39, .int (2 : Int32), .int (12 : Int32), .int (3 : Int32), .int p0, .int p1, .int p2, .int (2 : Int32), .int n0, .int n1, .int n2]) at_223 (w240 hw) (w241 hw) (w2 hw) (w242 hw) (show parseMethodDescriptor "(Ljava/lang/String;IIICCCICCC)Z" = some ⟨[(.object "java/lang/String"), .int, .int, .int, .char, .char, .char, .int, .char, .char, .char], some .boolean⟩ by decide +kernel) rfl (okB_met hw hcs hfm (rs := [p0, p1, p2, (108 : Int32), (111 : Int32), (99 : Int32), (107 : Int32), (58 : Int32), (123 : Int32), n0, n1, (125 : Int32)]) (n := 2) S41 (nle rfl) (by decide) (by decide) lp0 lp1 lp2 ln0 ln1 ln2 (show p2 = expI (2 : Int32) (3 : Int32) p0 p1 p2 (2 : Int32) n0 n1 n2 by rw [expI, if_pos (by decide), if_neg (by decide), if_neg (by decide)])) (fun _ q => nomatch q) rfl rfl rfl (by decide) ⟨⟨nle rfl, nle rfl⟩, nle rfl, nle rfl⟩ ?_
  intro v53 h54 hq55 _
  obtain ⟨rfl, rfl⟩ := hq55
  show WlO _ _ _ _ _ _ _ _ _ _ _ _ _ _ _ _ _ _ [.int (1 : Int32)]
  refine Wl.ifN 229 at_226 (feq (by decide)).1 ?_
  refine Wl.aload 231 at_229 rfl rfl ?_
  refine Wl.iconst 232 (3 : Int32) at_231 (by decide) ?_
  refine Wl.iload 234 at_232 rfl ?_
  refine Wl.iload_n 235 at_234 rfl ?_
  refine Wl.iload 237 at_235 rfl ?_
  refine Wl.iload 239 at_237 rfl ?_
  refine Wl.iload 241 at_239 rfl ?_
  refine Wl.iload 243 at_241 rfl ?_
  refine Wl.iload 245 at_243 rfl ?_
  refine Wl.iload 247 at_245 rfl ?_
  refine Wl.iload 249 at_247 rfl ?_
  refine Wl.static 252 (argsL := [.ref s39, .int (3 : Int32), .int (12 : Int32), .int (3 : Int32), .int p0, .int p1, .int p2, .int (2 : Int32), .int n0, .int n1, .int n2]) at_249 (w240 hw) (w241 hw) (w2 hw) (w242 hw) (show parseMethodDescriptor "(Ljava/lang/String;IIICCCICCC)Z" = some ⟨[(.object "java/lang/String"), .int, .int, .int, .char, .char, .char, .int, .char, .char, .char], some .boolean⟩ by decide +kernel) rfl (okA_met hw hcs hfm (rs := [p0, p1, p2, (108 : Int32), (111 : Int32), (99 : Int32), (107 : Int32), (58 : Int32), (123 : Int32), n0, n1, (125 : Int32)]) (n := 3) (j := 0) S41 (nle rfl) (by decide) (by decide) (by decide) (by decide) (nle rfl) rfl) (fun _ q => nomatch q) rfl rfl rfl (by decide) ⟨⟨nle rfl, nle rfl⟩, nle rfl, nle rfl⟩ ?_
  intro v56 h57 hq58 _
  obtain ⟨rfl, E59⟩ := hq58
  have B60 : Ext h h57 := extTr B42 E59
  have B61 : Ext h9 h57 := extTr B43 E59
  show WlO _ _ _ _ _ _ _ _ _ _ _ _ _ _ _ _ _ _ [.int (1 : Int32)]
  refine Wl.ifN 255 at_252 (feq (by decide)).1 ?_
  refine Wl.aload 257 at_255 rfl rfl ?_
  refine Wl.iconst 258 (4 : Int32) at_257 (by decide) ?_
  refine Wl.iload 260 at_258 rfl ?_
  refine Wl.iload_n 261 at_260 rfl ?_
  refine Wl.iload 263 at_261 rfl ?_
  refine Wl.iload 265 at_263 rfl ?_
  refine Wl.iload 267 at_265 rfl ?_
  refine Wl.iload 269 at_267 rfl ?_
  refine Wl.iload 271 at_269 rfl ?_
  refine Wl.iload 273 at_271 rfl ?_
  refine Wl.iload 275 at_273 rfl ?_
  refine Wl.static 278 (argsL := [.ref s39, .int (4 : Int32), .int (12 : Int32), .int (3 : Int32), .int p0, .int p1, .int p2, .int (2 : Int32), .int n0, .int n1, .int n2]) at_275 (w240 hw) (w241 hw) (w2 hw) (w242 hw) (show parseMethodDescriptor "(Ljava/lang/String;IIICCCICCC)Z" = some ⟨[(.object "java/lang/String"), .int, .int, .int, .char, .char, .char, .int, .char, .char, .char], some .boolean⟩ by decide +kernel) rfl (okA_met hw hcs hfm (rs := [p0, p1, p2, (108 : Int32), (111 : Int32), (99 : Int32), (107 : Int32), (58 : Int32), (123 : Int32), n0, n1, (125 : Int32)]) (n := 4) (j := 1) (S41.ext E59) (nle rfl) (by decide) (by decide) (by decide) (by decide) (nle rfl) rfl) (fun _ q => nomatch q) rfl rfl rfl (by decide) ⟨⟨nle rfl, nle rfl⟩, nle rfl, nle rfl⟩ ?_
  intro v62 h63 hq64 _
  obtain ⟨rfl, E65⟩ := hq64
  have B66 : Ext h h63 := extTr B60 E65
  have B67 : Ext h9 h63 := extTr B61 E65
  show WlO _ _ _ _ _ _ _ _ _ _ _ _ _ _ _ _ _ _ [.int (1 : Int32)]
  refine Wl.ifN 281 at_278 (feq (by decide)).1 ?_
  refine Wl.aload 283 at_281 rfl rfl ?_
  refine Wl.iconst 284 (5 : Int32) at_283 (by decide) ?_
  refine Wl.iload 286 at_284 rfl ?_
  refine Wl.iload_n 287 at_286 rfl ?_
  refine Wl.iload 289 at_287 rfl ?_
  refine Wl.iload 291 at_289 rfl ?_
  refine Wl.iload 293 at_291 rfl ?_
  refine Wl.iload 295 at_293 rfl ?_
  refine Wl.iload 297 at_295 rfl ?_
  refine Wl.iload 299 at_297 rfl ?_
  refine Wl.iload 301 at_299 rfl ?_
  refine Wl.static 304 (argsL := [.ref s39, .int (5 : Int32), .int (12 : Int32), .int (3 : Int32), .int p0, .int p1, .int p2, .int (2 : Int32), .int n0, .int n1, .int n2]) at_301 (w240 hw) (w241 hw) (w2 hw) (w242 hw) (show parseMethodDescriptor "(Ljava/lang/String;IIICCCICCC)Z" = some ⟨[(.object "java/lang/String"), .int, .int, .int, .char, .char, .char, .int, .char, .char, .char], some .boolean⟩ by decide +kernel) rfl (okA_met hw hcs hfm (rs := [p0, p1, p2, (108 : Int32), (111 : Int32), (99 : Int32), (107 : Int32), (58 : Int32), (123 : Int32), n0, n1, (125 : Int32)]) (n := 5) (j := 2) ((S41.ext E59).ext E65) (nle rfl) (by decide) (by decide) (by decide) (by decide) (nle rfl) rfl) (fun _ q => nomatch q) rfl rfl rfl (by decide) ⟨⟨nle rfl, nle rfl⟩, nle rfl, nle rfl⟩ ?_
  intro v68 h69 hq70 _
  obtain ⟨rfl, E71⟩ := hq70
  have B72 : Ext h h69 := extTr B66 E71
  have B73 : Ext h9 h69 := extTr B67 E71
  show WlO _ _ _ _ _ _ _ _ _ _ _ _ _ _ _ _ _ _ [.int (1 : Int32)]
  refine Wl.ifN 307 at_304 (feq (by decide)).1 ?_
  refine Wl.aload 309 at_307 rfl rfl ?_
  refine Wl.bipush 311 (6 : Int32) at_309 (by decide) ?_
  refine Wl.iload 313 at_311 rfl ?_
  refine Wl.iload_n 314 at_313 rfl ?_
  refine Wl.iload 316 at_314 rfl ?_
  refine Wl.iload 318 at_316 rfl ?_
  refine Wl.iload 320 at_318 rfl ?_
  refine Wl.iload 322 at_320 rfl ?_
  refine Wl.iload 324 at_322 rfl ?_
  refine Wl.iload 326 at_324 rfl ?_
  refine Wl.iload 328 at_326 rfl ?_
  refine Wl.static 331 (argsL := [.ref s39, .int (6 : Int32), .int (12 : Int32), .int (3 : Int32), .int p0, .int p1, .int p2, .int (2 : Int32), .int n0, .int n1, .int n2]) at_328 (w240 hw) (w241 hw) (w2 hw) (w242 hw) (show parseMethodDescriptor "(Ljava/lang/String;IIICCCICCC)Z" = some ⟨[(.object "java/lang/String"), .int, .int, .int, .char, .char, .char, .int, .char, .char, .char], some .boolean⟩ by decide +kernel) rfl (okA_met hw hcs hfm (rs := [p0, p1, p2, (108 : Int32), (111 : Int32), (99 : Int32), (107 : Int32), (58 : Int32), (123 : Int32), n0, n1, (125 : Int32)]) (n := 6) (j := 3) (((S41.ext E59).ext E65).ext E71) (nle rfl) (by decide) (by decide) (by decide) (by decide) (nle rfl) rfl) (fun _ q => nomatch q) rfl rfl rfl (by decide) ⟨⟨nle rfl, nle rfl⟩, nle rfl, nle rfl⟩ ?_
  intro v74 h75 hq76 _
  obtain ⟨rfl, E77⟩ := hq76
  have B78 : Ext h h75 := extTr B72 E77
  have B79 : Ext h9 h75 := extTr B73 E77
  show WlO _ _ _ _ _ _ _ _ _ _ _ _ _ _ _ _ _ _ [.int (1 : Int32)]
  refine Wl.ifN 334 at_331 (feq (by decide)).1 ?_
  refine Wl.aload 336 at_334 rfl rfl ?_
  refine Wl.bipush 338 (7 : Int32) at_336 (by decide) ?_
  refine Wl.iload 340 at_338 rfl ?_
  refine Wl.iload_n 341 at_340 rfl ?_
  refine Wl.iload 343 at_341 rfl ?_
  refine Wl.iload 345 at_343 rfl ?_
  refine Wl.iload 347 at_345 rfl ?_
  refine Wl.iload 349 at_347 rfl ?_
  refine Wl.iload 351 at_349 rfl ?_
  refine Wl.iload 353 at_351 rfl ?_
  refine Wl.iload 355 at_353 rfl ?_
  refine Wl.static 358 (argsL := [.ref s39, .int (7 : Int32), .int (12 : Int32), .int (3 : Int32), .int p0, .int p1, .int p2, .int (2 : Int32), .int n0, .int n1, .int n2]) at_355 (w240 hw) (w241 hw) (w2 hw) (w242 hw) (show parseMethodDescriptor "(Ljava/lang/String;IIICCCICCC)Z" = some ⟨[(.object "java/lang/String"), .int, .int, .int, .char, .char, .char, .int, .char, .char, .char], some .boolean⟩ by decide +kernel) rfl (okA_met hw hcs hfm (rs := [p0, p1, p2, (108 : Int32), (111 : Int32), (99 : Int32), (107 : Int32), (58 : Int32), (123 : Int32), n0, n1, (125 : Int32)]) (n := 7) (j := 4) ((((S41.ext E59).ext E65).ext E71).ext E77) (nle rfl) (by decide) (by decide) (by decide) (by decide) (nle rfl) rfl) (fun _ q => nomatch q) rfl rfl rfl (by decide) ⟨⟨nle rfl, nle rfl⟩, nle rfl, nle rfl⟩ ?_
  intro v80 h81 hq82 _
  obtain ⟨rfl, E83⟩ := hq82
  have B84 : Ext h h81 := extTr B78 E83
  have B85 : Ext h9 h81 := extTr B79 E83
  show WlO _ _ _ _ _ _ _ _ _ _ _ _ _ _ _ _ _ _ [.int (1 : Int32)]
  refine Wl.ifN 361 at_358 (feq (by decide)).1 ?_
  refine Wl.aload 363 at_361 rfl rfl ?_
  refine Wl.bipush 365 (8 : Int32) at_363 (by decide) ?_
  refine Wl.iload 367 at_365 rfl ?_
  refine Wl.iload_n 368 at_367 rfl ?_
  refine Wl.iload 370 at_368 rfl ?_
  refine Wl.iload 372 at_370 rfl ?_
  refine Wl.iload 374 at_372 rfl ?_
  refine Wl.iload 376 at_374 rfl ?_
  refine Wl.iload 378 at_376 rfl ?_
  refine Wl.iload 380 at_378 rfl ?_
  refine Wl.iload 382 at_380 rfl ?_
  refine Wl.static 385 (argsL := [.ref s39, .int (8 : Int32), .int (12 : Int32), .int (3 : Int32), .int p0, .int p1, .int p2, .int (2 : Int32), .int n0, .int n1, .int n2]) at_382 (w240 hw) (w241 hw) (w2 hw) (w242 hw) (show parseMethodDescriptor "(Ljava/lang/String;IIICCCICCC)Z" = some ⟨[(.object "java/lang/String"), .int, .int, .int, .char, .char, .char, .int, .char, .char, .char], some .boolean⟩ by decide +kernel) rfl (okB_met hw hcs hfm (rs := [p0, p1, p2, (108 : Int32), (111 : Int32), (99 : Int32), (107 : Int32), (58 : Int32), (123 : Int32), n0, n1, (125 : Int32)]) (n := 8) (((((S41.ext E59).ext E65).ext E71).ext E77).ext E83) (nle rfl) (by decide) (by decide) lp0 lp1 lp2 ln0 ln1 ln2 (show (123 : Int32) = expI (8 : Int32) (3 : Int32) p0 p1 p2 (2 : Int32) n0 n1 n2 by rw [expI, if_neg (by decide), if_pos (by decide)])) (fun _ q => nomatch q) rfl rfl rfl (by decide) ⟨⟨nle rfl, nle rfl⟩, nle rfl, nle rfl⟩ ?_
  intro v86 h87 hq88 _
  obtain ⟨rfl, rfl⟩ := hq88
  show WlO _ _ _ _ _ _ _ _ _ _ _ _ _ _ _ _ _ _ [.int (1 : Int32)]
  refine Wl.ifN 388 at_385 (feq (by decide)).1 ?_
  refine Wl.aload 390 at_388 rfl rfl ?_
  refine Wl.bipush 392 (9 : Int32) at_390 (by decide) ?_
  refine Wl.iload 394 at_392 rfl ?_
  refine Wl.iload_n 395 at_394 rfl ?_
  refine Wl.iload 397 at_395 rfl ?_
  refine Wl.iload 399 at_397 rfl ?_
  refine Wl.iload 401 at_399 rfl ?_
  refine Wl.iload 403 at_401 rfl ?_
  refine Wl.iload 405 at_403 rfl ?_
  refine Wl.iload 407 at_405 rfl ?_
  refine Wl.iload 409 at_407 rfl ?_
  refine Wl.static 412 (argsL := [.ref s39, .int (9 : Int32), .int (12 : Int32), .int (3 : Int32), .int p0, .int p1, .int p2, .int (2 : Int32), .int n0, .int n1, .int n2]) at_409 (w240 hw) (w241 hw) (w2 hw) (w242 hw) (show parseMethodDescriptor "(Ljava/lang/String;IIICCCICCC)Z" = some ⟨[(.object "java/lang/String"), .int, .int, .int, .char, .char, .char, .int, .char, .char, .char], some .boolean⟩ by decide +kernel) rfl (okB_met hw hcs hfm (rs := [p0, p1, p2, (108 : Int32), (111 : Int32), (99 : Int32), (107 : Int32), (58 : Int32), (123 : Int32), n0, n1, (125 : Int32)]) (n := 9) (((((S41.ext E59).ext E65).ext E71).ext E77).ext E83) (nle rfl) (by decide) (by decide) lp0 lp1 lp2 ln0 ln1 ln2 (show n0 = expI (9 : Int32) (3 : Int32) p0 p1 p2 (2 : Int32) n0 n1 n2 by rw [expI, if_neg (by decide), if_neg (by decide), if_pos (by decide), if_pos (by decide)])) (fun _ q => nomatch q) rfl rfl rfl (by decide) ⟨⟨nle rfl, nle rfl⟩, nle rfl, nle rfl⟩ ?_
  intro v89 h90 hq91 _
  obtain ⟨rfl, rfl⟩ := hq91
  show WlO _ _ _ _ _ _ _ _ _ _ _ _ _ _ _ _ _ _ [.int (1 : Int32)]
  refine Wl.ifN 415 at_412 (feq (by decide)).1 ?_
  refine Wl.aload 417 at_415 rfl rfl ?_
  refine Wl.bipush 419 (10 : Int32) at_417 (by decide) ?_
  refine Wl.iload 421 at_419 rfl ?_
  refine Wl.iload_n 422 at_421 rfl ?_
  refine Wl.iload 424 at_422 rfl ?_
  refine Wl.iload 426 at_424 rfl ?_
  refine Wl.iload 428 at_426 rfl ?_
  refine Wl.iload 430 at_428 rfl ?_
  refine Wl.iload 432 at_430 rfl ?_
  refine Wl.iload 434 at_432 rfl ?_
  refine Wl.iload 436 at_434 rfl ?_
  refine Wl.static 439 (argsL := [.ref s39, .int (10 : Int32), .int (12 : Int32), .int (3 : Int32), .int p0, .int p1, .int p2, .int (2 : Int32), .int n0, .int n1, .int n2]) at_436 (w240 hw) (w241 hw) (w2 hw) (w242 hw) (show parseMethodDescriptor "(Ljava/lang/String;IIICCCICCC)Z" = some ⟨[(.object "java/lang/String"), .int, .int, .int, .char, .char, .char, .int, .char, .char, .char], some .boolean⟩ by decide +kernel) rfl (okB_met hw hcs hfm (rs := [p0, p1, p2, (108 : Int32), (111 : Int32), (99 : Int32), (107 : Int32), (58 : Int32), (123 : Int32), n0, n1, (125 : Int32)]) (n := 10) (((((S41.ext E59).ext E65).ext E71).ext E77).ext E83) (nle rfl) (by decide) (by decide) lp0 lp1 lp2 ln0 ln1 ln2 (show n1 = expI (10 : Int32) (3 : Int32) p0 p1 p2 (2 : Int32) n0 n1 n2 by rw [expI, if_neg (by decide), if_neg (by decide), if_pos (by decide), if_neg (by decide), if_pos (by decide)])) (fun _ q => nomatch q) rfl rfl rfl (by decide) ⟨⟨nle rfl, nle rfl⟩, nle rfl, nle rfl⟩ ?_
  intro v92 h93 hq94 _
  obtain ⟨rfl, rfl⟩ := hq94
  show WlO _ _ _ _ _ _ _ _ _ _ _ _ _ _ _ _ _ _ [.int (1 : Int32)]
  refine Wl.ifN 442 at_439 (feq (by decide)).1 ?_
  refine Wl.aload 444 at_442 rfl rfl ?_
  refine Wl.bipush 446 (11 : Int32) at_444 (by decide) ?_
  refine Wl.iload 448 at_446 rfl ?_
  refine Wl.iload_n 449 at_448 rfl ?_
  refine Wl.iload 451 at_449 rfl ?_
  refine Wl.iload 453 at_451 rfl ?_
  refine Wl.iload 455 at_453 rfl ?_
  refine Wl.iload 457 at_455 rfl ?_
  refine Wl.iload 459 at_457 rfl ?_
  refine Wl.iload 461 at_459 rfl ?_
  refine Wl.iload 463 at_461 rfl ?_
  refine Wl.static 466 (argsL := [.ref s39, .int (11 : Int32), .int (12 : Int32), .int (3 : Int32), .int p0, .int p1, .int p2, .int (2 : Int32), .int n0, .int n1, .int n2]) at_463 (w240 hw) (w241 hw) (w2 hw) (w242 hw) (show parseMethodDescriptor "(Ljava/lang/String;IIICCCICCC)Z" = some ⟨[(.object "java/lang/String"), .int, .int, .int, .char, .char, .char, .int, .char, .char, .char], some .boolean⟩ by decide +kernel) rfl (okB_met hw hcs hfm (rs := [p0, p1, p2, (108 : Int32), (111 : Int32), (99 : Int32), (107 : Int32), (58 : Int32), (123 : Int32), n0, n1, (125 : Int32)]) (n := 11) (((((S41.ext E59).ext E65).ext E71).ext E77).ext E83) (nle rfl) (by decide) (by decide) lp0 lp1 lp2 ln0 ln1 ln2 (show (125 : Int32) = expI (11 : Int32) (3 : Int32) p0 p1 p2 (2 : Int32) n0 n1 n2 by rw [expI, if_neg (by decide), if_neg (by decide), if_neg (by decide)])) (fun _ q => nomatch q) rfl rfl rfl (by decide) ⟨⟨nle rfl, nle rfl⟩, nle rfl, nle rfl⟩ ?_
  intro v95 h96 hq97 _
  obtain ⟨rfl, rfl⟩ := hq97
  show WlO _ _ _ _ _ _ _ _ _ _ _ _ _ _ _ _ _ _ [.int (1 : Int32)]
  refine Wl.ifN 469 at_466 (feq (by decide)).1 ?_
  refine Wl.aload 471 at_469 rfl rfl ?_
  refine Wl.bipush 473 (12 : Int32) at_471 (by decide) ?_
  refine Wl.iload 475 at_473 rfl ?_
  refine Wl.iload_n 476 at_475 rfl ?_
  refine Wl.iload 478 at_476 rfl ?_
  refine Wl.iload 480 at_478 rfl ?_
  refine Wl.iload 482 at_480 rfl ?_
  refine Wl.iload 484 at_482 rfl ?_
  refine Wl.iload 486 at_484 rfl ?_
  refine Wl.iload 488 at_486 rfl ?_
  refine Wl.iload 490 at_488 rfl ?_
  refine Wl.static 493 (argsL := [.ref s39, .int (12 : Int32), .int (12 : Int32), .int (3 : Int32), .int p0, .int p1, .int p2, .int (2 : Int32), .int n0, .int n1, .int n2]) at_490 (w240 hw) (w241 hw) (w2 hw) (w242 hw) (show parseMethodDescriptor "(Ljava/lang/String;IIICCCICCC)Z" = some ⟨[(.object "java/lang/String"), .int, .int, .int, .char, .char, .char, .int, .char, .char, .char], some .boolean⟩ by decide +kernel) rfl (okC_met hw (by decide)) (fun _ q => nomatch q) rfl rfl rfl (by decide) ⟨⟨nle rfl, nle rfl⟩, nle rfl, nle rfl⟩ ?_
  intro v98 h99 hq100 _
  obtain ⟨rfl, rfl⟩ := hq100
  show WlO _ _ _ _ _ _ _ _ _ _ _ _ _ _ _ _ _ _ [.int (1 : Int32)]
  refine Wl.ifN 496 at_493 (feq (by decide)).1 ?_
  refine Wl.iconst 497 (1 : Int32) at_496 (by decide) ?_
  refine Wl.goto 501 at_497 ?_
  exact Wl.ireturn at_501 rfl rfl (by simp) (nle rfl) (nle rfl) rfl
set_option maxRecDepth 65536 in
set_option maxHeartbeats 40000000 in
theorem law_t33 {l : Launch} {Z : State} {a0 : Array Value} (hw : ∀ d ∈ tables_1, d.before a0 Z = true) (hcs : CSon Z) (hfm : Fmt Z) {as : Array Value} {h : Heap} {i0 i1 i2 p0 p1 p2 n0 n1 n2 : Int32} (lp0 : Lat p0) (lp1 : Lat p1) (lp2 : Lat p2) (ln0 : Lat n0) (ln1 : Lat n1) (ln2 : Lat n2) (p0123 : p0 ≠ 123) (p0125 : p0 ≠ 125) (p1123 : p1 ≠ 123) (p1125 : p1 ≠ 125) (p2123 : p2 ≠ 123) (p2125 : p2 ≠ 125) (hn0 : ¬ n0 = (125 : Int32)) :
    Wl l Z a0 consts_1 x code maxLocals ret room_1 as (fun v h' => v = some (.int 1)) [] h 0 0 80 #[.val (.int i0), .val (.int i1), .val (.int i2), .val (.int (3 : Int32)), .val (.int (3 : Int32)), .val (.int p0), .val (.int p1), .val (.int p2), .val (.int n0), .val (.int n1), .val (.int n2), .unset, .unset, .unset, .unset, .unset] [] := by
  refine Wl.iload_n 81 at_80 rfl ?_
  refine Wl.iload 83 at_81 rfl ?_
  refine Wl.iload 85 at_83 rfl ?_
  refine Wl.iload 87 at_85 rfl ?_
  refine Wl.static 90 (argsL := [.int (3 : Int32), .int p0, .int p1, .int p2]) at_87 (w4 hw) (w5 hw) (w2 hw) (w6 hw) (show parseMethodDescriptor "(ICCC)Ljava/lang/String;" = some ⟨[.int, .char, .char, .char], some (.object "java/lang/String")⟩ by decide +kernel) rfl (mk3_met hw hcs lp0 lp1 lp2) (fun _ q => nomatch q) rfl rfl rfl (by decide) ⟨⟨nle rfl, nle rfl⟩, nle rfl, nle rfl⟩ ?_
  intro v1 h2 hq3 _
  obtain ⟨a4, rfl, E5, S6⟩ := hq3
  have B7 : Ext h h2 := E5
  show WlO _ _ _ _ _ _ _ _ _ _ _ _ _ _ _ _ _ _ [.ref a4]
  refine Wl.astore 92 #[.val (.int i0), .val (.int i1), .val (.int i2), .val (.int (3 : Int32)), .val (.int (3 : Int32)), .val (.int p0), .val (.int p1), .val (.int p2), .val (.int n0), .val (.int n1), .val (.int n2), .val (.ref a4), .unset, .unset, .unset, .unset] at_90 rfl rfl ?_
  refine Wl.iload 94 at_92 rfl ?_
  refine Wl.iload 96 at_94 rfl ?_
  refine Wl.iload 98 at_96 rfl ?_
  refine Wl.iload 100 at_98 rfl ?_
  refine Wl.static 103 (argsL := [.int (3 : Int32), .int n0, .int n1, .int n2]) at_100 (w4 hw) (w5 hw) (w2 hw) (w6 hw) (show parseMethodDescriptor "(ICCC)Ljava/lang/String;" = some ⟨[.int, .char, .char, .char], some (.object "java/lang/String")⟩ by decide +kernel) rfl (mk3_met hw hcs ln0 ln1 ln2) (fun _ q => nomatch q) rfl rfl rfl (by decide) ⟨⟨nle rfl, nle rfl⟩, nle rfl, nle rfl⟩ ?_
  intro v8 h9 hq10 _
  obtain ⟨a11, rfl, E12, S13⟩ := hq10
  have B14 : Ext h h9 := extTr B7 E12
  show WlO _ _ _ _ _ _ _ _ _ _ _ _ _ _ _ _ _ _ [.ref a11]
  refine Wl.astore 105 #[.val (.int i0), .val (.int i1), .val (.int i2), .val (.int (3 : Int32)), .val (.int (3 : Int32)), .val (.int p0), .val (.int p1), .val (.int p2), .val (.int n0), .val (.int n1), .val (.int n2), .val (.ref a4), .val (.ref a11), .unset, .unset, .unset] at_103 rfl rfl ?_
  refine Wl.new 108 at_105 (w51 hw) (w52 hw) (w53 hw) (nle rfl) (nle rfl) ?_
  intro a15 h16 q17 E18 X19 D20
  have z21 : h.size ≤ a15 := Nat.le_trans B14.1 (Nat.le_of_eq q17.symm)
  have z22 : h9.size ≤ a15 := Nat.le_of_eq q17.symm
  have ne23 : a4 ≠ a15 := Nat.ne_of_lt (by rw [q17]; exact (((S6).exa.ext E12)).lt)
  have ne24 : a11 ≠ a15 := Nat.ne_of_lt (by rw [q17]; exact ((S13).exa).lt)
  have B25 : Ext h h16 := extTr B14 E18
  have B26 : Ext h9 h16 := E18
  have F27 : Fld Z h16 a15 "com/example/portunus/portunus/LockKeys" "prefix" "Ljava/lang/String;" (.null) := D20 (Or.inr (w107 hw)) (ty := (.object "java/lang/String")) (by decide)
  refine Wl.dup 109 at_108 rfl ?_
  refine Wl.aload 111 at_109 rfl rfl ?_
  refine Wl.special 114 (argsL := [.ref a4]) at_111 (w54 hw) (w55 hw) (w53 hw) (w56 hw) (show parseMethodDescriptor "(Ljava/lang/String;)V" = some ⟨[(.object "java/lang/String")], none⟩ by decide +kernel) rfl (keys_met hw hcs X19 F27 (cs := [p0, p1, p2]) ((S6.ext E12).ext E18) (neC p0123 (neC p1123 (neC p2123 neN))) (neC p0125 (neC p1125 (neC p2125 neN)))) (allS (List.mem_of_getElem? (i := 0) rfl) (fun _ q => nomatch q)) rfl rfl rfl rfl (by decide) ⟨⟨nle rfl, nle rfl⟩, nle rfl, nle rfl⟩ ?_
  intro v28 h29 hq30 _
  obtain ⟨rfl, K31, X32, F33⟩ := hq30
  have B34 : Ext h h29 := extKeep B25 K31 (allS z21 all0)
  have B35 : Ext h9 h29 := extKeep B26 K31 (allS z22 all0)
  show WlO _ _ _ _ _ _ _ _ _ _ _ _ _ _ _ _ _ _ [.ref a15]
  refine Wl.astore 116 #[.val (.int i0), .val (.int i1), .val (.int i2), .val (.int (3 : Int32)), .val (.int (3 : Int32)), .val (.int p0), .val (.int p1), .val (.int p2), .val (.int n0), .val (.int n1), .val (.int n2), .val (.ref a4), .val (.ref a11), .val (.ref a15), .unset, .unset] at_114 rfl rfl ?_
  refine Wl.aload 118 at_116 rfl rfl ?_
  refine Wl.aload 120 at_118 rfl rfl ?_
  refine Wl.virtual 123 (argsL := [.ref a11]) at_120 (w108 hw) (w109 hw) (w111 hw) (w110 hw) (w53 hw) (w112 hw) (nf_sel (w111 hw) rfl) X32 (show parseMethodDescriptor "(Ljava/lang/String;)Ljava/lang/String;" = some ⟨[(.object "java/lang/String")], some (.object "java/lang/String")⟩ by decide +kernel) rfl (key_met hw hcs hfm (cs := [n0, n1, n2]) (ps := [p0, p1, p2]) F33 ((S6.ext E12).ext B35) (nle rfl) (S13.ext B35) (by simp) (nle rfl) hn0 (nle rfl)) (fun _ q => nomatch q) rfl rfl rfl (by decide) ⟨⟨nle rfl, nle rfl⟩, nle rfl, nle rfl⟩ ?_
  intro v36 h37 hq38 _
  obtain ⟨s39, rfl, E40, S41⟩ := hq38
  have S41 : Stl Z h37 s39 [p0, p1, p2, (108 : Int32), (111 : Int32), (99 : Int32), (107 : Int32), (58 : Int32), (123 : Int32), n0, n1, n2, (125 : Int32)] := S41
  have B42 : Ext h h37 := extTr B34 E40
  have B43 : Ext h9 h37 := extTr B35 E40
  show WlO _ _ _ _ _ _ _ _ _ _ _ _ _ _ _ _ _ _ [.ref s39]
  refine Wl.astore 125 #[.val (.int i0), .val (.int i1), .val (.int i2), .val (.int (3 : Int32)), .val (.int (3 : Int32)), .val (.int p0), .val (.int p1), .val (.int p2), .val (.int n0), .val (.int n1), .val (.int n2), .val (.ref a4), .val (.ref a11), .val (.ref a15), .val (.ref s39), .unset] at_123 rfl rfl ?_
  refine Wl.iload_n 126 at_125 rfl ?_
  refine Wl.iload 128 at_126 rfl ?_
  refine Wl.iadd 129 at_128 ?_
  show WlO _ _ _ _ _ _ _ _ _ _ _ _ _ _ _ _ _ _ [.int (6 : Int32)]
  refine Wl.bipush 131 (7 : Int32) at_129 (by decide) ?_
  refine Wl.iadd 132 at_131 ?_
  show WlO _ _ _ _ _ _ _ _ _ _ _ _ _ _ _ _ _ _ [.int (13 : Int32)]
  refine Wl.istore 134 #[.val (.int i0), .val (.int i1), .val (.int i2), .val (.int (3 : Int32)), .val (.int (3 : Int32)), .val (.int p0), .val (.int p1), .val (.int p2), .val (.int n0), .val (.int n1), .val (.int n2), .val (.ref a4), .val (.ref a11), .val (.ref a15), .val (.ref s39), .val (.int (13 : Int32))] at_132 rfl ?_
  refine Wl.aload 136 at_134 rfl rfl ?_
  refine Wl.ifnullN 139 at_136 ?_
  refine Wl.aload 141 at_139 rfl rfl ?_
  refine Wl.virtual 144 (argsL := []) at_141 (w239 hw) (w81 hw) (w83 hw) (w82 hw) (w9 hw) (w84 hw) (nf_sel (w83 hw) rfl) (S41).exa (show parseMethodDescriptor "()I" = some ⟨[], some .int⟩ by decide +kernel) rfl (len_met hw hcs S41) (fun _ q => nomatch q) rfl rfl rfl (by decide) ⟨⟨nle rfl, nle rfl⟩, nle rfl, nle rfl⟩ ?_
  intro v44 h45 hq46 _
  obtain ⟨rfl, rfl⟩ := hq46
  show WlO _ _ _ _ _ _ _ _ _ _ _ _ _ _ _ _ _ _ [.int (13 : Int32)]
  refine Wl.iload 146 at_144 rfl ?_
  refine Wl.icmpY 151 at_146 (teq (by decide)).1 ?_
  refine Wl.aload 153 at_151 rfl rfl ?_
  refine Wl.iconst 154 (0 : Int32) at_153 (by decide) ?_
  refine Wl.iload 156 at_154 rfl ?_
  refine Wl.iload_n 157 at_156 rfl ?_
  refine Wl.iload 159 at_157 rfl ?_
  refine Wl.iload 161 at_159 rfl ?_
  refine Wl.iload 163 at_161 rfl ?_
  refine Wl.iload 165 at_163 rfl ?_
  refine Wl.iload 167 at_165 rfl ?_
  refine Wl.iload 169 at_167 rfl ?_
  refine Wl.iload 171 at_169 rfl ?_
  refine Wl.static 174 (argsL := [.ref s39, .int (0 : Int32), .int (13 : Int32), .int (3 : Int32), .int p0, .int p1, .int p2, .int (3 : Int32), .int n0, .int n1, .int n2]) at_171 (w240 hw) (w241 hw) (w2 hw) (w242 hw) (show parseMethodDescriptor "(Ljava/lang/String;IIICCCICCC)Z" = some ⟨[(.object "java/lang/String"), .int, .int, .int, .char, .char, .char, .int, .char, .char, .char], some .boolean⟩ by decide +kernel) rfl (okB_met hw hcs hfm (rs := [p0, p1, p2, (108 : Int32), (111 : Int32), (99 : Int32), (107 : Int32), (58 : Int32), (123 : Int32), n0, n1, n2, (125 : Int32)]) (n := 0) S41 (nle rfl) (by decide) (by decide) lp0 lp1 lp2 ln0 ln1 ln2 (show p0 = expI (0 : Int32) (3 : Int32) p0 p1 p2 (3 : Int32) n0 n1 n2 by rw [expI, if_pos (by decide), if_pos (by decide)])) (fun _ q => nomatch q) rfl rfl rfl (by decide) ⟨⟨nle rfl, nle rfl⟩, nle rfl, nle rfl⟩ ?_
  intro v47 h48 hq49 _
  obtain ⟨rfl, rfl⟩ := hq49
  show WlO _ _ _ _ _ _ _ _ _ _ _ _ _ _ _ _ _ _ [.int (1 : Int32)]
  refine Wl.ifN 177 at_174 (feq (by decide)).1 ?_
  refine Wl.aload 179 at_177 rfl rfl ?_
  refine Wl.iconst 180 (1 : Int32) at_179 (by decide) ?_
  refine Wl.iload 182 at_180 rfl ?_
  refine Wl.iload_n 183 at_182 rfl ?_
  refine Wl.iload 185 at_183 rfl ?_
  refine Wl.iload 187 at_185 rfl ?_
  refine Wl.iload 189 at_187 rfl ?_
  refine Wl.iload 191 at_189 rfl ?_
  refine Wl.iload 193 at_191 rfl ?_
  refine Wl.iload 195 at_193 rfl ?_
  refine Wl.iload 197 at_195 rfl ?_
  refine Wl.static 200 (argsL := [.ref s39, .int (1 : Int32), .int (13 : Int32), .int (3 : Int32), .int p0, .int p1, .int p2, .int (3 : Int32), .int n0, .int n1, .int n2]) at_197 (w240 hw) (w241 hw) (w2 hw) (w242 hw) (show parseMethodDescriptor "(Ljava/lang/String;IIICCCICCC)Z" = some ⟨[(.object "java/lang/String"), .int, .int, .int, .char, .char, .char, .int, .char, .char, .char], some .boolean⟩ by decide +kernel) rfl (okB_met hw hcs hfm (rs := [p0, p1, p2, (108 : Int32), (111 : Int32), (99 : Int32), (107 : Int32), (58 : Int32), (123 : Int32), n0, n1, n2, (125 : Int32)]) (n := 1) S41 (nle rfl) (by decide) (by decide) lp0 lp1 lp2 ln0 ln1 ln2 (show p1 = expI (1 : Int32) (3 : Int32) p0 p1 p2 (3 : Int32) n0 n1 n2 by rw [expI, if_pos (by decide), if_neg (by decide), if_pos (by decide)])) (fun _ q => nomatch q) rfl rfl rfl (by decide) ⟨⟨nle rfl, nle rfl⟩, nle rfl, nle rfl⟩ ?_
  intro v50 h51 hq52 _
  obtain ⟨rfl, rfl⟩ := hq52
  show WlO _ _ _ _ _ _ _ _ _ _ _ _ _ _ _ _ _ _ [.int (1 : Int32)]
  refine Wl.ifN 203 at_200 (feq (by decide)).1 ?_
  refine Wl.aload 205 at_203 rfl rfl ?_
  refine Wl.iconst 206 (2 : Int32) at_205 (by decide) ?_
  refine Wl.iload 208 at_206 rfl ?_
  refine Wl.iload_n 209 at_208 rfl ?_
  refine Wl.iload 211 at_209 rfl ?_
  refine Wl.iload 213 at_211 rfl ?_
  refine Wl.iload 215 at_213 rfl ?_
  refine Wl.iload 217 at_215 rfl ?_
  refine Wl.iload 219 at_217 rfl ?_
  refine Wl.iload 221 at_219 rfl ?_
  refine Wl.iload 223 at_221 rfl ?_
  refine Wl.static 226 (argsL := [.ref s39, .int (2 : Int32), .int (13 : Int32), .int (3 : Int32), .int p0, .int p1, .int p2, .int (3 : Int32), .int n0, .int n1, .int n2]) at_223 (w240 hw) (w241 hw) (w2 hw) (w242 hw) (show parseMethodDescriptor "(Ljava/lang/String;IIICCCICCC)Z" = some ⟨[(.object "java/lang/String"), .int, .int, .int, .char, .char, .char, .int, .char, .char, .char], some .boolean⟩ by decide +kernel) rfl (okB_met hw hcs hfm (rs := [p0, p1, p2, (108 : Int32), (111 : Int32), (99 : Int32), (107 : Int32), (58 : Int32), (123 : Int32), n0, n1, n2, (125 : Int32)]) (n := 2) S41 (nle rfl) (by decide) (by decide) lp0 lp1 lp2 ln0 ln1 ln2 (show p2 = expI (2 : Int32) (3 : Int32) p0 p1 p2 (3 : Int32) n0 n1 n2 by rw [expI, if_pos (by decide), if_neg (by decide), if_neg (by decide)])) (fun _ q => nomatch q) rfl rfl rfl (by decide) ⟨⟨nle rfl, nle rfl⟩, nle rfl, nle rfl⟩ ?_
  intro v53 h54 hq55 _
  obtain ⟨rfl, rfl⟩ := hq55
  show WlO _ _ _ _ _ _ _ _ _ _ _ _ _ _ _ _ _ _ [.int (1 : Int32)]
  refine Wl.ifN 229 at_226 (feq (by decide)).1 ?_
  refine Wl.aload 231 at_229 rfl rfl ?_
  refine Wl.iconst 232 (3 : Int32) at_231 (by decide) ?_
  refine Wl.iload 234 at_232 rfl ?_
  refine Wl.iload_n 235 at_234 rfl ?_
  refine Wl.iload 237 at_235 rfl ?_
  refine Wl.iload 239 at_237 rfl ?_
  refine Wl.iload 241 at_239 rfl ?_
  refine Wl.iload 243 at_241 rfl ?_
  refine Wl.iload 245 at_243 rfl ?_
  refine Wl.iload 247 at_245 rfl ?_
  refine Wl.iload 249 at_247 rfl ?_
  refine Wl.static 252 (argsL := [.ref s39, .int (3 : Int32), .int (13 : Int32), .int (3 : Int32), .int p0, .int p1, .int p2, .int (3 : Int32), .int n0, .int n1, .int n2]) at_249 (w240 hw) (w241 hw) (w2 hw) (w242 hw) (show parseMethodDescriptor "(Ljava/lang/String;IIICCCICCC)Z" = some ⟨[(.object "java/lang/String"), .int, .int, .int, .char, .char, .char, .int, .char, .char, .char], some .boolean⟩ by decide +kernel) rfl (okA_met hw hcs hfm (rs := [p0, p1, p2, (108 : Int32), (111 : Int32), (99 : Int32), (107 : Int32), (58 : Int32), (123 : Int32), n0, n1, n2, (125 : Int32)]) (n := 3) (j := 0) S41 (nle rfl) (by decide) (by decide) (by decide) (by decide) (nle rfl) rfl) (fun _ q => nomatch q) rfl rfl rfl (by decide) ⟨⟨nle rfl, nle rfl⟩, nle rfl, nle rfl⟩ ?_
  intro v56 h57 hq58 _
  obtain ⟨rfl, E59⟩ := hq58
  have B60 : Ext h h57 := extTr B42 E59
  have B61 : Ext h9 h57 := extTr B43 E59
  show WlO _ _ _ _ _ _ _ _ _ _ _ _ _ _ _ _ _ _ [.int (1 : Int32)]
  refine Wl.ifN 255 at_252 (feq (by decide)).1 ?_
  refine Wl.aload 257 at_255 rfl rfl ?_
  refine Wl.iconst 258 (4 : Int32) at_257 (by decide) ?_
  refine Wl.iload 260 at_258 rfl ?_
  refine Wl.iload_n 261 at_260 rfl ?_
  refine Wl.iload 263 at_261 rfl ?_
  refine Wl.iload 265 at_263 rfl ?_
  refine Wl.iload 267 at_265 rfl ?_
  refine Wl.iload 269 at_267 rfl ?_
  refine Wl.iload 271 at_269 rfl ?_
  refine Wl.iload 273 at_271 rfl ?_
  refine Wl.iload 275 at_273 rfl ?_
  refine Wl.static 278 (argsL := [.ref s39, .int (4 : Int32), .int (13 : Int32), .int (3 : Int32), .int p0, .int p1, .int p2, .int (3 : Int32), .int n0, .int n1, .int n2]) at_275 (w240 hw) (w241 hw) (w2 hw) (w242 hw) (show parseMethodDescriptor "(Ljava/lang/String;IIICCCICCC)Z" = some ⟨[(.object "java/lang/String"), .int, .int, .int, .char, .char, .char, .int, .char, .char, .char], some .boolean⟩ by decide +kernel) rfl (okA_met hw hcs hfm (rs := [p0, p1, p2, (108 : Int32), (111 : Int32), (99 : Int32), (107 : Int32), (58 : Int32), (123 : Int32), n0, n1, n2, (125 : Int32)]) (n := 4) (j := 1) (S41.ext E59) (nle rfl) (by decide) (by decide) (by decide) (by decide) (nle rfl) rfl) (fun _ q => nomatch q) rfl rfl rfl (by decide) ⟨⟨nle rfl, nle rfl⟩, nle rfl, nle rfl⟩ ?_
  intro v62 h63 hq64 _
  obtain ⟨rfl, E65⟩ := hq64
  have B66 : Ext h h63 := extTr B60 E65
  have B67 : Ext h9 h63 := extTr B61 E65
  show WlO _ _ _ _ _ _ _ _ _ _ _ _ _ _ _ _ _ _ [.int (1 : Int32)]
  refine Wl.ifN 281 at_278 (feq (by decide)).1 ?_
  refine Wl.aload 283 at_281 rfl rfl ?_
  refine Wl.iconst 284 (5 : Int32) at_283 (by decide) ?_
  refine Wl.iload 286 at_284 rfl ?_
  refine Wl.iload_n 287 at_286 rfl ?_
  refine Wl.iload 289 at_287 rfl ?_
  refine Wl.iload 291 at_289 rfl ?_
  refine Wl.iload 293 at_291 rfl ?_
  refine Wl.iload 295 at_293 rfl ?_
  refine Wl.iload 297 at_295 rfl ?_
  refine Wl.iload 299 at_297 rfl ?_
  refine Wl.iload 301 at_299 rfl ?_
  refine Wl.static 304 (argsL := [.ref s39, .int (5 : Int32), .int (13 : Int32), .int (3 : Int32), .int p0, .int p1, .int p2, .int (3 : Int32), .int n0, .int n1, .int n2]) at_301 (w240 hw) (w241 hw) (w2 hw) (w242 hw) (show parseMethodDescriptor "(Ljava/lang/String;IIICCCICCC)Z" = some ⟨[(.object "java/lang/String"), .int, .int, .int, .char, .char, .char, .int, .char, .char, .char], some .boolean⟩ by decide +kernel) rfl (okA_met hw hcs hfm (rs := [p0, p1, p2, (108 : Int32), (111 : Int32), (99 : Int32), (107 : Int32), (58 : Int32), (123 : Int32), n0, n1, n2, (125 : Int32)]) (n := 5) (j := 2) ((S41.ext E59).ext E65) (nle rfl) (by decide) (by decide) (by decide) (by decide) (nle rfl) rfl) (fun _ q => nomatch q) rfl rfl rfl (by decide) ⟨⟨nle rfl, nle rfl⟩, nle rfl, nle rfl⟩ ?_
  intro v68 h69 hq70 _
  obtain ⟨rfl, E71⟩ := hq70
  have B72 : Ext h h69 := extTr B66 E71
  have B73 : Ext h9 h69 := extTr B67 E71
  show WlO _ _ _ _ _ _ _ _ _ _ _ _ _ _ _ _ _ _ [.int (1 : Int32)]
  refine Wl.ifN 307 at_304 (feq (by decide)).1 ?_
  refine Wl.aload 309 at_307 rfl rfl ?_
  refine Wl.bipush 311 (6 : Int32) at_309 (by decide) ?_
  refine Wl.iload 313 at_311 rfl ?_
  refine Wl.iload_n 314 at_313 rfl ?_
  refine Wl.iload 316 at_314 rfl ?_
  refine Wl.iload 318 at_316 rfl ?_
  refine Wl.iload 320 at_318 rfl ?_
  refine Wl.iload 322 at_320 rfl ?_
  refine Wl.iload 324 at_322 rfl ?_
  refine Wl.iload 326 at_324 rfl ?_
  refine Wl.iload 328 at_326 rfl ?_
  refine Wl.static 331 (argsL := [.ref s39, .int (6 : Int32), .int (13 : Int32), .int (3 : Int32), .int p0, .int p1, .int p2, .int (3 : Int32), .int n0, .int n1, .int n2]) at_328 (w240 hw) (w241 hw) (w2 hw) (w242 hw) (show parseMethodDescriptor "(Ljava/lang/String;IIICCCICCC)Z" = some ⟨[(.object "java/lang/String"), .int, .int, .int, .char, .char, .char, .int, .char, .char, .char], some .boolean⟩ by decide +kernel) rfl (okA_met hw hcs hfm (rs := [p0, p1, p2, (108 : Int32), (111 : Int32), (99 : Int32), (107 : Int32), (58 : Int32), (123 : Int32), n0, n1, n2, (125 : Int32)]) (n := 6) (j := 3) (((S41.ext E59).ext E65).ext E71) (nle rfl) (by decide) (by decide) (by decide) (by decide) (nle rfl) rfl) (fun _ q => nomatch q) rfl rfl rfl (by decide) ⟨⟨nle rfl, nle rfl⟩, nle rfl, nle rfl⟩ ?_
  intro v74 h75 hq76 _
  obtain ⟨rfl, E77⟩ := hq76
  have B78 : Ext h h75 := extTr B72 E77
  have B79 : Ext h9 h75 := extTr B73 E77
  show WlO _ _ _ _ _ _ _ _ _ _ _ _ _ _ _ _ _ _ [.int (1 : Int32)]
  refine Wl.ifN 334 at_331 (feq (by decide)).1 ?_
  refine Wl.aload 336 at_334 rfl rfl ?_
  refine Wl.bipush 338 (7 : Int32) at_336 (by decide) ?_
  refine Wl.iload 340 at_338 rfl ?_
  refine Wl.iload_n 341 at_340 rfl ?_
  refine Wl.iload 343 at_341 rfl ?_
  refine Wl.iload 345 at_343 rfl ?_
  refine Wl.iload 347 at_345 rfl ?_
  refine Wl.iload 349 at_347 rfl ?_
  refine Wl.iload 351 at_349 rfl ?_
  refine Wl.iload 353 at_351 rfl ?_
  refine Wl.iload 355 at_353 rfl ?_
  refine Wl.static 358 (argsL := [.ref s39, .int (7 : Int32), .int (13 : Int32), .int (3 : Int32), .int p0, .int p1, .int p2, .int (3 : Int32), .int n0, .int n1, .int n2]) at_355 (w240 hw) (w241 hw) (w2 hw) (w242 hw) (show parseMethodDescriptor "(Ljava/lang/String;IIICCCICCC)Z" = some ⟨[(.object "java/lang/String"), .int, .int, .int, .char, .char, .char, .int, .char, .char, .char], some .boolean⟩ by decide +kernel) rfl (okA_met hw hcs hfm (rs := [p0, p1, p2, (108 : Int32), (111 : Int32), (99 : Int32), (107 : Int32), (58 : Int32), (123 : Int32), n0, n1, n2, (125 : Int32)]) (n := 7) (j := 4) ((((S41.ext E59).ext E65).ext E71).ext E77) (nle rfl) (by decide) (by decide) (by decide) (by decide) (nle rfl) rfl) (fun _ q => nomatch q) rfl rfl rfl (by decide) ⟨⟨nle rfl, nle rfl⟩, nle rfl, nle rfl⟩ ?_
  intro v80 h81 hq82 _
  obtain ⟨rfl, E83⟩ := hq82
  have B84 : Ext h h81 := extTr B78 E83
  have B85 : Ext h9 h81 := extTr B79 E83
  show WlO _ _ _ _ _ _ _ _ _ _ _ _ _ _ _ _ _ _ [.int (1 : Int32)]
  refine Wl.ifN 361 at_358 (feq (by decide)).1 ?_
  refine Wl.aload 363 at_361 rfl rfl ?_
  refine Wl.bipush 365 (8 : Int32) at_363 (by decide) ?_
  refine Wl.iload 367 at_365 rfl ?_
  refine Wl.iload_n 368 at_367 rfl ?_
  refine Wl.iload 370 at_368 rfl ?_
  refine Wl.iload 372 at_370 rfl ?_
  refine Wl.iload 374 at_372 rfl ?_
  refine Wl.iload 376 at_374 rfl ?_
  refine Wl.iload 378 at_376 rfl ?_
  refine Wl.iload 380 at_378 rfl ?_
  refine Wl.iload 382 at_380 rfl ?_
  refine Wl.static 385 (argsL := [.ref s39, .int (8 : Int32), .int (13 : Int32), .int (3 : Int32), .int p0, .int p1, .int p2, .int (3 : Int32), .int n0, .int n1, .int n2]) at_382 (w240 hw) (w241 hw) (w2 hw) (w242 hw) (show parseMethodDescriptor "(Ljava/lang/String;IIICCCICCC)Z" = some ⟨[(.object "java/lang/String"), .int, .int, .int, .char, .char, .char, .int, .char, .char, .char], some .boolean⟩ by decide +kernel) rfl (okB_met hw hcs hfm (rs := [p0, p1, p2, (108 : Int32), (111 : Int32), (99 : Int32), (107 : Int32), (58 : Int32), (123 : Int32), n0, n1, n2, (125 : Int32)]) (n := 8) (((((S41.ext E59).ext E65).ext E71).ext E77).ext E83) (nle rfl) (by decide) (by decide) lp0 lp1 lp2 ln0 ln1 ln2 (show (123 : Int32) = expI (8 : Int32) (3 : Int32) p0 p1 p2 (3 : Int32) n0 n1 n2 by rw [expI, if_neg (by decide), if_pos (by decide)])) (fun _ q => nomatch q) rfl rfl rfl (by decide) ⟨⟨nle rfl, nle rfl⟩, nle rfl, nle rfl⟩ ?_
  intro v86 h87 hq88 _
  obtain ⟨rfl, rfl⟩ := hq88
  show WlO _ _ _ _ _ _ _ _ _ _ _ _ _ _ _ _ _ _ [.int (1 : Int32)]
  refine Wl.ifN 388 at_385 (feq (by decide)).1 ?_
  refine Wl.aload 390 at_388 rfl rfl ?_
  refine Wl.bipush 392 (9 : Int32) at_390 (by decide) ?_
  refine Wl.iload 394 at_392 rfl ?_
  refine Wl.iload_n 395 at_394 rfl ?_
  refine Wl.iload 397 at_395 rfl ?_
  refine Wl.iload 399 at_397 rfl ?_
  refine Wl.iload 401 at_399 rfl ?_
  refine Wl.iload 403 at_401 rfl ?_
  refine Wl.iload 405 at_403 rfl ?_
  refine Wl.iload 407 at_405 rfl ?_
  refine Wl.iload 409 at_407 rfl ?_
  refine Wl.static 412 (argsL := [.ref s39, .int (9 : Int32), .int (13 : Int32), .int (3 : Int32), .int p0, .int p1, .int p2, .int (3 : Int32), .int n0, .int n1, .int n2]) at_409 (w240 hw) (w241 hw) (w2 hw) (w242 hw) (show parseMethodDescriptor "(Ljava/lang/String;IIICCCICCC)Z" = some ⟨[(.object "java/lang/String"), .int, .int, .int, .char, .char, .char, .int, .char, .char, .char], some .boolean⟩ by decide +kernel) rfl (okB_met hw hcs hfm (rs := [p0, p1, p2, (108 : Int32), (111 : Int32), (99 : Int32), (107 : Int32), (58 : Int32), (123 : Int32), n0, n1, n2, (125 : Int32)]) (n := 9) (((((S41.ext E59).ext E65).ext E71).ext E77).ext E83) (nle rfl) (by decide) (by decide) lp0 lp1 lp2 ln0 ln1 ln2 (show n0 = expI (9 : Int32) (3 : Int32) p0 p1 p2 (3 : Int32) n0 n1 n2 by rw [expI, if_neg (by decide), if_neg (by decide), if_pos (by decide), if_pos (by decide)])) (fun _ q => nomatch q) rfl rfl rfl (by decide) ⟨⟨nle rfl, nle rfl⟩, nle rfl, nle rfl⟩ ?_
  intro v89 h90 hq91 _
  obtain ⟨rfl, rfl⟩ := hq91
  show WlO _ _ _ _ _ _ _ _ _ _ _ _ _ _ _ _ _ _ [.int (1 : Int32)]
  refine Wl.ifN 415 at_412 (feq (by decide)).1 ?_
  refine Wl.aload 417 at_415 rfl rfl ?_
  refine Wl.bipush 419 (10 : Int32) at_417 (by decide) ?_
  refine Wl.iload 421 at_419 rfl ?_
  refine Wl.iload_n 422 at_421 rfl ?_
  refine Wl.iload 424 at_422 rfl ?_
  refine Wl.iload 426 at_424 rfl ?_
  refine Wl.iload 428 at_426 rfl ?_
  refine Wl.iload 430 at_428 rfl ?_
  refine Wl.iload 432 at_430 rfl ?_
  refine Wl.iload 434 at_432 rfl ?_
  refine Wl.iload 436 at_434 rfl ?_
  refine Wl.static 439 (argsL := [.ref s39, .int (10 : Int32), .int (13 : Int32), .int (3 : Int32), .int p0, .int p1, .int p2, .int (3 : Int32), .int n0, .int n1, .int n2]) at_436 (w240 hw) (w241 hw) (w2 hw) (w242 hw) (show parseMethodDescriptor "(Ljava/lang/String;IIICCCICCC)Z" = some ⟨[(.object "java/lang/String"), .int, .int, .int, .char, .char, .char, .int, .char, .char, .char], some .boolean⟩ by decide +kernel) rfl (okB_met hw hcs hfm (rs := [p0, p1, p2, (108 : Int32), (111 : Int32), (99 : Int32), (107 : Int32), (58 : Int32), (123 : Int32), n0, n1, n2, (125 : Int32)]) (n := 10) (((((S41.ext E59).ext E65).ext E71).ext E77).ext E83) (nle rfl) (by decide) (by decide) lp0 lp1 lp2 ln0 ln1 ln2 (show n1 = expI (10 : Int32) (3 : Int32) p0 p1 p2 (3 : Int32) n0 n1 n2 by rw [expI, if_neg (by decide), if_neg (by decide), if_pos (by decide), if_neg (by decide), if_pos (by decide)])) (fun _ q => nomatch q) rfl rfl rfl (by decide) ⟨⟨nle rfl, nle rfl⟩, nle rfl, nle rfl⟩ ?_
  intro v92 h93 hq94 _
  obtain ⟨rfl, rfl⟩ := hq94
  show WlO _ _ _ _ _ _ _ _ _ _ _ _ _ _ _ _ _ _ [.int (1 : Int32)]
  refine Wl.ifN 442 at_439 (feq (by decide)).1 ?_
  refine Wl.aload 444 at_442 rfl rfl ?_
  refine Wl.bipush 446 (11 : Int32) at_444 (by decide) ?_
  refine Wl.iload 448 at_446 rfl ?_
  refine Wl.iload_n 449 at_448 rfl ?_
  refine Wl.iload 451 at_449 rfl ?_
  refine Wl.iload 453 at_451 rfl ?_
  refine Wl.iload 455 at_453 rfl ?_
  refine Wl.iload 457 at_455 rfl ?_
  refine Wl.iload 459 at_457 rfl ?_
  refine Wl.iload 461 at_459 rfl ?_
  refine Wl.iload 463 at_461 rfl ?_
  refine Wl.static 466 (argsL := [.ref s39, .int (11 : Int32), .int (13 : Int32), .int (3 : Int32), .int p0, .int p1, .int p2, .int (3 : Int32), .int n0, .int n1, .int n2]) at_463 (w240 hw) (w241 hw) (w2 hw) (w242 hw) (show parseMethodDescriptor "(Ljava/lang/String;IIICCCICCC)Z" = some ⟨[(.object "java/lang/String"), .int, .int, .int, .char, .char, .char, .int, .char, .char, .char], some .boolean⟩ by decide +kernel) rfl (okB_met hw hcs hfm (rs := [p0, p1, p2, (108 : Int32), (111 : Int32), (99 : Int32), (107 : Int32), (58 : Int32), (123 : Int32), n0, n1, n2, (125 : Int32)]) (n := 11) (((((S41.ext E59).ext E65).ext E71).ext E77).ext E83) (nle rfl) (by decide) (by decide) lp0 lp1 lp2 ln0 ln1 ln2 (show n2 = expI (11 : Int32) (3 : Int32) p0 p1 p2 (3 : Int32) n0 n1 n2 by rw [expI, if_neg (by decide), if_neg (by decide), if_pos (by decide), if_neg (by decide), if_neg (by decide)])) (fun _ q => nomatch q) rfl rfl rfl (by decide) ⟨⟨nle rfl, nle rfl⟩, nle rfl, nle rfl⟩ ?_
  intro v95 h96 hq97 _
  obtain ⟨rfl, rfl⟩ := hq97
  show WlO _ _ _ _ _ _ _ _ _ _ _ _ _ _ _ _ _ _ [.int (1 : Int32)]
  refine Wl.ifN 469 at_466 (feq (by decide)).1 ?_
  refine Wl.aload 471 at_469 rfl rfl ?_
  refine Wl.bipush 473 (12 : Int32) at_471 (by decide) ?_
  refine Wl.iload 475 at_473 rfl ?_
  refine Wl.iload_n 476 at_475 rfl ?_
  refine Wl.iload 478 at_476 rfl ?_
  refine Wl.iload 480 at_478 rfl ?_
  refine Wl.iload 482 at_480 rfl ?_
  refine Wl.iload 484 at_482 rfl ?_
  refine Wl.iload 486 at_484 rfl ?_
  refine Wl.iload 488 at_486 rfl ?_
  refine Wl.iload 490 at_488 rfl ?_
  refine Wl.static 493 (argsL := [.ref s39, .int (12 : Int32), .int (13 : Int32), .int (3 : Int32), .int p0, .int p1, .int p2, .int (3 : Int32), .int n0, .int n1, .int n2]) at_490 (w240 hw) (w241 hw) (w2 hw) (w242 hw) (show parseMethodDescriptor "(Ljava/lang/String;IIICCCICCC)Z" = some ⟨[(.object "java/lang/String"), .int, .int, .int, .char, .char, .char, .int, .char, .char, .char], some .boolean⟩ by decide +kernel) rfl (okB_met hw hcs hfm (rs := [p0, p1, p2, (108 : Int32), (111 : Int32), (99 : Int32), (107 : Int32), (58 : Int32), (123 : Int32), n0, n1, n2, (125 : Int32)]) (n := 12) (((((S41.ext E59).ext E65).ext E71).ext E77).ext E83) (nle rfl) (by decide) (by decide) lp0 lp1 lp2 ln0 ln1 ln2 (show (125 : Int32) = expI (12 : Int32) (3 : Int32) p0 p1 p2 (3 : Int32) n0 n1 n2 by rw [expI, if_neg (by decide), if_neg (by decide), if_neg (by decide)])) (fun _ q => nomatch q) rfl rfl rfl (by decide) ⟨⟨nle rfl, nle rfl⟩, nle rfl, nle rfl⟩ ?_
  intro v98 h99 hq100 _
  obtain ⟨rfl, rfl⟩ := hq100
  show WlO _ _ _ _ _ _ _ _ _ _ _ _ _ _ _ _ _ _ [.int (1 : Int32)]
  refine Wl.ifN 496 at_493 (feq (by decide)).1 ?_
  refine Wl.iconst 497 (1 : Int32) at_496 (by decide) ?_
  refine Wl.goto 501 at_497 ?_
  exact Wl.ireturn at_501 rfl rfl (by simp) (nle rfl) (nle rfl) rfl
set_option maxRecDepth 65536 in
set_option maxHeartbeats 40000000 in
theorem law_met {l : Launch} {Z : State} {a0 : Array Value} (hw : ∀ d ∈ tables_1, d.before a0 Z = true) (hcs : CSon Z) (hfm : Fmt Z) (i0 i1 i2 : Int32) :
    Met l Z consts_1 x code maxLocals ret tables_1 room_1 #[.int i0, .int i1, .int i2] Z.heap [] (fun v h' => v = some (.int 1)) := by
  generalize hh0 : Z.heap = h
  refine Met.of_walk (a0 := a0) (Ls := #[.val (.int i0), .val (.int i1), .val (.int i2), .unset, .unset, .unset, .unset, .unset, .unset, .unset, .unset, .unset, .unset, .unset, .unset, .unset]) (plainFor_of_name pn_4) (own_hEL hw) (Array.toList_inj.mp ((Jvm.Sym.argsToLocals_toList _ _).trans rfl)) ?_
  refine Wl.iload_n 1 at_0 rfl ?_
  refine Wl.iconst 2 (3 : Int32) at_1 (by decide) ?_
  refine Wl.iand 3 at_2 ?_
  refine Wl.istore_n 4 #[.val (.int i0), .val (.int i1), .val (.int i2), .val (.int (i2 &&& (3 : Int32))), .unset, .unset, .unset, .unset, .unset, .unset, .unset, .unset, .unset, .unset, .unset, .unset] at_3 rfl ?_
  refine Wl.iload_n 5 at_4 rfl ?_
  refine Wl.iconst 6 (2 : Int32) at_5 (by decide) ?_
  refine Wl.iushr 7 at_6 ?_
  refine Wl.iconst 8 (3 : Int32) at_7 (by decide) ?_
  refine Wl.iand 9 at_8 ?_
  refine Wl.iconst 10 (3 : Int32) at_9 (by decide) ?_
  refine Wl.irem 11 at_10 (by decide) ?_
  refine Wl.iconst 12 (1 : Int32) at_11 (by decide) ?_
  refine Wl.iadd 13 at_12 ?_
  refine Wl.istore 15 #[.val (.int i0), .val (.int i1), .val (.int i2), .val (.int (i2 &&& (3 : Int32))), .val (.int (((((i2).toUInt32 >>> ((2 : Int32) &&& 31).toUInt32).toInt32 &&& (3 : Int32)) % (3 : Int32)) + (1 : Int32))), .unset, .unset, .unset, .unset, .unset, .unset, .unset, .unset, .unset, .unset, .unset] at_13 rfl ?_
  refine Wl.iload_n 16 at_15 rfl ?_
  refine Wl.static 19 (argsL := [.int i0]) at_16 (w0 hw) (w1 hw) (w2 hw) (w3 hw) (show parseMethodDescriptor "(I)C" = some ⟨[.int], some .char⟩ by decide +kernel) rfl (pc_met hw) (fun _ q => nomatch q) rfl rfl rfl (by decide) ⟨⟨nle rfl, nle rfl⟩, nle rfl, nle rfl⟩ ?_
  intro v1 h2 hq3 _
  obtain ⟨z4, rfl, l5, a6, b7, rfl⟩ := hq3
  show WlO _ _ _ _ _ _ _ _ _ _ _ _ _ _ _ _ _ _ [.int z4]
  refine Wl.istore 21 #[.val (.int i0), .val (.int i1), .val (.int i2), .val (.int (i2 &&& (3 : Int32))), .val (.int (((((i2).toUInt32 >>> ((2 : Int32) &&& 31).toUInt32).toInt32 &&& (3 : Int32)) % (3 : Int32)) + (1 : Int32))), .val (.int z4), .unset, .unset, .unset, .unset, .unset, .unset, .unset, .unset, .unset, .unset] at_19 rfl ?_
  refine Wl.iload_n 22 at_21 rfl ?_
  refine Wl.bipush 24 (8 : Int32) at_22 (by decide) ?_
  refine Wl.iushr 25 at_24 ?_
  refine Wl.static 28 (argsL := [.int (((i0).toUInt32 >>> ((8 : Int32) &&& 31).toUInt32).toInt32)]) at_25 (w0 hw) (w1 hw) (w2 hw) (w3 hw) (show parseMethodDescriptor "(I)C" = some ⟨[.int], some .char⟩ by decide +kernel) rfl (pc_met hw) (fun _ q => nomatch q) rfl rfl rfl (by decide) ⟨⟨nle rfl, nle rfl⟩, nle rfl, nle rfl⟩ ?_
  intro v8 h9 hq10 _
  obtain ⟨z11, rfl, l12, a13, b14, rfl⟩ := hq10
  show WlO _ _ _ _ _ _ _ _ _ _ _ _ _ _ _ _ _ _ [.int z11]
  refine Wl.istore 30 #[.val (.int i0), .val (.int i1), .val (.int i2), .val (.int (i2 &&& (3 : Int32))), .val (.int (((((i2).toUInt32 >>> ((2 : Int32) &&& 31).toUInt32).toInt32 &&& (3 : Int32)) % (3 : Int32)) + (1 : Int32))), .val (.int z4), .val (.int z11), .unset, .unset, .unset, .unset, .unset, .unset, .unset, .unset, .unset] at_28 rfl ?_
  refine Wl.iload_n 31 at_30 rfl ?_
  refine Wl.bipush 33 (16 : Int32) at_31 (by decide) ?_
  refine Wl.iushr 34 at_33 ?_
  refine Wl.static 37 (argsL := [.int (((i0).toUInt32 >>> ((16 : Int32) &&& 31).toUInt32).toInt32)]) at_34 (w0 hw) (w1 hw) (w2 hw) (w3 hw) (show parseMethodDescriptor "(I)C" = some ⟨[.int], some .char⟩ by decide +kernel) rfl (pc_met hw) (fun _ q => nomatch q) rfl rfl rfl (by decide) ⟨⟨nle rfl, nle rfl⟩, nle rfl, nle rfl⟩ ?_
  intro v15 h16 hq17 _
  obtain ⟨z18, rfl, l19, a20, b21, rfl⟩ := hq17
  show WlO _ _ _ _ _ _ _ _ _ _ _ _ _ _ _ _ _ _ [.int z18]
  refine Wl.istore 39 #[.val (.int i0), .val (.int i1), .val (.int i2), .val (.int (i2 &&& (3 : Int32))), .val (.int (((((i2).toUInt32 >>> ((2 : Int32) &&& 31).toUInt32).toInt32 &&& (3 : Int32)) % (3 : Int32)) + (1 : Int32))), .val (.int z4), .val (.int z11), .val (.int z18), .unset, .unset, .unset, .unset, .unset, .unset, .unset, .unset] at_37 rfl ?_
  refine Wl.iload_n 40 at_39 rfl ?_
  refine Wl.sipush 43 (255 : Int32) at_40 (by decide) ?_
  refine Wl.iand 44 at_43 ?_
  refine Wl.i2c 45 at_44 ?_
  refine Wl.istore 47 #[.val (.int i0), .val (.int i1), .val (.int i2), .val (.int (i2 &&& (3 : Int32))), .val (.int (((((i2).toUInt32 >>> ((2 : Int32) &&& 31).toUInt32).toInt32 &&& (3 : Int32)) % (3 : Int32)) + (1 : Int32))), .val (.int z4), .val (.int z11), .val (.int z18), .val (.int (((i1 &&& (255 : Int32))).toUInt32.toUInt16.toUInt32.toInt32)), .unset, .unset, .unset, .unset, .unset, .unset, .unset] at_45 rfl ?_
  refine Wl.iload 49 at_47 rfl ?_
  refine Wl.bipush 51 (125 : Int32) at_49 (by decide) ?_
  by_cases c22 : ((i1 &&& (255 : Int32))).toUInt32.toUInt16.toUInt32.toInt32 = (125 : Int32)
  · refine Wl.icmpN 54 at_51 (teq c22).2 ?_
    refine Wl.bipush 56 (123 : Int32) at_54 (by decide) ?_
    refine Wl.istore 58 #[.val (.int i0), .val (.int i1), .val (.int i2), .val (.int (i2 &&& (3 : Int32))), .val (.int (((((i2).toUInt32 >>> ((2 : Int32) &&& 31).toUInt32).toInt32 &&& (3 : Int32)) % (3 : Int32)) + (1 : Int32))), .val (.int z4), .val (.int z11), .val (.int z18), .val (.int (123 : Int32)), .unset, .unset, .unset, .unset, .unset, .unset, .unset] at_56 rfl ?_
    refine Wl.iload_n 59 at_58 rfl ?_
    refine Wl.bipush 61 (8 : Int32) at_59 (by decide) ?_
    refine Wl.iushr 62 at_61 ?_
    refine Wl.sipush 65 (255 : Int32) at_62 (by decide) ?_
    refine Wl.iand 66 at_65 ?_
    refine Wl.i2c 67 at_66 ?_
    refine Wl.istore 69 #[.val (.int i0), .val (.int i1), .val (.int i2), .val (.int (i2 &&& (3 : Int32))), .val (.int (((((i2).toUInt32 >>> ((2 : Int32) &&& 31).toUInt32).toInt32 &&& (3 : Int32)) % (3 : Int32)) + (1 : Int32))), .val (.int z4), .val (.int z11), .val (.int z18), .val (.int (123 : Int32)), .val (.int (((((i1).toUInt32 >>> ((8 : Int32) &&& 31).toUInt32).toInt32 &&& (255 : Int32))).toUInt32.toUInt16.toUInt32.toInt32)), .unset, .unset, .unset, .unset, .unset, .unset] at_67 rfl ?_
    refine Wl.iload_n 70 at_69 rfl ?_
    refine Wl.bipush 72 (16 : Int32) at_70 (by decide) ?_
    refine Wl.iushr 73 at_72 ?_
    refine Wl.sipush 76 (255 : Int32) at_73 (by decide) ?_
    refine Wl.iand 77 at_76 ?_
    refine Wl.i2c 78 at_77 ?_
    refine Wl.istore 80 #[.val (.int i0), .val (.int i1), .val (.int i2), .val (.int (i2 &&& (3 : Int32))), .val (.int (((((i2).toUInt32 >>> ((2 : Int32) &&& 31).toUInt32).toInt32 &&& (3 : Int32)) % (3 : Int32)) + (1 : Int32))), .val (.int z4), .val (.int z11), .val (.int z18), .val (.int (123 : Int32)), .val (.int (((((i1).toUInt32 >>> ((8 : Int32) &&& 31).toUInt32).toInt32 &&& (255 : Int32))).toUInt32.toUInt16.toUInt32.toInt32)), .val (.int (((((i1).toUInt32 >>> ((16 : Int32) &&& 31).toUInt32).toInt32 &&& (255 : Int32))).toUInt32.toUInt16.toUInt32.toInt32)), .unset, .unset, .unset, .unset, .unset] at_78 rfl ?_
    rcases and3 i2 with e | e | e | e <;> rw [e]
    · rcases rem3p (((i2).toUInt32 >>> ((2 : Int32) &&& 31).toUInt32).toInt32) with f | f | f <;> rw [f]
      · exact law_t01 hw hcs hfm l5 l12 l19 (by decide) (i2c_mask_lat _) (i2c_mask_lat _) a6 b7 a13 b14 a20 b21 (by decide)
      · exact law_t02 hw hcs hfm l5 l12 l19 (by decide) (i2c_mask_lat _) (i2c_mask_lat _) a6 b7 a13 b14 a20 b21 (by decide)
      · exact law_t03 hw hcs hfm l5 l12 l19 (by decide) (i2c_mask_lat _) (i2c_mask_lat _) a6 b7 a13 b14 a20 b21 (by decide)
    · rcases rem3p (((i2).toUInt32 >>> ((2 : Int32) &&& 31).toUInt32).toInt32) with f | f | f <;> rw [f]
      · exact law_t11 hw hcs hfm l5 l12 l19 (by decide) (i2c_mask_lat _) (i2c_mask_lat _) a6 b7 a13 b14 a20 b21 (by decide)
      · exact law_t12 hw hcs hfm l5 l12 l19 (by decide) (i2c_mask_lat _) (i2c_mask_lat _) a6 b7 a13 b14 a20 b21 (by decide)
      · exact law_t13 hw hcs hfm l5 l12 l19 (by decide) (i2c_mask_lat _) (i2c_mask_lat _) a6 b7 a13 b14 a20 b21 (by decide)
    · rcases rem3p (((i2).toUInt32 >>> ((2 : Int32) &&& 31).toUInt32).toInt32) with f | f | f <;> rw [f]
      · exact law_t21 hw hcs hfm l5 l12 l19 (by decide) (i2c_mask_lat _) (i2c_mask_lat _) a6 b7 a13 b14 a20 b21 (by decide)
      · exact law_t22 hw hcs hfm l5 l12 l19 (by decide) (i2c_mask_lat _) (i2c_mask_lat _) a6 b7 a13 b14 a20 b21 (by decide)
      · exact law_t23 hw hcs hfm l5 l12 l19 (by decide) (i2c_mask_lat _) (i2c_mask_lat _) a6 b7 a13 b14 a20 b21 (by decide)
    · rcases rem3p (((i2).toUInt32 >>> ((2 : Int32) &&& 31).toUInt32).toInt32) with f | f | f <;> rw [f]
      · exact law_t31 hw hcs hfm l5 l12 l19 (by decide) (i2c_mask_lat _) (i2c_mask_lat _) a6 b7 a13 b14 a20 b21 (by decide)
      · exact law_t32 hw hcs hfm l5 l12 l19 (by decide) (i2c_mask_lat _) (i2c_mask_lat _) a6 b7 a13 b14 a20 b21 (by decide)
      · exact law_t33 hw hcs hfm l5 l12 l19 (by decide) (i2c_mask_lat _) (i2c_mask_lat _) a6 b7 a13 b14 a20 b21 (by decide)
  · refine Wl.icmpY 58 at_51 (feq c22).2 ?_
    refine Wl.iload_n 59 at_58 rfl ?_
    refine Wl.bipush 61 (8 : Int32) at_59 (by decide) ?_
    refine Wl.iushr 62 at_61 ?_
    refine Wl.sipush 65 (255 : Int32) at_62 (by decide) ?_
    refine Wl.iand 66 at_65 ?_
    refine Wl.i2c 67 at_66 ?_
    refine Wl.istore 69 #[.val (.int i0), .val (.int i1), .val (.int i2), .val (.int (i2 &&& (3 : Int32))), .val (.int (((((i2).toUInt32 >>> ((2 : Int32) &&& 31).toUInt32).toInt32 &&& (3 : Int32)) % (3 : Int32)) + (1 : Int32))), .val (.int z4), .val (.int z11), .val (.int z18), .val (.int (((i1 &&& (255 : Int32))).toUInt32.toUInt16.toUInt32.toInt32)), .val (.int (((((i1).toUInt32 >>> ((8 : Int32) &&& 31).toUInt32).toInt32 &&& (255 : Int32))).toUInt32.toUInt16.toUInt32.toInt32)), .unset, .unset, .unset, .unset, .unset, .unset] at_67 rfl ?_
    refine Wl.iload_n 70 at_69 rfl ?_
    refine Wl.bipush 72 (16 : Int32) at_70 (by decide) ?_
    refine Wl.iushr 73 at_72 ?_
    refine Wl.sipush 76 (255 : Int32) at_73 (by decide) ?_
    refine Wl.iand 77 at_76 ?_
    refine Wl.i2c 78 at_77 ?_
    refine Wl.istore 80 #[.val (.int i0), .val (.int i1), .val (.int i2), .val (.int (i2 &&& (3 : Int32))), .val (.int (((((i2).toUInt32 >>> ((2 : Int32) &&& 31).toUInt32).toInt32 &&& (3 : Int32)) % (3 : Int32)) + (1 : Int32))), .val (.int z4), .val (.int z11), .val (.int z18), .val (.int (((i1 &&& (255 : Int32))).toUInt32.toUInt16.toUInt32.toInt32)), .val (.int (((((i1).toUInt32 >>> ((8 : Int32) &&& 31).toUInt32).toInt32 &&& (255 : Int32))).toUInt32.toUInt16.toUInt32.toInt32)), .val (.int (((((i1).toUInt32 >>> ((16 : Int32) &&& 31).toUInt32).toInt32 &&& (255 : Int32))).toUInt32.toUInt16.toUInt32.toInt32)), .unset, .unset, .unset, .unset, .unset] at_78 rfl ?_
    rcases and3 i2 with e | e | e | e <;> rw [e]
    · rcases rem3p (((i2).toUInt32 >>> ((2 : Int32) &&& 31).toUInt32).toInt32) with f | f | f <;> rw [f]
      · exact law_t01 hw hcs hfm l5 l12 l19 (i2c_mask_lat _) (i2c_mask_lat _) (i2c_mask_lat _) a6 b7 a13 b14 a20 b21 c22
      · exact law_t02 hw hcs hfm l5 l12 l19 (i2c_mask_lat _) (i2c_mask_lat _) (i2c_mask_lat _) a6 b7 a13 b14 a20 b21 c22
      · exact law_t03 hw hcs hfm l5 l12 l19 (i2c_mask_lat _) (i2c_mask_lat _) (i2c_mask_lat _) a6 b7 a13 b14 a20 b21 c22
    · rcases rem3p (((i2).toUInt32 >>> ((2 : Int32) &&& 31).toUInt32).toInt32) with f | f | f <;> rw [f]
      · exact law_t11 hw hcs hfm l5 l12 l19 (i2c_mask_lat _) (i2c_mask_lat _) (i2c_mask_lat _) a6 b7 a13 b14 a20 b21 c22
      · exact law_t12 hw hcs hfm l5 l12 l19 (i2c_mask_lat _) (i2c_mask_lat _) (i2c_mask_lat _) a6 b7 a13 b14 a20 b21 c22
      · exact law_t13 hw hcs hfm l5 l12 l19 (i2c_mask_lat _) (i2c_mask_lat _) (i2c_mask_lat _) a6 b7 a13 b14 a20 b21 c22
    · rcases rem3p (((i2).toUInt32 >>> ((2 : Int32) &&& 31).toUInt32).toInt32) with f | f | f <;> rw [f]
      · exact law_t21 hw hcs hfm l5 l12 l19 (i2c_mask_lat _) (i2c_mask_lat _) (i2c_mask_lat _) a6 b7 a13 b14 a20 b21 c22
      · exact law_t22 hw hcs hfm l5 l12 l19 (i2c_mask_lat _) (i2c_mask_lat _) (i2c_mask_lat _) a6 b7 a13 b14 a20 b21 c22
      · exact law_t23 hw hcs hfm l5 l12 l19 (i2c_mask_lat _) (i2c_mask_lat _) (i2c_mask_lat _) a6 b7 a13 b14 a20 b21 c22
    · rcases rem3p (((i2).toUInt32 >>> ((2 : Int32) &&& 31).toUInt32).toInt32) with f | f | f <;> rw [f]
      · exact law_t31 hw hcs hfm l5 l12 l19 (i2c_mask_lat _) (i2c_mask_lat _) (i2c_mask_lat _) a6 b7 a13 b14 a20 b21 c22
      · exact law_t32 hw hcs hfm l5 l12 l19 (i2c_mask_lat _) (i2c_mask_lat _) (i2c_mask_lat _) a6 b7 a13 b14 a20 b21 c22
      · exact law_t33 hw hcs hfm l5 l12 l19 (i2c_mask_lat _) (i2c_mask_lat _) (i2c_mask_lat _) a6 b7 a13 b14 a20 b21 c22
/-! from the case's words to the law's walk, and the owed theorems -/
set_option maxRecDepth 65536 in
set_option maxHeartbeats 40000000 in
theorem comes_1 {Post : Tables → Env → Array Value → State → Outcome → State → Prop} (hpost : ∀ tb e args s v u, (limb_1_1.after args s (.returned v) u = true ∧ limb_1_2.after args s (.returned v) u = true ∧ True) → ReturnedEndW s (.returned v) u (Jvm.fieldLocs frame_1_writes args s ++ Jvm.arrayLocs frame_1_arrays args s ++ Jvm.staticLocs frame_1_statics s) 56 7488 → Post tb e args s (.returned v) u) :
    ArmFor flags0 classFile x code maxLocals ret World_1 tables_1 room_1 Calls_1 rest_1 Pre_1 Post := by
  intro l hfl _ _ p e ha hc hk s m args below hf hA hF happ hP
  obtain ⟨hcalls, hrest, hpre⟩ := hP
  obtain ⟨-, -, -, hnamed, -, -, -, hat⟩ := (Spec.applies_iff hf).mp happ
  obtain ⟨hg, hn⟩ := and_e (Cond.before_iff.mp (show (Jvm.Cond.and given_1 narrow_1).before args s = true from hpre))
  obtain ⟨g0, r0⟩ := and_e hg
  obtain ⟨g1, r1⟩ := and_e r0
  obtain ⟨g2, r2⟩ := and_e r1
  obtain ⟨w0_, w1_, w2_, rfl⟩ : ∃ w0_ w1_ w2_ : Value, args = #[w0_, w1_, w2_] := by
    have hs : args.size = 3 := by simpa [Cond.value, given_1] using g0
    obtain ⟨L⟩ := args
    match L, hs with
    | [w0_, w1_, w2_], _ => exact ⟨w0_, w1_, w2_, rfl⟩
  have hw := fun d (hd : d ∈ tables_1) => atoms_spec (ws := Jvm.Cond.code x code maxLocals ret :: tables_1) hat d (List.mem_cons_of_mem _ hd)
  obtain ⟨hsets, hown0⟩ := atoms_of _ (rest_1_c_eq ▸ (show rest_1_c.before _ s = true from hrest))
  obtain ⟨i0, ei0⟩ := is_v g1
  obtain rfl : w0_ = (.int i0) := Option.some.inj ei0
  obtain ⟨i1, ei1⟩ := is_v g2
  obtain rfl : w1_ = (.int i1) := Option.some.inj ei1
  obtain ⟨i2, ei2⟩ := is_v r2
  obtain rfl : w2_ = (.int i2) := Option.some.inj ei2
  have hcw : Jvm.Lit.compactW.before _ s = true := hsets _ (List.mem_of_getElem? (i := 2) rfl)
  have hcs : CSon s := by
    obtain ⟨cst, ev⟩ := is_v (Cond.before_iff.mp (hsets _ (List.mem_of_getElem? (i := 1) rfl)))
    refine ⟨cst, Sta.start ev (Or.inl (hsets _ (List.mem_of_getElem? (i := 0) rfl))), fun q => ?_⟩
    have h1 := not_v (Cond.before_iff.mp (hsets _ (List.mem_of_getElem? (i := 2) rfl)))
    rw [eq_i ev (Term.int_eval 0) (by rw [q])] at h1
    cases h1
  have hfm : Fmt s := by
    obtain ⟨f, ef, rf⟩ := isR_v (Cond.before_iff.mp (hsets _ (List.mem_of_getElem? (i := 8) rfl)))
    exact ⟨f, Sta.start ef (Or.inl (hsets _ (List.mem_of_getElem? (i := 7) rfl))), rf⟩
  obtain ⟨n, o, h1, h2, h3, v, L, rfl, ⟨hq, N⟩, -, hE, hH, -⟩ := law_met (l := l) (Z := s) hw hcs hfm i0 i1 i2  p e ha hc hk s m _ below hf ((Spec.applies_iff_loose hf).mp happ).1 ⟨rfl, State.Warmed39.refl s, rfl, CHv.start (own_hEL hw) (fun q hq => hcalls.1 q hq) hcw (w26 hw) (w8 hw), ext_rfl _, Mine.nil⟩ trivial
  subst hq
  exact ⟨n, _, h1, h2, h3, hpost _ _ _ _ _ _ ⟨Cond.after_iff.mpr rfl, Cond.after_iff.mpr (eq_i res_at (Term.int_eval (1)) rfl), trivial⟩ ⟨hE.1, hE.2.1, hE.2.2.1, (hE.2.2.2.sift fun y hy => Or.inr (N y hy)).mono (by decide) (by decide)⟩⟩
theorem main_1_1 : Claimed_1_1 := comes_1 fun _ _ _ _ _ _ h hF => ⟨h.1, hF⟩
theorem main_1_2 : Claimed_1_2 := comes_1 fun _ _ _ _ _ _ h hF => ⟨h.2.1, hF⟩

end Jvm.Pilot.@@N@@
namespace Jvm.Pilot.@@N@@
open Jvm Jvm.ClassFile Sem Op Lib Jvm.Free Jvm.Stand Jvm.Pilot.@@N@@.Jvm.D
/-! MADE BY PROGRAM (witnessworld.py) out of the Statement's table words and the real class files: 27 classes; the members and pool entries that the words name. The judged class is class 1, her method 5. -/
namespace start1
open Jvm.ClassFile
def u (s : String) : CpInfo := .utf8 (stringToUtf16 s)
/-- a pool by its gaps: so many unusable entries, then the entry; so many at the end -/
def gap : Nat → List CpInfo → List CpInfo
  | 0, r => r
  | n + 1, r => .unusable :: gap n r
def poolList (es : List (Nat × CpInfo)) (last : Nat) : List CpInfo := es.foldr (fun e r => gap e.1 (e.2 :: r)) (gap last [])
def pool (es : List (Nat × CpInfo)) (last : Nat) : Array CpInfo := ⟨poolList es last⟩
def fileOf (pool : Array CpInfo) (this : Nat) (attrs : Array Attribute := #[]) (ms : Array MethodInfo := #[]) (fl : Nat := 33) (sup : Nat := 0) (ifs : Array Nat := #[]) (fds : Array FieldInfo := #[]) : ClassFile where
  minorVersion := 0
  majorVersion := 65
  constantPool := pool
  accessFlags := fl
  thisClass := this
  superClass := sup
  interfaces := ifs
  fields := fds
  methods := ms
  attributes := attrs
def plain (name : String) (sup : Option ClassId) : Class where
  name := name
  kind := .ordinary
  loader := none
  accessFlags := 33
  super := sup
  interfaces := #[]
  cf := none
  fields := #[]
  methods := #[]
  instanceTypes := #[]
  staticTypes := #[]
  resolved := #[]
  callSites := []
  init := .initialized
  statics := none
  mirror := none

def pool0 : Array CpInfo := pool [(5, u "<init>"), (0, u "()V"), (1, .class_ 10), (1, u "java/lang/Object")] 113

def k0c0 : Code := { maxStack := 0, maxLocals := 1, code := object_method_1_code, exceptionTable := #[], attributes := #[] }
def k0m0 : Method := { name := "<init>", desc := "()V", sig := { parameters := [], returnType := none }, accessFlags := 1, code := some k0c0 }
/-- java/lang/Object -/
def k0 : Class := { plain "java/lang/Object" none with
  accessFlags := 33
  interfaces := #[]
  cf := some (fileOf pool0 8 #[] #[{ accessFlags := 1, nameIndex := 5, descriptorIndex := 6, attributes := #[] }] 33 0 #[] #[])
  fields := #[]
  methods := #[k0m0]
  instanceTypes := #[]
  staticTypes := #[]
  resolved := Array.replicate 124 none
  statics := none }

def pool1 : Array CpInfo := pool [(2, .class_ 4), (1, u "java/lang/Object"), (0, u "<init>"), (0, u "()V"), (0, .class_ 8), (0, u "java/lang/String"), (0, .methodref 7 10), (0, .nameAndType 5 11), (0, u "([C)V"), (0, .methodref 7 13), (0, .nameAndType 14 15), (0, u "valueOf"), (0, u "(C)Ljava/lang/String;"), (0, .string 17), (0, u "lock:"), (0, .methodref 7 19), (0, .nameAndType 20 21), (0, u "charAt"), (0, u "(I)C"), (0, .methodref 23 24), (0, .class_ 25), (0, .nameAndType 26 27), (0, u "com/example/portunus/portunus/LockKeysLockKeyPinLaw"), (0, u "exp"), (0, u "(IICCCICCC)C"), (0, .methodref 23 29), (0, .nameAndType 30 21), (0, u "pc"), (0, .methodref 23 32), (0, .nameAndType 33 34), (0, u "mk"), (0, u "(ICCC)Ljava/lang/String;"), (0, .class_ 36), (0, u "com/example/portunus/portunus/LockKeys"), (0, .methodref 35 38), (0, .nameAndType 5 39), (0, u "(Ljava/lang/String;)V"), (0, .methodref 35 41), (0, .nameAndType 42 43), (0, u "lockKey"), (0, u "(Ljava/lang/String;)Ljava/lang/String;"), (0, .methodref 7 45), (0, .nameAndType 46 47), (0, u "length"), (0, u "()I"), (0, .methodref 23 49), (0, .nameAndType 50 51), (0, u "ok"), (0, u "(Ljava/lang/String;IIICCCICCC)Z"), (3, u "law"), (0, u "(III)Z")] 2

def k1m0 : Method := { name := "<init>", desc := "()V", sig := { parameters := [], returnType := none }, accessFlags := 1, code := none }
def k1c1 : Code := { maxStack := 2, maxLocals := 2, code := method_2_code, exceptionTable := #[], attributes := #[] }
def k1m1 : Method := { name := "pc", desc := "(I)C", sig := { parameters := [.int], returnType := some .char }, accessFlags := 10, code := some k1c1 }
def k1c2 : Code := { maxStack := 6, maxLocals := 4, code := method_3_code, exceptionTable := #[], attributes := #[] }
def k1m2 : Method := { name := "mk", desc := "(ICCC)Ljava/lang/String;", sig := { parameters := [.int, .char, .char, .char], returnType := some (.object "java/lang/String") }, accessFlags := 10, code := some k1c2 }
def k1c3 : Code := { maxStack := 2, maxLocals := 11, code := method_4_code, exceptionTable := #[], attributes := #[] }
def k1m3 : Method := { name := "exp", desc := "(IICCCICCC)C", sig := { parameters := [.int, .int, .char, .char, .char, .int, .char, .char, .char], returnType := some .char }, accessFlags := 10, code := some k1c3 }
def k1c4 : Code := { maxStack := 10, maxLocals := 11, code := method_5_code, exceptionTable := #[], attributes := #[] }
def k1m4 : Method := { name := "ok", desc := "(Ljava/lang/String;IIICCCICCC)Z", sig := { parameters := [(.object "java/lang/String"), .int, .int, .int, .char, .char, .char, .int, .char, .char, .char], returnType := some .boolean }, accessFlags := 10, code := some k1c4 }
def k1c5 : Code := { maxStack := 11, maxLocals := 16, code := code, exceptionTable := #[], attributes := #[] }
def k1m5 : Method := { name := "law", desc := "(III)Z", sig := { parameters := [.int, .int, .int], returnType := some .boolean }, accessFlags := 9, code := some k1c5 }
/-- com/example/portunus/portunus/LockKeysLockKeyPinLaw -/
def k1 : Class := { plain "com/example/portunus/portunus/LockKeysLockKeyPinLaw" (some 0) with
  accessFlags := 49
  interfaces := #[]
  cf := some (fileOf pool1 23 #[] #[{ accessFlags := 1, nameIndex := 5, descriptorIndex := 6, attributes := #[] }, { accessFlags := 10, nameIndex := 30, descriptorIndex := 21, attributes := #[] }, { accessFlags := 10, nameIndex := 33, descriptorIndex := 34, attributes := #[] }, { accessFlags := 10, nameIndex := 26, descriptorIndex := 27, attributes := #[] }, { accessFlags := 10, nameIndex := 50, descriptorIndex := 51, attributes := #[] }, { accessFlags := 9, nameIndex := 55, descriptorIndex := 56, attributes := #[] }] 49 2 #[] #[])
  fields := #[]
  methods := #[k1m0, k1m1, k1m2, k1m3, k1m4, k1m5]
  instanceTypes := #[]
  staticTypes := #[]
  resolved := Array.replicate 59 none
  statics := none }

def pool2 : Array CpInfo := pool [(1, .class_ 2), (0, u "java/io/Serializable"), (0, .class_ 4), (0, u "java/lang/Object")] 2

/-- java/io/Serializable -/
def k2 : Class := { plain "java/io/Serializable" (some 0) with
  accessFlags := 1537
  interfaces := #[]
  cf := some (fileOf pool2 1 #[] #[] 1537 3 #[] #[])
  fields := #[]
  methods := #[]
  instanceTypes := #[]
  staticTypes := #[]
  resolved := Array.replicate 7 none
  statics := none }

def pool3 : Array CpInfo := pool [(1, .class_ 2), (0, u "java/lang/Comparable"), (0, .class_ 4), (0, u "java/lang/Object")] 7

/-- java/lang/Comparable -/
def k3 : Class := { plain "java/lang/Comparable" (some 0) with
  accessFlags := 1537
  interfaces := #[]
  cf := some (fileOf pool3 1 #[] #[] 1537 3 #[] #[])
  fields := #[]
  methods := #[]
  instanceTypes := #[]
  staticTypes := #[]
  resolved := Array.replicate 12 none
  statics := none }

def pool4 : Array CpInfo := pool [(2, .class_ 4), (1, u "java/lang/CharSequence"), (42, .class_ 48), (0, u "java/lang/CharSequence$1CodePointIterator"), (10, .class_ 60), (0, u "java/lang/CharSequence$1CharIterator"), (5, .class_ 67), (0, u "java/lang/Object")] 63

/-- java/lang/CharSequence -/
def k4 : Class := { plain "java/lang/CharSequence" (some 0) with
  accessFlags := 1537
  interfaces := #[]
  cf := some (fileOf pool4 2 #[.nestMembers #[47, 59]] #[] 1537 66 #[] #[])
  fields := #[]
  methods := #[]
  instanceTypes := #[]
  staticTypes := #[]
  resolved := Array.replicate 131 none
  statics := none }

def pool5 : Array CpInfo := pool [(1, .class_ 2), (0, u "java/lang/constant/Constable"), (0, .class_ 4), (0, u "java/lang/Object")] 6

/-- java/lang/constant/Constable -/
def k5 : Class := { plain "java/lang/constant/Constable" (some 0) with
  accessFlags := 1537
  interfaces := #[]
  cf := some (fileOf pool5 1 #[] #[] 1537 3 #[] #[])
  fields := #[]
  methods := #[]
  instanceTypes := #[]
  staticTypes := #[]
  resolved := Array.replicate 11 none
  statics := none }

def pool6 : Array CpInfo := pool [(1, .class_ 2), (0, u "java/lang/constant/ConstantDesc"), (0, .class_ 4), (0, u "java/lang/Object")] 32

/-- java/lang/constant/ConstantDesc -/
def k6 : Class := { plain "java/lang/constant/ConstantDesc" (some 0) with
  accessFlags := 1537
  interfaces := #[]
  cf := some (fileOf pool6 1 #[] #[] 1537 3 #[] #[])
  fields := #[]
  methods := #[]
  instanceTypes := #[]
  staticTypes := #[]
  resolved := Array.replicate 37 none
  statics := none }

def pool7 : Array CpInfo := pool [(1, .methodref 2 3), (0, .class_ 4), (0, .nameAndType 5 6), (0, u "java/lang/Object"), (0, u "<init>"), (0, u "()V"), (0, .string 8), (0, u ""), (0, .fieldref 10 11), (0, .class_ 12), (0, .nameAndType 13 14), (0, u "java/lang/String"), (0, u "value"), (0, u "[B"), (0, .fieldref 10 16), (0, .nameAndType 17 18), (0, u "coder"), (0, u "B"), (2, u "hash"), (0, u "I"), (2, u "hashIsZero"), (0, u "Z"), (0, .methodref 10 28), (0, .nameAndType 5 29), (0, u "([CIILjava/lang/Void;)V"), (8, .fieldref 10 39), (0, .nameAndType 40 26), (0, u "COMPACT_STRINGS"), (1, .class_ 44), (1, u "java/lang/StringUTF16"), (0, u "compress"), (1, .methodref 42 48), (0, .nameAndType 49 50), (0, u "coderFromArrayLen"), (0, u "([BI)B"), (2, u "toBytes"), (0, .methodref 55 56), (0, .class_ 57), (0, .nameAndType 58 59), (0, u "java/util/Arrays"), (0, u "copyOfRange"), (0, u "([BII)[B"), (47, .class_ 109), (1, u "java/lang/StringLatin1"), (32, u "()Z"), (34, .methodref 42 178), (0, .nameAndType 45 179), (0, u "([CII)[B"), (13, .class_ 195), (1, u "java/lang/System"), (13, .methodref 10 210), (0, .nameAndType 5 211), (0, u "([BB)V"), (0, .methodref 193 213), (0, .nameAndType 214 215), (0, u "arraycopy"), (0, u "(Ljava/lang/Object;ILjava/lang/Object;II)V"), (118, u "()I"), (0, .methodref 10 336), (0, .nameAndType 17 337), (0, u "()B"), (2, u "()[B"), (22, u "([BI)C"), (5, u "(C)Z"), (21, u "(II)V"), (35, u "(I)C"), (61, .methodref 10 490), (0, .nameAndType 5 491), (0, u "(Ljava/lang/AbstractStringBuilder;Ljava/lang/Void;)V"), (0, .methodref 10 493), (0, .nameAndType 494 142), (0, u "isLatin1"), (0, .methodref 107 496), (0, .nameAndType 497 363), (0, u "charAt"), (3, u "checkIndex"), (3, .methodref 10 506), (0, .nameAndType 507 334), (0, u "length"), (24, u "getBytes"), (16, .methodref 550 506), (0, .class_ 551), (0, u "java/lang/AbstractStringBuilder"), (0, .methodref 550 553), (0, .nameAndType 554 340), (0, u "getValue"), (20, .class_ 576), (0, u "java/lang/CharSequence"), (22, u "CASE_INSENSITIVE_ORDER"), (0, u "Ljava/util/Comparator;"), (32, .methodref 10 634), (0, .nameAndType 635 636), (0, u "indexOf"), (0, u "(II)I"), (0, .methodref 107 638), (0, .nameAndType 635 639), (0, u "([BIII)I"), (52, u "isEmpty"), (72, u "(I)I"), (16, u "valueOf"), (0, u "(C)Ljava/lang/String;"), (37, u "([BIB)V"), (188, u "([C)V"), (4, .methodref 107 1016), (0, .nameAndType 1017 369), (0, u "canEncode"), (0, .methodref 107 1019), (0, .nameAndType 53 1020), (0, u "(C)[B"), (26, .methodref 550 493), (5, .fieldref 1054 1055), (0, .class_ 1056), (0, .nameAndType 1057 1058), (0, u "jdk/internal/util/Preconditions"), (0, u "SIOOBE_FORMATTER"), (0, u "Ljava/util/function/BiFunction;"), (0, .methodref 1054 1060), (0, .nameAndType 501 1061), (0, u "(IILjava/util/function/BiFunction;)I"), (39, u "serialPersistentFields"), (0, u "[Ljava/io/ObjectStreamField;"), (0, .class_ 1104), (0, u "java/lang/String$CaseInsensitiveComparator"), (1, .class_ 1107), (0, u "java/io/Serializable"), (0, .class_ 1109), (0, u "java/lang/Comparable"), (0, .class_ 1111), (0, u "java/lang/constant/Constable"), (0, .class_ 1113), (0, u "java/lang/constant/ConstantDesc"), (2, u "serialVersionUID"), (0, u "J"), (3, u "REPL"), (0, u "C"), (2, u "LATIN1"), (1, u "UTF16"), (105, u "(Ljava/lang/StringBuilder;)V")] 217

def k7m0 : Method := { name := "<init>", desc := "()V", sig := { parameters := [], returnType := none }, accessFlags := 1, code := none }
def k7c1 : Code := { maxStack := 5, maxLocals := 2, code := jdk_42_method_3_code, exceptionTable := #[], attributes := #[] }
def k7m1 : Method := { name := "<init>", desc := "([C)V", sig := { parameters := [(.array .char)], returnType := none }, accessFlags := 1, code := some k7c1 }
def k7c2 : Code := { maxStack := 3, maxLocals := 2, code := jdk_42_method_53_code, exceptionTable := #[], attributes := #[] }
def k7m2 : Method := { name := "<init>", desc := "(Ljava/lang/StringBuilder;)V", sig := { parameters := [(.object "java/lang/StringBuilder")], returnType := none }, accessFlags := 1, code := some k7c2 }
def k7c3 : Code := { maxStack := 2, maxLocals := 1, code := jdk_42_method_54_code, exceptionTable := #[], attributes := #[] }
def k7m3 : Method := { name := "length", desc := "()I", sig := { parameters := [], returnType := some .int }, accessFlags := 1, code := some k7c3 }
def k7c4 : Code := { maxStack := 1, maxLocals := 1, code := jdk_42_method_55_code, exceptionTable := #[], attributes := #[] }
def k7m4 : Method := { name := "isEmpty", desc := "()Z", sig := { parameters := [], returnType := some .boolean }, accessFlags := 1, code := some k7c4 }
def k7c5 : Code := { maxStack := 2, maxLocals := 2, code := jdk_42_method_56_code, exceptionTable := #[], attributes := #[] }
def k7m5 : Method := { name := "charAt", desc := "(I)C", sig := { parameters := [.int], returnType := some .char }, accessFlags := 1, code := some k7c5 }
def k7c6 : Code := { maxStack := 3, maxLocals := 2, code := jdk_42_method_79_code, exceptionTable := #[], attributes := #[] }
def k7m6 : Method := { name := "indexOf", desc := "(I)I", sig := { parameters := [.int], returnType := some .int }, accessFlags := 1, code := some k7c6 }
def k7c7 : Code := { maxStack := 4, maxLocals := 3, code := jdk_42_method_80_code, exceptionTable := #[], attributes := #[] }
def k7m7 : Method := { name := "indexOf", desc := "(II)I", sig := { parameters := [.int, .int], returnType := some .int }, accessFlags := 1, code := some k7c7 }
def k7c8 : Code := { maxStack := 4, maxLocals := 1, code := jdk_42_method_139_code, exceptionTable := #[], attributes := #[] }
def k7m8 : Method := { name := "valueOf", desc := "(C)Ljava/lang/String;", sig := { parameters := [.char], returnType := some (.object "java/lang/String") }, accessFlags := 9, code := some k7c8 }
def k7c9 : Code := { maxStack := 5, maxLocals := 4, code := jdk_42_method_147_code, exceptionTable := #[], attributes := #[] }
def k7m9 : Method := { name := "getBytes", desc := "([BIB)V", sig := { parameters := [(.array .byte), .int, .byte], returnType := none }, accessFlags := 0, code := some k7c9 }
def k7c10 : Code := { maxStack := 4, maxLocals := 6, code := jdk_42_method_149_code, exceptionTable := #[], attributes := #[] }
def k7m10 : Method := { name := "<init>", desc := "([CIILjava/lang/Void;)V", sig := { parameters := [(.array .char), .int, .int, (.object "java/lang/Void")], returnType := none }, accessFlags := 2, code := some k7c10 }
def k7c11 : Code := { maxStack := 5, maxLocals := 5, code := jdk_42_method_150_code, exceptionTable := #[], attributes := #[] }
def k7m11 : Method := { name := "<init>", desc := "(Ljava/lang/AbstractStringBuilder;Ljava/lang/Void;)V", sig := { parameters := [(.object "java/lang/AbstractStringBuilder"), (.object "java/lang/Void")], returnType := none }, accessFlags := 0, code := some k7c11 }
def k7c12 : Code := { maxStack := 2, maxLocals := 3, code := jdk_42_method_151_code, exceptionTable := #[], attributes := #[] }
def k7m12 : Method := { name := "<init>", desc := "([BB)V", sig := { parameters := [(.array .byte), .byte], returnType := none }, accessFlags := 0, code := some k7c12 }
def k7c13 : Code := { maxStack := 1, maxLocals := 1, code := jdk_42_method_152_code, exceptionTable := #[], attributes := #[] }
def k7m13 : Method := { name := "coder", desc := "()B", sig := { parameters := [], returnType := some .byte }, accessFlags := 0, code := some k7c13 }
def k7c14 : Code := { maxStack := 1, maxLocals := 1, code := jdk_42_method_154_code, exceptionTable := #[], attributes := #[] }
def k7m14 : Method := { name := "isLatin1", desc := "()Z", sig := { parameters := [], returnType := some .boolean }, accessFlags := 0, code := some k7c14 }
def k7c15 : Code := { maxStack := 3, maxLocals := 2, code := jdk_42_method_155_code, exceptionTable := #[], attributes := #[] }
def k7m15 : Method := { name := "checkIndex", desc := "(II)V", sig := { parameters := [.int, .int], returnType := none }, accessFlags := 8, code := some k7c15 }
/-- java/lang/String -/
def k7 : Class := { plain "java/lang/String" (some 0) with
  accessFlags := 49
  interfaces := #[2, 3, 4, 5, 6]
  cf := some (fileOf pool7 10 #[.nestMembers #[1103]] #[{ accessFlags := 1, nameIndex := 5, descriptorIndex := 6, attributes := #[] }, { accessFlags := 1, nameIndex := 5, descriptorIndex := 1010, attributes := #[] }, { accessFlags := 1, nameIndex := 5, descriptorIndex := 1233, attributes := #[] }, { accessFlags := 1, nameIndex := 507, descriptorIndex := 334, attributes := #[] }, { accessFlags := 1, nameIndex := 692, descriptorIndex := 142, attributes := #[] }, { accessFlags := 1, nameIndex := 497, descriptorIndex := 427, attributes := #[] }, { accessFlags := 1, nameIndex := 635, descriptorIndex := 765, attributes := #[] }, { accessFlags := 1, nameIndex := 635, descriptorIndex := 636, attributes := #[] }, { accessFlags := 9, nameIndex := 782, descriptorIndex := 783, attributes := #[] }, { accessFlags := 0, nameIndex := 532, descriptorIndex := 821, attributes := #[] }, { accessFlags := 2, nameIndex := 5, descriptorIndex := 29, attributes := #[] }, { accessFlags := 0, nameIndex := 5, descriptorIndex := 491, attributes := #[] }, { accessFlags := 0, nameIndex := 5, descriptorIndex := 211, attributes := #[] }, { accessFlags := 0, nameIndex := 17, descriptorIndex := 337, attributes := #[] }, { accessFlags := 0, nameIndex := 494, descriptorIndex := 142, attributes := #[] }, { accessFlags := 8, nameIndex := 501, descriptorIndex := 391, attributes := #[] }] 49 2 #[1106, 1108, 575, 1110, 1112] #[{ accessFlags := 18, nameIndex := 13, descriptorIndex := 14, attributes := #[] }, { accessFlags := 18, nameIndex := 17, descriptorIndex := 18, attributes := #[] }, { accessFlags := 2, nameIndex := 21, descriptorIndex := 22, attributes := #[] }, { accessFlags := 2, nameIndex := 25, descriptorIndex := 26, attributes := #[] }, { accessFlags := 26, nameIndex := 1116, descriptorIndex := 1117, attributes := #[] }, { accessFlags := 24, nameIndex := 40, descriptorIndex := 26, attributes := #[] }, { accessFlags := 26, nameIndex := 1101, descriptorIndex := 1102, attributes := #[] }, { accessFlags := 26, nameIndex := 1121, descriptorIndex := 1122, attributes := #[] }, { accessFlags := 25, nameIndex := 599, descriptorIndex := 600, attributes := #[] }, { accessFlags := 24, nameIndex := 1125, descriptorIndex := 18, attributes := #[] }, { accessFlags := 24, nameIndex := 1127, descriptorIndex := 18, attributes := #[] }])
  fields := #[{ name := "value", type := (.array .byte), accessFlags := 18, slot := 0, constantValue := 0 }, { name := "coder", type := .byte, accessFlags := 18, slot := 1, constantValue := 0 }, { name := "hash", type := .int, accessFlags := 2, slot := 2, constantValue := 0 }, { name := "hashIsZero", type := .boolean, accessFlags := 2, slot := 3, constantValue := 0 }, { name := "serialVersionUID", type := .long, accessFlags := 26, slot := 0, constantValue := 0 }, { name := "COMPACT_STRINGS", type := .boolean, accessFlags := 24, slot := 1, constantValue := 0 }, { name := "serialPersistentFields", type := (.array (.object "java/io/ObjectStreamField")), accessFlags := 26, slot := 2, constantValue := 0 }, { name := "REPL", type := .char, accessFlags := 26, slot := 3, constantValue := 0 }, { name := "CASE_INSENSITIVE_ORDER", type := (.object "java/util/Comparator"), accessFlags := 25, slot := 4, constantValue := 0 }, { name := "LATIN1", type := .byte, accessFlags := 24, slot := 5, constantValue := 0 }, { name := "UTF16", type := .byte, accessFlags := 24, slot := 6, constantValue := 0 }]
  methods := #[k7m0, k7m1, k7m2, k7m3, k7m4, k7m5, k7m6, k7m7, k7m8, k7m9, k7m10, k7m11, k7m12, k7m13, k7m14, k7m15]
  instanceTypes := #[(.array .byte), .byte, .int, .boolean]
  staticTypes := #[.long, .boolean, (.array (.object "java/io/ObjectStreamField")), .char, (.object "java/util/Comparator"), .byte, .byte]
  resolved := Array.replicate 1451 none
  statics := some 0 }

def pool8 : Array CpInfo := pool [(6, .class_ 8), (1, u "java/lang/Object"), (0, u "<init>"), (0, u "()V"), (1, .class_ 14), (1, u "java/lang/StringUTF16"), (31, u "$assertionsDisabled"), (0, u "Z"), (13, u "HI_BYTE_SHIFT"), (0, u "I"), (2, u "LO_BYTE_SHIFT"), (49, .methodref 12 116), (0, .nameAndType 117 118), (0, u "compress"), (0, u "([CI[BII)I"), (3, u "([CII)[B"), (138, u "coderFromArrayLen"), (0, u "([BI)B"), (106, .class_ 371), (1, u "java/lang/StringUTF16$LinesSpliterator"), (58, u "MAX_LENGTH"), (196, .class_ 628), (0, u "java/lang/StringUTF16$CodePointsSpliterator"), (0, .class_ 630), (0, u "java/lang/StringUTF16$CharsSpliterator")] 4

def k8m0 : Method := { name := "<init>", desc := "()V", sig := { parameters := [], returnType := none }, accessFlags := 0, code := none }
def k8c1 : Code := { maxStack := 2, maxLocals := 2, code := jdk_52_method_15_code, exceptionTable := #[], attributes := #[] }
def k8m1 : Method := { name := "coderFromArrayLen", desc := "([BI)B", sig := { parameters := [(.array .byte), .int], returnType := some .byte }, accessFlags := 8, code := some k8c1 }
def k8c2 : Code := { maxStack := 5, maxLocals := 6, code := jdk_52_method_16_code, exceptionTable := #[], attributes := #[] }
def k8m2 : Method := { name := "compress", desc := "([CII)[B", sig := { parameters := [(.array .char), .int, .int], returnType := some (.array .byte) }, accessFlags := 9, code := some k8c2 }
def k8c3 : Code := { maxStack := 3, maxLocals := 7, code := jdk_52_method_21_code, exceptionTable := #[], attributes := #[] }
def k8m3 : Method := { name := "compress", desc := "([CI[BII)I", sig := { parameters := [(.array .char), .int, (.array .byte), .int, .int], returnType := some .int }, accessFlags := 9, code := some k8c3 }
/-- java/lang/StringUTF16 -/
def k8 : Class := { plain "java/lang/StringUTF16" (some 0) with
  accessFlags := 48
  interfaces := #[]
  cf := some (fileOf pool8 12 #[.nestMembers #[627, 629, 369]] #[{ accessFlags := 0, nameIndex := 9, descriptorIndex := 10, attributes := #[] }, { accessFlags := 8, nameIndex := 261, descriptorIndex := 262, attributes := #[] }, { accessFlags := 9, nameIndex := 117, descriptorIndex := 122, attributes := #[] }, { accessFlags := 9, nameIndex := 117, descriptorIndex := 118, attributes := #[] }] 48 6 #[] #[{ accessFlags := 26, nameIndex := 61, descriptorIndex := 62, attributes := #[] }, { accessFlags := 26, nameIndex := 65, descriptorIndex := 62, attributes := #[] }, { accessFlags := 24, nameIndex := 430, descriptorIndex := 62, attributes := #[] }, { accessFlags := 4120, nameIndex := 46, descriptorIndex := 47, attributes := #[] }])
  fields := #[{ name := "HI_BYTE_SHIFT", type := .int, accessFlags := 26, slot := 0, constantValue := 0 }, { name := "LO_BYTE_SHIFT", type := .int, accessFlags := 26, slot := 1, constantValue := 0 }, { name := "MAX_LENGTH", type := .int, accessFlags := 24, slot := 2, constantValue := 0 }, { name := "$assertionsDisabled", type := .boolean, accessFlags := 4120, slot := 3, constantValue := 0 }]
  methods := #[k8m0, k8m1, k8m2, k8m3]
  instanceTypes := #[]
  staticTypes := #[.int, .int, .int, .boolean]
  resolved := Array.replicate 635 none
  statics := none }

def pool9 : Array CpInfo := pool [(1, .class_ 2), (0, u "java/lang/String"), (1, .class_ 6), (1, u "java/lang/Object"), (0, u "<init>"), (0, u "()V"), (0, .methodref 1 10), (0, .nameAndType 11 12), (0, u "checkIndex"), (0, u "(II)V"), (1, .class_ 16), (1, u "java/lang/StringLatin1"), (21, .methodref 39 40), (0, .class_ 41), (0, .nameAndType 42 43), (0, u "java/lang/Math"), (0, u "min"), (0, u "(II)I"), (9, u "([BI)C"), (34, .methodref 14 89), (0, .nameAndType 90 91), (0, u "canEncode"), (0, u "(I)Z"), (0, .methodref 39 93), (0, .nameAndType 94 43), (0, u "max"), (0, .methodref 14 96), (0, .nameAndType 97 98), (0, u "indexOfChar"), (0, u "([BIII)I"), (2, u "indexOf"), (3, u "(C)Z"), (15, u "$assertionsDisabled"), (0, u "Z"), (98, .class_ 223), (1, u "java/lang/StringLatin1$LinesSpliterator"), (28, u "charAt"), (127, u "toBytes"), (1, u "(C)[B"), (7, .class_ 391), (0, u "java/lang/StringLatin1$CharsSpliterator")] 3

def k9m0 : Method := { name := "<init>", desc := "()V", sig := { parameters := [], returnType := none }, accessFlags := 0, code := none }
def k9c1 : Code := { maxStack := 2, maxLocals := 2, code := jdk_43_method_2_code, exceptionTable := #[], attributes := #[] }
def k9m1 : Method := { name := "charAt", desc := "([BI)C", sig := { parameters := [(.array .byte), .int], returnType := some .char }, accessFlags := 9, code := some k9c1 }
def k9c2 : Code := { maxStack := 2, maxLocals := 1, code := jdk_43_method_3_code, exceptionTable := #[], attributes := #[] }
def k9m2 : Method := { name := "canEncode", desc := "(C)Z", sig := { parameters := [.char], returnType := some .boolean }, accessFlags := 9, code := some k9c2 }
def k9c3 : Code := { maxStack := 2, maxLocals := 1, code := jdk_43_method_4_code, exceptionTable := #[], attributes := #[] }
def k9m3 : Method := { name := "canEncode", desc := "(I)Z", sig := { parameters := [.int], returnType := some .boolean }, accessFlags := 9, code := some k9c3 }
def k9c4 : Code := { maxStack := 4, maxLocals := 4, code := jdk_43_method_22_code, exceptionTable := #[], attributes := #[] }
def k9m4 : Method := { name := "indexOf", desc := "([BIII)I", sig := { parameters := [(.array .byte), .int, .int, .int], returnType := some .int }, accessFlags := 9, code := some k9c4 }
def k9c5 : Code := { maxStack := 2, maxLocals := 6, code := jdk_43_method_23_code, exceptionTable := #[], attributes := #[] }
def k9m5 : Method := { name := "indexOfChar", desc := "([BIII)I", sig := { parameters := [(.array .byte), .int, .int, .int], returnType := some .int }, accessFlags := 10, code := some k9c5 }
def k9c6 : Code := { maxStack := 4, maxLocals := 1, code := jdk_43_method_46_code, exceptionTable := #[], attributes := #[] }
def k9m6 : Method := { name := "toBytes", desc := "(C)[B", sig := { parameters := [.char], returnType := some (.array .byte) }, accessFlags := 9, code := some k9c6 }
/-- java/lang/StringLatin1 -/
def k9 : Class := { plain "java/lang/StringLatin1" (some 0) with
  accessFlags := 48
  interfaces := #[]
  cf := some (fileOf pool9 14 #[.nestMembers #[390, 221]] #[{ accessFlags := 0, nameIndex := 7, descriptorIndex := 8, attributes := #[] }, { accessFlags := 9, nameIndex := 252, descriptorIndex := 53, attributes := #[] }, { accessFlags := 9, nameIndex := 90, descriptorIndex := 105, attributes := #[] }, { accessFlags := 9, nameIndex := 90, descriptorIndex := 91, attributes := #[] }, { accessFlags := 9, nameIndex := 101, descriptorIndex := 98, attributes := #[] }, { accessFlags := 10, nameIndex := 97, descriptorIndex := 98, attributes := #[] }, { accessFlags := 9, nameIndex := 380, descriptorIndex := 382, attributes := #[] }] 48 4 #[] #[{ accessFlags := 4120, nameIndex := 121, descriptorIndex := 122, attributes := #[] }])
  fields := #[{ name := "$assertionsDisabled", type := .boolean, accessFlags := 4120, slot := 0, constantValue := 0 }]
  methods := #[k9m0, k9m1, k9m2, k9m3, k9m4, k9m5, k9m6]
  instanceTypes := #[]
  staticTypes := #[.boolean]
  resolved := Array.replicate 395 none
  statics := none }

def pool10 : Array CpInfo := pool [(1, .methodref 2 3), (0, .class_ 4), (0, .nameAndType 5 6), (0, u "java/lang/Object"), (0, u "<init>"), (0, u "()V"), (0, .string 8), (0, u "prefix"), (0, .methodref 10 11), (0, .class_ 12), (0, .nameAndType 13 14), (0, u "java/util/Objects"), (0, u "requireNonNull"), (0, u "(Ljava/lang/Object;Ljava/lang/String;)Ljava/lang/Object;"), (0, .methodref 16 17), (0, .class_ 18), (0, .nameAndType 19 20), (0, u "java/lang/String"), (0, u "indexOf"), (0, u "(I)I"), (2, .class_ 24), (0, u "java/lang/StringBuilder"), (0, .methodref 23 3), (2, .methodref 23 29), (0, .nameAndType 30 31), (0, u "append"), (0, u "(Ljava/lang/String;)Ljava/lang/StringBuilder;"), (0, .methodref 23 33), (0, .nameAndType 34 35), (0, u "toString"), (0, u "()Ljava/lang/String;"), (2, u "(Ljava/lang/String;)V"), (0, .fieldref 40 41), (0, .class_ 42), (0, .nameAndType 8 43), (0, u "com/example/portunus/portunus/LockKeys"), (0, u "Ljava/lang/String;"), (0, .string 45), (0, u "lock:"), (0, .methodref 40 47), (0, .nameAndType 48 49), (0, u "braced"), (0, u "(Ljava/lang/String;)Ljava/lang/String;"), (10, .string 61), (0, u "name"), (0, .methodref 16 63), (0, .nameAndType 64 65), (0, u "isEmpty"), (0, u "()Z"), (0, .methodref 16 67), (0, .nameAndType 68 69), (0, u "charAt"), (0, u "(I)C"), (2, .string 73), (0, u "{"), (0, .string 75), (0, u "}"), (0, u "DEFAULT_PREFIX"), (6, u "lockKey")] 7

def k10c0 : Code := { maxStack := 4, maxLocals := 2, code := prog_6_method_1_code, exceptionTable := #[], attributes := #[] }
def k10m0 : Method := { name := "<init>", desc := "(Ljava/lang/String;)V", sig := { parameters := [(.object "java/lang/String")], returnType := none }, accessFlags := 0, code := some k10c0 }
def k10c1 : Code := { maxStack := 2, maxLocals := 2, code := prog_6_method_2_code, exceptionTable := #[], attributes := #[] }
def k10m1 : Method := { name := "lockKey", desc := "(Ljava/lang/String;)Ljava/lang/String;", sig := { parameters := [(.object "java/lang/String")], returnType := some (.object "java/lang/String") }, accessFlags := 0, code := some k10c1 }
def k10c2 : Code := { maxStack := 4, maxLocals := 1, code := prog_6_method_8_code, exceptionTable := #[], attributes := #[] }
def k10m2 : Method := { name := "braced", desc := "(Ljava/lang/String;)Ljava/lang/String;", sig := { parameters := [(.object "java/lang/String")], returnType := some (.object "java/lang/String") }, accessFlags := 10, code := some k10c2 }
/-- com/example/portunus/portunus/LockKeys -/
def k10 : Class := { plain "com/example/portunus/portunus/LockKeys" (some 0) with
  accessFlags := 48
  interfaces := #[]
  cf := some (fileOf pool10 40 #[] #[{ accessFlags := 0, nameIndex := 5, descriptorIndex := 38, attributes := #[] }, { accessFlags := 0, nameIndex := 83, descriptorIndex := 49, attributes := #[] }, { accessFlags := 10, nameIndex := 48, descriptorIndex := 49, attributes := #[] }] 48 2 #[] #[{ accessFlags := 24, nameIndex := 76, descriptorIndex := 43, attributes := #[] }, { accessFlags := 18, nameIndex := 8, descriptorIndex := 43, attributes := #[] }])
  fields := #[{ name := "DEFAULT_PREFIX", type := (.object "java/lang/String"), accessFlags := 24, slot := 0, constantValue := 0 }, { name := "prefix", type := (.object "java/lang/String"), accessFlags := 18, slot := 0, constantValue := 0 }]
  methods := #[k10m0, k10m1, k10m2]
  instanceTypes := #[(.object "java/lang/String")]
  staticTypes := #[(.object "java/lang/String")]
  resolved := Array.replicate 91 none
  statics := none }

def pool11 : Array CpInfo := pool [(2, .class_ 4), (1, u "java/lang/Object"), (0, u "<init>"), (0, u "()V"), (35, .class_ 44), (1, u "java/util/Objects"), (0, u "requireNonNull"), (48, u "(Ljava/lang/Object;Ljava/lang/String;)Ljava/lang/Object;")] 89

def k11m0 : Method := { name := "<init>", desc := "()V", sig := { parameters := [], returnType := none }, accessFlags := 2, code := none }
def k11c1 : Code := { maxStack := 3, maxLocals := 2, code := jdk_31_method_11_code, exceptionTable := #[], attributes := #[] }
def k11m1 : Method := { name := "requireNonNull", desc := "(Ljava/lang/Object;Ljava/lang/String;)Ljava/lang/Object;", sig := { parameters := [(.object "java/lang/Object"), (.object "java/lang/String")], returnType := some (.object "java/lang/Object") }, accessFlags := 9, code := some k11c1 }
/-- java/util/Objects -/
def k11 : Class := { plain "java/util/Objects" (some 0) with
  accessFlags := 49
  interfaces := #[]
  cf := some (fileOf pool11 42 #[] #[{ accessFlags := 2, nameIndex := 5, descriptorIndex := 6, attributes := #[] }, { accessFlags := 9, nameIndex := 45, descriptorIndex := 94, attributes := #[] }] 49 2 #[] #[])
  fields := #[]
  methods := #[k11m0, k11m1]
  instanceTypes := #[]
  staticTypes := #[]
  resolved := Array.replicate 184 none
  statics := none }

def pool12 : Array CpInfo := pool [(1, .class_ 2), (0, u "java/lang/Math"), (1, .class_ 6), (1, u "java/lang/Object"), (0, u "<init>"), (0, u "()V"), (89, .class_ 100), (1, u "java/lang/Math$RandomNumberGeneratorHolder"), (71, u "negativeZeroFloatBits"), (0, u "J"), (2, u "negativeZeroDoubleBits"), (21, u "max"), (2, u "min"), (43, u "$assertionsDisabled"), (0, u "Z"), (88, u "(II)I"), (2, u "twoToTheDoubleScaleDown"), (0, u "D"), (4, u "twoToTheDoubleScaleUp"), (9, u "E"), (3, u "PI"), (2, u "TAU"), (2, u "DEGREES_TO_RADIANS"), (0, u "RADIANS_TO_DEGREES")] 94

def k12m0 : Method := { name := "<init>", desc := "()V", sig := { parameters := [], returnType := none }, accessFlags := 2, code := none }
def k12c1 : Code := { maxStack := 2, maxLocals := 2, code := jdk_29_method_65_code, exceptionTable := #[], attributes := #[] }
def k12m1 : Method := { name := "max", desc := "(II)I", sig := { parameters := [.int, .int], returnType := some .int }, accessFlags := 9, code := some k12c1 }
def k12c2 : Code := { maxStack := 2, maxLocals := 2, code := jdk_29_method_69_code, exceptionTable := #[], attributes := #[] }
def k12m2 : Method := { name := "min", desc := "(II)I", sig := { parameters := [.int, .int], returnType := some .int }, accessFlags := 9, code := some k12c2 }
/-- java/lang/Math -/
def k12 : Class := { plain "java/lang/Math" (some 0) with
  accessFlags := 49
  interfaces := #[]
  cf := some (fileOf pool12 1 #[.nestMembers #[98]] #[{ accessFlags := 2, nameIndex := 7, descriptorIndex := 8, attributes := #[] }, { accessFlags := 9, nameIndex := 198, descriptorIndex := 335, attributes := #[] }, { accessFlags := 9, nameIndex := 201, descriptorIndex := 335, attributes := #[] }] 49 4 #[] #[{ accessFlags := 25, nameIndex := 354, descriptorIndex := 339, attributes := #[] }, { accessFlags := 25, nameIndex := 358, descriptorIndex := 339, attributes := #[] }, { accessFlags := 25, nameIndex := 361, descriptorIndex := 339, attributes := #[] }, { accessFlags := 26, nameIndex := 364, descriptorIndex := 339, attributes := #[] }, { accessFlags := 26, nameIndex := 365, descriptorIndex := 339, attributes := #[] }, { accessFlags := 26, nameIndex := 172, descriptorIndex := 173, attributes := #[] }, { accessFlags := 26, nameIndex := 176, descriptorIndex := 173, attributes := #[] }, { accessFlags := 8, nameIndex := 344, descriptorIndex := 339, attributes := #[] }, { accessFlags := 8, nameIndex := 338, descriptorIndex := 339, attributes := #[] }, { accessFlags := 4120, nameIndex := 245, descriptorIndex := 246, attributes := #[] }])
  fields := #[{ name := "E", type := .double, accessFlags := 25, slot := 0, constantValue := 0 }, { name := "PI", type := .double, accessFlags := 25, slot := 1, constantValue := 0 }, { name := "TAU", type := .double, accessFlags := 25, slot := 2, constantValue := 0 }, { name := "DEGREES_TO_RADIANS", type := .double, accessFlags := 26, slot := 3, constantValue := 0 }, { name := "RADIANS_TO_DEGREES", type := .double, accessFlags := 26, slot := 4, constantValue := 0 }, { name := "negativeZeroFloatBits", type := .long, accessFlags := 26, slot := 5, constantValue := 0 }, { name := "negativeZeroDoubleBits", type := .long, accessFlags := 26, slot := 6, constantValue := 0 }, { name := "twoToTheDoubleScaleUp", type := .double, accessFlags := 8, slot := 7, constantValue := 0 }, { name := "twoToTheDoubleScaleDown", type := .double, accessFlags := 8, slot := 8, constantValue := 0 }, { name := "$assertionsDisabled", type := .boolean, accessFlags := 4120, slot := 9, constantValue := 0 }]
  methods := #[k12m0, k12m1, k12m2]
  instanceTypes := #[]
  staticTypes := #[.double, .double, .double, .double, .double, .long, .long, .double, .double, .boolean]
  resolved := Array.replicate 460 none
  statics := none }

def pool13 : Array CpInfo := pool [(1, .class_ 2), (0, u "java/lang/Appendable"), (0, .class_ 4), (0, u "java/lang/Object")] 9

/-- java/lang/Appendable -/
def k13 : Class := { plain "java/lang/Appendable" (some 0) with
  accessFlags := 1537
  interfaces := #[]
  cf := some (fileOf pool13 1 #[] #[] 1537 3 #[] #[])
  fields := #[]
  methods := #[]
  instanceTypes := #[]
  staticTypes := #[]
  resolved := Array.replicate 14 none
  statics := none }

def pool14 : Array CpInfo := pool [(1, .class_ 2), (0, u "java/lang/String"), (0, .methodref 4 5), (0, .class_ 6), (0, .nameAndType 7 8), (0, u "java/lang/Object"), (0, u "<init>"), (0, u "()V"), (1, .class_ 12), (1, u "java/lang/AbstractStringBuilder"), (0, u "EMPTYVALUE"), (0, u "[B"), (0, .fieldref 10 16), (0, .nameAndType 17 14), (0, u "value"), (0, .fieldref 1 19), (0, .nameAndType 20 21), (0, u "COMPACT_STRINGS"), (0, u "Z"), (0, .fieldref 10 23), (0, .nameAndType 24 25), (0, u "coder"), (0, u "B"), (6, .methodref 1 33), (0, .nameAndType 34 35), (0, u "length"), (0, u "()I"), (4, .methodref 1 41), (0, .nameAndType 24 42), (0, u "()B"), (2, u "append"), (0, u "(Ljava/lang/String;)Ljava/lang/AbstractStringBuilder;"), (1, .class_ 49), (0, u "java/lang/CharSequence"), (19, u "(Ljava/lang/String;)V"), (5, u "maybeLatin1"), (3, .fieldref 10 80), (0, .nameAndType 81 82), (0, u "count"), (0, u "I"), (2, u "isLatin1"), (0, u "()Z"), (13, .methodref 10 101), (0, .nameAndType 102 103), (0, u "ensureCapacityInternal"), (0, u "(I)V"), (104, .methodref 10 209), (0, .nameAndType 210 211), (0, u "putStringAt"), (0, u "(ILjava/lang/String;)V"), (5, u "inflateIfNeededFor"), (2, .nameAndType 221 222), (0, u "getBytes"), (0, u "([BIB)V"), (174, .methodref 10 398), (0, .nameAndType 217 69), (0, .methodref 1 220), (3, u "()[B"), (40, .class_ 445), (0, u "java/lang/Appendable"), (106, u "getValue")] 56

def k14m0 : Method := { name := "<init>", desc := "()V", sig := { parameters := [], returnType := none }, accessFlags := 0, code := none }
def k14c1 : Code := { maxStack := 2, maxLocals := 2, code := jdk_68_method_2_code, exceptionTable := #[], attributes := #[] }
def k14m1 : Method := { name := "<init>", desc := "(I)V", sig := { parameters := [.int], returnType := none }, accessFlags := 0, code := some k14c1 }
def k14c2 : Code := { maxStack := 1, maxLocals := 1, code := jdk_68_method_6_code, exceptionTable := #[], attributes := #[] }
def k14m2 : Method := { name := "length", desc := "()I", sig := { parameters := [], returnType := some .int }, accessFlags := 1, code := some k14c2 }
def k14c3 : Code := { maxStack := 4, maxLocals := 3, code := jdk_68_method_9_code, exceptionTable := #[], attributes := #[] }
def k14m3 : Method := { name := "ensureCapacityInternal", desc := "(I)V", sig := { parameters := [.int], returnType := none }, accessFlags := 2, code := some k14c3 }
def k14c4 : Code := { maxStack := 3, maxLocals := 3, code := jdk_68_method_22_code, exceptionTable := #[], attributes := #[] }
def k14m4 : Method := { name := "append", desc := "(Ljava/lang/String;)Ljava/lang/AbstractStringBuilder;", sig := { parameters := [(.object "java/lang/String")], returnType := some (.object "java/lang/AbstractStringBuilder") }, accessFlags := 1, code := some k14c4 }
def k14c5 : Code := { maxStack := 1, maxLocals := 1, code := jdk_68_method_64_code, exceptionTable := #[], attributes := #[] }
def k14m5 : Method := { name := "getValue", desc := "()[B", sig := { parameters := [], returnType := some (.array .byte) }, accessFlags := 16, code := some k14c5 }
def k14c6 : Code := { maxStack := 1, maxLocals := 1, code := jdk_68_method_68_code, exceptionTable := #[], attributes := #[] }
def k14m6 : Method := { name := "isLatin1", desc := "()Z", sig := { parameters := [], returnType := some .boolean }, accessFlags := 16, code := some k14c6 }
def k14c7 : Code := { maxStack := 2, maxLocals := 2, code := jdk_68_method_71_code, exceptionTable := #[], attributes := #[] }
def k14m7 : Method := { name := "inflateIfNeededFor", desc := "(Ljava/lang/String;)V", sig := { parameters := [(.object "java/lang/String")], returnType := none }, accessFlags := 2, code := some k14c7 }
def k14c8 : Code := { maxStack := 4, maxLocals := 3, code := jdk_68_method_73_code, exceptionTable := #[], attributes := #[] }
def k14m8 : Method := { name := "putStringAt", desc := "(ILjava/lang/String;)V", sig := { parameters := [.int, (.object "java/lang/String")], returnType := none }, accessFlags := 2, code := some k14c8 }
/-- java/lang/AbstractStringBuilder -/
def k14 : Class := { plain "java/lang/AbstractStringBuilder" (some 0) with
  accessFlags := 1056
  interfaces := #[13, 4]
  cf := some (fileOf pool14 10 #[] #[{ accessFlags := 0, nameIndex := 7, descriptorIndex := 8, attributes := #[] }, { accessFlags := 0, nameIndex := 7, descriptorIndex := 103, attributes := #[] }, { accessFlags := 1, nameIndex := 34, descriptorIndex := 35, attributes := #[] }, { accessFlags := 2, nameIndex := 102, descriptorIndex := 103, attributes := #[] }, { accessFlags := 1, nameIndex := 45, descriptorIndex := 46, attributes := #[] }, { accessFlags := 16, nameIndex := 552, descriptorIndex := 403, attributes := #[] }, { accessFlags := 16, nameIndex := 85, descriptorIndex := 86, attributes := #[] }, { accessFlags := 2, nameIndex := 217, descriptorIndex := 69, attributes := #[] }, { accessFlags := 2, nameIndex := 210, descriptorIndex := 211, attributes := #[] }] 1056 4 #[444, 48] #[{ accessFlags := 0, nameIndex := 17, descriptorIndex := 14, attributes := #[] }, { accessFlags := 0, nameIndex := 24, descriptorIndex := 25, attributes := #[] }, { accessFlags := 0, nameIndex := 75, descriptorIndex := 21, attributes := #[] }, { accessFlags := 0, nameIndex := 81, descriptorIndex := 82, attributes := #[] }, { accessFlags := 26, nameIndex := 13, descriptorIndex := 14, attributes := #[] }])
  fields := #[{ name := "value", type := (.array .byte), accessFlags := 0, slot := 0, constantValue := 0 }, { name := "coder", type := .byte, accessFlags := 0, slot := 1, constantValue := 0 }, { name := "maybeLatin1", type := .boolean, accessFlags := 0, slot := 2, constantValue := 0 }, { name := "count", type := .int, accessFlags := 0, slot := 3, constantValue := 0 }, { name := "EMPTYVALUE", type := (.array .byte), accessFlags := 26, slot := 0, constantValue := 0 }]
  methods := #[k14m0, k14m1, k14m2, k14m3, k14m4, k14m5, k14m6, k14m7, k14m8]
  instanceTypes := #[(.array .byte), .byte, .boolean, .int]
  staticTypes := #[(.array .byte)]
  resolved := Array.replicate 609 none
  statics := none }

def pool15 : Array CpInfo := pool [(1, .methodref 2 3), (0, .class_ 4), (0, .nameAndType 5 6), (0, u "java/lang/AbstractStringBuilder"), (0, u "<init>"), (0, u "(I)V"), (11, .class_ 20), (1, u "java/lang/String"), (3, .class_ 26), (1, u "java/lang/StringBuilder"), (0, u "append"), (0, u "(Ljava/lang/String;)Ljava/lang/StringBuilder;"), (0, .methodref 2 30), (0, .nameAndType 27 31), (0, u "(Ljava/lang/String;)Ljava/lang/AbstractStringBuilder;"), (105, .methodref 18 138), (0, .nameAndType 5 139), (0, u "(Ljava/lang/StringBuilder;)V"), (5, u "()V"), (10, u "()I"), (186, .methodref 2 344), (0, .nameAndType 345 156), (0, u "length"), (3, .class_ 350), (0, u "java/lang/Appendable"), (0, .class_ 352), (0, u "java/io/Serializable"), (0, .class_ 354), (0, u "java/lang/Comparable"), (0, .class_ 356), (0, u "java/lang/CharSequence"), (0, u "serialVersionUID"), (0, u "J"), (40, u "toString"), (0, u "()Ljava/lang/String;")] 21

def k15c0 : Code := { maxStack := 2, maxLocals := 1, code := jdk_67_method_1_code, exceptionTable := #[], attributes := #[] }
def k15m0 : Method := { name := "<init>", desc := "()V", sig := { parameters := [], returnType := none }, accessFlags := 1, code := some k15c0 }
def k15c1 : Code := { maxStack := 2, maxLocals := 2, code := jdk_67_method_7_code, exceptionTable := #[], attributes := #[] }
def k15m1 : Method := { name := "append", desc := "(Ljava/lang/String;)Ljava/lang/StringBuilder;", sig := { parameters := [(.object "java/lang/String")], returnType := some (.object "java/lang/StringBuilder") }, accessFlags := 1, code := some k15c1 }
def k15c2 : Code := { maxStack := 3, maxLocals := 1, code := jdk_67_method_42_code, exceptionTable := #[], attributes := #[] }
def k15m2 : Method := { name := "toString", desc := "()Ljava/lang/String;", sig := { parameters := [], returnType := some (.object "java/lang/String") }, accessFlags := 1, code := some k15c2 }
def k15c3 : Code := { maxStack := 1, maxLocals := 1, code := jdk_67_method_93_code, exceptionTable := #[], attributes := #[] }
def k15m3 : Method := { name := "length", desc := "()I", sig := { parameters := [], returnType := some .int }, accessFlags := 4161, code := some k15c3 }
/-- java/lang/StringBuilder -/
def k15 : Class := { plain "java/lang/StringBuilder" (some 14) with
  accessFlags := 49
  interfaces := #[13, 2, 3, 4]
  cf := some (fileOf pool15 24 #[] #[{ accessFlags := 1, nameIndex := 5, descriptorIndex := 145, attributes := #[] }, { accessFlags := 1, nameIndex := 27, descriptorIndex := 28, attributes := #[] }, { accessFlags := 1, nameIndex := 399, descriptorIndex := 400, attributes := #[] }, { accessFlags := 4161, nameIndex := 345, descriptorIndex := 156, attributes := #[] }] 49 2 #[349, 351, 353, 355] #[{ accessFlags := 24, nameIndex := 357, descriptorIndex := 358, attributes := #[] }])
  fields := #[{ name := "serialVersionUID", type := .long, accessFlags := 24, slot := 0, constantValue := 0 }]
  methods := #[k15m0, k15m1, k15m2, k15m3]
  instanceTypes := #[(.array .byte), .byte, .boolean, .int]
  staticTypes := #[.long]
  resolved := Array.replicate 422 none
  statics := none }

def pool16 : Array CpInfo := pool [(2, .class_ 4), (1, u "java/lang/Object"), (0, u "<init>"), (0, u "()V"), (1, .class_ 10), (1, u "java/lang/System"), (0, u "allowSecurityManager"), (0, u "I"), (16, u "cons"), (0, u "Ljava/io/Console;"), (77, .class_ 110), (1, u "java/lang/System$CallersHolder"), (43, u "initialErrStream"), (0, u "Ljava/io/PrintStream;"), (19, u "security"), (0, u "Ljava/lang/SecurityManager;"), (31, .class_ 209), (0, u "java/lang/System$1"), (7, u "props"), (0, u "Ljava/util/Properties;"), (2, u "lineSeparator"), (0, u "Ljava/lang/String;"), (96, .class_ 321), (1, u "java/lang/System$LoggerFinder"), (5, .class_ 328), (0, u "java/lang/System$Logger"), (67, u "err"), (2, u "out"), (91, u "notSupportedJnuEncoding"), (15, u "in"), (17, u "initialIn"), (0, u "Ljava/io/InputStream;"), (35, u "bootLayer"), (0, u "Ljava/lang/ModuleLayer;"), (99, .class_ 664), (0, u "java/lang/System$2"), (9, u "NEVER"), (2, u "MAYBE"), (49, u "arraycopy"), (0, u "(Ljava/lang/Object;ILjava/lang/Object;II)V"), (72, .class_ 802), (0, u "java/lang/System$Logger$Level")] 31

def k16m0 : Method := { name := "<init>", desc := "()V", sig := { parameters := [], returnType := none }, accessFlags := 2, code := none }
def k16m1 : Method := { name := "arraycopy", desc := "(Ljava/lang/Object;ILjava/lang/Object;II)V", sig := { parameters := [(.object "java/lang/Object"), .int, (.object "java/lang/Object"), .int, .int], returnType := none }, accessFlags := 265, code := none }
/-- java/lang/System -/
def k16 : Class := { plain "java/lang/System" (some 0) with
  accessFlags := 49
  interfaces := #[]
  cf := some (fileOf pool16 8 #[.nestMembers #[319, 327, 801, 108, 663, 208]] #[{ accessFlags := 2, nameIndex := 5, descriptorIndex := 6, attributes := #[] }, { accessFlags := 265, nameIndex := 727, descriptorIndex := 728, attributes := #[] }] 49 2 #[] #[{ accessFlags := 25, nameIndex := 507, descriptorIndex := 526, attributes := #[] }, { accessFlags := 25, nameIndex := 399, descriptorIndex := 155, attributes := #[] }, { accessFlags := 25, nameIndex := 396, descriptorIndex := 155, attributes := #[] }, { accessFlags := 10, nameIndex := 525, descriptorIndex := 526, attributes := #[] }, { accessFlags := 26, nameIndex := 674, descriptorIndex := 12, attributes := #[] }, { accessFlags := 26, nameIndex := 677, descriptorIndex := 12, attributes := #[] }, { accessFlags := 10, nameIndex := 11, descriptorIndex := 12, attributes := #[] }, { accessFlags := 74, nameIndex := 175, descriptorIndex := 176, attributes := #[] }, { accessFlags := 10, nameIndex := 491, descriptorIndex := 222, attributes := #[] }, { accessFlags := 74, nameIndex := 29, descriptorIndex := 30, attributes := #[] }, { accessFlags := 74, nameIndex := 154, descriptorIndex := 155, attributes := #[] }, { accessFlags := 10, nameIndex := 217, descriptorIndex := 218, attributes := #[] }, { accessFlags := 10, nameIndex := 221, descriptorIndex := 222, attributes := #[] }, { accessFlags := 8, nameIndex := 562, descriptorIndex := 563, attributes := #[] }])
  fields := #[{ name := "in", type := (.object "java/io/InputStream"), accessFlags := 25, slot := 0, constantValue := 0 }, { name := "out", type := (.object "java/io/PrintStream"), accessFlags := 25, slot := 1, constantValue := 0 }, { name := "err", type := (.object "java/io/PrintStream"), accessFlags := 25, slot := 2, constantValue := 0 }, { name := "initialIn", type := (.object "java/io/InputStream"), accessFlags := 10, slot := 3, constantValue := 0 }, { name := "NEVER", type := .int, accessFlags := 26, slot := 4, constantValue := 0 }, { name := "MAYBE", type := .int, accessFlags := 26, slot := 5, constantValue := 0 }, { name := "allowSecurityManager", type := .int, accessFlags := 10, slot := 6, constantValue := 0 }, { name := "security", type := (.object "java/lang/SecurityManager"), accessFlags := 74, slot := 7, constantValue := 0 }, { name := "notSupportedJnuEncoding", type := (.object "java/lang/String"), accessFlags := 10, slot := 8, constantValue := 0 }, { name := "cons", type := (.object "java/io/Console"), accessFlags := 74, slot := 9, constantValue := 0 }, { name := "initialErrStream", type := (.object "java/io/PrintStream"), accessFlags := 74, slot := 10, constantValue := 0 }, { name := "props", type := (.object "java/util/Properties"), accessFlags := 10, slot := 11, constantValue := 0 }, { name := "lineSeparator", type := (.object "java/lang/String"), accessFlags := 10, slot := 12, constantValue := 0 }, { name := "bootLayer", type := (.object "java/lang/ModuleLayer"), accessFlags := 8, slot := 13, constantValue := 0 }]
  methods := #[k16m0, k16m1]
  instanceTypes := #[]
  staticTypes := #[(.object "java/io/InputStream"), (.object "java/io/PrintStream"), (.object "java/io/PrintStream"), (.object "java/io/InputStream"), .int, .int, .int, (.object "java/lang/SecurityManager"), (.object "java/lang/String"), (.object "java/io/Console"), (.object "java/io/PrintStream"), (.object "java/util/Properties"), (.object "java/lang/String"), (.object "java/lang/ModuleLayer")]
  resolved := Array.replicate 834 none
  statics := none }

def pool17 : Array CpInfo := pool [(2, .class_ 4), (1, u "java/lang/Object"), (0, u "<init>"), (0, u "()V"), (17, .class_ 26), (1, u "jdk/internal/util/Preconditions"), (6, u "checkIndex"), (21, .class_ 56), (0, u "jdk/internal/util/Preconditions$4"), (57, .class_ 115), (0, u "jdk/internal/util/Preconditions$1"), (7, u "SIOOBE_FORMATTER"), (0, u "Ljava/util/function/BiFunction;"), (0, .class_ 126), (0, u "jdk/internal/util/Preconditions$2"), (3, u "AIOOBE_FORMATTER"), (0, .class_ 132), (0, u "jdk/internal/util/Preconditions$3"), (3, u "IOOBE_FORMATTER"), (41, u "(IILjava/util/function/BiFunction;)I")] 15

def k17m0 : Method := { name := "<init>", desc := "()V", sig := { parameters := [], returnType := none }, accessFlags := 1, code := none }
def k17c1 : Code := { maxStack := 3, maxLocals := 3, code := jdk_41_method_11_code, exceptionTable := #[], attributes := #[] }
def k17m1 : Method := { name := "checkIndex", desc := "(IILjava/util/function/BiFunction;)I", sig := { parameters := [.int, .int, (.object "java/util/function/BiFunction")], returnType := some .int }, accessFlags := 9, code := some k17c1 }
/-- jdk/internal/util/Preconditions -/
def k17 : Class := { plain "jdk/internal/util/Preconditions" (some 0) with
  accessFlags := 33
  interfaces := #[]
  cf := some (fileOf pool17 24 #[.nestMembers #[55, 131, 125, 114]] #[{ accessFlags := 1, nameIndex := 5, descriptorIndex := 6, attributes := #[] }, { accessFlags := 9, nameIndex := 33, descriptorIndex := 178, attributes := #[] }] 33 2 #[] #[{ accessFlags := 25, nameIndex := 123, descriptorIndex := 124, attributes := #[] }, { accessFlags := 25, nameIndex := 130, descriptorIndex := 124, attributes := #[] }, { accessFlags := 25, nameIndex := 136, descriptorIndex := 124, attributes := #[] }])
  fields := #[{ name := "SIOOBE_FORMATTER", type := (.object "java/util/function/BiFunction"), accessFlags := 25, slot := 0, constantValue := 0 }, { name := "AIOOBE_FORMATTER", type := (.object "java/util/function/BiFunction"), accessFlags := 25, slot := 1, constantValue := 0 }, { name := "IOOBE_FORMATTER", type := (.object "java/util/function/BiFunction"), accessFlags := 25, slot := 2, constantValue := 0 }]
  methods := #[k17m0, k17m1]
  instanceTypes := #[]
  staticTypes := #[(.object "java/util/function/BiFunction"), (.object "java/util/function/BiFunction"), (.object "java/util/function/BiFunction")]
  resolved := Array.replicate 194 none
  statics := some 1 }

def pool18 : Array CpInfo := pool [(2, .class_ 4), (1, u "java/lang/Object"), (0, u "<init>"), (0, u "()V"), (7, .class_ 16), (1, u "java/util/Arrays"), (57, .class_ 76), (1, u "java/util/Arrays$NaturalOrder"), (36, .class_ 115), (1, u "java/util/Arrays$LegacyMergeSort"), (1, u "Z"), (21, u "copyOfRange"), (10, .methodref 151 152), (0, .class_ 153), (0, .nameAndType 154 155), (0, u "java/lang/System"), (0, u "arraycopy"), (0, u "(Ljava/lang/Object;ILjava/lang/Object;II)V"), (148, .methodref 305 306), (0, .class_ 307), (0, .nameAndType 308 309), (0, u "java/lang/Math"), (0, u "min"), (0, u "(II)I"), (29, .methodref 14 340), (0, .nameAndType 341 342), (0, u "copyOfRangeByte"), (0, u "([BII)[B"), (0, .methodref 14 344), (0, .nameAndType 345 346), (0, u "checkLength"), (0, u "(II)V"), (28, .class_ 376), (0, u "java/util/Arrays$ArrayList"), (68, u "$assertionsDisabled"), (269, u "MIN_ARRAY_SORT_GRAN"), (0, u "I"), (2, u "INSERTIONSORT_THRESHOLD"), (255, .class_ 976), (0, u "java/util/Arrays$ArrayItr")] 52

def k18m0 : Method := { name := "<init>", desc := "()V", sig := { parameters := [], returnType := none }, accessFlags := 2, code := none }
def k18c1 : Code := { maxStack := 4, maxLocals := 2, code := jdk_65_method_131_code, exceptionTable := #[], attributes := #[] }
def k18m1 : Method := { name := "checkLength", desc := "(II)V", sig := { parameters := [.int, .int], returnType := none }, accessFlags := 10, code := some k18c1 }
def k18c2 : Code := { maxStack := 3, maxLocals := 3, code := jdk_65_method_132_code, exceptionTable := #[], attributes := #[] }
def k18m2 : Method := { name := "copyOfRange", desc := "([BII)[B", sig := { parameters := [(.array .byte), .int, .int], returnType := some (.array .byte) }, accessFlags := 9, code := some k18c2 }
def k18c3 : Code := { maxStack := 6, maxLocals := 5, code := jdk_65_method_133_code, exceptionTable := #[], attributes := #[] }
def k18m3 : Method := { name := "copyOfRangeByte", desc := "([BII)[B", sig := { parameters := [(.array .byte), .int, .int], returnType := some (.array .byte) }, accessFlags := 10, code := some k18c3 }
/-- java/util/Arrays -/
def k18 : Class := { plain "java/util/Arrays" (some 0) with
  accessFlags := 49
  interfaces := #[]
  cf := some (fileOf pool18 14 #[.nestMembers #[975, 375, 113, 74]] #[{ accessFlags := 2, nameIndex := 5, descriptorIndex := 6, attributes := #[] }, { accessFlags := 10, nameIndex := 345, descriptorIndex := 346, attributes := #[] }, { accessFlags := 9, nameIndex := 139, descriptorIndex := 342, attributes := #[] }, { accessFlags := 10, nameIndex := 341, descriptorIndex := 342, attributes := #[] }] 49 2 #[] #[{ accessFlags := 26, nameIndex := 715, descriptorIndex := 716, attributes := #[] }, { accessFlags := 26, nameIndex := 719, descriptorIndex := 716, attributes := #[] }, { accessFlags := 4120, nameIndex := 445, descriptorIndex := 117, attributes := #[] }])
  fields := #[{ name := "MIN_ARRAY_SORT_GRAN", type := .int, accessFlags := 26, slot := 0, constantValue := 0 }, { name := "INSERTIONSORT_THRESHOLD", type := .int, accessFlags := 26, slot := 1, constantValue := 0 }, { name := "$assertionsDisabled", type := .boolean, accessFlags := 4120, slot := 2, constantValue := 0 }]
  methods := #[k18m0, k18m1, k18m2, k18m3]
  instanceTypes := #[]
  staticTypes := #[.int, .int, .boolean]
  resolved := Array.replicate 1029 none
  statics := none }

def pool19 : Array CpInfo := pool [(9, u "<init>"), (6, .class_ 18), (1, u "java/lang/Object"), (0, u "()V"), (1, .class_ 23), (1, u "jdk/internal/util/ArraysSupport"), (0, u "LOG2_ARRAY_LONG_INDEX_SCALE"), (0, u "I"), (2, u "U"), (0, u "Ljdk/internal/misc/Unsafe;"), (8, u "BIG_ENDIAN"), (0, u "Z"), (8, u "LOG2_BYTE_BIT_SIZE"), (4, u "LOG2_ARRAY_INT_INDEX_SCALE"), (54, u "JLA"), (0, u "Ljdk/internal/access/JavaLangAccess;"), (11, u "LOG2_ARRAY_BOOLEAN_INDEX_SCALE"), (9, u "LOG2_ARRAY_BYTE_INDEX_SCALE"), (5, u "LOG2_ARRAY_CHAR_INDEX_SCALE"), (5, u "LOG2_ARRAY_SHORT_INDEX_SCALE"), (18, u "LOG2_ARRAY_FLOAT_INDEX_SCALE"), (24, u "LOG2_ARRAY_DOUBLE_INDEX_SCALE"), (89, u "T_BOOLEAN"), (2, u "T_CHAR"), (1, u "T_FLOAT"), (1, u "T_DOUBLE"), (1, u "T_BYTE"), (1, u "T_SHORT"), (1, u "T_INT"), (1, u "T_LONG"), (1, u "SOFT_MAX_ARRAY_LENGTH")] 83

def k19m0 : Method := { name := "<init>", desc := "()V", sig := { parameters := [], returnType := none }, accessFlags := 2, code := none }
/-- jdk/internal/util/ArraysSupport -/
def k19 : Class := { plain "jdk/internal/util/ArraysSupport" (some 0) with
  accessFlags := 33
  interfaces := #[]
  cf := some (fileOf pool19 21 #[] #[{ accessFlags := 2, nameIndex := 9, descriptorIndex := 19, attributes := #[] }] 33 16 #[] #[{ accessFlags := 24, nameIndex := 28, descriptorIndex := 29, attributes := #[] }, { accessFlags := 26, nameIndex := 38, descriptorIndex := 39, attributes := #[] }, { accessFlags := 25, nameIndex := 121, descriptorIndex := 25, attributes := #[] }, { accessFlags := 25, nameIndex := 131, descriptorIndex := 25, attributes := #[] }, { accessFlags := 25, nameIndex := 137, descriptorIndex := 25, attributes := #[] }, { accessFlags := 25, nameIndex := 143, descriptorIndex := 25, attributes := #[] }, { accessFlags := 25, nameIndex := 53, descriptorIndex := 25, attributes := #[] }, { accessFlags := 25, nameIndex := 24, descriptorIndex := 25, attributes := #[] }, { accessFlags := 25, nameIndex := 162, descriptorIndex := 25, attributes := #[] }, { accessFlags := 25, nameIndex := 187, descriptorIndex := 25, attributes := #[] }, { accessFlags := 26, nameIndex := 48, descriptorIndex := 25, attributes := #[] }, { accessFlags := 25, nameIndex := 277, descriptorIndex := 25, attributes := #[] }, { accessFlags := 25, nameIndex := 280, descriptorIndex := 25, attributes := #[] }, { accessFlags := 25, nameIndex := 282, descriptorIndex := 25, attributes := #[] }, { accessFlags := 25, nameIndex := 284, descriptorIndex := 25, attributes := #[] }, { accessFlags := 25, nameIndex := 286, descriptorIndex := 25, attributes := #[] }, { accessFlags := 25, nameIndex := 288, descriptorIndex := 25, attributes := #[] }, { accessFlags := 25, nameIndex := 290, descriptorIndex := 25, attributes := #[] }, { accessFlags := 25, nameIndex := 292, descriptorIndex := 25, attributes := #[] }, { accessFlags := 26, nameIndex := 108, descriptorIndex := 109, attributes := #[] }, { accessFlags := 25, nameIndex := 294, descriptorIndex := 25, attributes := #[] }])
  fields := #[{ name := "U", type := (.object "jdk/internal/misc/Unsafe"), accessFlags := 24, slot := 0, constantValue := 0 }, { name := "BIG_ENDIAN", type := .boolean, accessFlags := 26, slot := 1, constantValue := 0 }, { name := "LOG2_ARRAY_BOOLEAN_INDEX_SCALE", type := .int, accessFlags := 25, slot := 2, constantValue := 0 }, { name := "LOG2_ARRAY_BYTE_INDEX_SCALE", type := .int, accessFlags := 25, slot := 3, constantValue := 0 }, { name := "LOG2_ARRAY_CHAR_INDEX_SCALE", type := .int, accessFlags := 25, slot := 4, constantValue := 0 }, { name := "LOG2_ARRAY_SHORT_INDEX_SCALE", type := .int, accessFlags := 25, slot := 5, constantValue := 0 }, { name := "LOG2_ARRAY_INT_INDEX_SCALE", type := .int, accessFlags := 25, slot := 6, constantValue := 0 }, { name := "LOG2_ARRAY_LONG_INDEX_SCALE", type := .int, accessFlags := 25, slot := 7, constantValue := 0 }, { name := "LOG2_ARRAY_FLOAT_INDEX_SCALE", type := .int, accessFlags := 25, slot := 8, constantValue := 0 }, { name := "LOG2_ARRAY_DOUBLE_INDEX_SCALE", type := .int, accessFlags := 25, slot := 9, constantValue := 0 }, { name := "LOG2_BYTE_BIT_SIZE", type := .int, accessFlags := 26, slot := 10, constantValue := 0 }, { name := "T_BOOLEAN", type := .int, accessFlags := 25, slot := 11, constantValue := 0 }, { name := "T_CHAR", type := .int, accessFlags := 25, slot := 12, constantValue := 0 }, { name := "T_FLOAT", type := .int, accessFlags := 25, slot := 13, constantValue := 0 }, { name := "T_DOUBLE", type := .int, accessFlags := 25, slot := 14, constantValue := 0 }, { name := "T_BYTE", type := .int, accessFlags := 25, slot := 15, constantValue := 0 }, { name := "T_SHORT", type := .int, accessFlags := 25, slot := 16, constantValue := 0 }, { name := "T_INT", type := .int, accessFlags := 25, slot := 17, constantValue := 0 }, { name := "T_LONG", type := .int, accessFlags := 25, slot := 18, constantValue := 0 }, { name := "JLA", type := (.object "jdk/internal/access/JavaLangAccess"), accessFlags := 26, slot := 19, constantValue := 0 }, { name := "SOFT_MAX_ARRAY_LENGTH", type := .int, accessFlags := 25, slot := 20, constantValue := 0 }]
  methods := #[k19m0]
  instanceTypes := #[]
  staticTypes := #[(.object "jdk/internal/misc/Unsafe"), .boolean, .int, .int, .int, .int, .int, .int, .int, .int, .int, .int, .int, .int, .int, .int, .int, .int, .int, (.object "jdk/internal/access/JavaLangAccess"), .int]
  resolved := Array.replicate 378 none
  statics := none }

def pool20 : Array CpInfo := pool [(1, u "java/lang/Cloneable"), (0, .class_ 1), (0, u "java/lang/Object"), (0, .class_ 3)] 3

/-- java/lang/Cloneable -/
def k20 : Class := { plain "java/lang/Cloneable" (some 0) with
  accessFlags := 1537
  interfaces := #[]
  cf := some (fileOf pool20 2 #[] #[] 1537 4 #[] #[])
  fields := #[]
  methods := #[]
  instanceTypes := #[]
  staticTypes := #[]
  resolved := Array.replicate 8 none
  statics := none }

/-- the primitive byte -/
def k21 : Class := { plain "byte" none with kind := .primitive 'B', accessFlags := 0x411 }
/-- [B -/
def k22 : Class := { plain "[B" (some 0) with kind := .array 21 .byte, interfaces := #[20, 2], accessFlags := 1041 }

/-- the primitive char -/
def k23 : Class := { plain "char" none with kind := .primitive 'C', accessFlags := 0x411 }
/-- [C -/
def k24 : Class := { plain "[C" (some 0) with kind := .array 23 .char, interfaces := #[20, 2], accessFlags := 1041 }

/-- the primitive int -/
def k25 : Class := { plain "int" none with kind := .primitive 'I', accessFlags := 0x411 }
/-- [I -/
def k26 : Class := { plain "[I" (some 0) with kind := .array 25 .int, interfaces := #[20, 2], accessFlags := 1041 }

def heap : Heap := #[{ cls := 7, slots := #[.long 0, .int 1, .null, .int 0, .null, .int 0, .int 0], vm := .statics 7 },
  { cls := 17, slots := #[.null, .null, .null], vm := .statics 17 }]
def classes : Array Class := #[k0, k1, k2, k3, k4, k5, k6, k7, k8, k9, k10, k11, k12, k13, k14, k15, k16, k17, k18, k19, k20, k21, k22, k23, k24, k25, k26]
def interned : List (Array UInt16 × Addr) := []
def slotsUsed : Nat := 10
def theMethod : MethodId := ⟨1, 5⟩
def args0 : Array Value := #[.int 5, .int 5, .int 5]
def aboutOver (below : List Frame) : State where
  vm := { classes := classes, interned := interned.toArray }
  heap := heap
  slotsUsed := slotsUsed
  threads := #[{ frames := .invoking theMethod args0 :: below }]
def below0 : List Frame := [.native { method := ⟨0, 0⟩, args := #[] }]
def about1 : State := aboutOver below0
def p0 : Program := .bare "" "" ""
def e0 : Env := launch0.env 0 0 0
theorem w_frames : about1.frames = Frame.invoking theMethod args0 :: below0 := rfl
set_option maxRecDepth 65536 in
theorem w_args : argsFit about1.vm theMethod args0 = true := by decide +kernel
set_option maxRecDepth 65536 in
theorem w_heap : heapFits about1 = true := by decide +kernel
set_option maxRecDepth 65536 in
theorem w_runnable : about1.curStatus? = some .runnable := by decide +kernel
set_option maxRecDepth 65536 in
theorem w_alone : about1.alone = true := by decide +kernel
set_option maxRecDepth 65536 in
theorem w_named : about1.methodNamed? x = some theMethod := by decide +kernel
set_option maxRecDepth 65536 in
theorem w_hears : about1.hears theMethod below0 = true := by decide +kernel
set_option maxRecDepth 65536 in
theorem w_ripe : about1.ripe theMethod args0 below0 = true := by decide +kernel
theorem w_running : about1.status = .running := rfl
set_option maxRecDepth 65536 in
theorem w_room : about1.hasRoom e0.platform room_1 = true :=
  launch0.hasRoom_least _ room_1 (by decide +kernel) (by decide +kernel) (by decide +kernel) (by decide +kernel) (by decide +kernel) (by decide +kernel)
theorem allAtoms_all (ts : List Jvm.Cond) (a : Array Jvm.Value) (st : Jvm.State) : (allAtoms ts).before a st = ts.all (fun c => c.before a st) := by
  induction ts with
  | nil => rfl
  | cons c t ih =>
    show (Jvm.Cond.and c (allAtoms t)).before a st = _
    rw [Jvm.Cond.before_and, ih, List.all_cons]
def words1 : List Jvm.Cond := Jvm.Cond.code x code maxLocals ret :: tables_1
/-- a 'code' word, met by the world's own term for the bytes: nothing is compared byte by byte -/
theorem code_word {y : MethodName} {bytes : ByteArray} {mx : Nat} {rt : Option FieldType} {a : Array Value} {s : State} {m : MethodId} {meth : Method} {c : Code} (h1 : s.methodNamed? y = some m) (h2 : s.vm.method? m = some meth) (h3 : meth.code = some c) (h4 : c.code = bytes)
    (h5 : (c.maxLocals == mx && c.exceptionTable.isEmpty && decide (c.maxStack ≤ mostOperands) && decide (meth.sig.returnType = rt) && !meth.locks && decide (parseMethodDescriptor y.desc = some meth.sig)) = true) : (Jvm.Cond.code y bytes mx rt).before a s = true := by
  simp only [Bool.and_eq_true, beq_iff_eq, Bool.not_eq_true', decide_eq_true_eq] at h5
  obtain ⟨⟨⟨⟨⟨g1, g2⟩, g3⟩, g4⟩, g5⟩, g6⟩ := h5
  simp [Cond.before, Cond.holds, Cond.value, h1, h2, h3, h4, g1, g2, g3, g4, g5, g6]
def isCode : Jvm.Cond → Bool
  | .code _ _ _ _ => true
  | _ => false
theorem all_split {L : List Jvm.Cond} {P : Jvm.Cond → Bool} (h1 : L.all (fun c => isCode c || P c) = true) (h2 : ∀ c ∈ L.filter isCode, P c = true) : L.all P = true := by
  refine List.all_eq_true.mpr fun c hc => ?_
  have h := List.all_eq_true.mp h1 c hc
  rcases Bool.eq_false_or_eq_true (isCode c) with hi | hi
  · exact h2 c (List.mem_filter.mpr ⟨hc, hi⟩)
  · simpa [hi] using h
set_option maxRecDepth 65536 in
theorem w_c0 : (Jvm.Cond.code x code maxLocals ret).before args0 about1 = true := code_word (m := ⟨1, 5⟩) (meth := k1m5) (c := k1c5) (by decide +kernel) rfl rfl rfl (by decide +kernel)
set_option maxRecDepth 65536 in
theorem w_c1 : (Jvm.Cond.code ({ cls := "com/example/portunus/portunus/LockKeysLockKeyPinLaw", name := "pc", desc := "(I)C" } : Jvm.MethodName) method_2_code (2 : Nat) (Option.some Jvm.ClassFile.FieldType.char)).before args0 about1 = true := code_word (m := ⟨1, 1⟩) (meth := k1m1) (c := k1c1) (by decide +kernel) rfl rfl rfl (by decide +kernel)
set_option maxRecDepth 65536 in
theorem w_c2 : (Jvm.Cond.code ({ cls := "com/example/portunus/portunus/LockKeysLockKeyPinLaw", name := "mk", desc := "(ICCC)Ljava/lang/String;" } : Jvm.MethodName) method_3_code (4 : Nat) (Option.some (Jvm.ClassFile.FieldType.object "java/lang/String"))).before args0 about1 = true := code_word (m := ⟨1, 2⟩) (meth := k1m2) (c := k1c2) (by decide +kernel) rfl rfl rfl (by decide +kernel)
set_option maxRecDepth 65536 in
theorem w_c3 : (Jvm.Cond.code ({ cls := "java/lang/String", name := "<init>", desc := "([C)V" } : Jvm.MethodName) jdk_42_method_3_code (2 : Nat) (Option.none : Option Jvm.ClassFile.FieldType)).before args0 about1 = true := code_word (m := ⟨7, 1⟩) (meth := k7m1) (c := k7c1) (by decide +kernel) rfl rfl rfl (by decide +kernel)
set_option maxRecDepth 65536 in
theorem w_c4 : (Jvm.Cond.code ({ cls := "java/lang/String", name := "<init>", desc := "([CIILjava/lang/Void;)V" } : Jvm.MethodName) jdk_42_method_149_code (6 : Nat) (Option.none : Option Jvm.ClassFile.FieldType)).before args0 about1 = true := code_word (m := ⟨7, 10⟩) (meth := k7m10) (c := k7c10) (by decide +kernel) rfl rfl rfl (by decide +kernel)
set_option maxRecDepth 65536 in
theorem w_c5 : (Jvm.Cond.code ({ cls := "java/lang/Object", name := "<init>", desc := "()V" } : Jvm.MethodName) object_method_1_code (1 : Nat) (Option.none : Option Jvm.ClassFile.FieldType)).before args0 about1 = true := code_word (m := ⟨0, 0⟩) (meth := k0m0) (c := k0c0) (by decide +kernel) rfl rfl rfl (by decide +kernel)
set_option maxRecDepth 65536 in
theorem w_c6 : (Jvm.Cond.code ({ cls := "java/lang/StringUTF16", name := "compress", desc := "([CII)[B" } : Jvm.MethodName) jdk_52_method_16_code (6 : Nat) (Option.some (Jvm.ClassFile.FieldType.array Jvm.ClassFile.FieldType.byte))).before args0 about1 = true := code_word (m := ⟨8, 2⟩) (meth := k8m2) (c := k8c2) (by decide +kernel) rfl rfl rfl (by decide +kernel)
set_option maxRecDepth 65536 in
theorem w_c7 : (Jvm.Cond.code ({ cls := "java/lang/StringUTF16", name := "compress", desc := "([CI[BII)I" } : Jvm.MethodName) jdk_52_method_21_code (7 : Nat) (Option.some Jvm.ClassFile.FieldType.int)).before args0 about1 = true := code_word (m := ⟨8, 3⟩) (meth := k8m3) (c := k8c3) (by decide +kernel) rfl rfl rfl (by decide +kernel)
set_option maxRecDepth 65536 in
theorem w_c8 : (Jvm.Cond.code ({ cls := "java/lang/StringUTF16", name := "coderFromArrayLen", desc := "([BI)B" } : Jvm.MethodName) jdk_52_method_15_code (2 : Nat) (Option.some Jvm.ClassFile.FieldType.byte)).before args0 about1 = true := code_word (m := ⟨8, 1⟩) (meth := k8m1) (c := k8c1) (by decide +kernel) rfl rfl rfl (by decide +kernel)
set_option maxRecDepth 65536 in
theorem w_c9 : (Jvm.Cond.code ({ cls := "java/lang/String", name := "valueOf", desc := "(C)Ljava/lang/String;" } : Jvm.MethodName) jdk_42_method_139_code (1 : Nat) (Option.some (Jvm.ClassFile.FieldType.object "java/lang/String"))).before args0 about1 = true := code_word (m := ⟨7, 8⟩) (meth := k7m8) (c := k7c8) (by decide +kernel) rfl rfl rfl (by decide +kernel)
set_option maxRecDepth 65536 in
theorem w_c10 : (Jvm.Cond.code ({ cls := "java/lang/StringLatin1", name := "canEncode", desc := "(C)Z" } : Jvm.MethodName) jdk_43_method_3_code (1 : Nat) (Option.some Jvm.ClassFile.FieldType.boolean)).before args0 about1 = true := code_word (m := ⟨9, 2⟩) (meth := k9m2) (c := k9c2) (by decide +kernel) rfl rfl rfl (by decide +kernel)
set_option maxRecDepth 65536 in
theorem w_c11 : (Jvm.Cond.code ({ cls := "java/lang/StringLatin1", name := "toBytes", desc := "(C)[B" } : Jvm.MethodName) jdk_43_method_46_code (1 : Nat) (Option.some (Jvm.ClassFile.FieldType.array Jvm.ClassFile.FieldType.byte))).before args0 about1 = true := code_word (m := ⟨9, 6⟩) (meth := k9m6) (c := k9c6) (by decide +kernel) rfl rfl rfl (by decide +kernel)
set_option maxRecDepth 65536 in
theorem w_c12 : (Jvm.Cond.code ({ cls := "java/lang/String", name := "<init>", desc := "([BB)V" } : Jvm.MethodName) jdk_42_method_151_code (3 : Nat) (Option.none : Option Jvm.ClassFile.FieldType)).before args0 about1 = true := code_word (m := ⟨7, 12⟩) (meth := k7m12) (c := k7c12) (by decide +kernel) rfl rfl rfl (by decide +kernel)
set_option maxRecDepth 65536 in
theorem w_c13 : (Jvm.Cond.code ({ cls := "com/example/portunus/portunus/LockKeys", name := "<init>", desc := "(Ljava/lang/String;)V" } : Jvm.MethodName) prog_6_method_1_code (2 : Nat) (Option.none : Option Jvm.ClassFile.FieldType)).before args0 about1 = true := code_word (m := ⟨10, 0⟩) (meth := k10m0) (c := k10c0) (by decide +kernel) rfl rfl rfl (by decide +kernel)
set_option maxRecDepth 65536 in
theorem w_c14 : (Jvm.Cond.code ({ cls := "java/util/Objects", name := "requireNonNull", desc := "(Ljava/lang/Object;Ljava/lang/String;)Ljava/lang/Object;" } : Jvm.MethodName) jdk_31_method_11_code (2 : Nat) (Option.some (Jvm.ClassFile.FieldType.object "java/lang/Object"))).before args0 about1 = true := code_word (m := ⟨11, 1⟩) (meth := k11m1) (c := k11c1) (by decide +kernel) rfl rfl rfl (by decide +kernel)
set_option maxRecDepth 65536 in
theorem w_c15 : (Jvm.Cond.code ({ cls := "java/lang/String", name := "indexOf", desc := "(I)I" } : Jvm.MethodName) jdk_42_method_79_code (2 : Nat) (Option.some Jvm.ClassFile.FieldType.int)).before args0 about1 = true := code_word (m := ⟨7, 6⟩) (meth := k7m6) (c := k7c6) (by decide +kernel) rfl rfl rfl (by decide +kernel)
set_option maxRecDepth 65536 in
theorem w_c16 : (Jvm.Cond.code ({ cls := "java/lang/String", name := "indexOf", desc := "(II)I" } : Jvm.MethodName) jdk_42_method_80_code (3 : Nat) (Option.some Jvm.ClassFile.FieldType.int)).before args0 about1 = true := code_word (m := ⟨7, 7⟩) (meth := k7m7) (c := k7c7) (by decide +kernel) rfl rfl rfl (by decide +kernel)
set_option maxRecDepth 65536 in
theorem w_c17 : (Jvm.Cond.code ({ cls := "java/lang/String", name := "isLatin1", desc := "()Z" } : Jvm.MethodName) jdk_42_method_154_code (1 : Nat) (Option.some Jvm.ClassFile.FieldType.boolean)).before args0 about1 = true := code_word (m := ⟨7, 14⟩) (meth := k7m14) (c := k7c14) (by decide +kernel) rfl rfl rfl (by decide +kernel)
set_option maxRecDepth 65536 in
theorem w_c18 : (Jvm.Cond.code ({ cls := "java/lang/String", name := "length", desc := "()I" } : Jvm.MethodName) jdk_42_method_54_code (1 : Nat) (Option.some Jvm.ClassFile.FieldType.int)).before args0 about1 = true := code_word (m := ⟨7, 3⟩) (meth := k7m3) (c := k7c3) (by decide +kernel) rfl rfl rfl (by decide +kernel)
set_option maxRecDepth 65536 in
theorem w_c19 : (Jvm.Cond.code ({ cls := "java/lang/String", name := "coder", desc := "()B" } : Jvm.MethodName) jdk_42_method_152_code (1 : Nat) (Option.some Jvm.ClassFile.FieldType.byte)).before args0 about1 = true := code_word (m := ⟨7, 13⟩) (meth := k7m13) (c := k7c13) (by decide +kernel) rfl rfl rfl (by decide +kernel)
set_option maxRecDepth 65536 in
theorem w_c20 : (Jvm.Cond.code ({ cls := "java/lang/StringLatin1", name := "indexOf", desc := "([BIII)I" } : Jvm.MethodName) jdk_43_method_22_code (4 : Nat) (Option.some Jvm.ClassFile.FieldType.int)).before args0 about1 = true := code_word (m := ⟨9, 4⟩) (meth := k9m4) (c := k9c4) (by decide +kernel) rfl rfl rfl (by decide +kernel)
set_option maxRecDepth 65536 in
theorem w_c21 : (Jvm.Cond.code ({ cls := "java/lang/StringLatin1", name := "canEncode", desc := "(I)Z" } : Jvm.MethodName) jdk_43_method_4_code (1 : Nat) (Option.some Jvm.ClassFile.FieldType.boolean)).before args0 about1 = true := code_word (m := ⟨9, 3⟩) (meth := k9m3) (c := k9c3) (by decide +kernel) rfl rfl rfl (by decide +kernel)
set_option maxRecDepth 65536 in
theorem w_c22 : (Jvm.Cond.code ({ cls := "java/lang/Math", name := "max", desc := "(II)I" } : Jvm.MethodName) jdk_29_method_65_code (2 : Nat) (Option.some Jvm.ClassFile.FieldType.int)).before args0 about1 = true := code_word (m := ⟨12, 1⟩) (meth := k12m1) (c := k12c1) (by decide +kernel) rfl rfl rfl (by decide +kernel)
set_option maxRecDepth 65536 in
theorem w_c23 : (Jvm.Cond.code ({ cls := "java/lang/Math", name := "min", desc := "(II)I" } : Jvm.MethodName) jdk_29_method_69_code (2 : Nat) (Option.some Jvm.ClassFile.FieldType.int)).before args0 about1 = true := code_word (m := ⟨12, 2⟩) (meth := k12m2) (c := k12c2) (by decide +kernel) rfl rfl rfl (by decide +kernel)
set_option maxRecDepth 65536 in
theorem w_c24 : (Jvm.Cond.code ({ cls := "java/lang/StringLatin1", name := "indexOfChar", desc := "([BIII)I" } : Jvm.MethodName) jdk_43_method_23_code (6 : Nat) (Option.some Jvm.ClassFile.FieldType.int)).before args0 about1 = true := code_word (m := ⟨9, 5⟩) (meth := k9m5) (c := k9c5) (by decide +kernel) rfl rfl rfl (by decide +kernel)
set_option maxRecDepth 65536 in
theorem w_c25 : (Jvm.Cond.code ({ cls := "com/example/portunus/portunus/LockKeys", name := "lockKey", desc := "(Ljava/lang/String;)Ljava/lang/String;" } : Jvm.MethodName) prog_6_method_2_code (2 : Nat) (Option.some (Jvm.ClassFile.FieldType.object "java/lang/String"))).before args0 about1 = true := code_word (m := ⟨10, 1⟩) (meth := k10m1) (c := k10c1) (by decide +kernel) rfl rfl rfl (by decide +kernel)
set_option maxRecDepth 65536 in
theorem w_c26 : (Jvm.Cond.code ({ cls := "java/lang/StringBuilder", name := "<init>", desc := "()V" } : Jvm.MethodName) jdk_67_method_1_code (1 : Nat) (Option.none : Option Jvm.ClassFile.FieldType)).before args0 about1 = true := code_word (m := ⟨15, 0⟩) (meth := k15m0) (c := k15c0) (by decide +kernel) rfl rfl rfl (by decide +kernel)
set_option maxRecDepth 65536 in
theorem w_c27 : (Jvm.Cond.code ({ cls := "java/lang/AbstractStringBuilder", name := "<init>", desc := "(I)V" } : Jvm.MethodName) jdk_68_method_2_code (2 : Nat) (Option.none : Option Jvm.ClassFile.FieldType)).before args0 about1 = true := code_word (m := ⟨14, 1⟩) (meth := k14m1) (c := k14c1) (by decide +kernel) rfl rfl rfl (by decide +kernel)
set_option maxRecDepth 65536 in
theorem w_c28 : (Jvm.Cond.code ({ cls := "java/lang/StringBuilder", name := "append", desc := "(Ljava/lang/String;)Ljava/lang/StringBuilder;" } : Jvm.MethodName) jdk_67_method_7_code (2 : Nat) (Option.some (Jvm.ClassFile.FieldType.object "java/lang/StringBuilder"))).before args0 about1 = true := code_word (m := ⟨15, 1⟩) (meth := k15m1) (c := k15c1) (by decide +kernel) rfl rfl rfl (by decide +kernel)
set_option maxRecDepth 65536 in
theorem w_c29 : (Jvm.Cond.code ({ cls := "java/lang/AbstractStringBuilder", name := "append", desc := "(Ljava/lang/String;)Ljava/lang/AbstractStringBuilder;" } : Jvm.MethodName) jdk_68_method_22_code (3 : Nat) (Option.some (Jvm.ClassFile.FieldType.object "java/lang/AbstractStringBuilder"))).before args0 about1 = true := code_word (m := ⟨14, 4⟩) (meth := k14m4) (c := k14c4) (by decide +kernel) rfl rfl rfl (by decide +kernel)
set_option maxRecDepth 65536 in
theorem w_c30 : (Jvm.Cond.code ({ cls := "java/lang/AbstractStringBuilder", name := "ensureCapacityInternal", desc := "(I)V" } : Jvm.MethodName) jdk_68_method_9_code (3 : Nat) (Option.none : Option Jvm.ClassFile.FieldType)).before args0 about1 = true := code_word (m := ⟨14, 3⟩) (meth := k14m3) (c := k14c3) (by decide +kernel) rfl rfl rfl (by decide +kernel)
set_option maxRecDepth 65536 in
theorem w_c31 : (Jvm.Cond.code ({ cls := "java/lang/AbstractStringBuilder", name := "putStringAt", desc := "(ILjava/lang/String;)V" } : Jvm.MethodName) jdk_68_method_73_code (3 : Nat) (Option.none : Option Jvm.ClassFile.FieldType)).before args0 about1 = true := code_word (m := ⟨14, 8⟩) (meth := k14m8) (c := k14c8) (by decide +kernel) rfl rfl rfl (by decide +kernel)
set_option maxRecDepth 65536 in
theorem w_c32 : (Jvm.Cond.code ({ cls := "java/lang/AbstractStringBuilder", name := "inflateIfNeededFor", desc := "(Ljava/lang/String;)V" } : Jvm.MethodName) jdk_68_method_71_code (2 : Nat) (Option.none : Option Jvm.ClassFile.FieldType)).before args0 about1 = true := code_word (m := ⟨14, 7⟩) (meth := k14m7) (c := k14c7) (by decide +kernel) rfl rfl rfl (by decide +kernel)
set_option maxRecDepth 65536 in
theorem w_c33 : (Jvm.Cond.code ({ cls := "java/lang/String", name := "getBytes", desc := "([BIB)V" } : Jvm.MethodName) jdk_42_method_147_code (4 : Nat) (Option.none : Option Jvm.ClassFile.FieldType)).before args0 about1 = true := code_word (m := ⟨7, 9⟩) (meth := k7m9) (c := k7c9) (by decide +kernel) rfl rfl rfl (by decide +kernel)
set_option maxRecDepth 65536 in
theorem w_c34 : (Jvm.Cond.code ({ cls := "com/example/portunus/portunus/LockKeys", name := "braced", desc := "(Ljava/lang/String;)Ljava/lang/String;" } : Jvm.MethodName) prog_6_method_8_code (1 : Nat) (Option.some (Jvm.ClassFile.FieldType.object "java/lang/String"))).before args0 about1 = true := code_word (m := ⟨10, 2⟩) (meth := k10m2) (c := k10c2) (by decide +kernel) rfl rfl rfl (by decide +kernel)
set_option maxRecDepth 65536 in
theorem w_c35 : (Jvm.Cond.code ({ cls := "java/lang/String", name := "isEmpty", desc := "()Z" } : Jvm.MethodName) jdk_42_method_55_code (1 : Nat) (Option.some Jvm.ClassFile.FieldType.boolean)).before args0 about1 = true := code_word (m := ⟨7, 4⟩) (meth := k7m4) (c := k7c4) (by decide +kernel) rfl rfl rfl (by decide +kernel)
set_option maxRecDepth 65536 in
theorem w_c36 : (Jvm.Cond.code ({ cls := "java/lang/String", name := "charAt", desc := "(I)C" } : Jvm.MethodName) jdk_42_method_56_code (2 : Nat) (Option.some Jvm.ClassFile.FieldType.char)).before args0 about1 = true := code_word (m := ⟨7, 5⟩) (meth := k7m5) (c := k7c5) (by decide +kernel) rfl rfl rfl (by decide +kernel)
set_option maxRecDepth 65536 in
theorem w_c37 : (Jvm.Cond.code ({ cls := "java/lang/StringLatin1", name := "charAt", desc := "([BI)C" } : Jvm.MethodName) jdk_43_method_2_code (2 : Nat) (Option.some Jvm.ClassFile.FieldType.char)).before args0 about1 = true := code_word (m := ⟨9, 1⟩) (meth := k9m1) (c := k9c1) (by decide +kernel) rfl rfl rfl (by decide +kernel)
set_option maxRecDepth 65536 in
theorem w_c38 : (Jvm.Cond.code ({ cls := "java/lang/String", name := "checkIndex", desc := "(II)V" } : Jvm.MethodName) jdk_42_method_155_code (2 : Nat) (Option.none : Option Jvm.ClassFile.FieldType)).before args0 about1 = true := code_word (m := ⟨7, 15⟩) (meth := k7m15) (c := k7c15) (by decide +kernel) rfl rfl rfl (by decide +kernel)
set_option maxRecDepth 65536 in
theorem w_c39 : (Jvm.Cond.code ({ cls := "jdk/internal/util/Preconditions", name := "checkIndex", desc := "(IILjava/util/function/BiFunction;)I" } : Jvm.MethodName) jdk_41_method_11_code (3 : Nat) (Option.some Jvm.ClassFile.FieldType.int)).before args0 about1 = true := code_word (m := ⟨17, 1⟩) (meth := k17m1) (c := k17c1) (by decide +kernel) rfl rfl rfl (by decide +kernel)
set_option maxRecDepth 65536 in
theorem w_c40 : (Jvm.Cond.code ({ cls := "java/lang/StringBuilder", name := "toString", desc := "()Ljava/lang/String;" } : Jvm.MethodName) jdk_67_method_42_code (1 : Nat) (Option.some (Jvm.ClassFile.FieldType.object "java/lang/String"))).before args0 about1 = true := code_word (m := ⟨15, 2⟩) (meth := k15m2) (c := k15c2) (by decide +kernel) rfl rfl rfl (by decide +kernel)
set_option maxRecDepth 65536 in
theorem w_c41 : (Jvm.Cond.code ({ cls := "java/lang/String", name := "<init>", desc := "(Ljava/lang/StringBuilder;)V" } : Jvm.MethodName) jdk_42_method_53_code (2 : Nat) (Option.none : Option Jvm.ClassFile.FieldType)).before args0 about1 = true := code_word (m := ⟨7, 2⟩) (meth := k7m2) (c := k7c2) (by decide +kernel) rfl rfl rfl (by decide +kernel)
set_option maxRecDepth 65536 in
theorem w_c42 : (Jvm.Cond.code ({ cls := "java/lang/String", name := "<init>", desc := "(Ljava/lang/AbstractStringBuilder;Ljava/lang/Void;)V" } : Jvm.MethodName) jdk_42_method_150_code (5 : Nat) (Option.none : Option Jvm.ClassFile.FieldType)).before args0 about1 = true := code_word (m := ⟨7, 11⟩) (meth := k7m11) (c := k7c11) (by decide +kernel) rfl rfl rfl (by decide +kernel)
set_option maxRecDepth 65536 in
theorem w_c43 : (Jvm.Cond.code ({ cls := "java/lang/AbstractStringBuilder", name := "getValue", desc := "()[B" } : Jvm.MethodName) jdk_68_method_64_code (1 : Nat) (Option.some (Jvm.ClassFile.FieldType.array Jvm.ClassFile.FieldType.byte))).before args0 about1 = true := code_word (m := ⟨14, 5⟩) (meth := k14m5) (c := k14c5) (by decide +kernel) rfl rfl rfl (by decide +kernel)
set_option maxRecDepth 65536 in
theorem w_c44 : (Jvm.Cond.code ({ cls := "java/lang/StringBuilder", name := "length", desc := "()I" } : Jvm.MethodName) jdk_67_method_93_code (1 : Nat) (Option.some Jvm.ClassFile.FieldType.int)).before args0 about1 = true := code_word (m := ⟨15, 3⟩) (meth := k15m3) (c := k15c3) (by decide +kernel) rfl rfl rfl (by decide +kernel)
set_option maxRecDepth 65536 in
theorem w_c45 : (Jvm.Cond.code ({ cls := "java/lang/AbstractStringBuilder", name := "length", desc := "()I" } : Jvm.MethodName) jdk_68_method_6_code (1 : Nat) (Option.some Jvm.ClassFile.FieldType.int)).before args0 about1 = true := code_word (m := ⟨14, 2⟩) (meth := k14m2) (c := k14c2) (by decide +kernel) rfl rfl rfl (by decide +kernel)
set_option maxRecDepth 65536 in
theorem w_c46 : (Jvm.Cond.code ({ cls := "java/lang/AbstractStringBuilder", name := "isLatin1", desc := "()Z" } : Jvm.MethodName) jdk_68_method_68_code (1 : Nat) (Option.some Jvm.ClassFile.FieldType.boolean)).before args0 about1 = true := code_word (m := ⟨14, 6⟩) (meth := k14m6) (c := k14c6) (by decide +kernel) rfl rfl rfl (by decide +kernel)
set_option maxRecDepth 65536 in
theorem w_c47 : (Jvm.Cond.code ({ cls := "java/util/Arrays", name := "copyOfRange", desc := "([BII)[B" } : Jvm.MethodName) jdk_65_method_132_code (3 : Nat) (Option.some (Jvm.ClassFile.FieldType.array Jvm.ClassFile.FieldType.byte))).before args0 about1 = true := code_word (m := ⟨18, 2⟩) (meth := k18m2) (c := k18c2) (by decide +kernel) rfl rfl rfl (by decide +kernel)
set_option maxRecDepth 65536 in
theorem w_c48 : (Jvm.Cond.code ({ cls := "java/util/Arrays", name := "copyOfRangeByte", desc := "([BII)[B" } : Jvm.MethodName) jdk_65_method_133_code (5 : Nat) (Option.some (Jvm.ClassFile.FieldType.array Jvm.ClassFile.FieldType.byte))).before args0 about1 = true := code_word (m := ⟨18, 3⟩) (meth := k18m3) (c := k18c3) (by decide +kernel) rfl rfl rfl (by decide +kernel)
set_option maxRecDepth 65536 in
theorem w_c49 : (Jvm.Cond.code ({ cls := "java/util/Arrays", name := "checkLength", desc := "(II)V" } : Jvm.MethodName) jdk_65_method_131_code (2 : Nat) (Option.none : Option Jvm.ClassFile.FieldType)).before args0 about1 = true := code_word (m := ⟨18, 1⟩) (meth := k18m1) (c := k18c1) (by decide +kernel) rfl rfl rfl (by decide +kernel)
set_option maxRecDepth 65536 in
theorem w_c50 : (Jvm.Cond.code ({ cls := "com/example/portunus/portunus/LockKeysLockKeyPinLaw", name := "ok", desc := "(Ljava/lang/String;IIICCCICCC)Z" } : Jvm.MethodName) method_5_code (11 : Nat) (Option.some Jvm.ClassFile.FieldType.boolean)).before args0 about1 = true := code_word (m := ⟨1, 4⟩) (meth := k1m4) (c := k1c4) (by decide +kernel) rfl rfl rfl (by decide +kernel)
set_option maxRecDepth 65536 in
theorem w_c51 : (Jvm.Cond.code ({ cls := "com/example/portunus/portunus/LockKeysLockKeyPinLaw", name := "exp", desc := "(IICCCICCC)C" } : Jvm.MethodName) method_4_code (11 : Nat) (Option.some Jvm.ClassFile.FieldType.char)).before args0 about1 = true := code_word (m := ⟨1, 3⟩) (meth := k1m3) (c := k1c3) (by decide +kernel) rfl rfl rfl (by decide +kernel)
def codes1 : List Jvm.Cond := [Jvm.Cond.code x code maxLocals ret, Jvm.Cond.code ({ cls := "com/example/portunus/portunus/LockKeysLockKeyPinLaw", name := "pc", desc := "(I)C" } : Jvm.MethodName) method_2_code (2 : Nat) (Option.some Jvm.ClassFile.FieldType.char), Jvm.Cond.code ({ cls := "com/example/portunus/portunus/LockKeysLockKeyPinLaw", name := "mk", desc := "(ICCC)Ljava/lang/String;" } : Jvm.MethodName) method_3_code (4 : Nat) (Option.some (Jvm.ClassFile.FieldType.object "java/lang/String")), Jvm.Cond.code ({ cls := "java/lang/String", name := "<init>", desc := "([C)V" } : Jvm.MethodName) jdk_42_method_3_code (2 : Nat) (Option.none : Option Jvm.ClassFile.FieldType), Jvm.Cond.code ({ cls := "java/lang/String", name := "<init>", desc := "([CIILjava/lang/Void;)V" } : Jvm.MethodName) jdk_42_method_149_code (6 : Nat) (Option.none : Option Jvm.ClassFile.FieldType), Jvm.Cond.code ({ cls := "java/lang/Object", name := "<init>", desc := "()V" } : Jvm.MethodName) object_method_1_code (1 : Nat) (Option.none : Option Jvm.ClassFile.FieldType), Jvm.Cond.code ({ cls := "java/lang/StringUTF16", name := "compress", desc := "([CII)[B" } : Jvm.MethodName) jdk_52_method_16_code (6 : Nat) (Option.some (Jvm.ClassFile.FieldType.array Jvm.ClassFile.FieldType.byte)), Jvm.Cond.code ({ cls := "java/lang/StringUTF16", name := "compress", desc := "([CI[BII)I" } : Jvm.MethodName) jdk_52_method_21_code (7 : Nat) (Option.some Jvm.ClassFile.FieldType.int), Jvm.Cond.code ({ cls := "java/lang/StringUTF16", name := "coderFromArrayLen", desc := "([BI)B" } : Jvm.MethodName) jdk_52_method_15_code (2 : Nat) (Option.some Jvm.ClassFile.FieldType.byte), Jvm.Cond.code ({ cls := "java/lang/String", name := "valueOf", desc := "(C)Ljava/lang/String;" } : Jvm.MethodName) jdk_42_method_139_code (1 : Nat) (Option.some (Jvm.ClassFile.FieldType.object "java/lang/String")), Jvm.Cond.code ({ cls := "java/lang/StringLatin1", name := "canEncode", desc := "(C)Z" } : Jvm.MethodName) jdk_43_method_3_code (1 : Nat) (Option.some Jvm.ClassFile.FieldType.boolean), Jvm.Cond.code ({ cls := "java/lang/StringLatin1", name := "toBytes", desc := "(C)[B" } : Jvm.MethodName) jdk_43_method_46_code (1 : Nat) (Option.some (Jvm.ClassFile.FieldType.array Jvm.ClassFile.FieldType.byte)), Jvm.Cond.code ({ cls := "java/lang/String", name := "<init>", desc := "([BB)V" } : Jvm.MethodName) jdk_42_method_151_code (3 : Nat) (Option.none : Option Jvm.ClassFile.FieldType), Jvm.Cond.code ({ cls := "com/example/portunus/portunus/LockKeys", name := "<init>", desc := "(Ljava/lang/String;)V" } : Jvm.MethodName) prog_6_method_1_code (2 : Nat) (Option.none : Option Jvm.ClassFile.FieldType), Jvm.Cond.code ({ cls := "java/util/Objects", name := "requireNonNull", desc := "(Ljava/lang/Object;Ljava/lang/String;)Ljava/lang/Object;" } : Jvm.MethodName) jdk_31_method_11_code (2 : Nat) (Option.some (Jvm.ClassFile.FieldType.object "java/lang/Object")), Jvm.Cond.code ({ cls := "java/lang/String", name := "indexOf", desc := "(I)I" } : Jvm.MethodName) jdk_42_method_79_code (2 : Nat) (Option.some Jvm.ClassFile.FieldType.int), Jvm.Cond.code ({ cls := "java/lang/String", name := "indexOf", desc := "(II)I" } : Jvm.MethodName) jdk_42_method_80_code (3 : Nat) (Option.some Jvm.ClassFile.FieldType.int), Jvm.Cond.code ({ cls := "java/lang/String", name := "isLatin1", desc := "()Z" } : Jvm.MethodName) jdk_42_method_154_code (1 : Nat) (Option.some Jvm.ClassFile.FieldType.boolean), Jvm.Cond.code ({ cls := "java/lang/String", name := "length", desc := "()I" } : Jvm.MethodName) jdk_42_method_54_code (1 : Nat) (Option.some Jvm.ClassFile.FieldType.int), Jvm.Cond.code ({ cls := "java/lang/String", name := "coder", desc := "()B" } : Jvm.MethodName) jdk_42_method_152_code (1 : Nat) (Option.some Jvm.ClassFile.FieldType.byte), Jvm.Cond.code ({ cls := "java/lang/StringLatin1", name := "indexOf", desc := "([BIII)I" } : Jvm.MethodName) jdk_43_method_22_code (4 : Nat) (Option.some Jvm.ClassFile.FieldType.int), Jvm.Cond.code ({ cls := "java/lang/StringLatin1", name := "canEncode", desc := "(I)Z" } : Jvm.MethodName) jdk_43_method_4_code (1 : Nat) (Option.some Jvm.ClassFile.FieldType.boolean), Jvm.Cond.code ({ cls := "java/lang/Math", name := "max", desc := "(II)I" } : Jvm.MethodName) jdk_29_method_65_code (2 : Nat) (Option.some Jvm.ClassFile.FieldType.int), Jvm.Cond.code ({ cls := "java/lang/Math", name := "min", desc := "(II)I" } : Jvm.MethodName) jdk_29_method_69_code (2 : Nat) (Option.some Jvm.ClassFile.FieldType.int), Jvm.Cond.code ({ cls := "java/lang/StringLatin1", name := "indexOfChar", desc := "([BIII)I" } : Jvm.MethodName) jdk_43_method_23_code (6 : Nat) (Option.some Jvm.ClassFile.FieldType.int), Jvm.Cond.code ({ cls := "com/example/portunus/portunus/LockKeys", name := "lockKey", desc := "(Ljava/lang/String;)Ljava/lang/String;" } : Jvm.MethodName) prog_6_method_2_code (2 : Nat) (Option.some (Jvm.ClassFile.FieldType.object "java/lang/String")), Jvm.Cond.code ({ cls := "java/lang/StringBuilder", name := "<init>", desc := "()V" } : Jvm.MethodName) jdk_67_method_1_code (1 : Nat) (Option.none : Option Jvm.ClassFile.FieldType), Jvm.Cond.code ({ cls := "java/lang/AbstractStringBuilder", name := "<init>", desc := "(I)V" } : Jvm.MethodName) jdk_68_method_2_code (2 : Nat) (Option.none : Option Jvm.ClassFile.FieldType), Jvm.Cond.code ({ cls := "java/lang/StringBuilder", name := "append", desc := "(Ljava/lang/String;)Ljava/lang/StringBuilder;" } : Jvm.MethodName) jdk_67_method_7_code (2 : Nat) (Option.some (Jvm.ClassFile.FieldType.object "java/lang/StringBuilder")), Jvm.Cond.code ({ cls := "java/lang/AbstractStringBuilder", name := "append", desc := "(Ljava/lang/String;)Ljava/lang/AbstractStringBuilder;" } : Jvm.MethodName) jdk_68_method_22_code (3 : Nat) (Option.some (Jvm.ClassFile.FieldType.object "java/lang/AbstractStringBuilder")), Jvm.Cond.code ({ cls := "java/lang/AbstractStringBuilder", name := "ensureCapacityInternal", desc := "(I)V" } : Jvm.MethodName) jdk_68_method_9_code (3 : Nat) (Option.none : Option Jvm.ClassFile.FieldType), Jvm.Cond.code ({ cls := "java/lang/AbstractStringBuilder", name := "putStringAt", desc := "(ILjava/lang/String;)V" } : Jvm.MethodName) jdk_68_method_73_code (3 : Nat) (Option.none : Option Jvm.ClassFile.FieldType), Jvm.Cond.code ({ cls := "java/lang/AbstractStringBuilder", name := "inflateIfNeededFor", desc := "(Ljava/lang/String;)V" } : Jvm.MethodName) jdk_68_method_71_code (2 : Nat) (Option.none : Option Jvm.ClassFile.FieldType), Jvm.Cond.code ({ cls := "java/lang/String", name := "getBytes", desc := "([BIB)V" } : Jvm.MethodName) jdk_42_method_147_code (4 : Nat) (Option.none : Option Jvm.ClassFile.FieldType), Jvm.Cond.code ({ cls := "com/example/portunus/portunus/LockKeys", name := "braced", desc := "(Ljava/lang/String;)Ljava/lang/String;" } : Jvm.MethodName) prog_6_method_8_code (1 : Nat) (Option.some (Jvm.ClassFile.FieldType.object "java/lang/String")), Jvm.Cond.code ({ cls := "java/lang/String", name := "isEmpty", desc := "()Z" } : Jvm.MethodName) jdk_42_method_55_code (1 : Nat) (Option.some Jvm.ClassFile.FieldType.boolean), Jvm.Cond.code ({ cls := "java/lang/String", name := "charAt", desc := "(I)C" } : Jvm.MethodName) jdk_42_method_56_code (2 : Nat) (Option.some Jvm.ClassFile.FieldType.char), Jvm.Cond.code ({ cls := "java/lang/StringLatin1", name := "charAt", desc := "([BI)C" } : Jvm.MethodName) jdk_43_method_2_code (2 : Nat) (Option.some Jvm.ClassFile.FieldType.char), Jvm.Cond.code ({ cls := "java/lang/String", name := "checkIndex", desc := "(II)V" } : Jvm.MethodName) jdk_42_method_155_code (2 : Nat) (Option.none : Option Jvm.ClassFile.FieldType), Jvm.Cond.code ({ cls := "jdk/internal/util/Preconditions", name := "checkIndex", desc := "(IILjava/util/function/BiFunction;)I" } : Jvm.MethodName) jdk_41_method_11_code (3 : Nat) (Option.some Jvm.ClassFile.FieldType.int), Jvm.Cond.code ({ cls := "java/lang/StringBuilder", name := "toString", desc := "()Ljava/lang/String;" } : Jvm.MethodName) jdk_67_method_42_code (1 : Nat) (Option.some (Jvm.ClassFile.FieldType.object "java/lang/String")), Jvm.Cond.code ({ cls := "java/lang/String", name := "<init>", desc := "(Ljava/lang/StringBuilder;)V" } : Jvm.MethodName) jdk_42_method_53_code (2 : Nat) (Option.none : Option Jvm.ClassFile.FieldType), Jvm.Cond.code ({ cls := "java/lang/String", name := "<init>", desc := "(Ljava/lang/AbstractStringBuilder;Ljava/lang/Void;)V" } : Jvm.MethodName) jdk_42_method_150_code (5 : Nat) (Option.none : Option Jvm.ClassFile.FieldType), Jvm.Cond.code ({ cls := "java/lang/AbstractStringBuilder", name := "getValue", desc := "()[B" } : Jvm.MethodName) jdk_68_method_64_code (1 : Nat) (Option.some (Jvm.ClassFile.FieldType.array Jvm.ClassFile.FieldType.byte)), Jvm.Cond.code ({ cls := "java/lang/StringBuilder", name := "length", desc := "()I" } : Jvm.MethodName) jdk_67_method_93_code (1 : Nat) (Option.some Jvm.ClassFile.FieldType.int), Jvm.Cond.code ({ cls := "java/lang/AbstractStringBuilder", name := "length", desc := "()I" } : Jvm.MethodName) jdk_68_method_6_code (1 : Nat) (Option.some Jvm.ClassFile.FieldType.int), Jvm.Cond.code ({ cls := "java/lang/AbstractStringBuilder", name := "isLatin1", desc := "()Z" } : Jvm.MethodName) jdk_68_method_68_code (1 : Nat) (Option.some Jvm.ClassFile.FieldType.boolean), Jvm.Cond.code ({ cls := "java/util/Arrays", name := "copyOfRange", desc := "([BII)[B" } : Jvm.MethodName) jdk_65_method_132_code (3 : Nat) (Option.some (Jvm.ClassFile.FieldType.array Jvm.ClassFile.FieldType.byte)), Jvm.Cond.code ({ cls := "java/util/Arrays", name := "copyOfRangeByte", desc := "([BII)[B" } : Jvm.MethodName) jdk_65_method_133_code (5 : Nat) (Option.some (Jvm.ClassFile.FieldType.array Jvm.ClassFile.FieldType.byte)), Jvm.Cond.code ({ cls := "java/util/Arrays", name := "checkLength", desc := "(II)V" } : Jvm.MethodName) jdk_65_method_131_code (2 : Nat) (Option.none : Option Jvm.ClassFile.FieldType), Jvm.Cond.code ({ cls := "com/example/portunus/portunus/LockKeysLockKeyPinLaw", name := "ok", desc := "(Ljava/lang/String;IIICCCICCC)Z" } : Jvm.MethodName) method_5_code (11 : Nat) (Option.some Jvm.ClassFile.FieldType.boolean), Jvm.Cond.code ({ cls := "com/example/portunus/portunus/LockKeysLockKeyPinLaw", name := "exp", desc := "(IICCCICCC)C" } : Jvm.MethodName) method_4_code (11 : Nat) (Option.some Jvm.ClassFile.FieldType.char)]
set_option maxRecDepth 65536 in
theorem codes_eq : words1.filter isCode = codes1 := rfl
theorem w_codes : ∀ c ∈ words1.filter isCode, c.before args0 about1 = true := by
  rw [codes_eq]
  intro c hc
  simp only [codes1, List.mem_cons, List.not_mem_nil, or_false] at hc
  rcases hc with rfl | rfl | rfl | rfl | rfl | rfl | rfl | rfl | rfl | rfl | rfl | rfl | rfl | rfl | rfl | rfl | rfl | rfl | rfl | rfl | rfl | rfl | rfl | rfl | rfl | rfl | rfl | rfl | rfl | rfl | rfl | rfl | rfl | rfl | rfl | rfl | rfl | rfl | rfl | rfl | rfl | rfl | rfl | rfl | rfl | rfl | rfl | rfl | rfl | rfl | rfl | rfl
  · exact w_c0
  · exact w_c1
  · exact w_c2
  · exact w_c3
  · exact w_c4
  · exact w_c5
  · exact w_c6
  · exact w_c7
  · exact w_c8
  · exact w_c9
  · exact w_c10
  · exact w_c11
  · exact w_c12
  · exact w_c13
  · exact w_c14
  · exact w_c15
  · exact w_c16
  · exact w_c17
  · exact w_c18
  · exact w_c19
  · exact w_c20
  · exact w_c21
  · exact w_c22
  · exact w_c23
  · exact w_c24
  · exact w_c25
  · exact w_c26
  · exact w_c27
  · exact w_c28
  · exact w_c29
  · exact w_c30
  · exact w_c31
  · exact w_c32
  · exact w_c33
  · exact w_c34
  · exact w_c35
  · exact w_c36
  · exact w_c37
  · exact w_c38
  · exact w_c39
  · exact w_c40
  · exact w_c41
  · exact w_c42
  · exact w_c43
  · exact w_c44
  · exact w_c45
  · exact w_c46
  · exact w_c47
  · exact w_c48
  · exact w_c49
  · exact w_c50
  · exact w_c51
set_option maxRecDepth 65536 in
theorem w_t1 : (words1.take 24).all (fun c => isCode c || c.before args0 about1) = true := by decide +kernel
set_option maxRecDepth 65536 in
theorem w_t2 : ((words1.drop 24).take 24).all (fun c => isCode c || c.before args0 about1) = true := by decide +kernel
set_option maxRecDepth 65536 in
theorem w_t3 : (((words1.drop 24).drop 24).take 24).all (fun c => isCode c || c.before args0 about1) = true := by decide +kernel
set_option maxRecDepth 65536 in
theorem w_t4 : ((((words1.drop 24).drop 24).drop 24).take 24).all (fun c => isCode c || c.before args0 about1) = true := by decide +kernel
set_option maxRecDepth 65536 in
theorem w_t5 : (((((words1.drop 24).drop 24).drop 24).drop 24).take 24).all (fun c => isCode c || c.before args0 about1) = true := by decide +kernel
set_option maxRecDepth 65536 in
theorem w_t6 : ((((((words1.drop 24).drop 24).drop 24).drop 24).drop 24).take 24).all (fun c => isCode c || c.before args0 about1) = true := by decide +kernel
set_option maxRecDepth 65536 in
theorem w_t7 : (((((((words1.drop 24).drop 24).drop 24).drop 24).drop 24).drop 24).take 24).all (fun c => isCode c || c.before args0 about1) = true := by decide +kernel
set_option maxRecDepth 65536 in
theorem w_t8 : ((((((((words1.drop 24).drop 24).drop 24).drop 24).drop 24).drop 24).drop 24).take 24).all (fun c => isCode c || c.before args0 about1) = true := by decide +kernel
set_option maxRecDepth 65536 in
theorem w_t9 : (((((((((words1.drop 24).drop 24).drop 24).drop 24).drop 24).drop 24).drop 24).drop 24).take 24).all (fun c => isCode c || c.before args0 about1) = true := by decide +kernel
set_option maxRecDepth 65536 in
theorem w_t10 : ((((((((((words1.drop 24).drop 24).drop 24).drop 24).drop 24).drop 24).drop 24).drop 24).drop 24).take 24).all (fun c => isCode c || c.before args0 about1) = true := by decide +kernel
set_option maxRecDepth 65536 in
theorem w_t11 : ((((((((((words1.drop 24).drop 24).drop 24).drop 24).drop 24).drop 24).drop 24).drop 24).drop 24).drop 24).all (fun c => isCode c || c.before args0 about1) = true := by decide +kernel
theorem w_tables : (allAtoms (Jvm.Cond.code x code maxLocals ret :: tables_1)).before args0 about1 = true := by
  rw [allAtoms_all]
  show words1.all (fun c => c.before args0 about1) = true
  refine all_split ?_ w_codes
  rw [← List.take_append_drop 24 words1, List.all_append, w_t1, ← List.take_append_drop 24 (words1.drop 24), List.all_append, w_t2, ← List.take_append_drop 24 ((words1.drop 24).drop 24), List.all_append, w_t3, ← List.take_append_drop 24 (((words1.drop 24).drop 24).drop 24), List.all_append, w_t4, ← List.take_append_drop 24 ((((words1.drop 24).drop 24).drop 24).drop 24), List.all_append, w_t5, ← List.take_append_drop 24 (((((words1.drop 24).drop 24).drop 24).drop 24).drop 24), List.all_append, w_t6, ← List.take_append_drop 24 ((((((words1.drop 24).drop 24).drop 24).drop 24).drop 24).drop 24), List.all_append, w_t7, ← List.take_append_drop 24 (((((((words1.drop 24).drop 24).drop 24).drop 24).drop 24).drop 24).drop 24), List.all_append, w_t8, ← List.take_append_drop 24 ((((((((words1.drop 24).drop 24).drop 24).drop 24).drop 24).drop 24).drop 24).drop 24), List.all_append, w_t9, ← List.take_append_drop 24 (((((((((words1.drop 24).drop 24).drop 24).drop 24).drop 24).drop 24).drop 24).drop 24).drop 24), List.all_append, w_t10, w_t11]
  rfl
set_option maxRecDepth 65536 in
theorem w_rest : rest_1_c.before args0 about1 = true := by decide +kernel
set_option maxRecDepth 65536 in
theorem w_case : (Jvm.Cond.and given_1 narrow_1).before args0 about1 = true := by decide +kernel
set_option maxRecDepth 65536 in
theorem w_consts : constsHeld consts_1 about1 := Jvm.Lit.constsHeldB_iff.mp (by decide +kernel)
theorem w_applies : (headSpec (Jvm.Cond.code x code maxLocals ret :: tables_1) room_1).applies x e0.platform about1 = true :=
  (Spec.applies_iff w_frames).mpr ⟨w_running, w_runnable, w_alone, w_named, w_hears, w_ripe, w_room, w_tables⟩
theorem atStart : AtStart classFile x code maxLocals ret World_1 tables_1 room_1 Calls_1 rest_1 Pre_1 launch0 p0 e0 about1 theMethod args0 below0 :=
  ⟨lists_1, trivial, launch0.admits_env _ _ _, launch0.least_env, fairChoices_fair.cas, fairChoices_fair.clock, w_frames, w_args, w_heap, w_applies, ⟨w_consts, trivial⟩, w_rest, w_case⟩
end start1
theorem witness_1 : WitnessClaimed_1 := ⟨start1.p0, start1.e0, start1.about1, start1.theMethod, start1.args0, start1.below0, start1.atStart⟩
end Jvm.Pilot.@@N@@
