import JvmDerived
import JvmDerived.Pilot.@@N@@Statement
import JvmDerived.Pilot.@@N@@Code
set_option linter.unusedVariables false
set_option linter.unusedSimpArgs false
namespace Jvm.Pilot.@@N@@
open Jvm Jvm.ClassFile Sem Op Lib Jvm.Free Jvm.Stand Jvm.LawKit Jvm.RoadKit Bundle Jvm.Pilot.@@N@@.Jvm.D
/-! OWN KIT: a walk as a judgement on (heap, frame) alone. Wl says: from every state that stands at this pc, with these locals and this stack over the heap h, the body runs to its return and Q holds there. -/
/-- own objects: no literal's cells, made since the law began, and there -/
def Mine (Z : State) (EL : List (String × Nat)) (vm : Vm) (h : Heap) (sf : List Addr) : Prop := ∀ x ∈ sf, Safe Z EL vm h x ∧ Z.heap.size ≤ x ∧ x < h.size
def Wk (l : Launch) (Z : State) (a0 : Array Value) (EL : List (String × Nat)) (y : MethodName) (bs : ByteArray) (ml : Nat) (rt : Option FieldType) (R : Room) (as : Array Value)
    (p : Program) (e : Env) (s : State) (m : MethodId) (below : List Frame) (meth : Method) (c : Code) (sf : List Addr) (T : State) (h : Heap) (k n : Nat) : Prop :=
  (p.tables.exec = Jvm.exec ∧ c.code = bs ∧ c.maxLocals = ml ∧ meth.sig.returnType = rt ∧ meth.locks = false ∧ meth.name = y.name ∧ s.vm.findClass y.cls = some m.cls ∧ EW Z a0 EL ∧ Ext Z.heap s.heap) ∧
  ∃ (vm0 : Vm) (locs : List Loc) (k0 : Nat), Stand p l e R (s.setVm vm0) m as below meth c T locs k n ∧ T.heap = h ∧ s.Since vm0 k0 ∧ k0 ≤ h.size ∧ Fr Z.heap.size locs ∧ Z.Warmed39 vm0 ∧ CHr Z EL s.vm s.heap vm0 h ∧ Mine Z EL vm0 h sf ∧ (EL = [] → s.WarmedH vm0)
def Go (Z : State) (EL : List (String × Nat)) (out : List Addr) (p : Program) (e : Env) (s : State) (below : List Frame) (C S : Nat) (Q : Option Value → Heap → Prop) (U : State) : Prop :=
  ∃ s₂ o, Steps p.tables e below U s₂ ∧ s₂.status = .running ∧ Ended s₂ below o ∧ ∃ v L, o = .returned v ∧ (Q v s₂.heap ∧ Fr Z.heap.size L) ∧ CHr Z EL s.vm s.heap s₂.vm s₂.heap ∧ ReturnedEndW s o s₂ L C S ∧ (EL = [] → s.WarmedH s₂.vm) ∧ Mine Z EL s₂.vm s₂.heap out
def WlO (l : Launch) (Z : State) (a0 : Array Value) (EL : List (String × Nat)) (y : MethodName) (bs : ByteArray) (ml : Nat) (rt : Option FieldType) (R : Room) (as : Array Value) (out : List Addr) (Q : Option Value → Heap → Prop)
    (sf : List Addr) (h : Heap) (k n : Nat) (pc : Nat) (Ls : Array Slot) (st : List Value) : Prop :=
  ∀ (p : Program) (e : Env) (s : State) (m : MethodId) (below : List Frame) (meth : Method) (c : Code) (T : State), Wk l Z a0 EL y bs ml rt R as p e s m below meth c sf T h k n → Go Z EL out p e s below R.cells R.slots Q (T.setTop (mkF m pc Ls st))
abbrev Wl (l : Launch) (Z : State) (a0 : Array Value) (EL : List (String × Nat)) (y : MethodName) (bs : ByteArray) (ml : Nat) (rt : Option FieldType) (R : Room) (as : Array Value) (Q : Option Value → Heap → Prop)
    (sf : List Addr) (h : Heap) (k n : Nat) (pc : Nat) (Ls : Array Slot) (st : List Value) : Prop := WlO l Z a0 EL y bs ml rt R as [] Q sf h k n pc Ls st
/-- the contract of a body at given arguments and a given heap -/
def MetO (l : Launch) (Z : State) (EL : List (String × Nat)) (y : MethodName) (bs : ByteArray) (ml : Nat) (rt : Option FieldType) (ws : List Jvm.Cond) (rm : Room) (as : Array Value) (h : Heap) (sf out : List Addr) (Q : Option Value → Heap → Prop) : Prop :=
  MetFree l y (head1 (Jvm.Cond.code y bs ml rt :: ws) rm) (fun a U => a = as ∧ Z.Warmed39 U.vm ∧ U.heap = h ∧ CHv Z EL U.vm h ∧ Ext Z.heap h ∧ Mine Z EL U.vm h sf) (fun _ _ _ _ _ => True)
    (fun _ U o U' => ∃ v L, o = .returned v ∧ (Q v U'.heap ∧ Fr Z.heap.size L) ∧ CHr Z EL U.vm U.heap U'.vm U'.heap ∧ ReturnedEndW U o U' L rm.cells rm.slots ∧ (EL = [] → U.WarmedH U'.vm) ∧ Mine Z EL U'.vm U'.heap out)
abbrev Met (l : Launch) (Z : State) (EL : List (String × Nat)) (y : MethodName) (bs : ByteArray) (ml : Nat) (rt : Option FieldType) (ws : List Jvm.Cond) (rm : Room) (as : Array Value) (h : Heap) (sf : List Addr) (Q : Option Value → Heap → Prop) : Prop := MetO l Z EL y bs ml rt ws rm as h sf [] Q
section OwnKit
variable {l : Launch} {Z : State} {a0 : Array Value} {EL : List (String × Nat)} {y : MethodName} {bs : ByteArray} {ml : Nat} {rt : Option FieldType} {R : Room} {as : Array Value} {Q : Option Value → Heap → Prop}
variable {p : Program} {e : Env} {s : State} {m : MethodId} {below : List Frame} {meth : Method} {c : Code} {T : State} {sf out : List Addr} {h h' : Heap} {k n pc : Nat} {Ls : Array Slot} {st : List Value} {C S : Nat}
theorem Go.of {U U' : State} (f : ∀ t, Steps p.tables e below U' t → Steps p.tables e below U t) (g : Go Z EL out p e s below C S Q U') : Go Z EL out p e s below C S Q U := by
  obtain ⟨s₂, o, h1, r⟩ := g
  exact ⟨s₂, o, f _ h1, r⟩
theorem Mine.nil {vm : Vm} : Mine Z EL vm h [] := fun _ q => nomatch q
theorem Mine.sub {vm : Vm} {sf' : List Addr} (M : Mine Z EL vm h sf) (q : ∀ x ∈ sf', x ∈ sf) : Mine Z EL vm h sf' := fun x hx => M x (q x hx)
theorem Mine.chr {vm vm1 : Vm} (M : Mine Z EL vm h sf) (A : CHr Z EL vm h vm1 h') : Mine Z EL vm1 h' sf := fun x hx => ⟨A.safe (M x hx).2.2 (M x hx).1, (M x hx).2.1, Nat.lt_of_lt_of_le (M x hx).2.2 A.2.1⟩
theorem Mine.cons {vm : Vm} {x : Addr} (M : Mine Z EL vm h sf) (q : Safe Z EL vm h x ∧ Z.heap.size ≤ x ∧ x < h.size) : Mine Z EL vm h (x :: sf) := fun z hz => (List.mem_cons.mp hz).elim (fun u => u ▸ q) (M z)
/-- the cells that stood when the law began stand -/
theorem Wk.old (W : Wk l Z a0 EL y bs ml rt R as p e s m below meth c sf T h k n) : Ext Z.heap h := by
  obtain ⟨⟨-, -, -, -, -, -, -, -, hO⟩, vm0, locs, k0, X, eT, -, -, hF, -, hC, -, -⟩ := W
  refine ⟨Nat.le_trans hO.1 hC.2.1, fun b cl hb => ?_⟩
  have hs := hO.2 b cl hb
  obtain ⟨c', h1, h2, -, h4⟩ := X.same.2.2.2.2.2 b cl hs
  have hlt := (Array.getElem?_eq_some_iff.mp hb).1
  have hsl : c'.slots = cl.slots := Array.ext_getElem? fun i => h4 i fun hm => absurd (hF _ hm) (Nat.not_le.mpr hlt)
  have hcc : c' = cl := by rw [h2, hsl]
  rw [← hcc, ← eT]; exact h1
theorem Wl.old (f : Ext Z.heap h → WlO l Z a0 EL y bs ml rt R as out Q sf h k n pc Ls st) : WlO l Z a0 EL y bs ml rt R as out Q sf h k n pc Ls st :=
  fun p e s m below meth c T W => f W.old p e s m below meth c T W
theorem Wl.mine {x : Addr} (hx : x ∈ sf) (f : Z.heap.size ≤ x → x < h.size → WlO l Z a0 EL y bs ml rt R as out Q sf h k n pc Ls st) : WlO l Z a0 EL y bs ml rt R as out Q sf h k n pc Ls st :=
  fun p e s m below meth c T W => by
    have W' := W
    obtain ⟨-, vm0, locs, k0, -, -, -, -, -, -, -, M, -⟩ := W'
    exact f (M x hx).2.1 (M x hx).2.2 p e s m below meth c T W
/-- fewer own objects, more room used -/
theorem Wl.weak {sf' : List Addr} {k' n' : Nat} (q : ∀ x ∈ sf', x ∈ sf) (hk : k ≤ k') (hn : n ≤ n') (hr : WlO l Z a0 EL y bs ml rt R as out Q sf' h k' n' pc Ls st) : WlO l Z a0 EL y bs ml rt R as out Q sf h k n pc Ls st :=
  fun p e s m below meth c T W => by
    obtain ⟨A, vm0, locs, k0, X, eT, hS, hk0, hF, hZ, hC, hM, hH⟩ := W
    exact hr p e s m below meth c T ⟨A, vm0, locs, k0, X.mono hk hn, eT, hS, hk0, hF, hZ, hC, hM.sub q, hH⟩
/-- a step that leaves the heap and writes nothing -/
theorem Wl.same {pc' : Nat} {Ls' : Array Slot} {st' : List Value}
    (f : ∀ (p : Program) (e : Env) (s : State) (m : MethodId) (below : List Frame) (meth : Method) (c : Code) (T : State) (vm0 : Vm) (locs : List Loc),
      p.tables.exec = Jvm.exec → c.code = bs → c.maxLocals = ml → vm0.findClass y.cls = some m.cls → Z.Warmed39 vm0 → Stand p l e R (s.setVm vm0) m as below meth c T locs k n → T.heap = h → Ext Z.heap h →
      ∃ T', Stand p l e R (s.setVm vm0) m as below meth c T' locs k n ∧ T'.heap = h ∧ ∀ t, Steps p.tables e below (T'.setTop (mkF m pc' Ls' st')) t → Steps p.tables e below (T.setTop (mkF m pc Ls st)) t)
    (hr : WlO l Z a0 EL y bs ml rt R as out Q sf h k n pc' Ls' st') : WlO l Z a0 EL y bs ml rt R as out Q sf h k n pc Ls st := by
  intro p e s m below meth c T W
  have hO := W.old
  obtain ⟨A, vm0, locs, k0, X, eT, hS, hk, hF, hZ, hC, hM, hH⟩ := W
  obtain ⟨T', X', e', stp⟩ := f p e s m below meth c T vm0 locs A.1 A.2.1 A.2.2.1 (by rw [hS.1.alike.findClass]; exact A.2.2.2.2.2.2.1) hZ X eT hO
  exact Go.of stp (hr p e s m below meth c T' ⟨A, vm0, locs, k0, X', e', hS, hk, hF, hZ, hC, hM, hH⟩)
theorem Wl.plain {pc' : Nat} {Ls' : Array Slot} {st' : List Value}
    (f : ∀ (p : Program) (e : Env) (m : MethodId) (below : List Frame) (c : Code) (T : State), p.tables.exec = Jvm.exec → c.code = bs → At T m c below → ∀ t, Steps p.tables e below (T.setTop (mkF m pc' Ls' st')) t → Steps p.tables e below (T.setTop (mkF m pc Ls st)) t)
    (hr : WlO l Z a0 EL y bs ml rt R as out Q sf h k n pc' Ls' st') : WlO l Z a0 EL y bs ml rt R as out Q sf h k n pc Ls st :=
  Wl.same (fun p e s m below meth c T vm0 locs hx hby _ _ _ X eT _ => ⟨T, X, eT, f p e m below c T hx hby X.here⟩) hr
/-- a step that makes one cell -/
theorem Wl.grow {pc' : Nat} {Ls' : Array Slot} {st' : Addr → List Value} {dk dn : Nat} {F : Heap → Addr → Prop}
    (f : ∀ (p : Program) (e : Env) (s : State) (m : MethodId) (below : List Frame) (meth : Method) (c : Code) (T : State) (vm0 : Vm) (locs : List Loc),
      p.tables.exec = Jvm.exec → c.code = bs → c.maxLocals = ml → vm0.findClass y.cls = some m.cls → Z.Warmed39 vm0 → Stand p l e R (s.setVm vm0) m as below meth c T locs k n → T.heap = h → Ext Z.heap h →
      ∃ T' h', Stand p l e R (s.setVm vm0) m as below meth c T' locs (k + dk) (n + dn) ∧ T'.heap = h' ∧ Ext h h' ∧ h.size < h'.size ∧ F h' h.size ∧ ∀ t, Steps p.tables e below (T'.setTop (mkF m pc' Ls' (st' h.size))) t → Steps p.tables e below (T.setTop (mkF m pc Ls st)) t)
    (hr : ∀ (a : Addr) (h' : Heap), a = h.size → Ext h h' → F h' a → WlO l Z a0 EL y bs ml rt R as out Q (a :: sf) h' (k + dk) (n + dn) pc' Ls' (st' a)) : WlO l Z a0 EL y bs ml rt R as out Q sf h k n pc Ls st := by
  intro p e s m below meth c T W
  have hO := W.old
  obtain ⟨A, vm0, locs, k0, X, eT, hS, hk, hF, hZ, hC, hM, hH⟩ := W
  obtain ⟨T', h', X', e', E, hlt, G, stp⟩ := f p e s m below meth c T vm0 locs A.1 A.2.1 A.2.2.1 (by rw [hS.1.alike.findClass]; exact A.2.2.2.2.2.2.1) hZ X eT hO
  have B := CHr.ext (Z := Z) (EL := EL) (vm := vm0) E hC.1
  exact Go.of stp (hr h.size h' rfl E G p e s m below meth c T' ⟨A, vm0, locs, k0, X', e', hS, Nat.le_trans hk E.1, hF, hZ, hC.trans B, (hM.chr B).cons ⟨Safe.ext E hC.1 (Safe.new (Nat.le_refl _)), hO.1, hlt⟩, hH⟩)
/-- a step that writes one place of an own object -/
theorem Wl.write {pc' : Nat} {Ls' : Array Slot} {st' : List Value} {a : Addr} {sl : Nat} {v : Value} (ha : a ∈ sf)
    (f : ∀ (p : Program) (e : Env) (s : State) (m : MethodId) (below : List Frame) (meth : Method) (c : Code) (T : State) (vm0 : Vm) (locs : List Loc),
      p.tables.exec = Jvm.exec → c.code = bs → meth.name = y.name → vm0.findClass y.cls = some m.cls → Z.Warmed39 vm0 → Stand p l e R (s.setVm vm0) m as below meth c T locs k n → T.heap = h →
      ∃ T' h', Stand p l e R (s.setVm vm0) m as below meth c T' (locs ++ [⟨a, sl⟩]) k n ∧ T'.heap = h' ∧ Wr h h' a sl v ∧ ∀ t, Steps p.tables e below (T'.setTop (mkF m pc' Ls' st')) t → Steps p.tables e below (T.setTop (mkF m pc Ls st)) t)
    (hr : ∀ h', Wr h h' a sl v → WlO l Z a0 EL y bs ml rt R as out Q sf h' k n pc' Ls' st') : WlO l Z a0 EL y bs ml rt R as out Q sf h k n pc Ls st := by
  intro p e s m below meth c T W
  obtain ⟨A, vm0, locs, k0, X, eT, hS, hk, hF, hZ, hC, hM, hH⟩ := W
  obtain ⟨T', h', X', e', Wv, stp⟩ := f p e s m below meth c T vm0 locs A.1 A.2.1 A.2.2.2.2.2.1 (by rw [hS.1.alike.findClass]; exact A.2.2.2.2.2.2.1) hZ X eT
  have B := CHr.wr (Z := Z) (EL := EL) (vm := vm0) Wv (hM a ha).1 hC.1
  exact Go.of stp (hr h' Wv p e s m below meth c T' ⟨A, vm0, locs ++ [⟨a, sl⟩], k0, X', e', hS, by rw [Wv.size]; exact hk, Fr.snoc X' hF (hM a ha).2.1, hZ, hC.trans B, hM.chr B, hH⟩)
/-! plain steps -/
theorem Wl.aload_n (pc' : Nat) {i : Fin 4} {v : Value} (hd : decode bs pc = .ok (.aload_n i, 1)) (hl : Ls[i.val]? = some (.val v)) (hv : v.isRef = true) (hr : WlO l Z a0 EL y bs ml rt R as out Q sf h k n pc' Ls (v :: st)) (hp : pc + 1 = pc' := by rfl) : WlO l Z a0 EL y bs ml rt R as out Q sf h k n pc Ls st := by
  subst hp; exact Wl.plain (fun p e m below c T hx hby A t kk => XS.aloadN A hx rfl (hb hby hd) hl hv kk) hr
theorem Wl.aload (pc' : Nat) {i : Nat} {v : Value} (hd : decode bs pc = .ok (.aload i, 2)) (hl : Ls[i]? = some (.val v)) (hv : v.isRef = true) (hr : WlO l Z a0 EL y bs ml rt R as out Q sf h k n pc' Ls (v :: st)) (hp : pc + 2 = pc' := by rfl) : WlO l Z a0 EL y bs ml rt R as out Q sf h k n pc Ls st := by
  subst hp; exact Wl.plain (fun p e m below c T hx hby A t kk => XS.aload A hx rfl (hb hby hd) hl hv kk) hr
theorem Wl.iload_n (pc' : Nat) {i : Fin 4} {v : Int32} (hd : decode bs pc = .ok (.iload_n i, 1)) (hl : Ls[i.val]? = some (.val (.int v))) (hr : WlO l Z a0 EL y bs ml rt R as out Q sf h k n pc' Ls (.int v :: st)) (hp : pc + 1 = pc' := by rfl) : WlO l Z a0 EL y bs ml rt R as out Q sf h k n pc Ls st := by
  subst hp; exact Wl.plain (fun p e m below c T hx hby A t kk => XS.iloadN A hx rfl (hb hby hd) hl kk) hr
theorem Wl.iload (pc' : Nat) {i : Nat} {v : Int32} (hd : decode bs pc = .ok (.iload i, 2)) (hl : Ls[i]? = some (.val (.int v))) (hr : WlO l Z a0 EL y bs ml rt R as out Q sf h k n pc' Ls (.int v :: st)) (hp : pc + 2 = pc' := by rfl) : WlO l Z a0 EL y bs ml rt R as out Q sf h k n pc Ls st := by
  subst hp; exact Wl.plain (fun p e m below c T hx hby A t kk => XS.iload A hx rfl (hb hby hd) hl kk) hr
theorem Wl.lload_n (pc' : Nat) {i : Fin 4} {v : Int64} (hd : decode bs pc = .ok (.lload_n i, 1)) (hl : Ls[i.val]? = some (.val (.long v))) (hr : WlO l Z a0 EL y bs ml rt R as out Q sf h k n pc' Ls (.long v :: st)) (hp : pc + 1 = pc' := by rfl) : WlO l Z a0 EL y bs ml rt R as out Q sf h k n pc Ls st := by
  subst hp; exact Wl.plain (fun p e m below c T hx hby A t kk => XS.lloadN A hx rfl (hb hby hd) hl kk) hr
theorem Wl.lload (pc' : Nat) {i : Nat} {v : Int64} (hd : decode bs pc = .ok (.lload i, 2)) (hl : Ls[i]? = some (.val (.long v))) (hr : WlO l Z a0 EL y bs ml rt R as out Q sf h k n pc' Ls (.long v :: st)) (hp : pc + 2 = pc' := by rfl) : WlO l Z a0 EL y bs ml rt R as out Q sf h k n pc Ls st := by
  subst hp; exact Wl.plain (fun p e m below c T hx hby A t kk => XS.lload A hx rfl (hb hby hd) hl kk) hr
theorem Wl.istore_n (pc' : Nat) (Ls' : Array Slot) {i : Fin 4} {v : Int32} (hd : decode bs pc = .ok (.istore_n i, 1)) (hl : storeLocals Ls i.val (.int v) = some Ls') (hr : WlO l Z a0 EL y bs ml rt R as out Q sf h k n pc' Ls' st) (hp : pc + 1 = pc' := by rfl) : WlO l Z a0 EL y bs ml rt R as out Q sf h k n pc Ls (.int v :: st) := by
  subst hp; exact Wl.plain (fun p e m below c T hx hby A t kk => XS.istoreN A hx rfl (hb hby hd) rfl hl kk) hr
theorem Wl.istore (pc' : Nat) (Ls' : Array Slot) {i : Nat} {v : Int32} (hd : decode bs pc = .ok (.istore i, 2)) (hl : storeLocals Ls i (.int v) = some Ls') (hr : WlO l Z a0 EL y bs ml rt R as out Q sf h k n pc' Ls' st) (hp : pc + 2 = pc' := by rfl) : WlO l Z a0 EL y bs ml rt R as out Q sf h k n pc Ls (.int v :: st) := by
  subst hp; exact Wl.plain (fun p e m below c T hx hby A t kk => XS.istore A hx rfl (hb hby hd) rfl hl kk) hr
theorem Wl.lstore (pc' : Nat) (Ls' : Array Slot) {i : Nat} {v : Int64} (hd : decode bs pc = .ok (.lstore i, 2)) (hl : storeLocals Ls i (.long v) = some Ls') (hr : WlO l Z a0 EL y bs ml rt R as out Q sf h k n pc' Ls' st) (hp : pc + 2 = pc' := by rfl) : WlO l Z a0 EL y bs ml rt R as out Q sf h k n pc Ls (.long v :: st) := by
  subst hp; exact Wl.plain (fun p e m below c T hx hby A t kk => XS.lstore A hx rfl (hb hby hd) rfl hl kk) hr
theorem Wl.astore_n (pc' : Nat) (Ls' : Array Slot) {i : Fin 4} {v : Value} (hd : decode bs pc = .ok (.astore_n i, 1)) (hv : v.isRef = true) (hl : storeLocals Ls i.val v = some Ls') (hr : WlO l Z a0 EL y bs ml rt R as out Q sf h k n pc' Ls' st) (hp : pc + 1 = pc' := by rfl) : WlO l Z a0 EL y bs ml rt R as out Q sf h k n pc Ls (v :: st) := by
  subst hp; exact Wl.plain (fun p e m below c T hx hby A t kk => XS.astoreN A hx rfl (hb hby hd) rfl hv hl kk) hr
theorem Wl.astore (pc' : Nat) (Ls' : Array Slot) {i : Nat} {v : Value} (hd : decode bs pc = .ok (.astore i, 2)) (hv : v.isRef = true) (hl : storeLocals Ls i v = some Ls') (hr : WlO l Z a0 EL y bs ml rt R as out Q sf h k n pc' Ls' st) (hp : pc + 2 = pc' := by rfl) : WlO l Z a0 EL y bs ml rt R as out Q sf h k n pc Ls (v :: st) := by
  subst hp; exact Wl.plain (fun p e m below c T hx hby A t kk => XS.astore A hx rfl (hb hby hd) rfl hv hl kk) hr
theorem Wl.iinc (pc' : Nat) (Ls' : Array Slot) {i : Nat} {cst : Int} {x : Int32} (v : Int32) (hd : decode bs pc = .ok (.iinc i cst, 3)) (hv : Int32.ofInt cst = v) (hl : Ls[i]? = some (.val (.int x))) (hl' : storeLocals Ls i (.int (x + v)) = some Ls') (hr : WlO l Z a0 EL y bs ml rt R as out Q sf h k n pc' Ls' st) (hp : pc + 3 = pc' := by rfl) : WlO l Z a0 EL y bs ml rt R as out Q sf h k n pc Ls st := by
  subst hp hv; exact Wl.plain (fun p e m below c T hx hby A t kk => XS.iinc A hx rfl (hb hby hd) hl hl' kk) hr
theorem Wl.iconst (pc' : Nat) (v : Int32) {i : Int} (hd : decode bs pc = .ok (.iconst i, 1)) (hv : Int32.ofInt i = v) (hr : WlO l Z a0 EL y bs ml rt R as out Q sf h k n pc' Ls (.int v :: st)) (hp : pc + 1 = pc' := by rfl) : WlO l Z a0 EL y bs ml rt R as out Q sf h k n pc Ls st := by
  subst hp hv; exact Wl.plain (fun p e m below c T hx hby A t kk => XS.iconst A hx rfl (hb hby hd) kk) hr
theorem Wl.bipush (pc' : Nat) (v : Int32) {i : Int} (hd : decode bs pc = .ok (.bipush i, 2)) (hv : (Int8.ofInt i).toInt32 = v) (hr : WlO l Z a0 EL y bs ml rt R as out Q sf h k n pc' Ls (.int v :: st)) (hp : pc + 2 = pc' := by rfl) : WlO l Z a0 EL y bs ml rt R as out Q sf h k n pc Ls st := by
  subst hp hv; exact Wl.plain (fun p e m below c T hx hby A t kk => XS.bipush A hx rfl (hb hby hd) kk) hr
theorem Wl.sipush (pc' : Nat) (v : Int32) {i : Int} (hd : decode bs pc = .ok (.sipush i, 3)) (hv : (Int16.ofInt i).toInt32 = v) (hr : WlO l Z a0 EL y bs ml rt R as out Q sf h k n pc' Ls (.int v :: st)) (hp : pc + 3 = pc' := by rfl) : WlO l Z a0 EL y bs ml rt R as out Q sf h k n pc Ls st := by
  subst hp hv; exact Wl.plain (fun p e m below c T hx hby A t kk => XS.sipush A hx rfl (hb hby hd) kk) hr
theorem Wl.aconst_null (pc' : Nat) (hd : decode bs pc = .ok (.aconst_null, 1)) (hr : WlO l Z a0 EL y bs ml rt R as out Q sf h k n pc' Ls (.null :: st)) (hp : pc + 1 = pc' := by rfl) : WlO l Z a0 EL y bs ml rt R as out Q sf h k n pc Ls st := by
  subst hp; exact Wl.plain (fun p e m below c T hx hby A t kk => XS.aconstNull A hx rfl (hb hby hd) kk) hr
theorem Wl.iadd (pc' : Nat) {x z : Int32} (hd : decode bs pc = .ok (.iadd, 1)) (hr : WlO l Z a0 EL y bs ml rt R as out Q sf h k n pc' Ls (.int (x + z) :: st)) (hp : pc + 1 = pc' := by rfl) : WlO l Z a0 EL y bs ml rt R as out Q sf h k n pc Ls (.int z :: .int x :: st) := by
  subst hp; exact Wl.plain (fun p e m below c T hx hby A t kk => XS.iadd A hx rfl (hb hby hd) rfl kk) hr
theorem Wl.isub (pc' : Nat) {x z : Int32} (hd : decode bs pc = .ok (.isub, 1)) (hr : WlO l Z a0 EL y bs ml rt R as out Q sf h k n pc' Ls (.int (x - z) :: st)) (hp : pc + 1 = pc' := by rfl) : WlO l Z a0 EL y bs ml rt R as out Q sf h k n pc Ls (.int z :: .int x :: st) := by
  subst hp; exact Wl.plain (fun p e m below c T hx hby A t kk => XS.isub A hx rfl (hb hby hd) rfl kk) hr
theorem Wl.imul (pc' : Nat) {x z : Int32} (hd : decode bs pc = .ok (.imul, 1)) (hr : WlO l Z a0 EL y bs ml rt R as out Q sf h k n pc' Ls (.int (x * z) :: st)) (hp : pc + 1 = pc' := by rfl) : WlO l Z a0 EL y bs ml rt R as out Q sf h k n pc Ls (.int z :: .int x :: st) := by
  subst hp; exact Wl.plain (fun p e m below c T hx hby A t kk => XS.imul A hx rfl (hb hby hd) rfl kk) hr
theorem Wl.irem (pc' : Nat) {x z : Int32} (hd : decode bs pc = .ok (.irem, 1)) (hz : z ≠ 0) (hr : WlO l Z a0 EL y bs ml rt R as out Q sf h k n pc' Ls (.int (x % z) :: st)) (hp : pc + 1 = pc' := by rfl) : WlO l Z a0 EL y bs ml rt R as out Q sf h k n pc Ls (.int z :: .int x :: st) := by
  subst hp; exact Wl.same (fun p e s m below meth c T vm0 locs hx hby _ _ _ X eT _ => ⟨T, X, eT, fun t kk => iremM X hx rfl (hb hby hd) rfl hz kk⟩) hr
theorem Wl.iand (pc' : Nat) {x z : Int32} (hd : decode bs pc = .ok (.iand, 1)) (hr : WlO l Z a0 EL y bs ml rt R as out Q sf h k n pc' Ls (.int (x &&& z) :: st)) (hp : pc + 1 = pc' := by rfl) : WlO l Z a0 EL y bs ml rt R as out Q sf h k n pc Ls (.int z :: .int x :: st) := by
  subst hp; exact Wl.plain (fun p e m below c T hx hby A t kk => XS.iand A hx rfl (hb hby hd) rfl kk) hr
theorem Wl.ior (pc' : Nat) {x z : Int32} (hd : decode bs pc = .ok (.ior, 1)) (hr : WlO l Z a0 EL y bs ml rt R as out Q sf h k n pc' Ls (.int (x ||| z) :: st)) (hp : pc + 1 = pc' := by rfl) : WlO l Z a0 EL y bs ml rt R as out Q sf h k n pc Ls (.int z :: .int x :: st) := by
  subst hp; exact Wl.plain (fun p e m below c T hx hby A t kk => XT.ior A hx rfl (hb hby hd) rfl kk) hr
theorem Wl.ixor (pc' : Nat) {x z : Int32} (hd : decode bs pc = .ok (.ixor, 1)) (hr : WlO l Z a0 EL y bs ml rt R as out Q sf h k n pc' Ls (.int (x ^^^ z) :: st)) (hp : pc + 1 = pc' := by rfl) : WlO l Z a0 EL y bs ml rt R as out Q sf h k n pc Ls (.int z :: .int x :: st) := by
  subst hp; exact Wl.plain (fun p e m below c T hx hby A t kk => XT.ixor A hx rfl (hb hby hd) rfl kk) hr
theorem Wl.ishl (pc' : Nat) {x z : Int32} (hd : decode bs pc = .ok (.ishl, 1)) (hr : WlO l Z a0 EL y bs ml rt R as out Q sf h k n pc' Ls (.int (x <<< (z &&& 31)) :: st)) (hp : pc + 1 = pc' := by rfl) : WlO l Z a0 EL y bs ml rt R as out Q sf h k n pc Ls (.int z :: .int x :: st) := by
  subst hp; exact Wl.plain (fun p e m below c T hx hby A t kk => XT.ishl A hx rfl (hb hby hd) rfl kk) hr
theorem Wl.ishr (pc' : Nat) {x z : Int32} (hd : decode bs pc = .ok (.ishr, 1)) (hr : WlO l Z a0 EL y bs ml rt R as out Q sf h k n pc' Ls (.int (x >>> (z &&& 31)) :: st)) (hp : pc + 1 = pc' := by rfl) : WlO l Z a0 EL y bs ml rt R as out Q sf h k n pc Ls (.int z :: .int x :: st) := by
  subst hp; exact Wl.plain (fun p e m below c T hx hby A t kk => XT.ishr A hx rfl (hb hby hd) rfl kk) hr
theorem Wl.iushr (pc' : Nat) {x z : Int32} (hd : decode bs pc = .ok (.iushr, 1)) (hr : WlO l Z a0 EL y bs ml rt R as out Q sf h k n pc' Ls (.int ((x.toUInt32 >>> (z &&& 31).toUInt32).toInt32) :: st)) (hp : pc + 1 = pc' := by rfl) : WlO l Z a0 EL y bs ml rt R as out Q sf h k n pc Ls (.int z :: .int x :: st) := by
  subst hp; exact Wl.plain (fun p e m below c T hx hby A t kk => XT.iushr A hx rfl (hb hby hd) rfl kk) hr
theorem Wl.ladd (pc' : Nat) {x z : Int64} (hd : decode bs pc = .ok (.ladd, 1)) (hr : WlO l Z a0 EL y bs ml rt R as out Q sf h k n pc' Ls (.long (x + z) :: st)) (hp : pc + 1 = pc' := by rfl) : WlO l Z a0 EL y bs ml rt R as out Q sf h k n pc Ls (.long z :: .long x :: st) := by
  subst hp; exact Wl.plain (fun p e m below c T hx hby A t kk => XT.ladd A hx rfl (hb hby hd) rfl kk) hr
theorem Wl.land (pc' : Nat) {x z : Int64} (hd : decode bs pc = .ok (.land, 1)) (hr : WlO l Z a0 EL y bs ml rt R as out Q sf h k n pc' Ls (.long (x &&& z) :: st)) (hp : pc + 1 = pc' := by rfl) : WlO l Z a0 EL y bs ml rt R as out Q sf h k n pc Ls (.long z :: .long x :: st) := by
  subst hp; exact Wl.plain (fun p e m below c T hx hby A t kk => XT.land A hx rfl (hb hby hd) rfl kk) hr
theorem Wl.lushr (pc' : Nat) {x : Int64} {z : Int32} (hd : decode bs pc = .ok (.lushr, 1)) (hr : WlO l Z a0 EL y bs ml rt R as out Q sf h k n pc' Ls (.long (Jvm.Free.XT.ushrL x z) :: st)) (hp : pc + 1 = pc' := by rfl) : WlO l Z a0 EL y bs ml rt R as out Q sf h k n pc Ls (.int z :: .long x :: st) := by
  subst hp; exact Wl.plain (fun p e m below c T hx hby A t kk => XT.lushr A hx rfl (hb hby hd) rfl kk) hr
theorem Wl.lcmp (pc' : Nat) {x z : Int64} (hd : decode bs pc = .ok (.lcmp, 1)) (hr : WlO l Z a0 EL y bs ml rt R as out Q sf h k n pc' Ls (.int (lcmpW x z) :: st)) (hp : pc + 1 = pc' := by rfl) : WlO l Z a0 EL y bs ml rt R as out Q sf h k n pc Ls (.long z :: .long x :: st) := by
  subst hp; exact Wl.plain (fun p e m below c T hx hby A t kk => XT.lcmp A hx rfl (hb hby hd) rfl kk) hr
theorem Wl.i2l (pc' : Nat) {x : Int32} (hd : decode bs pc = .ok (.i2l, 1)) (hr : WlO l Z a0 EL y bs ml rt R as out Q sf h k n pc' Ls (.long x.toInt64 :: st)) (hp : pc + 1 = pc' := by rfl) : WlO l Z a0 EL y bs ml rt R as out Q sf h k n pc Ls (.int x :: st) := by
  subst hp; exact Wl.plain (fun p e m below c T hx hby A t kk => XT.i2l A hx rfl (hb hby hd) rfl kk) hr
theorem Wl.l2i (pc' : Nat) {x : Int64} (hd : decode bs pc = .ok (.l2i, 1)) (hr : WlO l Z a0 EL y bs ml rt R as out Q sf h k n pc' Ls (.int x.toInt32 :: st)) (hp : pc + 1 = pc' := by rfl) : WlO l Z a0 EL y bs ml rt R as out Q sf h k n pc Ls (.long x :: st) := by
  subst hp; exact Wl.plain (fun p e m below c T hx hby A t kk => XT.l2i A hx rfl (hb hby hd) rfl kk) hr
theorem Wl.i2b (pc' : Nat) {x : Int32} (hd : decode bs pc = .ok (.i2b, 1)) (hr : WlO l Z a0 EL y bs ml rt R as out Q sf h k n pc' Ls (.int x.toInt8.toInt32 :: st)) (hp : pc + 1 = pc' := by rfl) : WlO l Z a0 EL y bs ml rt R as out Q sf h k n pc Ls (.int x :: st) := by
  subst hp; exact Wl.plain (fun p e m below c T hx hby A t kk => XT.i2b A hx rfl (hb hby hd) rfl kk) hr
theorem Wl.i2c (pc' : Nat) {x : Int32} (hd : decode bs pc = .ok (.i2c, 1)) (hr : WlO l Z a0 EL y bs ml rt R as out Q sf h k n pc' Ls (.int x.toUInt32.toUInt16.toUInt32.toInt32 :: st)) (hp : pc + 1 = pc' := by rfl) : WlO l Z a0 EL y bs ml rt R as out Q sf h k n pc Ls (.int x :: st) := by
  subst hp; exact Wl.plain (fun p e m below c T hx hby A t kk => XT.i2c A hx rfl (hb hby hd) rfl kk) hr
theorem Wl.dup (pc' : Nat) {v : Value} (hd : decode bs pc = .ok (.dup, 1)) (hc : v.category = 1) (hr : WlO l Z a0 EL y bs ml rt R as out Q sf h k n pc' Ls (v :: v :: st)) (hp : pc + 1 = pc' := by rfl) : WlO l Z a0 EL y bs ml rt R as out Q sf h k n pc Ls (v :: st) := by
  subst hp; exact Wl.plain (fun p e m below c T hx hby A t kk => XS.dup A hx rfl (hb hby hd) rfl hc kk) hr
theorem Wl.pop (pc' : Nat) {v : Value} (hd : decode bs pc = .ok (.pop, 1)) (hc : v.category = 1) (hr : WlO l Z a0 EL y bs ml rt R as out Q sf h k n pc' Ls st) (hp : pc + 1 = pc' := by rfl) : WlO l Z a0 EL y bs ml rt R as out Q sf h k n pc Ls (v :: st) := by
  subst hp; exact Wl.plain (fun p e m below c T hx hby A t kk => XT.pop A hx rfl (hb hby hd) rfl hc kk) hr
theorem Wl.goto (pc' : Nat) {o : Int} (hd : decode bs pc = .ok (.goto o, 3)) (hr : WlO l Z a0 EL y bs ml rt R as out Q sf h k n pc' Ls st) (ho : 0 ≤ (pc : Int) + o := by decide) (hp : ((pc : Int) + o).toNat = pc' := by decide) : WlO l Z a0 EL y bs ml rt R as out Q sf h k n pc Ls st :=
  Wl.plain (fun p e m below c T hx hby A t kk => XS.goto A hx rfl rfl (hb hby hd) ho hp kk) hr
theorem Wl.ifY (pc' : Nat) {cd : ClassFile.Cond} {o : Int} {x : Int32} (hd : decode bs pc = .ok (.ifCond cd o, 3)) (hc : if_icmp.holds cd x 0 = true) (hr : WlO l Z a0 EL y bs ml rt R as out Q sf h k n pc' Ls st) (ho : 0 ≤ (pc : Int) + o := by decide) (hp : ((pc : Int) + o).toNat = pc' := by decide) : WlO l Z a0 EL y bs ml rt R as out Q sf h k n pc Ls (.int x :: st) :=
  Wl.plain (fun p e m below c T hx hby A t kk => XS.ifYes A hx rfl rfl (hb hby hd) rfl ((if0 _ _).trans hc) ho hp kk) hr
theorem Wl.ifN (pc' : Nat) {cd : ClassFile.Cond} {o : Int} {x : Int32} (hd : decode bs pc = .ok (.ifCond cd o, 3)) (hc : if_icmp.holds cd x 0 = false) (hr : WlO l Z a0 EL y bs ml rt R as out Q sf h k n pc' Ls st) (hp : pc + 3 = pc' := by rfl) : WlO l Z a0 EL y bs ml rt R as out Q sf h k n pc Ls (.int x :: st) := by
  subst hp; exact Wl.plain (fun p e m below c T hx hby A t kk => XS.ifNo A hx rfl (hb hby hd) rfl ((if0 _ _).trans hc) kk) hr
theorem Wl.icmpY (pc' : Nat) {cd : ClassFile.Cond} {o : Int} {x z : Int32} (hd : decode bs pc = .ok (.if_icmp cd o, 3)) (hc : if_icmp.holds cd x z = true) (hr : WlO l Z a0 EL y bs ml rt R as out Q sf h k n pc' Ls st) (ho : 0 ≤ (pc : Int) + o := by decide) (hp : ((pc : Int) + o).toNat = pc' := by decide) : WlO l Z a0 EL y bs ml rt R as out Q sf h k n pc Ls (.int z :: .int x :: st) :=
  Wl.plain (fun p e m below c T hx hby A t kk => XS.icmpYes A hx rfl rfl (hb hby hd) rfl hc ho hp kk) hr
theorem Wl.icmpN (pc' : Nat) {cd : ClassFile.Cond} {o : Int} {x z : Int32} (hd : decode bs pc = .ok (.if_icmp cd o, 3)) (hc : if_icmp.holds cd x z = false) (hr : WlO l Z a0 EL y bs ml rt R as out Q sf h k n pc' Ls st) (hp : pc + 3 = pc' := by rfl) : WlO l Z a0 EL y bs ml rt R as out Q sf h k n pc Ls (.int z :: .int x :: st) := by
  subst hp; exact Wl.plain (fun p e m below c T hx hby A t kk => XS.icmpNo A hx rfl (hb hby hd) rfl hc kk) hr
theorem Wl.ifnullY (pc' : Nat) {o : Int} (hd : decode bs pc = .ok (.ifnull o, 3)) (hr : WlO l Z a0 EL y bs ml rt R as out Q sf h k n pc' Ls st) (ho : 0 ≤ (pc : Int) + o := by decide) (hp : ((pc : Int) + o).toNat = pc' := by decide) : WlO l Z a0 EL y bs ml rt R as out Q sf h k n pc Ls (.null :: st) :=
  Wl.plain (fun p e m below c T hx hby A t kk => XS.ifnullYes A hx rfl rfl (hb hby hd) rfl ho hp kk) hr
theorem Wl.ifnullN (pc' : Nat) {o : Int} {b : Addr} (hd : decode bs pc = .ok (.ifnull o, 3)) (hr : WlO l Z a0 EL y bs ml rt R as out Q sf h k n pc' Ls st) (hp : pc + 3 = pc' := by rfl) : WlO l Z a0 EL y bs ml rt R as out Q sf h k n pc Ls (.ref b :: st) := by
  subst hp; exact Wl.plain (fun p e m below c T hx hby A t kk => XS.ifnullNo A hx rfl (hb hby hd) rfl kk) hr
theorem Wl.ifnonnullY (pc' : Nat) {o : Int} {b : Addr} (hd : decode bs pc = .ok (.ifnonnull o, 3)) (hr : WlO l Z a0 EL y bs ml rt R as out Q sf h k n pc' Ls st) (ho : 0 ≤ (pc : Int) + o := by decide) (hp : ((pc : Int) + o).toNat = pc' := by decide) : WlO l Z a0 EL y bs ml rt R as out Q sf h k n pc Ls (.ref b :: st) :=
  Wl.plain (fun p e m below c T hx hby A t kk => XT.ifnonnullYes A hx rfl rfl (hb hby hd) rfl ho hp kk) hr
theorem Wl.ifnonnullN (pc' : Nat) {o : Int} (hd : decode bs pc = .ok (.ifnonnull o, 3)) (hr : WlO l Z a0 EL y bs ml rt R as out Q sf h k n pc' Ls st) (hp : pc + 3 = pc' := by rfl) : WlO l Z a0 EL y bs ml rt R as out Q sf h k n pc Ls (.null :: st) := by
  subst hp; exact Wl.plain (fun p e m below c T hx hby A t kk => XT.ifnonnullNo A hx rfl (hb hby hd) rfl kk) hr
theorem Wl.acmp (pc' : Nat) {cd : ACond} {o : Int} {v w : Value} (same : Bool) (hd : decode bs pc = .ok (.if_acmp cd o, 3)) (h1 : v.isRef = true) (h2 : w.isRef = true) (hq : decide (v = w) = same) (hr : WlO l Z a0 EL y bs ml rt R as out Q sf h k n pc' Ls st) (ho : 0 ≤ (pc : Int) + o := by decide) (hp : pc' = if acV cd same = true then ((pc : Int) + o).toNat else pc + 3 := by decide) : WlO l Z a0 EL y bs ml rt R as out Q sf h k n pc Ls (w :: v :: st) :=
  Wl.same (fun p e s m below meth c T vm0 locs hx hby _ _ _ X eT _ => ⟨T, X, eT, fun t kk => Jvm.RoadKit.acmp (g := mkF m pc Ls (w :: v :: st)) X hx rfl h1 h2 rfl (hb hby hd) rfl hq ho hp kk⟩) hr
/-! constants of the pool -/
theorem Wl.ldcI (pc' : Nat) {i : Nat} {v : Int32} (hd : decode bs pc = .ok (.ldc i, 2)) (w : (Jvm.Cond.constant y.cls i v).before a0 Z = true) (hr : WlO l Z a0 EL y bs ml rt R as out Q sf h k n pc' Ls (.int v :: st)) (hp : pc + 2 = pc' := by rfl) : WlO l Z a0 EL y bs ml rt R as out Q sf h k n pc Ls st := by
  subst hp; exact Wl.same (fun p e s m below meth c T vm0 locs hx hby _ hown hZ X eT _ => ⟨T, X, eT, fun t kk => Jvm.Stand.ldcI X hx (s := s.setVm vm0) hown (mv hZ w) rfl (hb hby hd) kk⟩) hr
theorem Wl.ldc_wI (pc' : Nat) {i : Nat} {v : Int32} (hd : decode bs pc = .ok (.ldc_w i, 3)) (w : (Jvm.Cond.constant y.cls i v).before a0 Z = true) (hr : WlO l Z a0 EL y bs ml rt R as out Q sf h k n pc' Ls (.int v :: st)) (hp : pc + 3 = pc' := by rfl) : WlO l Z a0 EL y bs ml rt R as out Q sf h k n pc Ls st := by
  subst hp; exact Wl.same (fun p e s m below meth c T vm0 locs hx hby _ hown hZ X eT _ => ⟨T, X, eT, fun t kk => Jvm.Stand.ldcWI X hx (s := s.setVm vm0) hown (mv hZ w) rfl (hb hby hd) kk⟩) hr
theorem Wl.ldc2J (pc' : Nat) {i : Nat} {v : Int64} (hd : decode bs pc = .ok (.ldc2_w i, 3)) (w : (Jvm.Cond.constantLong y.cls i v).before a0 Z = true) (hr : WlO l Z a0 EL y bs ml rt R as out Q sf h k n pc' Ls (.long v :: st)) (hp : pc + 3 = pc' := by rfl) : WlO l Z a0 EL y bs ml rt R as out Q sf h k n pc Ls st := by
  subst hp; exact Wl.same (fun p e s m below meth c T vm0 locs hx hby _ hown hZ X eT _ => ⟨T, X, eT, fun t kk => Jvm.Stand.ldc2J X hx (s := s.setVm vm0) hown (mv hZ w) rfl (hb hby hd) kk⟩) hr
/-! fields -/
theorem Wl.getfield (pc' : Nat) {i : Nat} {O fn d : String} {a : Addr} {v : Value} (hd : decode bs pc = .ok (.getfield i, 3)) (w : (Jvm.Cond.fieldLink y.cls i O fn d).before a0 Z = true) (F : Fld Z h a O fn d v) (hr : WlO l Z a0 EL y bs ml rt R as out Q sf h k n pc' Ls (v :: st)) (hp : pc + 3 = pc' := by rfl) : WlO l Z a0 EL y bs ml rt R as out Q sf h k n pc Ls (.ref a :: st) := by
  subst hp; exact Wl.same (fun p e s m below meth c T vm0 locs hx hby _ hown hZ X eT _ => getF X hx (s := s.setVm vm0) hZ hown (host := "") (Or.inl w) Via.refl eT F (g := mkF m pc Ls (.ref a :: st)) rfl rfl (hb hby hd)) hr
theorem Wl.getstatic (pc' : Nat) {i : Nat} {O fn d : String} {v : Value} (hd : decode bs pc = .ok (.getstatic i, 3)) (w : (Jvm.Cond.fieldLink y.cls i O fn d).before a0 Z = true) (F : Sta Z Z.heap O fn d v) (hr : WlO l Z a0 EL y bs ml rt R as out Q sf h k n pc' Ls (v :: st)) (hp : pc + 3 = pc' := by rfl) : WlO l Z a0 EL y bs ml rt R as out Q sf h k n pc Ls st := by
  subst hp; exact Wl.same (fun p e s m below meth c T vm0 locs hx hby _ hown hZ X eT hO => getS (host := "") X hx (s := s.setVm vm0) hZ hown w Via.refl eT (F.ext hO) (g := mkF m pc Ls st) rfl (hb hby hd)) hr
theorem Wl.getstaticN (pc' : Nat) {i : Nat} {O fn d host : String} {v : Value} (hd : decode bs pc = .ok (.getstatic i, 3)) (w : (Jvm.Cond.fieldLinkNest y.cls i O fn d host).before a0 Z = true) (F : Sta Z Z.heap O fn d v) (hr : WlO l Z a0 EL y bs ml rt R as out Q sf h k n pc' Ls (v :: st)) (hp : pc + 3 = pc' := by rfl) : WlO l Z a0 EL y bs ml rt R as out Q sf h k n pc Ls st := by
  subst hp; exact Wl.same (fun p e s m below meth c T vm0 locs hx hby _ hown hZ X eT hO => getS2 X hx (s := s.setVm vm0) hZ hown (Or.inr w) Via.refl eT (F.ext hO) (g := mkF m pc Ls st) rfl (hb hby hd)) hr
theorem Wl.putfield (pc' : Nat) {i kk : Nat} {O fn d K : String} {ty : FieldType} {a : Addr} {v old : Value} (hd : decode bs pc = .ok (.putfield i, 3)) (w : (Jvm.Cond.fieldLink y.cls i O fn d).before a0 Z = true) (F : Fld Z h a O fn d old) (E : Exa Z h a K)
    (L : (Jvm.Cond.lays K O fn d).before a0 Z = true ∨ ((Jvm.Cond.laysFinal K O fn d).before a0 Z = true ∧ y.cls = O ∧ y.name = "<init>")) (wi : (Jvm.Cond.instantiable K kk).before a0 Z = true) (hty : parseFieldDescriptor d = some ty) (hn : narrow ty v = v) (hf : fits ty v = true) (ha : a ∈ sf)
    (hr : ∀ h', Wr h h' a (Jvm.RoadKit.slotOf Z O fn d) v → WlO l Z a0 EL y bs ml rt R as out Q sf h' k n pc' Ls st) (hp : pc + 3 = pc' := by rfl) : WlO l Z a0 EL y bs ml rt R as out Q sf h k n pc Ls (v :: .ref a :: st) := by
  subst hp; exact Wl.write ha (fun p e s m below meth c T vm0 locs hx hby hnm hown hZ X eT => putF X hx (s := s.setVm vm0) hZ hown (host := "") (Or.inl w) Via.refl eT F E (L.imp id fun q => ⟨q.1, q.2.1, hnm.trans q.2.2⟩) wi hty hn hf (g := mkF m pc Ls (v :: .ref a :: st)) rfl rfl (hb hby hd)) hr
/-! new things -/
theorem Wl.new (pc' : Nat) {i cnt : Nat} {K : String} (hd : decode bs pc = .ok (.new i, 3)) (w : (Jvm.Cond.classLink y.cls i K).before a0 Z = true) (wi : (Jvm.Cond.instantiable K cnt).before a0 Z = true) (wz : (Jvm.Cond.initialized K).before a0 Z = true) (hc : k + 1 ≤ R.cells) (hl : n + cnt ≤ R.slots)
    (hr : ∀ (a : Addr) (h' : Heap), a = h.size → Ext h h' → Exa Z h' a K → (∀ {O nm d : String} {ty : FieldType}, Laid Z a0 K O nm d → parseFieldDescriptor d = some ty → Fld Z h' a O nm d (defaultValue ty)) → WlO l Z a0 EL y bs ml rt R as out Q (a :: sf) h' (k + 1) (n + cnt) pc' Ls (.ref a :: st)) (hp : pc + 3 = pc' := by rfl) : WlO l Z a0 EL y bs ml rt R as out Q sf h k n pc Ls st := by
  subst hp
  refine Wl.grow (st' := fun a => .ref a :: st) (F := fun h' a => Exa Z h' a K ∧ ∀ {O nm d : String} {ty : FieldType}, Laid Z a0 K O nm d → parseFieldDescriptor d = some ty → Fld Z h' a O nm d (defaultValue ty)) (fun p e s m below meth c T vm0 locs hx hby _ hown hZ X eT _ => ?_) (fun a h' ea E G => hr a h' ea E G.1 G.2)
  obtain ⟨T', h', X', e', E, G, D, -, stp⟩ := newO X hx (s := s.setVm vm0) hZ hown w wi wz eT (g := mkF m pc Ls st) rfl (hb hby hd) hc hl
  exact ⟨T', h', X', e', E, G.lt, ⟨G, D⟩, stp⟩
theorem Wl.newarray (pc' : Nat) {aty : ArrayType} {z : Int32} (cap : Nat) (hd : decode bs pc = .ok (.newarray aty, 2)) (w : (Jvm.Cond.arrayClass (newarray.typeOf aty)).before a0 Z = true) (hz : ¬ z < 0) (hcap : z.toNatClampNeg ≤ cap) (hb8 : cap * 8 ≤ 536870912) (hc : k + 1 ≤ R.cells) (hl : n + cap ≤ R.slots)
    (hr : ∀ (a : Addr) (h' : Heap) (cA : ClassId), a = h.size → Ext h h' → Arv Z h' a cA (newarray.typeOf aty) z (List.replicate z.toNatClampNeg (defaultValue (newarray.typeOf aty))) (defaultValue (newarray.typeOf aty)) → WlO l Z a0 EL y bs ml rt R as out Q (a :: sf) h' (k + 1) (n + cap) pc' Ls (.ref a :: st)) (hp : pc + 2 = pc' := by rfl) : WlO l Z a0 EL y bs ml rt R as out Q sf h k n pc Ls (.int z :: st) := by
  subst hp
  refine Wl.grow (st' := fun a => .ref a :: st) (F := fun h' a => ∃ cA, Arv Z h' a cA (newarray.typeOf aty) z (List.replicate z.toNatClampNeg (defaultValue (newarray.typeOf aty))) (defaultValue (newarray.typeOf aty))) (fun p e s m below meth c T vm0 locs hx hby _ hown hZ X eT _ => ?_) (fun a h' ea E G => by obtain ⟨cA, G⟩ := G; exact hr a h' cA ea E G)
  obtain ⟨T', h', cA, X', e', E, G, stp⟩ := newP X hx (s := s.setVm vm0) hZ w eT (g := mkF m pc Ls (.int z :: st)) rfl (hb hby hd) rfl hz hcap hb8 hc hl
  exact ⟨T', h', X', e', E, G.lt, ⟨cA, (Arv.new G hz).pad fun i => by simpa using pad_rep [] (defaultValue (newarray.typeOf aty)) z.toNatClampNeg i⟩, stp⟩
/-! arrays -/
theorem Wl.arraylength (pc' : Nat) {a : Addr} {kc : ClassId} {ty : FieldType} {z : Int32} {vs : List Value} {dv : Value} (hd : decode bs pc = .ok (.arraylength, 1)) (F : Arv Z h a kc ty z vs dv) (hr : WlO l Z a0 EL y bs ml rt R as out Q sf h k n pc' Ls (.int z :: st)) (hp : pc + 1 = pc' := by rfl) : WlO l Z a0 EL y bs ml rt R as out Q sf h k n pc Ls (.ref a :: st) := by
  subst hp
  refine Wl.same (fun p e s m below meth c T vm0 locs hx hby _ hown hZ X eT _ => ⟨T, X, eT, fun t kk => ?_⟩) hr
  obtain ⟨cl, A, q1, q2, q3, -⟩ := F
  refine X.arraylength hx (by rw [eT]; exact A.1) (State.isArrayOf_alike (T := s.setVm vm0) hZ.alike A.2.1) (g := mkF m pc Ls (.ref a :: st)) rfl rfl (hb hby hd) t ?_
  rw [len_of q2 q3]; exact kk
theorem inb {cl : Cell} {z j : Int32} {i : Nat} (S : cl.slots.size = z.toNatClampNeg) (hj : ¬ j < 0) (e : j.toNatClampNeg = i) (hi : i < z.toNatClampNeg) : ¬ (j < 0 ∨ cl.slots.size ≤ j.toNatClampNeg) := fun q => by
  rcases q with q | q
  · exact hj q
  · rw [S, e] at q; omega
theorem Wl.caload (pc' : Nat) {a : Addr} {kc : ClassId} {z j : Int32} {vs : List Value} {dv v : Value} (i : Nat) (hd : decode bs pc = .ok (.caload, 1)) (F : Arv Z h a kc .char z vs dv) (hj : ¬ j < 0) (ej : j.toNatClampNeg = i) (hi : i < z.toNatClampNeg) (hv : vs.getD i dv = v) (hr : WlO l Z a0 EL y bs ml rt R as out Q sf h k n pc' Ls (v :: st)) (hp : pc + 1 = pc' := by rfl) : WlO l Z a0 EL y bs ml rt R as out Q sf h k n pc Ls (.int j :: .ref a :: st) := by
  subst hp
  refine Wl.same (fun p e s m below meth c T vm0 locs hx hby _ hown hZ X eT _ => ⟨T, X, eT, fun t kk => ?_⟩) hr
  obtain ⟨cl, A, q1, q2, q3, H, -⟩ := F
  exact X.caload hx (by rw [eT]; exact A.1) (State.isArrayOf_alike (T := s.setVm vm0) hZ.alike A.2.1) A.2.2 (inb q2 hj ej hi) (H.at (inb q2 hj ej hi) (by rw [ej]; exact hv)) (g := mkF m pc Ls (.int j :: .ref a :: st)) rfl rfl (hb hby hd) t kk
theorem Wl.baload (pc' : Nat) {a : Addr} {kc : ClassId} {z j : Int32} {vs : List Value} {dv v : Value} (i : Nat) (hd : decode bs pc = .ok (.baload, 1)) (F : Arv Z h a kc .byte z vs dv) (hj : ¬ j < 0) (ej : j.toNatClampNeg = i) (hi : i < z.toNatClampNeg) (hv : vs.getD i dv = v) (hr : WlO l Z a0 EL y bs ml rt R as out Q sf h k n pc' Ls (v :: st)) (hp : pc + 1 = pc' := by rfl) : WlO l Z a0 EL y bs ml rt R as out Q sf h k n pc Ls (.int j :: .ref a :: st) := by
  subst hp
  refine Wl.same (fun p e s m below meth c T vm0 locs hx hby _ hown hZ X eT _ => ⟨T, X, eT, fun t kk => ?_⟩) hr
  obtain ⟨cl, A, q1, q2, q3, H, -⟩ := F
  exact X.baloadBytes hx (by rw [eT]; exact A.1) (State.isArrayOf_alike (T := s.setVm vm0) hZ.alike A.2.1) A.2.2 (inb q2 hj ej hi) (H.at (inb q2 hj ej hi) (by rw [ej]; exact hv)) (g := mkF m pc Ls (.int j :: .ref a :: st)) rfl rfl (hb hby hd) t kk
theorem Wl.castore (pc' : Nat) {a : Addr} {kc : ClassId} {z j x : Int32} {vs : List Value} {dv : Value} (i : Nat) (hd : decode bs pc = .ok (.castore, 1)) (F : Arv Z h a kc .char z vs dv) (ha : a ∈ sf) (hj : ¬ j < 0) (ej : j.toNatClampNeg = i) (hi : i < z.toNatClampNeg) (hi' : i < vs.length)
    (hr : ∀ h', Wr h h' a i (.int (nar .char x)) → Arv Z h' a kc .char z (vs.set i (.int (nar .char x))) dv → WlO l Z a0 EL y bs ml rt R as out Q sf h' k n pc' Ls st) (hp : pc + 1 = pc' := by rfl) : WlO l Z a0 EL y bs ml rt R as out Q sf h k n pc Ls (.int x :: .int j :: .ref a :: st) := by
  subst hp
  obtain ⟨cl, A, q1, q2, q3, H, G⟩ := F
  refine Wl.write (sl := i) (v := .int (nar .char x)) ha (fun p e s m below meth c T vm0 locs hx hby _ hown hZ X eT => ?_) (fun h' Wv => hr h' Wv (Arv.set A q1 q2 q3 H G (fits_nar_char x) (ej ▸ Wv) i ej hi'))
  subst ej
  exact stC X hx (s := s.setVm vm0) hZ eT A (inb q2 hj rfl hi) (g := mkF m pc Ls (.int x :: .int j :: .ref a :: st)) rfl rfl (hb hby hd)
theorem Wl.bastore (pc' : Nat) {a : Addr} {kc : ClassId} {z j x : Int32} {vs : List Value} {dv : Value} (i : Nat) (hd : decode bs pc = .ok (.bastore, 1)) (F : Arv Z h a kc .byte z vs dv) (ha : a ∈ sf) (hj : ¬ j < 0) (ej : j.toNatClampNeg = i) (hi : i < z.toNatClampNeg) (hi' : i < vs.length)
    (hr : ∀ h', Wr h h' a i (.int (nar .byte x)) → Arv Z h' a kc .byte z (vs.set i (.int (nar .byte x))) dv → WlO l Z a0 EL y bs ml rt R as out Q sf h' k n pc' Ls st) (hp : pc + 1 = pc' := by rfl) : WlO l Z a0 EL y bs ml rt R as out Q sf h k n pc Ls (.int x :: .int j :: .ref a :: st) := by
  subst hp
  obtain ⟨cl, A, q1, q2, q3, H, G⟩ := F
  refine Wl.write (sl := i) (v := .int (nar .byte x)) ha (fun p e s m below meth c T vm0 locs hx hby _ hown hZ X eT => ?_) (fun h' Wv => hr h' Wv (Arv.set A q1 q2 q3 H G (fits_nar_byte x) (ej ▸ Wv) i ej hi'))
  subst ej
  exact stB X hx (s := s.setVm vm0) hZ eT A (inb q2 hj rfl hi) (g := mkF m pc Ls (.int x :: .int j :: .ref a :: st)) rfl rfl (hb hby hd)
/-- System.arraycopy between arrays of one primitive kind, into an own array -/
theorem Wl.arraycopy (pc' : Nat) {i : Nat} {a b : Addr} {kc kc' : ClassId} {ty : FieldType} {z z' sp dp nn : Int32} {vs vd : List Value} {dv dd : Value} (hd : decode bs pc = .ok (.invokestatic i, 3))
    (w1 : (Jvm.Cond.methodLink y.cls i Jvm.Stand.acN).before a0 Z = true) (w2 : (Jvm.Cond.native Jvm.Stand.acN).before a0 Z = true) (w3 : (Jvm.Cond.static Jvm.Stand.acN).before a0 Z = true) (w4 : (Jvm.Cond.initialized "java/lang/System").before a0 Z = true)
    (A : Arv Z h a kc ty z vs dv) (B : Arv Z h b kc' ty z' vd dd) (hty : refKind ty = false) (h1 : ¬ sp < 0) (h2 : ¬ dp < 0) (h3 : ¬ nn < 0) (h4 : sp.toNatClampNeg + nn.toNatClampNeg ≤ z.toNatClampNeg) (h5 : dp.toNatClampNeg + nn.toNatClampNeg ≤ z'.toNatClampNeg) (hl : dp.toNatClampNeg + nn.toNatClampNeg ≤ vd.length) (hbs : b ∈ sf) (hsz : Ls.size = ml) (hf : 1 ≤ R.frames) (hlo : (st.map fun v => v.category).sum + (nativeFrameWords "java/lang/System" "arraycopy" 5 + 11) ≤ R.locals)
    (hr : ∀ h', Keep h h' [b] → Arv Z h' b kc' ty z' (vd.take dp.toNatClampNeg ++ ((List.range nn.toNatClampNeg).map fun i => vs.getD (sp.toNatClampNeg + i) dv) ++ vd.drop (dp.toNatClampNeg + nn.toNatClampNeg)) dd → WlO l Z a0 EL y bs ml rt R as out Q sf h' k n pc' Ls st) (hp : pc + 3 = pc' := by rfl) : WlO l Z a0 EL y bs ml rt R as out Q sf h k n pc Ls (.int nn :: .int dp :: .ref b :: .int sp :: .ref a :: st) := by
  subst hp
  intro p e s m below meth c T W
  obtain ⟨A0, vm0, locs, k0, X, eT, hS, hk, hF, hZ, hC, hM, hH⟩ := W
  obtain ⟨T', h', L', X', e', hF', K, G, stp⟩ := cpA X A0.1 (s := s.setVm vm0) hZ (by show vm0.findClass y.cls = _; rw [hS.1.alike.findClass]; exact A0.2.2.2.2.2.2.1) w1 w2 w3 w4 eT A B (Or.inl ⟨rfl, hty⟩) h1 h2 h3 h4 h5 rfl hl hF (hM b hbs).2.1 (g := mkF m pc Ls (.int nn :: .int dp :: .ref b :: .int sp :: .ref a :: st)) rfl (by rw [A0.2.2.1]; exact hsz) rfl (hb A0.2.1 hd) hf (W := (st.map fun v => v.category).sum) (by show 2 * 0 + _ ≤ _; omega) hlo
  have Bc := CHr.keep (Z := Z) (EL := EL) (vm := vm0) K (fun x hx => by cases List.mem_singleton.mp hx; exact (hM b hbs).1) hC.1
  exact Go.of stp (hr h' K G p e s m below meth c T' ⟨A0, vm0, L', k0, X', e', hS, Nat.le_trans hk K.1, hF', hZ, hC.trans Bc, hM.chr Bc, hH⟩)
/-! Object.<init>, classes -/
theorem Wl.initO (pc' : Nat) {i : Nat} {a : Addr} (hd : decode bs pc = .ok (.invokespecial i, 3)) (w1 : (Jvm.Cond.methodLink y.cls i Lib.objectInit).before a0 Z = true) (w2 : (Jvm.Cond.instanceMethod Lib.objectInit).before a0 Z = true) (w3 : (Jvm.Cond.code Lib.objectInit ⟨#[0xb1]⟩ 1 none).before a0 Z = true) (hsz : Ls.size = ml) (hf : 1 ≤ R.frames) (hl : (st.map fun v => v.category).sum + 12 ≤ R.locals)
    (hr : WlO l Z a0 EL y bs ml rt R as out Q sf h k n pc' Ls st) (hp : pc + 3 = pc' := by rfl) : WlO l Z a0 EL y bs ml rt R as out Q sf h k n pc Ls (.ref a :: st) := by
  subst hp; exact Wl.same (fun p e s m below meth c T vm0 locs hx hby hml hown hZ X eT _ => Jvm.RoadKit.initO X hx (s := s.setVm vm0) hZ hown w1 w2 w3 eT (g := mkF m pc Ls (.ref a :: st)) rfl (by rw [hml]; exact hsz) rfl (hb hby hd) hf (W := (st.map fun v => v.category).sum) (by show 2 * 0 + _ ≤ _; omega) hl) hr
theorem Wl.checkcast (pc' : Nat) {i : Nat} {K : String} {a : Addr} (hd : decode bs pc = .ok (.checkcast i, 3)) (w : (Jvm.Cond.classLink y.cls i K).before a0 Z = true) (F : Ins Z h a K true) (hr : WlO l Z a0 EL y bs ml rt R as out Q sf h k n pc' Ls (.ref a :: st)) (hp : pc + 3 = pc' := by rfl) : WlO l Z a0 EL y bs ml rt R as out Q sf h k n pc Ls (.ref a :: st) := by
  subst hp; exact Wl.same (fun p e s m below meth c T vm0 locs hx hby hml hown hZ X eT _ => castY X hx (s := s.setVm vm0) hZ hown w eT F (g := mkF m pc Ls (.ref a :: st)) rfl rfl (hb hby hd)) hr
theorem Wl.instY (pc' : Nat) {i : Nat} {K : String} {a : Addr} (hd : decode bs pc = .ok (.instanceof i, 3)) (w : (Jvm.Cond.classLink y.cls i K).before a0 Z = true) (F : Ins Z h a K true) (hr : WlO l Z a0 EL y bs ml rt R as out Q sf h k n pc' Ls (.int 1 :: st)) (hp : pc + 3 = pc' := by rfl) : WlO l Z a0 EL y bs ml rt R as out Q sf h k n pc Ls (.ref a :: st) := by
  subst hp; exact Wl.same (fun p e s m below meth c T vm0 locs hx hby hml hown hZ X eT _ => Jvm.RoadKit.instY X hx (s := s.setVm vm0) hZ hown w eT F (g := mkF m pc Ls (.ref a :: st)) rfl rfl (hb hby hd)) hr
theorem Wl.instN (pc' : Nat) {i : Nat} {K K' : String} {a : Addr} (hd : decode bs pc = .ok (.instanceof i, 3)) (w : (Jvm.Cond.classLink y.cls i K).before a0 Z = true) (E : Exa Z h a K') (F : ∃ c t, Z.vm.findClass K' = some c ∧ Z.vm.findClass K = some t ∧ Z.vm.assignable c t = false) (hr : WlO l Z a0 EL y bs ml rt R as out Q sf h k n pc' Ls (.int 0 :: st)) (hp : pc + 3 = pc' := by rfl) : WlO l Z a0 EL y bs ml rt R as out Q sf h k n pc Ls (.ref a :: st) := by
  subst hp; exact Wl.same (fun p e s m below meth c T vm0 locs hx hby hml hown hZ X eT _ => instNo X hx (s := s.setVm vm0) hZ hown w eT E F (g := mkF m pc Ls (.ref a :: st)) rfl rfl (hb hby hd)) hr
theorem Wl.instNull (pc' : Nat) {i : Nat} (hd : decode bs pc = .ok (.instanceof i, 3)) (hr : WlO l Z a0 EL y bs ml rt R as out Q sf h k n pc' Ls (.int 0 :: st)) (hp : pc + 3 = pc' := by rfl) : WlO l Z a0 EL y bs ml rt R as out Q sf h k n pc Ls (.null :: st) := by
  subst hp; exact Wl.same (fun p e s m below meth c T vm0 locs hx hby hml hown hZ X eT _ => ⟨T, X, eT, X.instanceofNull hx (g := mkF m pc Ls (.null :: st)) rfl rfl (hb hby hd)⟩) hr
/-- C's only superclass is S, who has none; K is another plain class -/
theorem notInst {K' S K : String} {cnt : Nat} (w : (Jvm.Cond.superclass K' S).before a0 Z = true) (wo : (Jvm.Cond.noSuperclass S).before a0 Z = true) (wi : (Jvm.Cond.instantiable K cnt).before a0 Z = true) (h1 : S ≠ K) (h2 : K' ≠ K) : ∃ c t, Z.vm.findClass K' = some c ∧ Z.vm.findClass K = some t ∧ Z.vm.assignable c t = false := by
  obtain ⟨t, kt, g0, g2, g5, g7, -⟩ := Cond.instantiable_spec wi
  obtain ⟨c', k', s1, s2, s3, -, -⟩ := Cond.noSuperclass_spec wo
  obtain ⟨c, h0⟩ := found_sup w
  obtain ⟨p, k, kp, q1, q2, q3, q4, q5, -, q7⟩ := Cond.superclass_spec h0 w
  cases s1.symm.trans q1
  have ne := ids_ne h0 g0 h2
  have ne' := ids_ne s1 g0 h1
  have hi : kt.isInterface = false := by
    cases hq : kt.isInterface with
    | false => rfl
    | true => rw [hq] at g7; simp at g7
  have n3 : ∀ fuel, Z.vm.isSubclassAux fuel c t = false := fun fuel => by
    cases fuel with
    | zero => rfl
    | succ f =>
      have m3 : Z.vm.isSubclassAux f c' t = false := by
        cases f with
        | zero => rfl
        | succ f => simp [Vm.isSubclassAux, ne', s2, s3]
      simp [Vm.isSubclassAux, ne, q2, q4, m3]
  refine ⟨c, t, h0, g0, ?_⟩
  show Z.vm.assignableAux (255 + 1) c t = false
  simp [Vm.assignableAux, ne, q2, g2, q5, g5, hi, Vm.isSubclass, n3]
/-! returns -/
theorem Wl.ret {v : Option Value} (hv : rt = none → v = none) (hk : k ≤ R.cells) (hn : n ≤ R.slots)
    (f : ∀ (p : Program) (e : Env) (s : State) (m : MethodId) (below : List Frame) (meth : Method) (c : Code) (T : State) (vm0 : Vm) (locs : List Loc) (fs : List Frame), p.tables.exec = Jvm.exec → c.code = bs → meth.sig.returnType = rt → Stand p l e R (s.setVm vm0) m as below meth c T locs k n →
      (∀ (f : JFrame) (acts : List Action), f.method = m → f.locked = none → f.entered = [] → (doReturn e (T.setTop f) acts v).1 = T.setFrames fs) → Steps p.tables e below (T.setTop (mkF m pc Ls st)) (T.setFrames fs))
    (hq : Q v h) (ho : ∀ x ∈ out, x ∈ sf) : WlO l Z a0 EL y bs ml rt R as out Q sf h k n pc Ls st := by
  intro p e s m below meth c T W
  obtain ⟨⟨hx, hby, hml, hrt, hlk, hnm, hown, hEL, hO⟩, vm0, locs, k0, X, eT, hS, hk0, hF, hZ, hC, hM, hH⟩ := W
  obtain ⟨fs, hr, hrun, hend, hE⟩ := X.leaveW hS (by rw [eT]; exact hk0) (v := v) (fun q => hv (hrt ▸ q)) hlk
  refine ⟨_, _, f p e s m below meth c T vm0 locs fs hx hby hrt X hr, hrun, hend, v, locs, rfl, ⟨by show Q v T.heap; rw [eT]; exact hq, hF⟩, ?_, ⟨hE.1, hE.2.1, hE.2.2.1, hE.2.2.2.mono hk hn⟩, fun q => State.WarmedH.trans (t := s.setVm vm0) (hH q) X.warmed, ?_⟩
  · show CHr Z EL s.vm s.heap T.vm T.heap
    rw [eT]
    exact hC.trans (CHv.at X hZ hEL hC.1)
  · show Mine Z EL T.vm T.heap out
    rw [eT]
    exact (hM.chr (CHv.at X hZ hEL hC.1)).sub ho
theorem Wl.return_ (hd : decode bs pc = .ok (.return_, 1)) (hrt : rt = none) (hk : k ≤ R.cells) (hn : n ≤ R.slots) (hq : Q none h) (ho : ∀ x ∈ out, x ∈ sf := by exact fun _ q => nomatch q) : WlO l Z a0 EL y bs ml rt R as out Q sf h k n pc Ls [] :=
  Wl.ret (fun _ => rfl) hk hn (fun p e s m below meth c T vm0 locs fs hx hby hr X hl => X.returnOut hx (hr.trans hrt) (hb hby hd) hl) hq ho
theorem Wl.areturn {v : Value} {t : FieldType} (hd : decode bs pc = .ok (.areturn, 1)) (hrt : rt = some t) (ht : t.isReference = true) (hv : v.isRef = true) (hk : k ≤ R.cells) (hn : n ≤ R.slots) (hq : Q (some v) h) (ho : ∀ x ∈ out, x ∈ sf := by exact fun _ q => nomatch q) : WlO l Z a0 EL y bs ml rt R as out Q sf h k n pc Ls [v] :=
  Wl.ret (fun q => by rw [hrt] at q; cases q) hk hn (fun p e s m below meth c T vm0 locs fs hx hby hr X hl => X.areturnOut hx hv (hr.trans hrt) ht (hb hby hd) hl) hq ho
theorem Wl.ireturn {x : Int32} {t : FieldType} (hd : decode bs pc = .ok (.ireturn, 1)) (hrt : rt = some t) (hn1 : narrow t (.int x) = .int x) (ht : t = .int ∨ t = .boolean ∨ t = .byte ∨ t = .char ∨ t = .short) (hk : k ≤ R.cells) (hn : n ≤ R.slots) (hq : Q (some (.int x)) h) (ho : ∀ x ∈ out, x ∈ sf := by exact fun _ q => nomatch q) : WlO l Z a0 EL y bs ml rt R as out Q sf h k n pc Ls [.int x] :=
  Wl.ret (fun q => by rw [hrt] at q; cases q) hk hn (fun p e s m below meth c T vm0 locs fs hx hby hr X hl => X.ireturnOut hx (hr.trans hrt) hn1 ht (hb hby hd) hl) hq ho
/-! a body's walk is its contract; a contract pays a call -/
theorem Met.of_walk {ws : List Jvm.Cond} (hpn : plainFor y = true) (hEL : EW Z a0 EL) (hE : argsToLocals as ml = Ls) (hw : WlO l Z a0 EL y bs ml rt R as out Q sf h 0 0 0 Ls []) : MetO l Z EL y bs ml rt ws R as h sf out Q := by
  refine MetFree.of_bodySF hpn hisR ?_
  intro p e s m args below meth c s₁ Bd hml0 hP hK
  obtain ⟨rfl, hZ, hh, hC, hO, hM⟩ := hP
  have X0 : Stand p l e R s m args below meth c s₁ [] 0 0 := Stand.of_body Bd
  have e0 : s₁.heap = h := by rw [← hh, Bd.state]; rfl
  have hown : s.vm.findClass y.cls = some m.cls := findClass_of_methodNamed Bd.named
  have g := hw p e s m below meth c s₁ ⟨⟨Bd.exec, Bd.bytes, hml0, Bd.returns, Bd.notSynchronized, (name_of_methodNamed Bd.named Bd.method).1, hown, hEL, by rw [hh]; exact hO⟩, s.vm, [], h.size, X0, e0, (State.WarmedH.refl s).since _, Nat.le_refl _, Fr.nil _, hZ, by rw [hh]; exact CHr.refl hC, hM, fun _ => State.WarmedH.refl s⟩
  obtain ⟨s₂, o, g1, g2, g3, g4⟩ := g
  refine ⟨s₂, o, ?_, g2, g3, g4⟩
  have q : entryFrame m args ml = mkF m 0 Ls [] := by rw [← hE]; rfl
  exact castTop q g1
theorem Met.back {y2 : MethodName} {bs2 : ByteArray} {ml2 : Nat} {rt2 : Option FieldType} {rm : Room} {as2 : Array Value} {sf2 out2 : List Addr} {Q2 : Option Value → Heap → Prop} {len W : Nat} {vm0 : Vm} {args : Array Value}
    (hM : MetO l Z EL y2 bs2 ml2 rt2 [] rm as2 h sf2 out2 Q2) (hZ : Z.Warmed39 vm0) (wc : (Jvm.Cond.code y2 bs2 ml2 rt2).before a0 Z = true) (wz : (Jvm.Cond.initialized y2.cls).before a0 Z = true) (hf : rm.frames + 1 ≤ R.frames) (hl : W + (ml2 + 11) + rm.locals ≤ R.locals) (hEL : EW Z a0 EL) (H : CHv Z EL vm0 h) (hO : Ext Z.heap h) (hS : Mine Z EL vm0 h sf2) :
    BackS l R p e below (s.setVm vm0) args y2 len W (fun A a => a = as2 ∧ A.U.heap = h ∧ A.cells + rm.cells ≤ R.cells ∧ A.slots + rm.slots ≤ R.slots)
      (fun A _ v B => ∃ L, (Q2 v B.U.heap ∧ Fr Z.heap.size L) ∧ B.locs = A.locs ++ L ∧ B.cells = A.cells + rm.cells ∧ B.slots = A.slots + rm.slots ∧ CHr Z EL vm0 h B.U.vm B.U.heap ∧ (EL = [] → (s.setVm vm0).WarmedH B.U.vm) ∧ Mine Z EL B.U.vm B.U.heap out2) :=
  BackS.of_freeW (bytes := bs2) (maxL := ml2) (ret := rt2) (E := fun _ first o t L k n => k = rm.cells ∧ n = rm.slots ∧ (∃ v, o = .returned v ∧ (Q2 v t.heap ∧ Fr Z.heap.size L)) ∧ CHr Z EL first.vm first.heap t.vm t.heap ∧ (EL = [] → first.WarmedH t.vm) ∧ Mine Z EL t.vm t.heap out2) hM hf hl
    (fun m meth c A a Y hp => have hU : Z.Warmed39 A.U.vm := wtrans (s := s.setVm vm0) hZ Y.warmed
      ⟨by show (Jvm.Cond.and _ .tt).before a A.U = true; rw [Cond.before_and, mv hU wc]; rfl, mv hU wc, mv hU wz, hp.2.2.1, hp.2.2.2⟩)
    (fun m meth c A a g mk Y hp => ⟨hp.1, wtrans (s := s.setVm vm0) hZ Y.warmed, hp.2.1, (show CHv Z EL A.U.vm h from (CHv.at Y hZ hEL H).1), hO, (show Mine Z EL A.U.vm h sf2 from hS.chr (CHv.at Y hZ hEL H))⟩) (fun _ _ _ _ _ _ _ _ _ => trivial)
    (fun _ _ _ _ ⟨v, L, h1, h2, h3, h4, h5⟩ => ⟨L, _, _, h4, rfl, rfl, ⟨v, h1, h2⟩, h3, h5⟩)
    (fun m meth c A a g mk v t L k n Y hp _ _ ⟨e1, e2, ⟨v', e3, e4⟩, e5, e6, e7⟩ => by
      cases e3; subst e1 e2
      refine ⟨L, e4, rfl, rfl, rfl, (CHv.at Y hZ hEL H).trans ?_, fun q => State.WarmedH.trans (t := A.U.calling g mk a) Y.warmed (e6 q), e7⟩
      rw [← hp.2.1]; exact e5)
/-- a call: what the three kinds share -/
theorem Wl.call {st0 : List Value} {y2 : MethodName} {bs2 : ByteArray} {ml2 : Nat} {rt2 : Option FieldType} {rm : Room} {as2 : Array Value} {sf2 out2 sf' : List Addr} {Q2 : Option Value → Heap → Prop} {len pc' : Nat}
    (hM : MetO l Z EL y2 bs2 ml2 rt2 [] rm as2 h sf2 out2 Q2) (wc : (Jvm.Cond.code y2 bs2 ml2 rt2).before a0 Z = true) (wz : (Jvm.Cond.initialized y2.cls).before a0 Z = true) (hsub : ∀ x ∈ sf2, x ∈ sf) (hf : rm.frames + 1 ≤ R.frames) (hl : (st.map fun v => v.category).sum + (ml2 + 11) + rm.locals ≤ R.locals) (hc : k + rm.cells ≤ R.cells) (hs : n + rm.slots ≤ R.slots)
    (f : ∀ (p : Program) (e : Env) (s : State) (m : MethodId) (below : List Frame) (meth : Method) (c : Code) (T : State) (vm0 : Vm) (locs : List Loc),
      p.tables.exec = Jvm.exec → c.code = bs → c.maxLocals = ml → vm0.findClass y.cls = some m.cls → Z.Warmed39 vm0 → Stand p l e R (s.setVm vm0) m as below meth c T locs k n → T.heap = h →
      ∀ {Post : Pt → Array Value → Option Value → Pt → Prop}, BackS l R p e below (s.setVm vm0) as y2 len (st.map fun v => v.category).sum (fun A a => a = as2 ∧ A.U.heap = h ∧ A.cells + rm.cells ≤ R.cells ∧ A.slots + rm.slots ≤ R.slots) Post →
      ∃ (v : Option Value) (vm₁ : Vm) (B : Pt), (s.setVm vm0).WarmedH vm₁ ∧ Stand p l e R ((s.setVm vm0).setVm B.U.vm) m as below meth c B.U B.locs B.cells B.slots ∧ (s.setVm vm0).Since B.U.vm B.U.heap.size ∧ T.heap.size ≤ B.U.heap.size ∧ Post ⟨T.setVm vm₁, locs, k, n⟩ as2 v B ∧
        Steps p.tables e below (T.setTop (mkF m pc Ls st0)) (B.U.setTop (mkF m pc' Ls (v.toList ++ st))))
    (hsf' : ∀ x ∈ sf', x ∈ out2 ∨ x ∈ sf) (hr : ∀ v h', Q2 v h' → h.size ≤ h'.size → WlO l Z a0 EL y bs ml rt R as out Q sf' h' (k + rm.cells) (n + rm.slots) pc' Ls (v.toList ++ st)) : WlO l Z a0 EL y bs ml rt R as out Q sf h k n pc Ls st0 := by
  intro p e s m below meth c T W
  have hO := W.old
  obtain ⟨A, vm0, locs, k0, X, eT, hS, hk, hF, hZ, hC, hMi, hH⟩ := W
  obtain ⟨v, vm₁, ⟨T', L', k', n'⟩, -, X', hS', hg, ⟨Lc, ⟨hq, hFc⟩, l1, l2, l3, hC', hH', hMo⟩, stp⟩ := f p e s m below meth c T vm0 locs A.1 A.2.1 A.2.2.1 (by rw [hS.1.alike.findClass]; exact A.2.2.2.2.2.2.1) hZ X eT (Met.back (W := (st.map fun v => v.category).sum) (R := R) (a0 := a0) hM hZ wc wz hf hl A.2.2.2.2.2.2.2.1 hC.1 hO (hMi.sub hsub))
  dsimp only [Pt.U, Pt.locs, Pt.cells, Pt.slots] at X' hS' hg hq l1 l2 l3 hC' hH' hMo stp
  subst l1 l2 l3
  have hS2 := hS.trans hS' (Nat.le_trans hk (by rw [← eT]; exact hg))
  refine Go.of (fun t kk => stp.trans kk) (hr v T'.heap hq hC'.2.1 p e s m below meth c T' ⟨A, T'.vm, locs ++ Lc, T'.heap.size, X', rfl, hS2, Nat.le_refl _, Fr.app hF hFc, State.Warmed39.trans (t := s.setVm vm0) hZ hS'.1, hC.trans hC', fun x hx => (hsf' x hx).elim (hMo x) ((hMi.chr hC') x), fun q => State.WarmedH.trans (s := s) (t := s.setVm vm0) (hH q) (hH' q)⟩)
theorem Wl.static (pc' : Nat) {st0 : List Value} {i : Nat} {y2 : MethodName} {bs2 : ByteArray} {ml2 : Nat} {rt2 : Option FieldType} {rm : Room} {argsL : List Value} {sf2 out2 : List Addr} {Q2 : Option Value → Heap → Prop} {ps : List FieldType} {r : Option FieldType}
    (hd : decode bs pc = .ok (.invokestatic i, 3)) (w1 : (Jvm.Cond.methodLink y.cls i y2).before a0 Z = true) (w2 : (Jvm.Cond.static y2).before a0 Z = true) (wz : (Jvm.Cond.initialized y2.cls).before a0 Z = true) (wc : (Jvm.Cond.code y2 bs2 ml2 rt2).before a0 Z = true)
    (hsig : parseMethodDescriptor y2.desc = some ⟨ps, r⟩) (hlen : argsL.length = ps.length) (hM : MetO l Z EL y2 bs2 ml2 rt2 [] rm argsL.toArray h sf2 out2 Q2) (hsub : ∀ x ∈ sf2, x ∈ sf) (hst : st0 = argsL.reverse ++ st) (hsz : Ls.size = ml) (hp : pc + 3 = pc') (hy : y2.cls ≠ "java/lang/invoke/MethodHandle" ∧ y2.cls ≠ "java/lang/invoke/VarHandle")
    (hroom : (rm.frames + 1 ≤ R.frames ∧ (st.map fun v => v.category).sum + (ml2 + 11) + rm.locals ≤ R.locals) ∧ k + rm.cells ≤ R.cells ∧ n + rm.slots ≤ R.slots)
    (hr : ∀ v h', Q2 v h' → h.size ≤ h'.size → WlO l Z a0 EL y bs ml rt R as out Q sf h' (k + rm.cells) (n + rm.slots) pc' Ls (v.toList ++ st)) : WlO l Z a0 EL y bs ml rt R as out Q sf h k n pc Ls st0 := by
  subst hp
  exact Wl.call (len := 3) hM wc wz hsub hroom.1.1 hroom.1.2 hroom.2.1 hroom.2.2 (fun p e s m below meth c T vm0 locs hx hby hml hown hZ X eT {Post} hK =>
    callSS X hx (s := s.setVm vm0) hown (mvT hZ w1) (mvT hZ w2) (mvT hZ wz) (mvT hZ wc) hy hK (g := mkF m pc Ls st0) rfl (by rw [hml]; exact hsz) (argsL := argsL) (rest := st) (lenOf hsig hlen) hst (by show 2 * 0 + _ ≤ _; omega) (hb hby hd) (fun _ _ => ⟨rfl, eT, hroom.2.1, hroom.2.2⟩)) (fun _ q => Or.inr q) hr
theorem Wl.staticO (pc' : Nat) {st0 : List Value} {i : Nat} {y2 : MethodName} {bs2 : ByteArray} {ml2 : Nat} {rt2 : Option FieldType} {rm : Room} {argsL : List Value} {sf2 : List Addr} {d : Addr} {Q2 : Option Value → Heap → Prop} {ps : List FieldType} {r : Option FieldType}
    (hd : decode bs pc = .ok (.invokestatic i, 3)) (w1 : (Jvm.Cond.methodLink y.cls i y2).before a0 Z = true) (w2 : (Jvm.Cond.static y2).before a0 Z = true) (wz : (Jvm.Cond.initialized y2.cls).before a0 Z = true) (wc : (Jvm.Cond.code y2 bs2 ml2 rt2).before a0 Z = true)
    (hsig : parseMethodDescriptor y2.desc = some ⟨ps, r⟩) (hlen : argsL.length = ps.length) (hM : MetO l Z EL y2 bs2 ml2 rt2 [] rm argsL.toArray h sf2 [d] Q2) (hsub : ∀ x ∈ sf2, x ∈ sf) (hst : st0 = argsL.reverse ++ st) (hsz : Ls.size = ml) (hp : pc + 3 = pc') (hy : y2.cls ≠ "java/lang/invoke/MethodHandle" ∧ y2.cls ≠ "java/lang/invoke/VarHandle")
    (hroom : (rm.frames + 1 ≤ R.frames ∧ (st.map fun v => v.category).sum + (ml2 + 11) + rm.locals ≤ R.locals) ∧ k + rm.cells ≤ R.cells ∧ n + rm.slots ≤ R.slots)
    (hr : ∀ v h', Q2 v h' → h.size ≤ h'.size → WlO l Z a0 EL y bs ml rt R as out Q (d :: sf) h' (k + rm.cells) (n + rm.slots) pc' Ls (v.toList ++ st)) : WlO l Z a0 EL y bs ml rt R as out Q sf h k n pc Ls st0 := by
  subst hp
  exact Wl.call (len := 3) hM wc wz hsub hroom.1.1 hroom.1.2 hroom.2.1 hroom.2.2 (fun p e s m below meth c T vm0 locs hx hby hml hown hZ X eT {Post} hK =>
    callSS X hx (s := s.setVm vm0) hown (mvT hZ w1) (mvT hZ w2) (mvT hZ wz) (mvT hZ wc) hy hK (g := mkF m pc Ls st0) rfl (by rw [hml]; exact hsz) (argsL := argsL) (rest := st) (lenOf hsig hlen) hst (by show 2 * 0 + _ ≤ _; omega) (hb hby hd) (fun _ _ => ⟨rfl, eT, hroom.2.1, hroom.2.2⟩)) (fun x q => (List.mem_cons.mp q).elim (fun e => Or.inl (e ▸ List.mem_singleton.mpr rfl)) Or.inr) hr
theorem Wl.special (pc' : Nat) {st0 : List Value} {i : Nat} {y2 : MethodName} {bs2 : ByteArray} {ml2 : Nat} {rm : Room} {a : Addr} {argsL : List Value} {sf2 out2 : List Addr} {Q2 : Option Value → Heap → Prop} {ps : List FieldType} {r : Option FieldType}
    (hd : decode bs pc = .ok (.invokespecial i, 3)) (w1 : (Jvm.Cond.methodLink y.cls i y2).before a0 Z = true) (w2 : (Jvm.Cond.instanceMethod y2).before a0 Z = true) (wz : (Jvm.Cond.initialized y2.cls).before a0 Z = true) (wc : (Jvm.Cond.code y2 bs2 ml2 none).before a0 Z = true)
    (hsig : parseMethodDescriptor y2.desc = some ⟨ps, r⟩) (hlen : argsL.length = ps.length) (hM : MetO l Z EL y2 bs2 ml2 none [] rm (.ref a :: argsL).toArray h sf2 out2 Q2) (hsub : ∀ x ∈ sf2, x ∈ sf) (hst : st0 = argsL.reverse ++ .ref a :: st) (hsz : Ls.size = ml) (hp : pc + 3 = pc') (hni : y2.name = "<init>") (hy : y2.cls ≠ "java/lang/invoke/MethodHandle" ∧ y2.cls ≠ "java/lang/invoke/VarHandle")
    (hroom : (rm.frames + 1 ≤ R.frames ∧ (st.map fun v => v.category).sum + (ml2 + 11) + rm.locals ≤ R.locals) ∧ k + rm.cells ≤ R.cells ∧ n + rm.slots ≤ R.slots)
    (hr : ∀ v h', Q2 v h' → h.size ≤ h'.size → WlO l Z a0 EL y bs ml rt R as out Q sf h' (k + rm.cells) (n + rm.slots) pc' Ls (v.toList ++ st)) : WlO l Z a0 EL y bs ml rt R as out Q sf h k n pc Ls st0 := by
  subst hp
  exact Wl.call (len := 3) hM wc wz hsub hroom.1.1 hroom.1.2 hroom.2.1 hroom.2.2 (fun p e s m below meth c T vm0 locs hx hby hml hown hZ X eT {Post} hK =>
    X.specialBackS hx (s := s.setVm vm0) hni hown (mvT hZ w1) (mvT hZ w2) (mvT hZ wc) hy hK (g := mkF m pc Ls st0) rfl (by rw [hml]; exact hsz) (Steps.refl _) (a := a) (argsL := argsL) (rest := st) (lenOf hsig hlen) hst (by show 2 * 0 + _ ≤ _; omega) (hb hby hd) (fun _ _ => ⟨rfl, eT, hroom.2.1, hroom.2.2⟩)) (fun _ q => Or.inr q) hr
theorem Wl.specialO (pc' : Nat) {st0 : List Value} {i : Nat} {y2 : MethodName} {bs2 : ByteArray} {ml2 : Nat} {rm : Room} {a : Addr} {argsL : List Value} {sf2 : List Addr} {d : Addr} {Q2 : Option Value → Heap → Prop} {ps : List FieldType} {r : Option FieldType}
    (hd : decode bs pc = .ok (.invokespecial i, 3)) (w1 : (Jvm.Cond.methodLink y.cls i y2).before a0 Z = true) (w2 : (Jvm.Cond.instanceMethod y2).before a0 Z = true) (wz : (Jvm.Cond.initialized y2.cls).before a0 Z = true) (wc : (Jvm.Cond.code y2 bs2 ml2 none).before a0 Z = true)
    (hsig : parseMethodDescriptor y2.desc = some ⟨ps, r⟩) (hlen : argsL.length = ps.length) (hM : MetO l Z EL y2 bs2 ml2 none [] rm (.ref a :: argsL).toArray h sf2 [d] Q2) (hsub : ∀ x ∈ sf2, x ∈ sf) (hst : st0 = argsL.reverse ++ .ref a :: st) (hsz : Ls.size = ml) (hp : pc + 3 = pc') (hni : y2.name = "<init>") (hy : y2.cls ≠ "java/lang/invoke/MethodHandle" ∧ y2.cls ≠ "java/lang/invoke/VarHandle")
    (hroom : (rm.frames + 1 ≤ R.frames ∧ (st.map fun v => v.category).sum + (ml2 + 11) + rm.locals ≤ R.locals) ∧ k + rm.cells ≤ R.cells ∧ n + rm.slots ≤ R.slots)
    (hr : ∀ v h', Q2 v h' → h.size ≤ h'.size → WlO l Z a0 EL y bs ml rt R as out Q (d :: sf) h' (k + rm.cells) (n + rm.slots) pc' Ls (v.toList ++ st)) : WlO l Z a0 EL y bs ml rt R as out Q sf h k n pc Ls st0 := by
  subst hp
  exact Wl.call (len := 3) hM wc wz hsub hroom.1.1 hroom.1.2 hroom.2.1 hroom.2.2 (fun p e s m below meth c T vm0 locs hx hby hml hown hZ X eT {Post} hK =>
    X.specialBackS hx (s := s.setVm vm0) hni hown (mvT hZ w1) (mvT hZ w2) (mvT hZ wc) hy hK (g := mkF m pc Ls st0) rfl (by rw [hml]; exact hsz) (Steps.refl _) (a := a) (argsL := argsL) (rest := st) (lenOf hsig hlen) hst (by show 2 * 0 + _ ≤ _; omega) (hb hby hd) (fun _ _ => ⟨rfl, eT, hroom.2.1, hroom.2.2⟩)) (fun x q => (List.mem_cons.mp q).elim (fun e => Or.inl (e ▸ List.mem_singleton.mpr rfl)) Or.inr) hr
theorem Wl.virtual (pc' : Nat) {st0 : List Value} {i : Nat} {y1 y2 : MethodName} {K : String} {bs2 : ByteArray} {ml2 : Nat} {rt2 : Option FieldType} {rm : Room} {a : Addr} {argsL : List Value} {sf2 out2 : List Addr} {Q2 : Option Value → Heap → Prop} {ps : List FieldType} {r : Option FieldType}
    (hd : decode bs pc = .ok (.invokevirtual i, 3)) (w1 : (Jvm.Cond.methodLink y.cls i y1).before a0 Z = true) (w2 : (Jvm.Cond.declares y1).before a0 Z = true) (w3 : (Jvm.Cond.selects K y1 y2).before a0 Z = true) (w4 : (Jvm.Cond.instanceMethod y2).before a0 Z = true) (wz : (Jvm.Cond.initialized y2.cls).before a0 Z = true) (wc : (Jvm.Cond.code y2 bs2 ml2 rt2).before a0 Z = true) (hnf : ∀ {vm0 : Vm} {s : State}, Z.Warmed39 vm0 → NotFace (s.setVm vm0) y1)
    (hE : Exa Z h a K) (hsig : parseMethodDescriptor y1.desc = some ⟨ps, r⟩) (hlen : argsL.length = ps.length) (hM : MetO l Z EL y2 bs2 ml2 rt2 [] rm (.ref a :: argsL).toArray h sf2 out2 Q2) (hsub : ∀ x ∈ sf2, x ∈ sf) (hst : st0 = argsL.reverse ++ .ref a :: st) (hsz : Ls.size = ml) (hp : pc + 3 = pc') (hy : y1.cls ≠ "java/lang/invoke/MethodHandle" ∧ y1.cls ≠ "java/lang/invoke/VarHandle")
    (hroom : (rm.frames + 1 ≤ R.frames ∧ (st.map fun v => v.category).sum + (ml2 + 11) + rm.locals ≤ R.locals) ∧ k + rm.cells ≤ R.cells ∧ n + rm.slots ≤ R.slots)
    (hr : ∀ v h', Q2 v h' → h.size ≤ h'.size → WlO l Z a0 EL y bs ml rt R as out Q sf h' (k + rm.cells) (n + rm.slots) pc' Ls (v.toList ++ st)) : WlO l Z a0 EL y bs ml rt R as out Q sf h k n pc Ls st0 := by
  subst hp
  refine Wl.call (len := 3) hM wc wz hsub hroom.1.1 hroom.1.2 hroom.2.1 hroom.2.2 (fun p e s m below meth c T vm0 locs hx hby hml hown hZ X eT {Post} hK => ?_) (fun _ q => Or.inr q) hr
  obtain ⟨cB, kB, i1, i2, i3⟩ := isOf (s := s.setVm vm0) hZ eT hE
  exact X.virtualBackS hx (s := s.setVm vm0) hown (mvT hZ w1) (mvT hZ w2) (hnf hZ) (mvT hZ w3) (mvT hZ w4) hy hK i1 i3 (g := mkF m pc Ls st0) rfl (by rw [hml]; exact hsz) (Steps.refl _) (argsL := argsL) (rest := st) (lenOf hsig hlen) hst (by show 2 * 0 + _ ≤ _; omega) (hb hby hd) (fun _ _ => ⟨rfl, eT, hroom.2.1, hroom.2.2⟩)
theorem Wl.virtualO (pc' : Nat) {st0 : List Value} {i : Nat} {y1 y2 : MethodName} {K : String} {bs2 : ByteArray} {ml2 : Nat} {rt2 : Option FieldType} {rm : Room} {a : Addr} {argsL : List Value} {sf2 : List Addr} {d : Addr} {Q2 : Option Value → Heap → Prop} {ps : List FieldType} {r : Option FieldType}
    (hd : decode bs pc = .ok (.invokevirtual i, 3)) (w1 : (Jvm.Cond.methodLink y.cls i y1).before a0 Z = true) (w2 : (Jvm.Cond.declares y1).before a0 Z = true) (w3 : (Jvm.Cond.selects K y1 y2).before a0 Z = true) (w4 : (Jvm.Cond.instanceMethod y2).before a0 Z = true) (wz : (Jvm.Cond.initialized y2.cls).before a0 Z = true) (wc : (Jvm.Cond.code y2 bs2 ml2 rt2).before a0 Z = true) (hnf : ∀ {vm0 : Vm} {s : State}, Z.Warmed39 vm0 → NotFace (s.setVm vm0) y1)
    (hE : Exa Z h a K) (hsig : parseMethodDescriptor y1.desc = some ⟨ps, r⟩) (hlen : argsL.length = ps.length) (hM : MetO l Z EL y2 bs2 ml2 rt2 [] rm (.ref a :: argsL).toArray h sf2 [d] Q2) (hsub : ∀ x ∈ sf2, x ∈ sf) (hst : st0 = argsL.reverse ++ .ref a :: st) (hsz : Ls.size = ml) (hp : pc + 3 = pc') (hy : y1.cls ≠ "java/lang/invoke/MethodHandle" ∧ y1.cls ≠ "java/lang/invoke/VarHandle")
    (hroom : (rm.frames + 1 ≤ R.frames ∧ (st.map fun v => v.category).sum + (ml2 + 11) + rm.locals ≤ R.locals) ∧ k + rm.cells ≤ R.cells ∧ n + rm.slots ≤ R.slots)
    (hr : ∀ v h', Q2 v h' → h.size ≤ h'.size → WlO l Z a0 EL y bs ml rt R as out Q (d :: sf) h' (k + rm.cells) (n + rm.slots) pc' Ls (v.toList ++ st)) : WlO l Z a0 EL y bs ml rt R as out Q sf h k n pc Ls st0 := by
  subst hp
  refine Wl.call (len := 3) hM wc wz hsub hroom.1.1 hroom.1.2 hroom.2.1 hroom.2.2 (fun p e s m below meth c T vm0 locs hx hby hml hown hZ X eT {Post} hK => ?_) (fun x q => (List.mem_cons.mp q).elim (fun e => Or.inl (e ▸ List.mem_singleton.mpr rfl)) Or.inr) hr
  obtain ⟨cB, kB, i1, i2, i3⟩ := isOf (s := s.setVm vm0) hZ eT hE
  exact X.virtualBackS hx (s := s.setVm vm0) hown (mvT hZ w1) (mvT hZ w2) (hnf hZ) (mvT hZ w3) (mvT hZ w4) hy hK i1 i3 (g := mkF m pc Ls st0) rfl (by rw [hml]; exact hsz) (Steps.refl _) (argsL := argsL) (rest := st) (lenOf hsig hlen) hst (by show 2 * 0 + _ ≤ _; omega) (hb hby hd) (fun _ _ => ⟨rfl, eT, hroom.2.1, hroom.2.2⟩)
theorem nf_sel {K : String} {y1 y2 : MethodName} (w : (Jvm.Cond.selects K y1 y2).before a0 Z = true) (e : y1 = y2) : ∀ {vm0 : Vm} {s : State}, Z.Warmed39 vm0 → NotFace (s.setVm vm0) y1 := fun {vm0 s} hZ => by
  subst e; exact notFace_of_selects (args := #[]) (mvT (s := s.setVm vm0) hZ w)
theorem Wl.interface (pc' : Nat) {st0 : List Value} {i cnt : Nat} {y1 y2 : MethodName} {K : String} {bs2 : ByteArray} {ml2 : Nat} {rt2 : Option FieldType} {rm : Room} {a : Addr} {argsL : List Value} {sf2 out2 : List Addr} {Q2 : Option Value → Heap → Prop} {ps : List FieldType} {r : Option FieldType}
    (hd : decode bs pc = .ok (.invokeinterface i cnt, 5)) (w1 : (Jvm.Cond.methodLink y.cls i y1).before a0 Z = true) (w2 : (Jvm.Cond.declares y1).before a0 Z = true) (w3 : ∀ {vm0 : Vm} {s : State}, Z.Warmed39 vm0 → (Jvm.Cond.interfaceMethod y1.cls y1.cls y1.name y1.desc).before as (s.setVm vm0) = true) (w4 : (Jvm.Cond.selects K y1 y2).before a0 Z = true) (w5 : (Jvm.Cond.instanceMethod y2).before a0 Z = true) (w6 : (Jvm.Cond.publicMethod y2).before a0 Z = true) (w7 : (Jvm.Cond.unhidden K y1.name y1.desc).before a0 Z = true) (w8 : (Jvm.Cond.castable K y1.cls).before a0 Z = true) (wz : (Jvm.Cond.initialized y2.cls).before a0 Z = true) (wc : (Jvm.Cond.code y2 bs2 ml2 rt2).before a0 Z = true)
    (hE : Exa Z h a K) (hsig : parseMethodDescriptor y1.desc = some ⟨ps, r⟩) (hlen : argsL.length = ps.length) (hM : MetO l Z EL y2 bs2 ml2 rt2 [] rm (.ref a :: argsL).toArray h sf2 out2 Q2) (hsub : ∀ x ∈ sf2, x ∈ sf) (hst : st0 = argsL.reverse ++ .ref a :: st) (hsz : Ls.size = ml) (hp : pc + 5 = pc') (hy : y1.cls ≠ "java/lang/invoke/MethodHandle" ∧ y1.cls ≠ "java/lang/invoke/VarHandle")
    (hroom : (rm.frames + 1 ≤ R.frames ∧ (st.map fun v => v.category).sum + (ml2 + 11) + rm.locals ≤ R.locals) ∧ k + rm.cells ≤ R.cells ∧ n + rm.slots ≤ R.slots)
    (hr : ∀ v h', Q2 v h' → h.size ≤ h'.size → WlO l Z a0 EL y bs ml rt R as out Q sf h' (k + rm.cells) (n + rm.slots) pc' Ls (v.toList ++ st)) : WlO l Z a0 EL y bs ml rt R as out Q sf h k n pc Ls st0 := by
  subst hp
  refine Wl.call (len := 5) hM wc wz hsub hroom.1.1 hroom.1.2 hroom.2.1 hroom.2.2 (fun p e s m below meth c T vm0 locs hx hby hml hown hZ X eT {Post} hK => ?_) (fun _ q => Or.inr q) hr
  obtain ⟨cB, kB, i1, i2, i3⟩ := isOf (s := s.setVm vm0) hZ eT hE
  exact X.interfaceBackS hx (s := s.setVm vm0) hown (mvT hZ w1) (mvT hZ w2) (w3 hZ) (mvT hZ w4) (mvT hZ w5) (mvT hZ w6) (mvT hZ w7) (mvT hZ w8) hy hK i1 i2 i3 (g := mkF m pc Ls st0) rfl (by rw [hml]; exact hsz) (Steps.refl _) (argsL := argsL) (rest := st) (lenOf hsig hlen) hst (by show 2 * 0 + _ ≤ _; omega) (hb hby hd) (fun _ _ => ⟨rfl, eT, hroom.2.1, hroom.2.2⟩)
theorem Wl.interfaceO (pc' : Nat) {st0 : List Value} {i cnt : Nat} {y1 y2 : MethodName} {K : String} {bs2 : ByteArray} {ml2 : Nat} {rt2 : Option FieldType} {rm : Room} {a : Addr} {argsL : List Value} {sf2 : List Addr} {d : Addr} {Q2 : Option Value → Heap → Prop} {ps : List FieldType} {r : Option FieldType}
    (hd : decode bs pc = .ok (.invokeinterface i cnt, 5)) (w1 : (Jvm.Cond.methodLink y.cls i y1).before a0 Z = true) (w2 : (Jvm.Cond.declares y1).before a0 Z = true) (w3 : ∀ {vm0 : Vm} {s : State}, Z.Warmed39 vm0 → (Jvm.Cond.interfaceMethod y1.cls y1.cls y1.name y1.desc).before as (s.setVm vm0) = true) (w4 : (Jvm.Cond.selects K y1 y2).before a0 Z = true) (w5 : (Jvm.Cond.instanceMethod y2).before a0 Z = true) (w6 : (Jvm.Cond.publicMethod y2).before a0 Z = true) (w7 : (Jvm.Cond.unhidden K y1.name y1.desc).before a0 Z = true) (w8 : (Jvm.Cond.castable K y1.cls).before a0 Z = true) (wz : (Jvm.Cond.initialized y2.cls).before a0 Z = true) (wc : (Jvm.Cond.code y2 bs2 ml2 rt2).before a0 Z = true)
    (hE : Exa Z h a K) (hsig : parseMethodDescriptor y1.desc = some ⟨ps, r⟩) (hlen : argsL.length = ps.length) (hM : MetO l Z EL y2 bs2 ml2 rt2 [] rm (.ref a :: argsL).toArray h sf2 [d] Q2) (hsub : ∀ x ∈ sf2, x ∈ sf) (hst : st0 = argsL.reverse ++ .ref a :: st) (hsz : Ls.size = ml) (hp : pc + 5 = pc') (hy : y1.cls ≠ "java/lang/invoke/MethodHandle" ∧ y1.cls ≠ "java/lang/invoke/VarHandle")
    (hroom : (rm.frames + 1 ≤ R.frames ∧ (st.map fun v => v.category).sum + (ml2 + 11) + rm.locals ≤ R.locals) ∧ k + rm.cells ≤ R.cells ∧ n + rm.slots ≤ R.slots)
    (hr : ∀ v h', Q2 v h' → h.size ≤ h'.size → WlO l Z a0 EL y bs ml rt R as out Q (d :: sf) h' (k + rm.cells) (n + rm.slots) pc' Ls (v.toList ++ st)) : WlO l Z a0 EL y bs ml rt R as out Q sf h k n pc Ls st0 := by
  subst hp
  refine Wl.call (len := 5) hM wc wz hsub hroom.1.1 hroom.1.2 hroom.2.1 hroom.2.2 (fun p e s m below meth c T vm0 locs hx hby hml hown hZ X eT {Post} hK => ?_) (fun x q => (List.mem_cons.mp q).elim (fun e => Or.inl (e ▸ List.mem_singleton.mpr rfl)) Or.inr) hr
  obtain ⟨cB, kB, i1, i2, i3⟩ := isOf (s := s.setVm vm0) hZ eT hE
  exact X.interfaceBackS hx (s := s.setVm vm0) hown (mvT hZ w1) (mvT hZ w2) (w3 hZ) (mvT hZ w4) (mvT hZ w5) (mvT hZ w6) (mvT hZ w7) (mvT hZ w8) hy hK i1 i2 i3 (g := mkF m pc Ls st0) rfl (by rw [hml]; exact hsz) (Steps.refl _) (argsL := argsL) (rest := st) (lenOf hsig hlen) hst (by show 2 * 0 + _ ≤ _; omega) (hb hby hd) (fun _ _ => ⟨rfl, eT, hroom.2.1, hroom.2.2⟩)
/-- invokevirtual of a private method -/
theorem Wl.priv (pc' : Nat) {st0 : List Value} {i : Nat} {y2 : MethodName} {K : String} {bs2 : ByteArray} {ml2 : Nat} {rt2 : Option FieldType} {rm : Room} {a : Addr} {argsL : List Value} {sf2 out2 : List Addr} {Q2 : Option Value → Heap → Prop} {ps : List FieldType} {r : Option FieldType}
    (hd : decode bs pc = .ok (.invokevirtual i, 3)) (w1 : (Jvm.Cond.methodLink y.cls i y2).before a0 Z = true) (w2 : (Jvm.Cond.privateMethod y2).before a0 Z = true) (w3 : (Jvm.Cond.selects K y2 y2).before a0 Z = true) (w4 : (Jvm.Cond.instanceMethod y2).before a0 Z = true) (wz : (Jvm.Cond.initialized y2.cls).before a0 Z = true) (wc : (Jvm.Cond.code y2 bs2 ml2 rt2).before a0 Z = true)
    (hE : Exa Z h a K) (hsig : parseMethodDescriptor y2.desc = some ⟨ps, r⟩) (hlen : argsL.length = ps.length) (hM : MetO l Z EL y2 bs2 ml2 rt2 [] rm (.ref a :: argsL).toArray h sf2 out2 Q2) (hsub : ∀ x ∈ sf2, x ∈ sf) (hst : st0 = argsL.reverse ++ .ref a :: st) (hsz : Ls.size = ml) (hp : pc + 3 = pc') (hy : y2.cls ≠ "java/lang/invoke/MethodHandle" ∧ y2.cls ≠ "java/lang/invoke/VarHandle")
    (hroom : (rm.frames + 1 ≤ R.frames ∧ (st.map fun v => v.category).sum + (ml2 + 11) + rm.locals ≤ R.locals) ∧ k + rm.cells ≤ R.cells ∧ n + rm.slots ≤ R.slots)
    (hr : ∀ v h', Q2 v h' → h.size ≤ h'.size → WlO l Z a0 EL y bs ml rt R as out Q sf h' (k + rm.cells) (n + rm.slots) pc' Ls (v.toList ++ st)) : WlO l Z a0 EL y bs ml rt R as out Q sf h k n pc Ls st0 := by
  subst hp
  refine Wl.call (len := 3) hM wc wz hsub hroom.1.1 hroom.1.2 hroom.2.1 hroom.2.2 (fun p e s m below meth c T vm0 locs hx hby hml hown hZ X eT {Post} hK => ?_) (fun _ q => Or.inr q) hr
  obtain ⟨cB, kB, i1, i2, cell, i3, i4, i5⟩ := isOf (s := s.setVm vm0) hZ eT hE
  obtain ⟨mk, methM, hnamed, hmethM, hstM, habM⟩ := Cond.instanceMethod_spec (mvT (s := s.setVm vm0) (args := as) hZ w4)
  obtain ⟨methM', cM, hmethM', -, -, -, -, -, -, hsigM⟩ := Cond.code_spec hnamed (mvT (s := s.setVm vm0) (args := as) hZ wc)
  cases hmethM.symm.trans hmethM'
  obtain ⟨c2, r2, m2, -, -, q3, -, kP, hkP, hkPi⟩ := Cond.selects_spec (mvT (s := s.setVm vm0) (args := as) hZ w3)
  cases hnamed.symm.trans q3
  have hselP : selectMethod e.platform (s.setVm vm0).vm cell.cls mk = .method mk := selectMethod_private hmethM (Cond.privateMethod_at (mvP (s := s.setVm vm0) (args := as) hZ w2) mk methM hnamed hmethM)
  obtain ⟨vm₁, X₁, hstep₁⟩ := X.invokevirtual hx hown (mvT hZ w1) hnamed hmethM hstM hkP hkPi hy (a := a) (cell := cell) i3 (fun z h => by rw [h] at i5; cases i5) hselP hmethM habM hkP hkPi (g := mkF m pc Ls st0) rfl (argsL := argsL) (rest := st) (lenOf hsig hlen _ hsigM) hst (hb hby hd)
  obtain ⟨v, B, X', hS, hgr, hpost, hsteps⟩ := hK m meth c ⟨T.setVm vm₁, locs, k, n⟩ { mkF m pc Ls st0 with stack := st } (.invokevirtual i) mk (.ref a :: argsL).toArray X₁ rfl (by show Ls.size = c.maxLocals; rw [hml]; exact hsz) (hb hby hd) (by show 2 * 0 + (st.map fun v => v.category).sum ≤ (st.map fun v => v.category).sum; omega) (X₁.named hnamed) ⟨rfl, eT, hroom.2.1, hroom.2.2⟩
  exact ⟨v, vm₁, B, X₁.warmed, X', hS, hgr, hpost, (hstep₁ _ fun acts => by rw [doInvoke_state]; exact Steps.refl _).trans hsteps⟩
/-- invokespecial of the superclass's method -/
theorem Wl.up (pc' : Nat) {st0 : List Value} {i : Nat} {y2 : MethodName} {K : String} {bs2 : ByteArray} {ml2 : Nat} {rt2 : Option FieldType} {rm : Room} {a : Addr} {argsL : List Value} {sf2 out2 : List Addr} {Q2 : Option Value → Heap → Prop} {ps : List FieldType} {r : Option FieldType}
    (hd : decode bs pc = .ok (.invokespecial i, 3)) (w1 : (Jvm.Cond.methodLink y.cls i y2).before a0 Z = true) (w2 : (Jvm.Cond.sameMethod y2.cls y2.cls y2.name y2.desc).before a0 Z = true) (w3 : (Jvm.Cond.instanceMethod y2).before a0 Z = true) (w4 : (Jvm.Cond.superclass y.cls y2.cls).before a0 Z = true) (wz : (Jvm.Cond.initialized y2.cls).before a0 Z = true) (wc : (Jvm.Cond.code y2 bs2 ml2 rt2).before a0 Z = true)
    (hE : Exa Z h a K) (hsig : parseMethodDescriptor y2.desc = some ⟨ps, r⟩) (hlen : argsL.length = ps.length) (hM : MetO l Z EL y2 bs2 ml2 rt2 [] rm (.ref a :: argsL).toArray h sf2 out2 Q2) (hsub : ∀ x ∈ sf2, x ∈ sf) (hst : st0 = argsL.reverse ++ .ref a :: st) (hsz : Ls.size = ml) (hp : pc + 3 = pc') (hni : y2.name ≠ "<init>")
    (hroom : (rm.frames + 1 ≤ R.frames ∧ (st.map fun v => v.category).sum + (ml2 + 11) + rm.locals ≤ R.locals) ∧ k + rm.cells ≤ R.cells ∧ n + rm.slots ≤ R.slots)
    (hr : ∀ v h', Q2 v h' → h.size ≤ h'.size → WlO l Z a0 EL y bs ml rt R as out Q sf h' (k + rm.cells) (n + rm.slots) pc' Ls (v.toList ++ st)) : WlO l Z a0 EL y bs ml rt R as out Q sf h k n pc Ls st0 := by
  subst hp
  refine Wl.call (len := 3) hM wc wz hsub hroom.1.1 hroom.1.2 hroom.2.1 hroom.2.2 (fun p e s m below meth c T vm0 locs hx hby hml hown hZ X eT {Post} hK => ?_) (fun _ q => Or.inr q) hr
  exact superBackS X hx (s := s.setVm vm0) hZ hown w1 w2 w3 w4 hni hK eT (Ins.self hE) (g := mkF m pc Ls st0) rfl (by rw [hml]; exact hsz) wc (argsL := argsL) (rest := st) (lenOf hsig hlen) hst (by show 2 * 0 + _ ≤ _; omega) (hb hby hd) (fun _ _ => ⟨rfl, eT, hroom.2.1, hroom.2.2⟩)
/-- a class that declares y and is seen as no interface elsewhere -/
theorem nf_cls {K : String} {y1 y2 : MethodName} (wd : (Jvm.Cond.declares y1).before a0 Z = true) (w : (Jvm.Cond.selects K y2 y2).before a0 Z = true) (e : y2.cls = y1.cls) : ∀ {vm0 : Vm} {s : State}, Z.Warmed39 vm0 → NotFace (s.setVm vm0) y1 := fun {vm0 s} hZ r0 h0 => by
  obtain ⟨c2, r2, m2, q1, q2, q3, q4, kP, hkP, hkPi⟩ := Cond.selects_spec (mvT (s := s.setVm vm0) (args := #[]) hZ w)
  have hc0 := findClass_of_methodNamed h0
  have hc1 := findClass_of_methodNamed q3
  rw [e] at hc1
  have q := Option.some.inj (hc0.symm.trans hc1)
  exact ⟨kP, by rw [q]; exact hkP, hkPi⟩
/-- a String constant of the pool, read -/
theorem Wl.ldcS (pc' : Nat) {i : Nat} {text : String} {vs : List Value} {z : Int32} (cap : Nat) (hd : decode bs pc = .ok (.ldc i, 2)) (w : (Jvm.Cond.stringLink y.cls i text).before a0 Z = true) (wS : ∀ a ∈ Bundle.stringAtoms, a.before a0 Z = true) (hmem : (y.cls, i) ∈ EL)
    (ht : (∀ c ∈ text.toList, c.toNat < 256) ∧ text.toList.map (fun c => Value.int (Jvm.Lit.byteI c.toNat.toUInt16)) = vs) (hz : ¬ z < 0) (hl : z.toNatClampNeg = vs.length) (hn : 4 * text.toList.length ≤ cap) (hbig : cap ≤ 536870912) (hc : k + 2 ≤ R.cells) (hl' : n + (cap + 4) ≤ R.slots)
    (hr : ∀ (a : Addr) (h' : Heap) (b : Addr) (kc : ClassId), Ext h h' → Exa Z h' a "java/lang/String" → Fld Z h' a "java/lang/String" "coder" "B" (.int 0) → Fld Z h' a "java/lang/String" "value" "[B" (.ref b) → Arv Z h' b kc .byte z vs (.int 0) → (∀ x ∈ sf, x ≠ a ∧ x ≠ b) → WlO l Z a0 EL y bs ml rt R as out Q sf h' (k + 2) (n + (cap + 4)) pc' Ls (.ref a :: st)) (hp : pc + 2 = pc' := by rfl) : WlO l Z a0 EL y bs ml rt R as out Q sf h k n pc Ls st := by
  subst hp
  intro p e s m below meth c T W
  obtain ⟨A, vm0, locs, k0, X, eT, hS, hk, hF, hZ, hC, hM, hH⟩ := W
  obtain ⟨a, T', h', k1, b, kc, X', e', E, hS', hk', hZ', hown', r1, r2, r3, r4, r5, r6, hC', r7, r8, stp⟩ := ldcCH X A.1 hZ (by rw [hS.1.alike.findClass]; exact A.2.2.2.2.2.2.1) w wS eT hS hk A.2.2.2.2.2.2.2.1 hmem hC.1 ht hz hl (g := mkF m pc Ls st) rfl (hb A.2.1 hd) hn hbig hc hl'
  exact Go.of stp (hr a h' b kc E r1 r2 r3 r4 (fun x hx => r8 x ((hM.chr hC') x hx).1) p e s m below meth c T' ⟨A, T'.vm, locs, k1, X', e', hS', hk', hF, hZ', hC.trans hC', hM.chr hC', fun q => by rw [q] at hmem; cases hmem⟩)
end OwnKit

/-! own small facts on ints, chars, lists and heaps -/
section OwnNums
theorem extTr {h h1 h2 : Heap} (A : Ext h h1) (B : Ext h1 h2) : Ext h h2 := ⟨Nat.le_trans A.1 B.1, fun a c q => B.2 a c (A.2 a c q)⟩
theorem ext_rfl (h : Heap) : Ext h h := ⟨Nat.le_refl _, fun _ _ q => q⟩
theorem extKeep {h h1 h2 : Heap} {ws : List Addr} (A : Ext h h1) (K : Keep h1 h2 ws) (q : ∀ x ∈ ws, h.size ≤ x) : Ext h h2 :=
  ⟨Nat.le_trans A.1 K.1, fun a c r => K.2.1 a c (A.2 a c r) fun z => absurd (Array.getElem?_eq_some_iff.mp r).1 (Nat.not_lt.mpr (q a z))⟩
theorem extWr {h h1 h2 : Heap} {a : Addr} {sl : Nat} {v : Value} (A : Ext h h1) (W : Wr h1 h2 a sl v) (q : h.size ≤ a) : Ext h h2 := extKeep A (Keep.of_wr W) (allS q all0)
/-- a char; a char below 256 -/
abbrev Ch (x : Int32) : Prop := 0 ≤ x.toInt ∧ x.toInt < 65536
abbrev Lat (x : Int32) : Prop := 0 ≤ x.toInt ∧ x.toInt < 256
theorem Lat.ch {x : Int32} (q : Lat x) : Ch x := ⟨q.1, by have := q.2; omega⟩
theorem i2c_ch (x : Int32) : Ch x.toUInt32.toUInt16.toUInt32.toInt32 := (c_i2c x).2
theorem i2c_id {x : Int32} (q : Ch x) : x.toUInt32.toUInt16.toUInt32.toInt32 = x := by
  have h := c_i2c x
  apply Int32.toInt_inj.mp
  have := q.1; have := q.2
  omega
theorem nar_ch {x : Int32} (q : Ch x) : nar .char x = x := i2c_id q
theorem mask_lat (x : Int32) : Lat (x &&& 255) := by
  have h := c_and x 255 (by decide)
  have e : (255 : Int32).toInt = 255 := by decide
  exact ⟨h.1, by have := h.2; omega⟩
theorem i2c_mask_lat (x : Int32) : Lat ((x &&& 255).toUInt32.toUInt16.toUInt32.toInt32) := by rw [i2c_id (mask_lat x).ch]; exact mask_lat x
theorem i2b_id (x : Int32) : x.toInt8.toInt32.toInt8.toInt32 = x.toInt8.toInt32 := by simp
/-- small nats as ints -/
theorem nI {i : Nat} (hi : i < 2147483648) : (Int32.ofNat i).toInt = i := Int32.toInt_ofNat_small hi
theorem nCl {i : Nat} (hi : i < 2147483648) : (Int32.ofNat i).toNatClampNeg = i := by rw [Int32.toNatClampNeg, nI hi]; simp
theorem nNn {i : Nat} (hi : i < 2147483648) : ¬ Int32.ofNat i < 0 := by rw [Int32.lt_iff_toInt_lt, nI hi]; simp
theorem nLt {i j : Nat} (hi : i < 2147483648) (hj : j < 2147483648) : Int32.ofNat i < Int32.ofNat j ↔ i < j := by rw [Int32.lt_iff_toInt_lt, nI hi, nI hj]; omega
theorem nEq {i j : Nat} (hi : i < 2147483648) (hj : j < 2147483648) : Int32.ofNat i = Int32.ofNat j ↔ i = j := by rw [← Int32.toInt_inj, nI hi, nI hj]; omega
theorem nS (i : Nat) : Int32.ofNat i + 1 = Int32.ofNat (i + 1) := by simp [Int32.ofNat_add]
theorem nAdd (i j : Nat) : Int32.ofNat i + Int32.ofNat j = Int32.ofNat (i + j) := by simp [Int32.ofNat_add]
theorem nSub {i j : Nat} (hj : j ≤ i) (hi : i < 2147483648) : Int32.ofNat i - Int32.ofNat j = Int32.ofNat (i - j) := by
  apply Int32.toInt_inj.mp
  have h := c_isub (Int32.ofNat i) (Int32.ofNat j)
  have r := rng32 (Int32.ofNat i - Int32.ofNat j)
  rw [nI hi, nI (by omega)] at h
  rw [nI (by omega)]
  omega
/-- a byte read back -/
theorem lo8 {c : Int32} (q : Lat c) : c.toInt8.toInt32 &&& 255 = c := by
  apply Int32.toInt_inj.mp
  have h1 := c_mask c.toInt8.toInt32 255 8 (by decide) (by decide)
  have h2 := c_i2b c
  have := q.1; have := q.2
  omega
theorem lat_le {c : Int32} (q : Lat c) : ¬ (255 : Int32) < c := by
  rw [Int32.lt_iff_toInt_lt]
  have e : (255 : Int32).toInt = 255 := by decide
  have := q.2; omega
def byV (c : Int32) : Value := .int c.toInt8.toInt32
/-- a list filled from the left -/
def fil {α : Type} (xs : List α) (z : α) (i : Nat) : List α := xs.take i ++ List.replicate (xs.length - i) z
theorem fil_len {α : Type} (xs : List α) (z : α) (i : Nat) (hi : i ≤ xs.length) : (fil xs z i).length = xs.length := by simp [fil]; omega
theorem fil_zero {α : Type} (xs : List α) (z : α) : fil xs z 0 = List.replicate xs.length z := by simp [fil]
theorem fil_all {α : Type} (xs : List α) (z : α) : fil xs z xs.length = xs := by simp [fil]
theorem fil_set {α : Type} (xs : List α) (z v : α) (i : Nat) (hi : i < xs.length) (hv : xs[i] = v) : (fil xs z i).set i v = fil xs z (i + 1) := by
  subst hv
  apply List.ext_getElem?
  intro j
  simp only [fil, List.getElem?_set, List.getElem?_append, List.length_take, List.getElem?_take, List.getElem?_replicate, List.length_append, List.length_replicate]
  rw [show min i xs.length = i by omega, show min (i + 1) xs.length = i + 1 by omega]
  by_cases h1 : i = j
  · subst h1
    rw [if_pos rfl, if_pos (by omega), if_pos (by omega), if_pos (by omega)]
    exact (List.getElem?_eq_getElem hi).symm
  · rw [if_neg h1]
    by_cases h2 : j < i
    · rw [if_pos h2, if_pos h2, if_pos (by omega), if_pos (by omega)]
    · rw [if_neg h2, if_neg (show ¬ j < i + 1 by omega)]
      by_cases h3 : j - i < xs.length - i
      · rw [if_pos h3, if_pos (by omega)]
      · rw [if_neg h3, if_neg (by omega)]
theorem narC {x : Int32} (q : Ch x) : narrow .char (.int x) = .int x := by have := Jvm.Free.XT.narrow_c x; rwa [i2c_id q] at this
theorem ref_cat {v : Value} (r : v.isRef = true) : v.category = 1 := by cases v <;> first | rfl | (simp [Value.isRef] at r)
theorem latNn {c : Int32} (q : Lat c) : ¬ c < 0 := by
  rw [Int32.lt_iff_toInt_lt, show (0 : Int32).toInt = 0 by decide]
  have := q.1
  omega
theorem small30 {n : Nat} (h : n < 1048576) : Int32.ofNat n < 1073741823 := by
  rw [Int32.lt_iff_toInt_lt, nI (by omega), show (1073741823 : Int32).toInt = 1073741823 by decide]
  omega
end OwnNums
/-! a Latin-1 String: its chars -/
def Stl (Z : State) (h : Heap) (a : Addr) (cs : List Int32) : Prop :=
  ∃ (b : Addr) (kb : ClassId), Exa Z h a "java/lang/String" ∧ Fld Z h a "java/lang/String" "coder" "B" (.int 0) ∧ Fld Z h a "java/lang/String" "value" "[B" (.ref b) ∧ Arv Z h b kb .byte (Int32.ofNat cs.length) (cs.map byV) (.int 0) ∧ (∀ c ∈ cs, Lat c) ∧ cs.length < 65536
theorem Stl.ext {Z : State} {h h' : Heap} {a : Addr} {cs : List Int32} (S : Stl Z h a cs) (E : Ext h h') : Stl Z h' a cs := by
  obtain ⟨b, kb, h1, h2, h3, h4, r⟩ := S
  exact ⟨b, kb, h1.ext E, h2.ext E, h3.ext E, h4.ext E, r⟩
theorem Stl.exa {Z : State} {h : Heap} {a : Addr} {cs : List Int32} (S : Stl Z h a cs) : Exa Z h a "java/lang/String" := by obtain ⟨b, kb, h1, -⟩ := S; exact h1
/-- a char[] that holds cs -/
def Cha (Z : State) (h : Heap) (b : Addr) (cs : List Int32) : Prop := ∃ kb, Arv Z h b kb .char (Int32.ofNat cs.length) (cs.map Value.int) (.int 0)
theorem Cha.ext {Z : State} {h h' : Heap} {a : Addr} {cs : List Int32} (S : Cha Z h a cs) (E : Ext h h') : Cha Z h' a cs := by obtain ⟨k, A⟩ := S; exact ⟨k, A.ext E⟩
/-- compact strings are on -/
def CSon (Z : State) : Prop := ∃ c : Int32, Sta Z Z.heap "java/lang/String" "COMPACT_STRINGS" "Z" (.int c) ∧ c ≠ 0
theorem nle {n m : Nat} (h : Nat.ble n m = true) : n ≤ m := Nat.le_of_ble_eq_true h
theorem narO {v : Value} {s : String} (r : v.isRef = true) : narrow (.object s) v = v := by cases v <;> first | rfl | (simp [Value.isRef] at r)
theorem fitO {v : Value} {s : String} (r : v.isRef = true) : fits (.object s) v = true := by cases v <;> first | rfl | (simp [Value.isRef] at r)
theorem latN : ∀ c ∈ ([] : List Int32), Lat c := fun _ q => nomatch q
theorem latC {x : Int32} {xs : List Int32} (p : Lat x) (r : ∀ c ∈ xs, Lat c) : ∀ c ∈ x :: xs, Lat c := fun c q => (List.mem_cons.mp q).elim (fun e => e ▸ p) (r c)

theorem pn_str : plainName "java/lang/String" = true := by first | (simp [plainName, overriddenIn]; done) | decide +kernel
section Words
variable {Z : State} {a0 : Array Value}
theorem w0 (hw : ∀ d ∈ tables_1, d.before a0 Z = true) : (Jvm.Cond.constant "org/portcullis/HttpSyntaxTrimPinLaw" (12 : Nat) (2147483647 : Int32)).before a0 Z = true := hw _ (List.mem_of_getElem? (i := 0) rfl)
theorem w1 (hw : ∀ d ∈ tables_1, d.before a0 Z = true) : (Jvm.Cond.arrayClass Jvm.ClassFile.FieldType.char).before a0 Z = true := hw _ (List.mem_of_getElem? (i := 1) rfl)
theorem w2 (hw : ∀ d ∈ tables_1, d.before a0 Z = true) : (Jvm.Cond.methodLink "org/portcullis/HttpSyntaxTrimPinLaw" (13 : Nat) ({ cls := "org/portcullis/HttpSyntaxTrimPinLaw", name := "pick", desc := "(I)C" } : Jvm.MethodName)).before a0 Z = true := hw _ (List.mem_of_getElem? (i := 2) rfl)
theorem w3 (hw : ∀ d ∈ tables_1, d.before a0 Z = true) : (Jvm.Cond.static ({ cls := "org/portcullis/HttpSyntaxTrimPinLaw", name := "pick", desc := "(I)C" } : Jvm.MethodName)).before a0 Z = true := hw _ (List.mem_of_getElem? (i := 3) rfl)
theorem w4 (hw : ∀ d ∈ tables_1, d.before a0 Z = true) : (Jvm.Cond.initialized "org/portcullis/HttpSyntaxTrimPinLaw").before a0 Z = true := hw _ (List.mem_of_getElem? (i := 4) rfl)
theorem w5 (hw : ∀ d ∈ tables_1, d.before a0 Z = true) : (Jvm.Cond.code ({ cls := "org/portcullis/HttpSyntaxTrimPinLaw", name := "pick", desc := "(I)C" } : Jvm.MethodName) method_2_code (2 : Nat) (Option.some Jvm.ClassFile.FieldType.char)).before a0 Z = true := hw _ (List.mem_of_getElem? (i := 5) rfl)
theorem w6 (hw : ∀ d ∈ tables_1, d.before a0 Z = true) : (Jvm.Cond.methodLink "org/portcullis/HttpSyntaxTrimPinLaw" (19 : Nat) ({ cls := "org/portcullis/HttpSyntaxTrimPinLaw", name := "make", desc := "(I[C)Ljava/lang/String;" } : Jvm.MethodName)).before a0 Z = true := hw _ (List.mem_of_getElem? (i := 6) rfl)
theorem w7 (hw : ∀ d ∈ tables_1, d.before a0 Z = true) : (Jvm.Cond.static ({ cls := "org/portcullis/HttpSyntaxTrimPinLaw", name := "make", desc := "(I[C)Ljava/lang/String;" } : Jvm.MethodName)).before a0 Z = true := hw _ (List.mem_of_getElem? (i := 7) rfl)
theorem w8 (hw : ∀ d ∈ tables_1, d.before a0 Z = true) : (Jvm.Cond.code ({ cls := "org/portcullis/HttpSyntaxTrimPinLaw", name := "make", desc := "(I[C)Ljava/lang/String;" } : Jvm.MethodName) method_4_code (2 : Nat) (Option.some (Jvm.ClassFile.FieldType.object "java/lang/String"))).before a0 Z = true := hw _ (List.mem_of_getElem? (i := 8) rfl)
theorem w9 (hw : ∀ d ∈ tables_1, d.before a0 Z = true) : (Jvm.Cond.classLink "org/portcullis/HttpSyntaxTrimPinLaw" (7 : Nat) "java/lang/String").before a0 Z = true := hw _ (List.mem_of_getElem? (i := 9) rfl)
theorem w10 (hw : ∀ d ∈ tables_1, d.before a0 Z = true) : (Jvm.Cond.instantiable "java/lang/String" (4 : Nat)).before a0 Z = true := hw _ (List.mem_of_getElem? (i := 10) rfl)
theorem w11 (hw : ∀ d ∈ tables_1, d.before a0 Z = true) : (Jvm.Cond.initialized "java/lang/String").before a0 Z = true := hw _ (List.mem_of_getElem? (i := 11) rfl)
theorem w12 (hw : ∀ d ∈ tables_1, d.before a0 Z = true) : (Jvm.Cond.methodLink "org/portcullis/HttpSyntaxTrimPinLaw" (9 : Nat) ({ cls := "java/lang/String", name := "<init>", desc := "([C)V" } : Jvm.MethodName)).before a0 Z = true := hw _ (List.mem_of_getElem? (i := 12) rfl)
theorem w13 (hw : ∀ d ∈ tables_1, d.before a0 Z = true) : (Jvm.Cond.instanceMethod ({ cls := "java/lang/String", name := "<init>", desc := "([C)V" } : Jvm.MethodName)).before a0 Z = true := hw _ (List.mem_of_getElem? (i := 13) rfl)
theorem w14 (hw : ∀ d ∈ tables_1, d.before a0 Z = true) : (Jvm.Cond.code ({ cls := "java/lang/String", name := "<init>", desc := "([C)V" } : Jvm.MethodName) jdk_42_method_3_code (2 : Nat) (Option.none : Option Jvm.ClassFile.FieldType)).before a0 Z = true := hw _ (List.mem_of_getElem? (i := 14) rfl)
theorem w15 (hw : ∀ d ∈ tables_1, d.before a0 Z = true) : (Jvm.Cond.methodLink "java/lang/String" (27 : Nat) ({ cls := "java/lang/String", name := "<init>", desc := "([CIILjava/lang/Void;)V" } : Jvm.MethodName)).before a0 Z = true := hw _ (List.mem_of_getElem? (i := 15) rfl)
theorem w16 (hw : ∀ d ∈ tables_1, d.before a0 Z = true) : (Jvm.Cond.instanceMethod ({ cls := "java/lang/String", name := "<init>", desc := "([CIILjava/lang/Void;)V" } : Jvm.MethodName)).before a0 Z = true := hw _ (List.mem_of_getElem? (i := 16) rfl)
theorem w18 (hw : ∀ d ∈ tables_1, d.before a0 Z = true) : (Jvm.Cond.code ({ cls := "java/lang/String", name := "<init>", desc := "([CIILjava/lang/Void;)V" } : Jvm.MethodName) jdk_42_method_149_code (6 : Nat) (Option.none : Option Jvm.ClassFile.FieldType)).before a0 Z = true := hw _ (List.mem_of_getElem? (i := 18) rfl)
theorem w19 (hw : ∀ d ∈ tables_1, d.before a0 Z = true) : (Jvm.Cond.methodLink "java/lang/String" (1 : Nat) ({ cls := "java/lang/Object", name := "<init>", desc := "()V" } : Jvm.MethodName)).before a0 Z = true := hw _ (List.mem_of_getElem? (i := 19) rfl)
theorem w20 (hw : ∀ d ∈ tables_1, d.before a0 Z = true) : (Jvm.Cond.instanceMethod ({ cls := "java/lang/Object", name := "<init>", desc := "()V" } : Jvm.MethodName)).before a0 Z = true := hw _ (List.mem_of_getElem? (i := 20) rfl)
theorem w21 (hw : ∀ d ∈ tables_1, d.before a0 Z = true) : (Jvm.Cond.code ({ cls := "java/lang/Object", name := "<init>", desc := "()V" } : Jvm.MethodName) object_method_1_code (1 : Nat) (Option.none : Option Jvm.ClassFile.FieldType)).before a0 Z = true := hw _ (List.mem_of_getElem? (i := 21) rfl)
theorem w22 (hw : ∀ d ∈ tables_1, d.before a0 Z = true) : (Jvm.Cond.stringLink "java/lang/String" (7 : Nat) "").before a0 Z = true := hw _ (List.mem_of_getElem? (i := 22) rfl)
theorem w23 (hw : ∀ d ∈ tables_1, d.before a0 Z = true) : (Jvm.Cond.arrayClass Jvm.ClassFile.FieldType.byte).before a0 Z = true := hw _ (List.mem_of_getElem? (i := 23) rfl)
theorem w24 (hw : ∀ d ∈ tables_1, d.before a0 Z = true) : (Jvm.Cond.laysFinal "java/lang/String" "java/lang/String" "value" "[B").before a0 Z = true := hw _ (List.mem_of_getElem? (i := 24) rfl)
theorem w25 (hw : ∀ d ∈ tables_1, d.before a0 Z = true) : (Jvm.Cond.laysFinal "java/lang/String" "java/lang/String" "coder" "B").before a0 Z = true := hw _ (List.mem_of_getElem? (i := 25) rfl)
theorem w26 (hw : ∀ d ∈ tables_1, d.before a0 Z = true) : (Jvm.Cond.soleField "java/lang/String" "value").before a0 Z = true := hw _ (List.mem_of_getElem? (i := 26) rfl)
theorem w27 (hw : ∀ d ∈ tables_1, d.before a0 Z = true) : (Jvm.Cond.soleField "java/lang/String" "coder").before a0 Z = true := hw _ (List.mem_of_getElem? (i := 27) rfl)
theorem w28 (hw : ∀ d ∈ tables_1, d.before a0 Z = true) : (Jvm.Cond.fieldLink "java/lang/String" (9 : Nat) "java/lang/String" "value" "[B").before a0 Z = true := hw _ (List.mem_of_getElem? (i := 28) rfl)
theorem w29 (hw : ∀ d ∈ tables_1, d.before a0 Z = true) : (Jvm.Cond.fieldLink "java/lang/String" (15 : Nat) "java/lang/String" "coder" "B").before a0 Z = true := hw _ (List.mem_of_getElem? (i := 29) rfl)
theorem w30 (hw : ∀ d ∈ tables_1, d.before a0 Z = true) : (Jvm.Cond.methodLink "org/portcullis/HttpSyntaxTrimPinLaw" (23 : Nat) ({ cls := "org/portcullis/HttpSyntax", name := "trim", desc := "(Ljava/lang/String;)Ljava/lang/String;" } : Jvm.MethodName)).before a0 Z = true := hw _ (List.mem_of_getElem? (i := 30) rfl)
theorem w31 (hw : ∀ d ∈ tables_1, d.before a0 Z = true) : (Jvm.Cond.static ({ cls := "org/portcullis/HttpSyntax", name := "trim", desc := "(Ljava/lang/String;)Ljava/lang/String;" } : Jvm.MethodName)).before a0 Z = true := hw _ (List.mem_of_getElem? (i := 31) rfl)
theorem w32 (hw : ∀ d ∈ tables_1, d.before a0 Z = true) : (Jvm.Cond.initialized "org/portcullis/HttpSyntax").before a0 Z = true := hw _ (List.mem_of_getElem? (i := 32) rfl)
theorem w33 (hw : ∀ d ∈ tables_1, d.before a0 Z = true) : (Jvm.Cond.code ({ cls := "org/portcullis/HttpSyntax", name := "trim", desc := "(Ljava/lang/String;)Ljava/lang/String;" } : Jvm.MethodName) prog_24_method_5_code (3 : Nat) (Option.some (Jvm.ClassFile.FieldType.object "java/lang/String"))).before a0 Z = true := hw _ (List.mem_of_getElem? (i := 33) rfl)
theorem w34 (hw : ∀ d ∈ tables_1, d.before a0 Z = true) : (Jvm.Cond.methodLink "org/portcullis/HttpSyntax" (13 : Nat) ({ cls := "java/lang/String", name := "length", desc := "()I" } : Jvm.MethodName)).before a0 Z = true := hw _ (List.mem_of_getElem? (i := 34) rfl)
theorem w35 (hw : ∀ d ∈ tables_1, d.before a0 Z = true) : (Jvm.Cond.declares ({ cls := "java/lang/String", name := "length", desc := "()I" } : Jvm.MethodName)).before a0 Z = true := hw _ (List.mem_of_getElem? (i := 35) rfl)
theorem w36 (hw : ∀ d ∈ tables_1, d.before a0 Z = true) : (Jvm.Cond.instanceMethod ({ cls := "java/lang/String", name := "length", desc := "()I" } : Jvm.MethodName)).before a0 Z = true := hw _ (List.mem_of_getElem? (i := 36) rfl)
theorem w37 (hw : ∀ d ∈ tables_1, d.before a0 Z = true) : (Jvm.Cond.selects "java/lang/String" ({ cls := "java/lang/String", name := "length", desc := "()I" } : Jvm.MethodName) ({ cls := "java/lang/String", name := "length", desc := "()I" } : Jvm.MethodName)).before a0 Z = true := hw _ (List.mem_of_getElem? (i := 37) rfl)
theorem w38 (hw : ∀ d ∈ tables_1, d.before a0 Z = true) : (Jvm.Cond.code ({ cls := "java/lang/String", name := "length", desc := "()I" } : Jvm.MethodName) jdk_42_method_54_code (1 : Nat) (Option.some Jvm.ClassFile.FieldType.int)).before a0 Z = true := hw _ (List.mem_of_getElem? (i := 38) rfl)
theorem w39 (hw : ∀ d ∈ tables_1, d.before a0 Z = true) : (Jvm.Cond.methodLink "java/lang/String" (335 : Nat) ({ cls := "java/lang/String", name := "coder", desc := "()B" } : Jvm.MethodName)).before a0 Z = true := hw _ (List.mem_of_getElem? (i := 39) rfl)
theorem w40 (hw : ∀ d ∈ tables_1, d.before a0 Z = true) : (Jvm.Cond.declares ({ cls := "java/lang/String", name := "coder", desc := "()B" } : Jvm.MethodName)).before a0 Z = true := hw _ (List.mem_of_getElem? (i := 40) rfl)
theorem w41 (hw : ∀ d ∈ tables_1, d.before a0 Z = true) : (Jvm.Cond.instanceMethod ({ cls := "java/lang/String", name := "coder", desc := "()B" } : Jvm.MethodName)).before a0 Z = true := hw _ (List.mem_of_getElem? (i := 41) rfl)
theorem w42 (hw : ∀ d ∈ tables_1, d.before a0 Z = true) : (Jvm.Cond.selects "java/lang/String" ({ cls := "java/lang/String", name := "coder", desc := "()B" } : Jvm.MethodName) ({ cls := "java/lang/String", name := "coder", desc := "()B" } : Jvm.MethodName)).before a0 Z = true := hw _ (List.mem_of_getElem? (i := 42) rfl)
theorem w43 (hw : ∀ d ∈ tables_1, d.before a0 Z = true) : (Jvm.Cond.code ({ cls := "java/lang/String", name := "coder", desc := "()B" } : Jvm.MethodName) jdk_42_method_152_code (1 : Nat) (Option.some Jvm.ClassFile.FieldType.byte)).before a0 Z = true := hw _ (List.mem_of_getElem? (i := 43) rfl)
theorem w44 (hw : ∀ d ∈ tables_1, d.before a0 Z = true) : (Jvm.Cond.fieldLink "java/lang/String" (38 : Nat) "java/lang/String" "COMPACT_STRINGS" "Z").before a0 Z = true := hw _ (List.mem_of_getElem? (i := 44) rfl)
theorem w45 (hw : ∀ d ∈ tables_1, d.before a0 Z = true) : (Jvm.Cond.methodLink "org/portcullis/HttpSyntax" (75 : Nat) ({ cls := "java/lang/String", name := "substring", desc := "(II)Ljava/lang/String;" } : Jvm.MethodName)).before a0 Z = true := hw _ (List.mem_of_getElem? (i := 45) rfl)
theorem w46 (hw : ∀ d ∈ tables_1, d.before a0 Z = true) : (Jvm.Cond.declares ({ cls := "java/lang/String", name := "substring", desc := "(II)Ljava/lang/String;" } : Jvm.MethodName)).before a0 Z = true := hw _ (List.mem_of_getElem? (i := 46) rfl)
theorem w47 (hw : ∀ d ∈ tables_1, d.before a0 Z = true) : (Jvm.Cond.instanceMethod ({ cls := "java/lang/String", name := "substring", desc := "(II)Ljava/lang/String;" } : Jvm.MethodName)).before a0 Z = true := hw _ (List.mem_of_getElem? (i := 47) rfl)
theorem w48 (hw : ∀ d ∈ tables_1, d.before a0 Z = true) : (Jvm.Cond.selects "java/lang/String" ({ cls := "java/lang/String", name := "substring", desc := "(II)Ljava/lang/String;" } : Jvm.MethodName) ({ cls := "java/lang/String", name := "substring", desc := "(II)Ljava/lang/String;" } : Jvm.MethodName)).before a0 Z = true := hw _ (List.mem_of_getElem? (i := 48) rfl)
theorem w49 (hw : ∀ d ∈ tables_1, d.before a0 Z = true) : (Jvm.Cond.code ({ cls := "java/lang/String", name := "substring", desc := "(II)Ljava/lang/String;" } : Jvm.MethodName) jdk_42_method_92_code (5 : Nat) (Option.some (Jvm.ClassFile.FieldType.object "java/lang/String"))).before a0 Z = true := hw _ (List.mem_of_getElem? (i := 49) rfl)
theorem w50 (hw : ∀ d ∈ tables_1, d.before a0 Z = true) : (Jvm.Cond.methodLink "java/lang/String" (505 : Nat) ({ cls := "java/lang/String", name := "length", desc := "()I" } : Jvm.MethodName)).before a0 Z = true := hw _ (List.mem_of_getElem? (i := 50) rfl)
theorem w51 (hw : ∀ d ∈ tables_1, d.before a0 Z = true) : (Jvm.Cond.methodLink "java/lang/String" (521 : Nat) ({ cls := "java/lang/String", name := "checkBoundsBeginEnd", desc := "(III)V" } : Jvm.MethodName)).before a0 Z = true := hw _ (List.mem_of_getElem? (i := 51) rfl)
theorem w52 (hw : ∀ d ∈ tables_1, d.before a0 Z = true) : (Jvm.Cond.static ({ cls := "java/lang/String", name := "checkBoundsBeginEnd", desc := "(III)V" } : Jvm.MethodName)).before a0 Z = true := hw _ (List.mem_of_getElem? (i := 52) rfl)
theorem w53 (hw : ∀ d ∈ tables_1, d.before a0 Z = true) : (Jvm.Cond.code ({ cls := "java/lang/String", name := "checkBoundsBeginEnd", desc := "(III)V" } : Jvm.MethodName) jdk_42_method_158_code (3 : Nat) (Option.none : Option Jvm.ClassFile.FieldType)).before a0 Z = true := hw _ (List.mem_of_getElem? (i := 53) rfl)
theorem w54 (hw : ∀ d ∈ tables_1, d.before a0 Z = true) : (Jvm.Cond.fieldLink "java/lang/String" (1053 : Nat) "jdk/internal/util/Preconditions" "SIOOBE_FORMATTER" "Ljava/util/function/BiFunction;").before a0 Z = true := hw _ (List.mem_of_getElem? (i := 54) rfl)
theorem w55 (hw : ∀ d ∈ tables_1, d.before a0 Z = true) : (Jvm.Cond.initialized "jdk/internal/util/Preconditions").before a0 Z = true := hw _ (List.mem_of_getElem? (i := 55) rfl)
theorem w56 (hw : ∀ d ∈ tables_1, d.before a0 Z = true) : (Jvm.Cond.methodLink "java/lang/String" (1062 : Nat) ({ cls := "jdk/internal/util/Preconditions", name := "checkFromToIndex", desc := "(IIILjava/util/function/BiFunction;)I" } : Jvm.MethodName)).before a0 Z = true := hw _ (List.mem_of_getElem? (i := 56) rfl)
theorem w57 (hw : ∀ d ∈ tables_1, d.before a0 Z = true) : (Jvm.Cond.static ({ cls := "jdk/internal/util/Preconditions", name := "checkFromToIndex", desc := "(IIILjava/util/function/BiFunction;)I" } : Jvm.MethodName)).before a0 Z = true := hw _ (List.mem_of_getElem? (i := 57) rfl)
theorem w58 (hw : ∀ d ∈ tables_1, d.before a0 Z = true) : (Jvm.Cond.code ({ cls := "jdk/internal/util/Preconditions", name := "checkFromToIndex", desc := "(IIILjava/util/function/BiFunction;)I" } : Jvm.MethodName) jdk_41_method_12_code (4 : Nat) (Option.some Jvm.ClassFile.FieldType.int)).before a0 Z = true := hw _ (List.mem_of_getElem? (i := 58) rfl)
theorem w59 (hw : ∀ d ∈ tables_1, d.before a0 Z = true) : (Jvm.Cond.methodLink "org/portcullis/HttpSyntaxTrimPinLaw" (33 : Nat) ({ cls := "java/lang/String", name := "length", desc := "()I" } : Jvm.MethodName)).before a0 Z = true := hw _ (List.mem_of_getElem? (i := 59) rfl)
theorem w60 (hw : ∀ d ∈ tables_1, d.before a0 Z = true) : (Jvm.Cond.methodLink "java/lang/String" (177 : Nat) ({ cls := "java/lang/StringUTF16", name := "compress", desc := "([CII)[B" } : Jvm.MethodName)).before a0 Z = true := hw _ (List.mem_of_getElem? (i := 60) rfl)
theorem w61 (hw : ∀ d ∈ tables_1, d.before a0 Z = true) : (Jvm.Cond.static ({ cls := "java/lang/StringUTF16", name := "compress", desc := "([CII)[B" } : Jvm.MethodName)).before a0 Z = true := hw _ (List.mem_of_getElem? (i := 61) rfl)
theorem w62 (hw : ∀ d ∈ tables_1, d.before a0 Z = true) : (Jvm.Cond.initialized "java/lang/StringUTF16").before a0 Z = true := hw _ (List.mem_of_getElem? (i := 62) rfl)
theorem w63 (hw : ∀ d ∈ tables_1, d.before a0 Z = true) : (Jvm.Cond.code ({ cls := "java/lang/StringUTF16", name := "compress", desc := "([CII)[B" } : Jvm.MethodName) jdk_52_method_16_code (6 : Nat) (Option.some (Jvm.ClassFile.FieldType.array Jvm.ClassFile.FieldType.byte))).before a0 Z = true := hw _ (List.mem_of_getElem? (i := 63) rfl)
theorem w64 (hw : ∀ d ∈ tables_1, d.before a0 Z = true) : (Jvm.Cond.methodLink "java/lang/StringUTF16" (115 : Nat) ({ cls := "java/lang/StringUTF16", name := "compress", desc := "([CI[BII)I" } : Jvm.MethodName)).before a0 Z = true := hw _ (List.mem_of_getElem? (i := 64) rfl)
theorem w65 (hw : ∀ d ∈ tables_1, d.before a0 Z = true) : (Jvm.Cond.static ({ cls := "java/lang/StringUTF16", name := "compress", desc := "([CI[BII)I" } : Jvm.MethodName)).before a0 Z = true := hw _ (List.mem_of_getElem? (i := 65) rfl)
theorem w66 (hw : ∀ d ∈ tables_1, d.before a0 Z = true) : (Jvm.Cond.code ({ cls := "java/lang/StringUTF16", name := "compress", desc := "([CI[BII)I" } : Jvm.MethodName) jdk_52_method_21_code (7 : Nat) (Option.some Jvm.ClassFile.FieldType.int)).before a0 Z = true := hw _ (List.mem_of_getElem? (i := 66) rfl)
theorem w67 (hw : ∀ d ∈ tables_1, d.before a0 Z = true) : (Jvm.Cond.methodLink "java/lang/String" (47 : Nat) ({ cls := "java/lang/StringUTF16", name := "coderFromArrayLen", desc := "([BI)B" } : Jvm.MethodName)).before a0 Z = true := hw _ (List.mem_of_getElem? (i := 67) rfl)
theorem w68 (hw : ∀ d ∈ tables_1, d.before a0 Z = true) : (Jvm.Cond.static ({ cls := "java/lang/StringUTF16", name := "coderFromArrayLen", desc := "([BI)B" } : Jvm.MethodName)).before a0 Z = true := hw _ (List.mem_of_getElem? (i := 68) rfl)
theorem w69 (hw : ∀ d ∈ tables_1, d.before a0 Z = true) : (Jvm.Cond.code ({ cls := "java/lang/StringUTF16", name := "coderFromArrayLen", desc := "([BI)B" } : Jvm.MethodName) jdk_52_method_15_code (2 : Nat) (Option.some Jvm.ClassFile.FieldType.byte)).before a0 Z = true := hw _ (List.mem_of_getElem? (i := 69) rfl)
theorem w70 (hw : ∀ d ∈ tables_1, d.before a0 Z = true) : (Jvm.Cond.methodLink "org/portcullis/HttpSyntax" (17 : Nat) ({ cls := "java/lang/String", name := "charAt", desc := "(I)C" } : Jvm.MethodName)).before a0 Z = true := hw _ (List.mem_of_getElem? (i := 70) rfl)
theorem w71 (hw : ∀ d ∈ tables_1, d.before a0 Z = true) : (Jvm.Cond.declares ({ cls := "java/lang/String", name := "charAt", desc := "(I)C" } : Jvm.MethodName)).before a0 Z = true := hw _ (List.mem_of_getElem? (i := 71) rfl)
theorem w72 (hw : ∀ d ∈ tables_1, d.before a0 Z = true) : (Jvm.Cond.instanceMethod ({ cls := "java/lang/String", name := "charAt", desc := "(I)C" } : Jvm.MethodName)).before a0 Z = true := hw _ (List.mem_of_getElem? (i := 72) rfl)
theorem w73 (hw : ∀ d ∈ tables_1, d.before a0 Z = true) : (Jvm.Cond.selects "java/lang/String" ({ cls := "java/lang/String", name := "charAt", desc := "(I)C" } : Jvm.MethodName) ({ cls := "java/lang/String", name := "charAt", desc := "(I)C" } : Jvm.MethodName)).before a0 Z = true := hw _ (List.mem_of_getElem? (i := 73) rfl)
theorem w74 (hw : ∀ d ∈ tables_1, d.before a0 Z = true) : (Jvm.Cond.code ({ cls := "java/lang/String", name := "charAt", desc := "(I)C" } : Jvm.MethodName) jdk_42_method_56_code (2 : Nat) (Option.some Jvm.ClassFile.FieldType.char)).before a0 Z = true := hw _ (List.mem_of_getElem? (i := 74) rfl)
theorem w75 (hw : ∀ d ∈ tables_1, d.before a0 Z = true) : (Jvm.Cond.methodLink "java/lang/String" (492 : Nat) ({ cls := "java/lang/String", name := "isLatin1", desc := "()Z" } : Jvm.MethodName)).before a0 Z = true := hw _ (List.mem_of_getElem? (i := 75) rfl)
theorem w76 (hw : ∀ d ∈ tables_1, d.before a0 Z = true) : (Jvm.Cond.declares ({ cls := "java/lang/String", name := "isLatin1", desc := "()Z" } : Jvm.MethodName)).before a0 Z = true := hw _ (List.mem_of_getElem? (i := 76) rfl)
theorem w77 (hw : ∀ d ∈ tables_1, d.before a0 Z = true) : (Jvm.Cond.instanceMethod ({ cls := "java/lang/String", name := "isLatin1", desc := "()Z" } : Jvm.MethodName)).before a0 Z = true := hw _ (List.mem_of_getElem? (i := 77) rfl)
theorem w78 (hw : ∀ d ∈ tables_1, d.before a0 Z = true) : (Jvm.Cond.selects "java/lang/String" ({ cls := "java/lang/String", name := "isLatin1", desc := "()Z" } : Jvm.MethodName) ({ cls := "java/lang/String", name := "isLatin1", desc := "()Z" } : Jvm.MethodName)).before a0 Z = true := hw _ (List.mem_of_getElem? (i := 78) rfl)
theorem w79 (hw : ∀ d ∈ tables_1, d.before a0 Z = true) : (Jvm.Cond.code ({ cls := "java/lang/String", name := "isLatin1", desc := "()Z" } : Jvm.MethodName) jdk_42_method_154_code (1 : Nat) (Option.some Jvm.ClassFile.FieldType.boolean)).before a0 Z = true := hw _ (List.mem_of_getElem? (i := 79) rfl)
theorem w80 (hw : ∀ d ∈ tables_1, d.before a0 Z = true) : (Jvm.Cond.methodLink "java/lang/String" (495 : Nat) ({ cls := "java/lang/StringLatin1", name := "charAt", desc := "([BI)C" } : Jvm.MethodName)).before a0 Z = true := hw _ (List.mem_of_getElem? (i := 80) rfl)
theorem w81 (hw : ∀ d ∈ tables_1, d.before a0 Z = true) : (Jvm.Cond.static ({ cls := "java/lang/StringLatin1", name := "charAt", desc := "([BI)C" } : Jvm.MethodName)).before a0 Z = true := hw _ (List.mem_of_getElem? (i := 81) rfl)
theorem w82 (hw : ∀ d ∈ tables_1, d.before a0 Z = true) : (Jvm.Cond.initialized "java/lang/StringLatin1").before a0 Z = true := hw _ (List.mem_of_getElem? (i := 82) rfl)
theorem w83 (hw : ∀ d ∈ tables_1, d.before a0 Z = true) : (Jvm.Cond.code ({ cls := "java/lang/StringLatin1", name := "charAt", desc := "([BI)C" } : Jvm.MethodName) jdk_43_method_2_code (2 : Nat) (Option.some Jvm.ClassFile.FieldType.char)).before a0 Z = true := hw _ (List.mem_of_getElem? (i := 83) rfl)
theorem w84 (hw : ∀ d ∈ tables_1, d.before a0 Z = true) : (Jvm.Cond.methodLink "java/lang/StringLatin1" (9 : Nat) ({ cls := "java/lang/String", name := "checkIndex", desc := "(II)V" } : Jvm.MethodName)).before a0 Z = true := hw _ (List.mem_of_getElem? (i := 84) rfl)
theorem w85 (hw : ∀ d ∈ tables_1, d.before a0 Z = true) : (Jvm.Cond.static ({ cls := "java/lang/String", name := "checkIndex", desc := "(II)V" } : Jvm.MethodName)).before a0 Z = true := hw _ (List.mem_of_getElem? (i := 85) rfl)
theorem w86 (hw : ∀ d ∈ tables_1, d.before a0 Z = true) : (Jvm.Cond.code ({ cls := "java/lang/String", name := "checkIndex", desc := "(II)V" } : Jvm.MethodName) jdk_42_method_155_code (2 : Nat) (Option.none : Option Jvm.ClassFile.FieldType)).before a0 Z = true := hw _ (List.mem_of_getElem? (i := 86) rfl)
theorem w87 (hw : ∀ d ∈ tables_1, d.before a0 Z = true) : (Jvm.Cond.methodLink "java/lang/String" (1059 : Nat) ({ cls := "jdk/internal/util/Preconditions", name := "checkIndex", desc := "(IILjava/util/function/BiFunction;)I" } : Jvm.MethodName)).before a0 Z = true := hw _ (List.mem_of_getElem? (i := 87) rfl)
theorem w88 (hw : ∀ d ∈ tables_1, d.before a0 Z = true) : (Jvm.Cond.static ({ cls := "jdk/internal/util/Preconditions", name := "checkIndex", desc := "(IILjava/util/function/BiFunction;)I" } : Jvm.MethodName)).before a0 Z = true := hw _ (List.mem_of_getElem? (i := 88) rfl)
theorem w89 (hw : ∀ d ∈ tables_1, d.before a0 Z = true) : (Jvm.Cond.code ({ cls := "jdk/internal/util/Preconditions", name := "checkIndex", desc := "(IILjava/util/function/BiFunction;)I" } : Jvm.MethodName) jdk_41_method_11_code (3 : Nat) (Option.some Jvm.ClassFile.FieldType.int)).before a0 Z = true := hw _ (List.mem_of_getElem? (i := 89) rfl)
theorem w90 (hw : ∀ d ∈ tables_1, d.before a0 Z = true) : (Jvm.Cond.methodLink "org/portcullis/HttpSyntax" (71 : Nat) ({ cls := "org/portcullis/HttpSyntax", name := "isSpace", desc := "(C)Z" } : Jvm.MethodName)).before a0 Z = true := hw _ (List.mem_of_getElem? (i := 90) rfl)
theorem w91 (hw : ∀ d ∈ tables_1, d.before a0 Z = true) : (Jvm.Cond.static ({ cls := "org/portcullis/HttpSyntax", name := "isSpace", desc := "(C)Z" } : Jvm.MethodName)).before a0 Z = true := hw _ (List.mem_of_getElem? (i := 91) rfl)
theorem w92 (hw : ∀ d ∈ tables_1, d.before a0 Z = true) : (Jvm.Cond.code ({ cls := "org/portcullis/HttpSyntax", name := "isSpace", desc := "(C)Z" } : Jvm.MethodName) prog_24_method_6_code (1 : Nat) (Option.some Jvm.ClassFile.FieldType.boolean)).before a0 Z = true := hw _ (List.mem_of_getElem? (i := 92) rfl)
theorem w93 (hw : ∀ d ∈ tables_1, d.before a0 Z = true) : (Jvm.Cond.methodLink "java/lang/String" (685 : Nat) ({ cls := "java/lang/StringLatin1", name := "newString", desc := "([BII)Ljava/lang/String;" } : Jvm.MethodName)).before a0 Z = true := hw _ (List.mem_of_getElem? (i := 93) rfl)
theorem w94 (hw : ∀ d ∈ tables_1, d.before a0 Z = true) : (Jvm.Cond.static ({ cls := "java/lang/StringLatin1", name := "newString", desc := "([BII)Ljava/lang/String;" } : Jvm.MethodName)).before a0 Z = true := hw _ (List.mem_of_getElem? (i := 94) rfl)
theorem w95 (hw : ∀ d ∈ tables_1, d.before a0 Z = true) : (Jvm.Cond.code ({ cls := "java/lang/StringLatin1", name := "newString", desc := "([BII)Ljava/lang/String;" } : Jvm.MethodName) jdk_43_method_47_code (3 : Nat) (Option.some (Jvm.ClassFile.FieldType.object "java/lang/String"))).before a0 Z = true := hw _ (List.mem_of_getElem? (i := 95) rfl)
theorem w96 (hw : ∀ d ∈ tables_1, d.before a0 Z = true) : (Jvm.Cond.classLink "java/lang/StringLatin1" (1 : Nat) "java/lang/String").before a0 Z = true := hw _ (List.mem_of_getElem? (i := 96) rfl)
theorem w97 (hw : ∀ d ∈ tables_1, d.before a0 Z = true) : (Jvm.Cond.methodLink "java/lang/StringLatin1" (232 : Nat) ({ cls := "java/util/Arrays", name := "copyOfRange", desc := "([BII)[B" } : Jvm.MethodName)).before a0 Z = true := hw _ (List.mem_of_getElem? (i := 97) rfl)
theorem w98 (hw : ∀ d ∈ tables_1, d.before a0 Z = true) : (Jvm.Cond.static ({ cls := "java/util/Arrays", name := "copyOfRange", desc := "([BII)[B" } : Jvm.MethodName)).before a0 Z = true := hw _ (List.mem_of_getElem? (i := 98) rfl)
theorem w99 (hw : ∀ d ∈ tables_1, d.before a0 Z = true) : (Jvm.Cond.initialized "java/util/Arrays").before a0 Z = true := hw _ (List.mem_of_getElem? (i := 99) rfl)
theorem w100 (hw : ∀ d ∈ tables_1, d.before a0 Z = true) : (Jvm.Cond.code ({ cls := "java/util/Arrays", name := "copyOfRange", desc := "([BII)[B" } : Jvm.MethodName) jdk_65_method_132_code (3 : Nat) (Option.some (Jvm.ClassFile.FieldType.array Jvm.ClassFile.FieldType.byte))).before a0 Z = true := hw _ (List.mem_of_getElem? (i := 100) rfl)
theorem w101 (hw : ∀ d ∈ tables_1, d.before a0 Z = true) : (Jvm.Cond.methodLink "java/util/Arrays" (339 : Nat) ({ cls := "java/util/Arrays", name := "copyOfRangeByte", desc := "([BII)[B" } : Jvm.MethodName)).before a0 Z = true := hw _ (List.mem_of_getElem? (i := 101) rfl)
theorem w102 (hw : ∀ d ∈ tables_1, d.before a0 Z = true) : (Jvm.Cond.static ({ cls := "java/util/Arrays", name := "copyOfRangeByte", desc := "([BII)[B" } : Jvm.MethodName)).before a0 Z = true := hw _ (List.mem_of_getElem? (i := 102) rfl)
theorem w103 (hw : ∀ d ∈ tables_1, d.before a0 Z = true) : (Jvm.Cond.code ({ cls := "java/util/Arrays", name := "copyOfRangeByte", desc := "([BII)[B" } : Jvm.MethodName) jdk_65_method_133_code (5 : Nat) (Option.some (Jvm.ClassFile.FieldType.array Jvm.ClassFile.FieldType.byte))).before a0 Z = true := hw _ (List.mem_of_getElem? (i := 103) rfl)
theorem w104 (hw : ∀ d ∈ tables_1, d.before a0 Z = true) : (Jvm.Cond.methodLink "java/util/Arrays" (343 : Nat) ({ cls := "java/util/Arrays", name := "checkLength", desc := "(II)V" } : Jvm.MethodName)).before a0 Z = true := hw _ (List.mem_of_getElem? (i := 104) rfl)
theorem w105 (hw : ∀ d ∈ tables_1, d.before a0 Z = true) : (Jvm.Cond.static ({ cls := "java/util/Arrays", name := "checkLength", desc := "(II)V" } : Jvm.MethodName)).before a0 Z = true := hw _ (List.mem_of_getElem? (i := 105) rfl)
theorem w106 (hw : ∀ d ∈ tables_1, d.before a0 Z = true) : (Jvm.Cond.code ({ cls := "java/util/Arrays", name := "checkLength", desc := "(II)V" } : Jvm.MethodName) jdk_65_method_131_code (2 : Nat) (Option.none : Option Jvm.ClassFile.FieldType)).before a0 Z = true := hw _ (List.mem_of_getElem? (i := 106) rfl)
theorem w107 (hw : ∀ d ∈ tables_1, d.before a0 Z = true) : (Jvm.Cond.methodLink "java/util/Arrays" (304 : Nat) ({ cls := "java/lang/Math", name := "min", desc := "(II)I" } : Jvm.MethodName)).before a0 Z = true := hw _ (List.mem_of_getElem? (i := 107) rfl)
theorem w108 (hw : ∀ d ∈ tables_1, d.before a0 Z = true) : (Jvm.Cond.static ({ cls := "java/lang/Math", name := "min", desc := "(II)I" } : Jvm.MethodName)).before a0 Z = true := hw _ (List.mem_of_getElem? (i := 108) rfl)
theorem w109 (hw : ∀ d ∈ tables_1, d.before a0 Z = true) : (Jvm.Cond.initialized "java/lang/Math").before a0 Z = true := hw _ (List.mem_of_getElem? (i := 109) rfl)
theorem w110 (hw : ∀ d ∈ tables_1, d.before a0 Z = true) : (Jvm.Cond.code ({ cls := "java/lang/Math", name := "min", desc := "(II)I" } : Jvm.MethodName) jdk_29_method_69_code (2 : Nat) (Option.some Jvm.ClassFile.FieldType.int)).before a0 Z = true := hw _ (List.mem_of_getElem? (i := 110) rfl)
theorem w111 (hw : ∀ d ∈ tables_1, d.before a0 Z = true) : (Jvm.Cond.methodLink "java/util/Arrays" (150 : Nat) ({ cls := "java/lang/System", name := "arraycopy", desc := "(Ljava/lang/Object;ILjava/lang/Object;II)V" } : Jvm.MethodName)).before a0 Z = true := hw _ (List.mem_of_getElem? (i := 111) rfl)
theorem w112 (hw : ∀ d ∈ tables_1, d.before a0 Z = true) : (Jvm.Cond.static ({ cls := "java/lang/System", name := "arraycopy", desc := "(Ljava/lang/Object;ILjava/lang/Object;II)V" } : Jvm.MethodName)).before a0 Z = true := hw _ (List.mem_of_getElem? (i := 112) rfl)
theorem w113 (hw : ∀ d ∈ tables_1, d.before a0 Z = true) : (Jvm.Cond.initialized "java/lang/System").before a0 Z = true := hw _ (List.mem_of_getElem? (i := 113) rfl)
theorem w114 (hw : ∀ d ∈ tables_1, d.before a0 Z = true) : (Jvm.Cond.native ({ cls := "java/lang/System", name := "arraycopy", desc := "(Ljava/lang/Object;ILjava/lang/Object;II)V" } : Jvm.MethodName)).before a0 Z = true := hw _ (List.mem_of_getElem? (i := 114) rfl)
theorem w115 (hw : ∀ d ∈ tables_1, d.before a0 Z = true) : (Jvm.Cond.methodLink "java/lang/StringLatin1" (112 : Nat) ({ cls := "java/lang/String", name := "<init>", desc := "([BB)V" } : Jvm.MethodName)).before a0 Z = true := hw _ (List.mem_of_getElem? (i := 115) rfl)
theorem w116 (hw : ∀ d ∈ tables_1, d.before a0 Z = true) : (Jvm.Cond.instanceMethod ({ cls := "java/lang/String", name := "<init>", desc := "([BB)V" } : Jvm.MethodName)).before a0 Z = true := hw _ (List.mem_of_getElem? (i := 116) rfl)
theorem w117 (hw : ∀ d ∈ tables_1, d.before a0 Z = true) : (Jvm.Cond.code ({ cls := "java/lang/String", name := "<init>", desc := "([BB)V" } : Jvm.MethodName) jdk_42_method_151_code (3 : Nat) (Option.none : Option Jvm.ClassFile.FieldType)).before a0 Z = true := hw _ (List.mem_of_getElem? (i := 117) rfl)
theorem w118 (hw : ∀ d ∈ tables_1, d.before a0 Z = true) : (Jvm.Cond.methodLink "org/portcullis/HttpSyntaxTrimPinLaw" (29 : Nat) ({ cls := "org/portcullis/HttpSyntaxTrimPinLaw", name := "sp", desc := "(C)Z" } : Jvm.MethodName)).before a0 Z = true := hw _ (List.mem_of_getElem? (i := 118) rfl)
theorem w119 (hw : ∀ d ∈ tables_1, d.before a0 Z = true) : (Jvm.Cond.static ({ cls := "org/portcullis/HttpSyntaxTrimPinLaw", name := "sp", desc := "(C)Z" } : Jvm.MethodName)).before a0 Z = true := hw _ (List.mem_of_getElem? (i := 119) rfl)
theorem w120 (hw : ∀ d ∈ tables_1, d.before a0 Z = true) : (Jvm.Cond.code ({ cls := "org/portcullis/HttpSyntaxTrimPinLaw", name := "sp", desc := "(C)Z" } : Jvm.MethodName) method_3_code (1 : Nat) (Option.some Jvm.ClassFile.FieldType.boolean)).before a0 Z = true := hw _ (List.mem_of_getElem? (i := 120) rfl)
theorem w121 (hw : ∀ d ∈ tables_1, d.before a0 Z = true) : (Jvm.Cond.methodLink "org/portcullis/HttpSyntaxTrimPinLaw" (37 : Nat) ({ cls := "java/lang/String", name := "charAt", desc := "(I)C" } : Jvm.MethodName)).before a0 Z = true := hw _ (List.mem_of_getElem? (i := 121) rfl)
theorem w122 (hw : ∀ d ∈ tables_1, d.before a0 Z = true) : (Jvm.Cond.stringLink "java/lang/StringLatin1" (151 : Nat) "").before a0 Z = true := hw _ (List.mem_of_getElem? (i := 122) rfl)
end Words
theorem d1_0 : decode method_2_code 0 = .ok (.iload_n 0, 1) := by decide +kernel
theorem d1_1 : decode method_2_code 1 = .ok (.iconst 3, 1) := by decide +kernel
theorem d1_2 : decode method_2_code 2 = .ok (.iand, 1) := by decide +kernel
theorem d1_3 : decode method_2_code 3 = .ok (.istore_n 1, 1) := by decide +kernel
theorem d1_4 : decode method_2_code 4 = .ok (.iload_n 1, 1) := by decide +kernel
theorem d1_5 : decode method_2_code 5 = .ok (.ifCond .ne 6, 3) := by decide +kernel
theorem d1_8 : decode method_2_code 8 = .ok (.bipush 32, 2) := by decide +kernel
theorem d1_10 : decode method_2_code 10 = .ok (.ireturn, 1) := by decide +kernel
theorem d1_11 : decode method_2_code 11 = .ok (.iload_n 1, 1) := by decide +kernel
theorem d1_12 : decode method_2_code 12 = .ok (.iconst 1, 1) := by decide +kernel
theorem d1_13 : decode method_2_code 13 = .ok (.if_icmp .ne 6, 3) := by decide +kernel
theorem d1_16 : decode method_2_code 16 = .ok (.bipush 9, 2) := by decide +kernel
theorem d1_18 : decode method_2_code 18 = .ok (.ireturn, 1) := by decide +kernel
theorem d1_19 : decode method_2_code 19 = .ok (.iload_n 0, 1) := by decide +kernel
theorem d1_20 : decode method_2_code 20 = .ok (.iconst 2, 1) := by decide +kernel
theorem d1_21 : decode method_2_code 21 = .ok (.iushr, 1) := by decide +kernel
theorem d1_22 : decode method_2_code 22 = .ok (.sipush 255, 3) := by decide +kernel
theorem d1_25 : decode method_2_code 25 = .ok (.iand, 1) := by decide +kernel
theorem d1_26 : decode method_2_code 26 = .ok (.i2c, 1) := by decide +kernel
theorem d1_27 : decode method_2_code 27 = .ok (.ireturn, 1) := by decide +kernel
theorem d2_0 : decode method_4_code 0 = .ok (.iload_n 0, 1) := by decide +kernel
theorem d2_1 : decode method_4_code 1 = .ok (.ifCond .ne 14, 3) := by decide +kernel
theorem d2_4 : decode method_4_code 4 = .ok (.new 7, 3) := by decide +kernel
theorem d2_7 : decode method_4_code 7 = .ok (.dup, 1) := by decide +kernel
theorem d2_8 : decode method_4_code 8 = .ok (.iconst 0, 1) := by decide +kernel
theorem d2_9 : decode method_4_code 9 = .ok (.newarray .char, 2) := by decide +kernel
theorem d2_11 : decode method_4_code 11 = .ok (.invokespecial 9, 3) := by decide +kernel
theorem d2_14 : decode method_4_code 14 = .ok (.areturn, 1) := by decide +kernel
theorem d2_15 : decode method_4_code 15 = .ok (.iload_n 0, 1) := by decide +kernel
theorem d2_16 : decode method_4_code 16 = .ok (.iconst 1, 1) := by decide +kernel
theorem d2_17 : decode method_4_code 17 = .ok (.if_icmp .ne 20, 3) := by decide +kernel
theorem d2_20 : decode method_4_code 20 = .ok (.new 7, 3) := by decide +kernel
theorem d2_23 : decode method_4_code 23 = .ok (.dup, 1) := by decide +kernel
theorem d2_24 : decode method_4_code 24 = .ok (.iconst 1, 1) := by decide +kernel
theorem d2_25 : decode method_4_code 25 = .ok (.newarray .char, 2) := by decide +kernel
theorem d2_27 : decode method_4_code 27 = .ok (.dup, 1) := by decide +kernel
theorem d2_28 : decode method_4_code 28 = .ok (.iconst 0, 1) := by decide +kernel
theorem d2_29 : decode method_4_code 29 = .ok (.aload_n 1, 1) := by decide +kernel
theorem d2_30 : decode method_4_code 30 = .ok (.iconst 0, 1) := by decide +kernel
theorem d2_31 : decode method_4_code 31 = .ok (.caload, 1) := by decide +kernel
theorem d2_32 : decode method_4_code 32 = .ok (.castore, 1) := by decide +kernel
theorem d2_33 : decode method_4_code 33 = .ok (.invokespecial 9, 3) := by decide +kernel
theorem d2_36 : decode method_4_code 36 = .ok (.areturn, 1) := by decide +kernel
theorem d2_37 : decode method_4_code 37 = .ok (.iload_n 0, 1) := by decide +kernel
theorem d2_38 : decode method_4_code 38 = .ok (.iconst 2, 1) := by decide +kernel
theorem d2_39 : decode method_4_code 39 = .ok (.if_icmp .ne 26, 3) := by decide +kernel
theorem d2_42 : decode method_4_code 42 = .ok (.new 7, 3) := by decide +kernel
theorem d2_45 : decode method_4_code 45 = .ok (.dup, 1) := by decide +kernel
theorem d2_46 : decode method_4_code 46 = .ok (.iconst 2, 1) := by decide +kernel
theorem d2_47 : decode method_4_code 47 = .ok (.newarray .char, 2) := by decide +kernel
theorem d2_49 : decode method_4_code 49 = .ok (.dup, 1) := by decide +kernel
theorem d2_50 : decode method_4_code 50 = .ok (.iconst 0, 1) := by decide +kernel
theorem d2_51 : decode method_4_code 51 = .ok (.aload_n 1, 1) := by decide +kernel
theorem d2_52 : decode method_4_code 52 = .ok (.iconst 0, 1) := by decide +kernel
theorem d2_53 : decode method_4_code 53 = .ok (.caload, 1) := by decide +kernel
theorem d2_54 : decode method_4_code 54 = .ok (.castore, 1) := by decide +kernel
theorem d2_55 : decode method_4_code 55 = .ok (.dup, 1) := by decide +kernel
theorem d2_56 : decode method_4_code 56 = .ok (.iconst 1, 1) := by decide +kernel
theorem d2_57 : decode method_4_code 57 = .ok (.aload_n 1, 1) := by decide +kernel
theorem d2_58 : decode method_4_code 58 = .ok (.iconst 1, 1) := by decide +kernel
theorem d2_59 : decode method_4_code 59 = .ok (.caload, 1) := by decide +kernel
theorem d2_60 : decode method_4_code 60 = .ok (.castore, 1) := by decide +kernel
theorem d2_61 : decode method_4_code 61 = .ok (.invokespecial 9, 3) := by decide +kernel
theorem d2_64 : decode method_4_code 64 = .ok (.areturn, 1) := by decide +kernel
theorem d2_65 : decode method_4_code 65 = .ok (.iload_n 0, 1) := by decide +kernel
theorem d2_66 : decode method_4_code 66 = .ok (.iconst 3, 1) := by decide +kernel
theorem d2_67 : decode method_4_code 67 = .ok (.if_icmp .ne 32, 3) := by decide +kernel
theorem d2_70 : decode method_4_code 70 = .ok (.new 7, 3) := by decide +kernel
theorem d2_73 : decode method_4_code 73 = .ok (.dup, 1) := by decide +kernel
theorem d2_74 : decode method_4_code 74 = .ok (.iconst 3, 1) := by decide +kernel
theorem d2_75 : decode method_4_code 75 = .ok (.newarray .char, 2) := by decide +kernel
theorem d2_77 : decode method_4_code 77 = .ok (.dup, 1) := by decide +kernel
theorem d2_78 : decode method_4_code 78 = .ok (.iconst 0, 1) := by decide +kernel
theorem d2_79 : decode method_4_code 79 = .ok (.aload_n 1, 1) := by decide +kernel
theorem d2_80 : decode method_4_code 80 = .ok (.iconst 0, 1) := by decide +kernel
theorem d2_81 : decode method_4_code 81 = .ok (.caload, 1) := by decide +kernel
theorem d2_82 : decode method_4_code 82 = .ok (.castore, 1) := by decide +kernel
theorem d2_83 : decode method_4_code 83 = .ok (.dup, 1) := by decide +kernel
theorem d2_84 : decode method_4_code 84 = .ok (.iconst 1, 1) := by decide +kernel
theorem d2_85 : decode method_4_code 85 = .ok (.aload_n 1, 1) := by decide +kernel
theorem d2_86 : decode method_4_code 86 = .ok (.iconst 1, 1) := by decide +kernel
theorem d2_87 : decode method_4_code 87 = .ok (.caload, 1) := by decide +kernel
theorem d2_88 : decode method_4_code 88 = .ok (.castore, 1) := by decide +kernel
theorem d2_89 : decode method_4_code 89 = .ok (.dup, 1) := by decide +kernel
theorem d2_90 : decode method_4_code 90 = .ok (.iconst 2, 1) := by decide +kernel
theorem d2_91 : decode method_4_code 91 = .ok (.aload_n 1, 1) := by decide +kernel
theorem d2_92 : decode method_4_code 92 = .ok (.iconst 2, 1) := by decide +kernel
theorem d2_93 : decode method_4_code 93 = .ok (.caload, 1) := by decide +kernel
theorem d2_94 : decode method_4_code 94 = .ok (.castore, 1) := by decide +kernel
theorem d2_95 : decode method_4_code 95 = .ok (.invokespecial 9, 3) := by decide +kernel
theorem d2_98 : decode method_4_code 98 = .ok (.areturn, 1) := by decide +kernel
theorem d2_99 : decode method_4_code 99 = .ok (.new 7, 3) := by decide +kernel
theorem d2_102 : decode method_4_code 102 = .ok (.dup, 1) := by decide +kernel
theorem d2_103 : decode method_4_code 103 = .ok (.iconst 4, 1) := by decide +kernel
theorem d2_104 : decode method_4_code 104 = .ok (.newarray .char, 2) := by decide +kernel
theorem d2_106 : decode method_4_code 106 = .ok (.dup, 1) := by decide +kernel
theorem d2_107 : decode method_4_code 107 = .ok (.iconst 0, 1) := by decide +kernel
theorem d2_108 : decode method_4_code 108 = .ok (.aload_n 1, 1) := by decide +kernel
theorem d2_109 : decode method_4_code 109 = .ok (.iconst 0, 1) := by decide +kernel
theorem d2_110 : decode method_4_code 110 = .ok (.caload, 1) := by decide +kernel
theorem d2_111 : decode method_4_code 111 = .ok (.castore, 1) := by decide +kernel
theorem d2_112 : decode method_4_code 112 = .ok (.dup, 1) := by decide +kernel
theorem d2_113 : decode method_4_code 113 = .ok (.iconst 1, 1) := by decide +kernel
theorem d2_114 : decode method_4_code 114 = .ok (.aload_n 1, 1) := by decide +kernel
theorem d2_115 : decode method_4_code 115 = .ok (.iconst 1, 1) := by decide +kernel
theorem d2_116 : decode method_4_code 116 = .ok (.caload, 1) := by decide +kernel
theorem d2_117 : decode method_4_code 117 = .ok (.castore, 1) := by decide +kernel
theorem d2_118 : decode method_4_code 118 = .ok (.dup, 1) := by decide +kernel
theorem d2_119 : decode method_4_code 119 = .ok (.iconst 2, 1) := by decide +kernel
theorem d2_120 : decode method_4_code 120 = .ok (.aload_n 1, 1) := by decide +kernel
theorem d2_121 : decode method_4_code 121 = .ok (.iconst 2, 1) := by decide +kernel
theorem d2_122 : decode method_4_code 122 = .ok (.caload, 1) := by decide +kernel
theorem d2_123 : decode method_4_code 123 = .ok (.castore, 1) := by decide +kernel
theorem d2_124 : decode method_4_code 124 = .ok (.dup, 1) := by decide +kernel
theorem d2_125 : decode method_4_code 125 = .ok (.iconst 3, 1) := by decide +kernel
theorem d2_126 : decode method_4_code 126 = .ok (.aload_n 1, 1) := by decide +kernel
theorem d2_127 : decode method_4_code 127 = .ok (.iconst 3, 1) := by decide +kernel
theorem d2_128 : decode method_4_code 128 = .ok (.caload, 1) := by decide +kernel
theorem d2_129 : decode method_4_code 129 = .ok (.castore, 1) := by decide +kernel
theorem d2_130 : decode method_4_code 130 = .ok (.invokespecial 9, 3) := by decide +kernel
theorem d2_133 : decode method_4_code 133 = .ok (.areturn, 1) := by decide +kernel
theorem d3_0 : decode jdk_42_method_3_code 0 = .ok (.aload_n 0, 1) := by decide +kernel
theorem d3_1 : decode jdk_42_method_3_code 1 = .ok (.aload_n 1, 1) := by decide +kernel
theorem d3_2 : decode jdk_42_method_3_code 2 = .ok (.iconst 0, 1) := by decide +kernel
theorem d3_3 : decode jdk_42_method_3_code 3 = .ok (.aload_n 1, 1) := by decide +kernel
theorem d3_4 : decode jdk_42_method_3_code 4 = .ok (.arraylength, 1) := by decide +kernel
theorem d3_5 : decode jdk_42_method_3_code 5 = .ok (.aconst_null, 1) := by decide +kernel
theorem d3_6 : decode jdk_42_method_3_code 6 = .ok (.invokespecial 27, 3) := by decide +kernel
theorem d3_9 : decode jdk_42_method_3_code 9 = .ok (.return_, 1) := by decide +kernel
theorem d4_0 : decode jdk_42_method_149_code 0 = .ok (.aload_n 0, 1) := by decide +kernel
theorem d4_1 : decode jdk_42_method_149_code 1 = .ok (.invokespecial 1, 3) := by decide +kernel
theorem d4_4 : decode jdk_42_method_149_code 4 = .ok (.iload_n 3, 1) := by decide +kernel
theorem d4_5 : decode jdk_42_method_149_code 5 = .ok (.ifCond .ne 22, 3) := by decide +kernel
theorem d4_8 : decode jdk_42_method_149_code 8 = .ok (.aload_n 0, 1) := by decide +kernel
theorem d4_9 : decode jdk_42_method_149_code 9 = .ok (.ldc 7, 2) := by decide +kernel
theorem d4_11 : decode jdk_42_method_149_code 11 = .ok (.getfield 9, 3) := by decide +kernel
theorem d4_14 : decode jdk_42_method_149_code 14 = .ok (.putfield 9, 3) := by decide +kernel
theorem d4_17 : decode jdk_42_method_149_code 17 = .ok (.aload_n 0, 1) := by decide +kernel
theorem d4_18 : decode jdk_42_method_149_code 18 = .ok (.ldc 7, 2) := by decide +kernel
theorem d4_20 : decode jdk_42_method_149_code 20 = .ok (.getfield 15, 3) := by decide +kernel
theorem d4_23 : decode jdk_42_method_149_code 23 = .ok (.putfield 15, 3) := by decide +kernel
theorem d4_26 : decode jdk_42_method_149_code 26 = .ok (.return_, 1) := by decide +kernel
theorem d4_27 : decode jdk_42_method_149_code 27 = .ok (.getstatic 38, 3) := by decide +kernel
theorem d4_30 : decode jdk_42_method_149_code 30 = .ok (.ifCond .eq 28, 3) := by decide +kernel
theorem d4_33 : decode jdk_42_method_149_code 33 = .ok (.aload_n 1, 1) := by decide +kernel
theorem d4_34 : decode jdk_42_method_149_code 34 = .ok (.iload_n 2, 1) := by decide +kernel
theorem d4_35 : decode jdk_42_method_149_code 35 = .ok (.iload_n 3, 1) := by decide +kernel
theorem d4_36 : decode jdk_42_method_149_code 36 = .ok (.invokestatic 177, 3) := by decide +kernel
theorem d4_39 : decode jdk_42_method_149_code 39 = .ok (.astore 5, 2) := by decide +kernel
theorem d4_41 : decode jdk_42_method_149_code 41 = .ok (.aload_n 0, 1) := by decide +kernel
theorem d4_42 : decode jdk_42_method_149_code 42 = .ok (.aload 5, 2) := by decide +kernel
theorem d4_44 : decode jdk_42_method_149_code 44 = .ok (.iload_n 3, 1) := by decide +kernel
theorem d4_45 : decode jdk_42_method_149_code 45 = .ok (.invokestatic 47, 3) := by decide +kernel
theorem d4_48 : decode jdk_42_method_149_code 48 = .ok (.putfield 15, 3) := by decide +kernel
theorem d4_51 : decode jdk_42_method_149_code 51 = .ok (.aload_n 0, 1) := by decide +kernel
theorem d4_52 : decode jdk_42_method_149_code 52 = .ok (.aload 5, 2) := by decide +kernel
theorem d4_54 : decode jdk_42_method_149_code 54 = .ok (.putfield 9, 3) := by decide +kernel
theorem d4_57 : decode jdk_42_method_149_code 57 = .ok (.return_, 1) := by decide +kernel
theorem d6_0 : decode prog_24_method_5_code 0 = .ok (.iconst 0, 1) := by decide +kernel
theorem d6_1 : decode prog_24_method_5_code 1 = .ok (.istore_n 1, 1) := by decide +kernel
theorem d6_2 : decode prog_24_method_5_code 2 = .ok (.aload_n 0, 1) := by decide +kernel
theorem d6_3 : decode prog_24_method_5_code 3 = .ok (.invokevirtual 13, 3) := by decide +kernel
theorem d6_6 : decode prog_24_method_5_code 6 = .ok (.istore_n 2, 1) := by decide +kernel
theorem d6_7 : decode prog_24_method_5_code 7 = .ok (.iload_n 1, 1) := by decide +kernel
theorem d6_8 : decode prog_24_method_5_code 8 = .ok (.iload_n 2, 1) := by decide +kernel
theorem d6_9 : decode prog_24_method_5_code 9 = .ok (.if_icmp .ge 20, 3) := by decide +kernel
theorem d6_12 : decode prog_24_method_5_code 12 = .ok (.aload_n 0, 1) := by decide +kernel
theorem d6_13 : decode prog_24_method_5_code 13 = .ok (.iload_n 1, 1) := by decide +kernel
theorem d6_14 : decode prog_24_method_5_code 14 = .ok (.invokevirtual 17, 3) := by decide +kernel
theorem d6_17 : decode prog_24_method_5_code 17 = .ok (.invokestatic 71, 3) := by decide +kernel
theorem d6_20 : decode prog_24_method_5_code 20 = .ok (.ifCond .eq 9, 3) := by decide +kernel
theorem d6_23 : decode prog_24_method_5_code 23 = .ok (.iinc 1 1, 3) := by decide +kernel
theorem d6_26 : decode prog_24_method_5_code 26 = .ok (.goto (-19), 3) := by decide +kernel
theorem d6_29 : decode prog_24_method_5_code 29 = .ok (.iload_n 2, 1) := by decide +kernel
theorem d6_30 : decode prog_24_method_5_code 30 = .ok (.iload_n 1, 1) := by decide +kernel
theorem d6_31 : decode prog_24_method_5_code 31 = .ok (.if_icmp .le 22, 3) := by decide +kernel
theorem d6_34 : decode prog_24_method_5_code 34 = .ok (.aload_n 0, 1) := by decide +kernel
theorem d6_35 : decode prog_24_method_5_code 35 = .ok (.iload_n 2, 1) := by decide +kernel
theorem d6_36 : decode prog_24_method_5_code 36 = .ok (.iconst 1, 1) := by decide +kernel
theorem d6_37 : decode prog_24_method_5_code 37 = .ok (.isub, 1) := by decide +kernel
theorem d6_38 : decode prog_24_method_5_code 38 = .ok (.invokevirtual 17, 3) := by decide +kernel
theorem d6_41 : decode prog_24_method_5_code 41 = .ok (.invokestatic 71, 3) := by decide +kernel
theorem d6_44 : decode prog_24_method_5_code 44 = .ok (.ifCond .eq 9, 3) := by decide +kernel
theorem d6_47 : decode prog_24_method_5_code 47 = .ok (.iinc 2 (-1), 3) := by decide +kernel
theorem d6_50 : decode prog_24_method_5_code 50 = .ok (.goto (-21), 3) := by decide +kernel
theorem d6_53 : decode prog_24_method_5_code 53 = .ok (.aload_n 0, 1) := by decide +kernel
theorem d6_54 : decode prog_24_method_5_code 54 = .ok (.iload_n 1, 1) := by decide +kernel
theorem d6_55 : decode prog_24_method_5_code 55 = .ok (.iload_n 2, 1) := by decide +kernel
theorem d6_56 : decode prog_24_method_5_code 56 = .ok (.invokevirtual 75, 3) := by decide +kernel
theorem d6_59 : decode prog_24_method_5_code 59 = .ok (.areturn, 1) := by decide +kernel
theorem d7_0 : decode jdk_42_method_54_code 0 = .ok (.aload_n 0, 1) := by decide +kernel
theorem d7_1 : decode jdk_42_method_54_code 1 = .ok (.getfield 9, 3) := by decide +kernel
theorem d7_4 : decode jdk_42_method_54_code 4 = .ok (.arraylength, 1) := by decide +kernel
theorem d7_5 : decode jdk_42_method_54_code 5 = .ok (.aload_n 0, 1) := by decide +kernel
theorem d7_6 : decode jdk_42_method_54_code 6 = .ok (.invokevirtual 335, 3) := by decide +kernel
theorem d7_9 : decode jdk_42_method_54_code 9 = .ok (.ishr, 1) := by decide +kernel
theorem d7_10 : decode jdk_42_method_54_code 10 = .ok (.ireturn, 1) := by decide +kernel
theorem d8_0 : decode jdk_42_method_152_code 0 = .ok (.getstatic 38, 3) := by decide +kernel
theorem d8_3 : decode jdk_42_method_152_code 3 = .ok (.ifCond .eq 10, 3) := by decide +kernel
theorem d8_6 : decode jdk_42_method_152_code 6 = .ok (.aload_n 0, 1) := by decide +kernel
theorem d8_7 : decode jdk_42_method_152_code 7 = .ok (.getfield 15, 3) := by decide +kernel
theorem d8_10 : decode jdk_42_method_152_code 10 = .ok (.goto 4, 3) := by decide +kernel
theorem d8_14 : decode jdk_42_method_152_code 14 = .ok (.ireturn, 1) := by decide +kernel
theorem d9_0 : decode jdk_42_method_92_code 0 = .ok (.aload_n 0, 1) := by decide +kernel
theorem d9_1 : decode jdk_42_method_92_code 1 = .ok (.invokevirtual 505, 3) := by decide +kernel
theorem d9_4 : decode jdk_42_method_92_code 4 = .ok (.istore_n 3, 1) := by decide +kernel
theorem d9_5 : decode jdk_42_method_92_code 5 = .ok (.iload_n 1, 1) := by decide +kernel
theorem d9_6 : decode jdk_42_method_92_code 6 = .ok (.iload_n 2, 1) := by decide +kernel
theorem d9_7 : decode jdk_42_method_92_code 7 = .ok (.iload_n 3, 1) := by decide +kernel
theorem d9_8 : decode jdk_42_method_92_code 8 = .ok (.invokestatic 521, 3) := by decide +kernel
theorem d9_11 : decode jdk_42_method_92_code 11 = .ok (.iload_n 1, 1) := by decide +kernel
theorem d9_12 : decode jdk_42_method_92_code 12 = .ok (.ifCond .ne 10, 3) := by decide +kernel
theorem d9_15 : decode jdk_42_method_92_code 15 = .ok (.iload_n 2, 1) := by decide +kernel
theorem d9_16 : decode jdk_42_method_92_code 16 = .ok (.iload_n 3, 1) := by decide +kernel
theorem d9_17 : decode jdk_42_method_92_code 17 = .ok (.if_icmp .ne 5, 3) := by decide +kernel
theorem d9_20 : decode jdk_42_method_92_code 20 = .ok (.aload_n 0, 1) := by decide +kernel
theorem d9_21 : decode jdk_42_method_92_code 21 = .ok (.areturn, 1) := by decide +kernel
theorem d9_22 : decode jdk_42_method_92_code 22 = .ok (.iload_n 2, 1) := by decide +kernel
theorem d9_23 : decode jdk_42_method_92_code 23 = .ok (.iload_n 1, 1) := by decide +kernel
theorem d9_24 : decode jdk_42_method_92_code 24 = .ok (.isub, 1) := by decide +kernel
theorem d9_25 : decode jdk_42_method_92_code 25 = .ok (.istore 4, 2) := by decide +kernel
theorem d9_27 : decode jdk_42_method_92_code 27 = .ok (.aload_n 0, 1) := by decide +kernel
theorem d9_28 : decode jdk_42_method_92_code 28 = .ok (.invokevirtual 492, 3) := by decide +kernel
theorem d9_31 : decode jdk_42_method_92_code 31 = .ok (.ifCond .eq 16, 3) := by decide +kernel
theorem d9_34 : decode jdk_42_method_92_code 34 = .ok (.aload_n 0, 1) := by decide +kernel
theorem d9_35 : decode jdk_42_method_92_code 35 = .ok (.getfield 9, 3) := by decide +kernel
theorem d9_38 : decode jdk_42_method_92_code 38 = .ok (.iload_n 1, 1) := by decide +kernel
theorem d9_39 : decode jdk_42_method_92_code 39 = .ok (.iload 4, 2) := by decide +kernel
theorem d9_41 : decode jdk_42_method_92_code 41 = .ok (.invokestatic 685, 3) := by decide +kernel
theorem d9_44 : decode jdk_42_method_92_code 44 = .ok (.goto 13, 3) := by decide +kernel
theorem d9_57 : decode jdk_42_method_92_code 57 = .ok (.areturn, 1) := by decide +kernel
theorem d10_0 : decode jdk_42_method_158_code 0 = .ok (.iload_n 0, 1) := by decide +kernel
theorem d10_1 : decode jdk_42_method_158_code 1 = .ok (.iload_n 1, 1) := by decide +kernel
theorem d10_2 : decode jdk_42_method_158_code 2 = .ok (.iload_n 2, 1) := by decide +kernel
theorem d10_3 : decode jdk_42_method_158_code 3 = .ok (.getstatic 1053, 3) := by decide +kernel
theorem d10_6 : decode jdk_42_method_158_code 6 = .ok (.invokestatic 1062, 3) := by decide +kernel
theorem d10_9 : decode jdk_42_method_158_code 9 = .ok (.pop, 1) := by decide +kernel
theorem d10_10 : decode jdk_42_method_158_code 10 = .ok (.return_, 1) := by decide +kernel
theorem d11_0 : decode jdk_41_method_12_code 0 = .ok (.iload_n 0, 1) := by decide +kernel
theorem d11_1 : decode jdk_41_method_12_code 1 = .ok (.ifCond .lt 13, 3) := by decide +kernel
theorem d11_4 : decode jdk_41_method_12_code 4 = .ok (.iload_n 0, 1) := by decide +kernel
theorem d11_5 : decode jdk_41_method_12_code 5 = .ok (.iload_n 1, 1) := by decide +kernel
theorem d11_6 : decode jdk_41_method_12_code 6 = .ok (.if_icmp .gt 8, 3) := by decide +kernel
theorem d11_9 : decode jdk_41_method_12_code 9 = .ok (.iload_n 1, 1) := by decide +kernel
theorem d11_10 : decode jdk_41_method_12_code 10 = .ok (.iload_n 2, 1) := by decide +kernel
theorem d11_11 : decode jdk_41_method_12_code 11 = .ok (.if_icmp .le 11, 3) := by decide +kernel
theorem d11_22 : decode jdk_41_method_12_code 22 = .ok (.iload_n 0, 1) := by decide +kernel
theorem d11_23 : decode jdk_41_method_12_code 23 = .ok (.ireturn, 1) := by decide +kernel
theorem d12_0 : decode jdk_52_method_16_code 0 = .ok (.iload_n 2, 1) := by decide +kernel
theorem d12_1 : decode jdk_52_method_16_code 1 = .ok (.newarray .byte, 2) := by decide +kernel
theorem d12_3 : decode jdk_52_method_16_code 3 = .ok (.astore_n 3, 1) := by decide +kernel
theorem d12_4 : decode jdk_52_method_16_code 4 = .ok (.aload_n 0, 1) := by decide +kernel
theorem d12_5 : decode jdk_52_method_16_code 5 = .ok (.iload_n 1, 1) := by decide +kernel
theorem d12_6 : decode jdk_52_method_16_code 6 = .ok (.aload_n 3, 1) := by decide +kernel
theorem d12_7 : decode jdk_52_method_16_code 7 = .ok (.iconst 0, 1) := by decide +kernel
theorem d12_8 : decode jdk_52_method_16_code 8 = .ok (.iload_n 2, 1) := by decide +kernel
theorem d12_9 : decode jdk_52_method_16_code 9 = .ok (.invokestatic 115, 3) := by decide +kernel
theorem d12_12 : decode jdk_52_method_16_code 12 = .ok (.istore 4, 2) := by decide +kernel
theorem d12_14 : decode jdk_52_method_16_code 14 = .ok (.iload 4, 2) := by decide +kernel
theorem d12_16 : decode jdk_52_method_16_code 16 = .ok (.iload_n 2, 1) := by decide +kernel
theorem d12_17 : decode jdk_52_method_16_code 17 = .ok (.if_icmp .eq 40, 3) := by decide +kernel
theorem d12_57 : decode jdk_52_method_16_code 57 = .ok (.aload_n 3, 1) := by decide +kernel
theorem d12_58 : decode jdk_52_method_16_code 58 = .ok (.areturn, 1) := by decide +kernel
theorem d13_0 : decode jdk_52_method_21_code 0 = .ok (.iconst 0, 1) := by decide +kernel
theorem d13_1 : decode jdk_52_method_21_code 1 = .ok (.istore 5, 2) := by decide +kernel
theorem d13_3 : decode jdk_52_method_21_code 3 = .ok (.iload 5, 2) := by decide +kernel
theorem d13_5 : decode jdk_52_method_21_code 5 = .ok (.iload 4, 2) := by decide +kernel
theorem d13_7 : decode jdk_52_method_21_code 7 = .ok (.if_icmp .ge 37, 3) := by decide +kernel
theorem d13_10 : decode jdk_52_method_21_code 10 = .ok (.aload_n 0, 1) := by decide +kernel
theorem d13_11 : decode jdk_52_method_21_code 11 = .ok (.iload_n 1, 1) := by decide +kernel
theorem d13_12 : decode jdk_52_method_21_code 12 = .ok (.caload, 1) := by decide +kernel
theorem d13_13 : decode jdk_52_method_21_code 13 = .ok (.istore 6, 2) := by decide +kernel
theorem d13_15 : decode jdk_52_method_21_code 15 = .ok (.iload 6, 2) := by decide +kernel
theorem d13_17 : decode jdk_52_method_21_code 17 = .ok (.sipush 255, 3) := by decide +kernel
theorem d13_20 : decode jdk_52_method_21_code 20 = .ok (.if_icmp .le 6, 3) := by decide +kernel
theorem d13_26 : decode jdk_52_method_21_code 26 = .ok (.aload_n 2, 1) := by decide +kernel
theorem d13_27 : decode jdk_52_method_21_code 27 = .ok (.iload_n 3, 1) := by decide +kernel
theorem d13_28 : decode jdk_52_method_21_code 28 = .ok (.iload 6, 2) := by decide +kernel
theorem d13_30 : decode jdk_52_method_21_code 30 = .ok (.i2b, 1) := by decide +kernel
theorem d13_31 : decode jdk_52_method_21_code 31 = .ok (.bastore, 1) := by decide +kernel
theorem d13_32 : decode jdk_52_method_21_code 32 = .ok (.iinc 1 1, 3) := by decide +kernel
theorem d13_35 : decode jdk_52_method_21_code 35 = .ok (.iinc 3 1, 3) := by decide +kernel
theorem d13_38 : decode jdk_52_method_21_code 38 = .ok (.iinc 5 1, 3) := by decide +kernel
theorem d13_41 : decode jdk_52_method_21_code 41 = .ok (.goto (-38), 3) := by decide +kernel
theorem d13_44 : decode jdk_52_method_21_code 44 = .ok (.iload 4, 2) := by decide +kernel
theorem d13_46 : decode jdk_52_method_21_code 46 = .ok (.ireturn, 1) := by decide +kernel
theorem d14_0 : decode jdk_52_method_15_code 0 = .ok (.iload_n 1, 1) := by decide +kernel
theorem d14_1 : decode jdk_52_method_15_code 1 = .ok (.aload_n 0, 1) := by decide +kernel
theorem d14_2 : decode jdk_52_method_15_code 2 = .ok (.arraylength, 1) := by decide +kernel
theorem d14_3 : decode jdk_52_method_15_code 3 = .ok (.isub, 1) := by decide +kernel
theorem d14_4 : decode jdk_52_method_15_code 4 = .ok (.bipush 31, 2) := by decide +kernel
theorem d14_6 : decode jdk_52_method_15_code 6 = .ok (.iushr, 1) := by decide +kernel
theorem d14_7 : decode jdk_52_method_15_code 7 = .ok (.i2b, 1) := by decide +kernel
theorem d14_8 : decode jdk_52_method_15_code 8 = .ok (.ireturn, 1) := by decide +kernel
theorem d15_0 : decode jdk_42_method_56_code 0 = .ok (.aload_n 0, 1) := by decide +kernel
theorem d15_1 : decode jdk_42_method_56_code 1 = .ok (.invokevirtual 492, 3) := by decide +kernel
theorem d15_4 : decode jdk_42_method_56_code 4 = .ok (.ifCond .eq 12, 3) := by decide +kernel
theorem d15_7 : decode jdk_42_method_56_code 7 = .ok (.aload_n 0, 1) := by decide +kernel
theorem d15_8 : decode jdk_42_method_56_code 8 = .ok (.getfield 9, 3) := by decide +kernel
theorem d15_11 : decode jdk_42_method_56_code 11 = .ok (.iload_n 1, 1) := by decide +kernel
theorem d15_12 : decode jdk_42_method_56_code 12 = .ok (.invokestatic 495, 3) := by decide +kernel
theorem d15_15 : decode jdk_42_method_56_code 15 = .ok (.ireturn, 1) := by decide +kernel
theorem d16_0 : decode jdk_42_method_154_code 0 = .ok (.getstatic 38, 3) := by decide +kernel
theorem d16_3 : decode jdk_42_method_154_code 3 = .ok (.ifCond .eq 14, 3) := by decide +kernel
theorem d16_6 : decode jdk_42_method_154_code 6 = .ok (.aload_n 0, 1) := by decide +kernel
theorem d16_7 : decode jdk_42_method_154_code 7 = .ok (.getfield 15, 3) := by decide +kernel
theorem d16_10 : decode jdk_42_method_154_code 10 = .ok (.ifCond .ne 7, 3) := by decide +kernel
theorem d16_13 : decode jdk_42_method_154_code 13 = .ok (.iconst 1, 1) := by decide +kernel
theorem d16_14 : decode jdk_42_method_154_code 14 = .ok (.goto 4, 3) := by decide +kernel
theorem d16_18 : decode jdk_42_method_154_code 18 = .ok (.ireturn, 1) := by decide +kernel
theorem d17_0 : decode jdk_43_method_2_code 0 = .ok (.iload_n 1, 1) := by decide +kernel
theorem d17_1 : decode jdk_43_method_2_code 1 = .ok (.aload_n 0, 1) := by decide +kernel
theorem d17_2 : decode jdk_43_method_2_code 2 = .ok (.arraylength, 1) := by decide +kernel
theorem d17_3 : decode jdk_43_method_2_code 3 = .ok (.invokestatic 9, 3) := by decide +kernel
theorem d17_6 : decode jdk_43_method_2_code 6 = .ok (.aload_n 0, 1) := by decide +kernel
theorem d17_7 : decode jdk_43_method_2_code 7 = .ok (.iload_n 1, 1) := by decide +kernel
theorem d17_8 : decode jdk_43_method_2_code 8 = .ok (.baload, 1) := by decide +kernel
theorem d17_9 : decode jdk_43_method_2_code 9 = .ok (.sipush 255, 3) := by decide +kernel
theorem d17_12 : decode jdk_43_method_2_code 12 = .ok (.iand, 1) := by decide +kernel
theorem d17_13 : decode jdk_43_method_2_code 13 = .ok (.i2c, 1) := by decide +kernel
theorem d17_14 : decode jdk_43_method_2_code 14 = .ok (.ireturn, 1) := by decide +kernel
theorem d18_0 : decode jdk_42_method_155_code 0 = .ok (.iload_n 0, 1) := by decide +kernel
theorem d18_1 : decode jdk_42_method_155_code 1 = .ok (.iload_n 1, 1) := by decide +kernel
theorem d18_2 : decode jdk_42_method_155_code 2 = .ok (.getstatic 1053, 3) := by decide +kernel
theorem d18_5 : decode jdk_42_method_155_code 5 = .ok (.invokestatic 1059, 3) := by decide +kernel
theorem d18_8 : decode jdk_42_method_155_code 8 = .ok (.pop, 1) := by decide +kernel
theorem d18_9 : decode jdk_42_method_155_code 9 = .ok (.return_, 1) := by decide +kernel
theorem d19_0 : decode jdk_41_method_11_code 0 = .ok (.iload_n 0, 1) := by decide +kernel
theorem d19_1 : decode jdk_41_method_11_code 1 = .ok (.ifCond .lt 8, 3) := by decide +kernel
theorem d19_4 : decode jdk_41_method_11_code 4 = .ok (.iload_n 0, 1) := by decide +kernel
theorem d19_5 : decode jdk_41_method_11_code 5 = .ok (.iload_n 1, 1) := by decide +kernel
theorem d19_6 : decode jdk_41_method_11_code 6 = .ok (.if_icmp .lt 10, 3) := by decide +kernel
theorem d19_16 : decode jdk_41_method_11_code 16 = .ok (.iload_n 0, 1) := by decide +kernel
theorem d19_17 : decode jdk_41_method_11_code 17 = .ok (.ireturn, 1) := by decide +kernel
theorem d20_0 : decode prog_24_method_6_code 0 = .ok (.iload_n 0, 1) := by decide +kernel
theorem d20_1 : decode prog_24_method_6_code 1 = .ok (.bipush 32, 2) := by decide +kernel
theorem d20_3 : decode prog_24_method_6_code 3 = .ok (.if_icmp .eq 9, 3) := by decide +kernel
theorem d20_6 : decode prog_24_method_6_code 6 = .ok (.iload_n 0, 1) := by decide +kernel
theorem d20_7 : decode prog_24_method_6_code 7 = .ok (.bipush 9, 2) := by decide +kernel
theorem d20_9 : decode prog_24_method_6_code 9 = .ok (.if_icmp .ne 7, 3) := by decide +kernel
theorem d20_12 : decode prog_24_method_6_code 12 = .ok (.iconst 1, 1) := by decide +kernel
theorem d20_13 : decode prog_24_method_6_code 13 = .ok (.goto 4, 3) := by decide +kernel
theorem d20_16 : decode prog_24_method_6_code 16 = .ok (.iconst 0, 1) := by decide +kernel
theorem d20_17 : decode prog_24_method_6_code 17 = .ok (.ireturn, 1) := by decide +kernel
theorem d21_0 : decode jdk_43_method_47_code 0 = .ok (.iload_n 2, 1) := by decide +kernel
theorem d21_1 : decode jdk_43_method_47_code 1 = .ok (.ifCond .ne 6, 3) := by decide +kernel
theorem d21_4 : decode jdk_43_method_47_code 4 = .ok (.ldc 151, 2) := by decide +kernel
theorem d21_6 : decode jdk_43_method_47_code 6 = .ok (.areturn, 1) := by decide +kernel
theorem d21_7 : decode jdk_43_method_47_code 7 = .ok (.new 1, 3) := by decide +kernel
theorem d21_10 : decode jdk_43_method_47_code 10 = .ok (.dup, 1) := by decide +kernel
theorem d21_11 : decode jdk_43_method_47_code 11 = .ok (.aload_n 0, 1) := by decide +kernel
theorem d21_12 : decode jdk_43_method_47_code 12 = .ok (.iload_n 1, 1) := by decide +kernel
theorem d21_13 : decode jdk_43_method_47_code 13 = .ok (.iload_n 1, 1) := by decide +kernel
theorem d21_14 : decode jdk_43_method_47_code 14 = .ok (.iload_n 2, 1) := by decide +kernel
theorem d21_15 : decode jdk_43_method_47_code 15 = .ok (.iadd, 1) := by decide +kernel
theorem d21_16 : decode jdk_43_method_47_code 16 = .ok (.invokestatic 232, 3) := by decide +kernel
theorem d21_19 : decode jdk_43_method_47_code 19 = .ok (.iconst 0, 1) := by decide +kernel
theorem d21_20 : decode jdk_43_method_47_code 20 = .ok (.invokespecial 112, 3) := by decide +kernel
theorem d21_23 : decode jdk_43_method_47_code 23 = .ok (.areturn, 1) := by decide +kernel
theorem d22_0 : decode jdk_65_method_132_code 0 = .ok (.iload_n 1, 1) := by decide +kernel
theorem d22_1 : decode jdk_65_method_132_code 1 = .ok (.ifCond .ne 9, 3) := by decide +kernel
theorem d22_4 : decode jdk_65_method_132_code 4 = .ok (.iload_n 2, 1) := by decide +kernel
theorem d22_5 : decode jdk_65_method_132_code 5 = .ok (.aload_n 0, 1) := by decide +kernel
theorem d22_6 : decode jdk_65_method_132_code 6 = .ok (.arraylength, 1) := by decide +kernel
theorem d22_7 : decode jdk_65_method_132_code 7 = .ok (.if_icmp .eq 10, 3) := by decide +kernel
theorem d22_10 : decode jdk_65_method_132_code 10 = .ok (.aload_n 0, 1) := by decide +kernel
theorem d22_11 : decode jdk_65_method_132_code 11 = .ok (.iload_n 1, 1) := by decide +kernel
theorem d22_12 : decode jdk_65_method_132_code 12 = .ok (.iload_n 2, 1) := by decide +kernel
theorem d22_13 : decode jdk_65_method_132_code 13 = .ok (.invokestatic 339, 3) := by decide +kernel
theorem d22_16 : decode jdk_65_method_132_code 16 = .ok (.areturn, 1) := by decide +kernel
theorem d23_0 : decode jdk_65_method_133_code 0 = .ok (.iload_n 1, 1) := by decide +kernel
theorem d23_1 : decode jdk_65_method_133_code 1 = .ok (.iload_n 2, 1) := by decide +kernel
theorem d23_2 : decode jdk_65_method_133_code 2 = .ok (.invokestatic 343, 3) := by decide +kernel
theorem d23_5 : decode jdk_65_method_133_code 5 = .ok (.iload_n 2, 1) := by decide +kernel
theorem d23_6 : decode jdk_65_method_133_code 6 = .ok (.iload_n 1, 1) := by decide +kernel
theorem d23_7 : decode jdk_65_method_133_code 7 = .ok (.isub, 1) := by decide +kernel
theorem d23_8 : decode jdk_65_method_133_code 8 = .ok (.istore_n 3, 1) := by decide +kernel
theorem d23_9 : decode jdk_65_method_133_code 9 = .ok (.iload_n 3, 1) := by decide +kernel
theorem d23_10 : decode jdk_65_method_133_code 10 = .ok (.newarray .byte, 2) := by decide +kernel
theorem d23_12 : decode jdk_65_method_133_code 12 = .ok (.astore 4, 2) := by decide +kernel
theorem d23_14 : decode jdk_65_method_133_code 14 = .ok (.aload_n 0, 1) := by decide +kernel
theorem d23_15 : decode jdk_65_method_133_code 15 = .ok (.iload_n 1, 1) := by decide +kernel
theorem d23_16 : decode jdk_65_method_133_code 16 = .ok (.aload 4, 2) := by decide +kernel
theorem d23_18 : decode jdk_65_method_133_code 18 = .ok (.iconst 0, 1) := by decide +kernel
theorem d23_19 : decode jdk_65_method_133_code 19 = .ok (.aload_n 0, 1) := by decide +kernel
theorem d23_20 : decode jdk_65_method_133_code 20 = .ok (.arraylength, 1) := by decide +kernel
theorem d23_21 : decode jdk_65_method_133_code 21 = .ok (.iload_n 1, 1) := by decide +kernel
theorem d23_22 : decode jdk_65_method_133_code 22 = .ok (.isub, 1) := by decide +kernel
theorem d23_23 : decode jdk_65_method_133_code 23 = .ok (.iload_n 3, 1) := by decide +kernel
theorem d23_24 : decode jdk_65_method_133_code 24 = .ok (.invokestatic 304, 3) := by decide +kernel
theorem d23_27 : decode jdk_65_method_133_code 27 = .ok (.invokestatic 150, 3) := by decide +kernel
theorem d23_30 : decode jdk_65_method_133_code 30 = .ok (.aload 4, 2) := by decide +kernel
theorem d23_32 : decode jdk_65_method_133_code 32 = .ok (.areturn, 1) := by decide +kernel
theorem d24_0 : decode jdk_65_method_131_code 0 = .ok (.iload_n 1, 1) := by decide +kernel
theorem d24_1 : decode jdk_65_method_131_code 1 = .ok (.iload_n 0, 1) := by decide +kernel
theorem d24_2 : decode jdk_65_method_131_code 2 = .ok (.if_icmp .ge 35, 3) := by decide +kernel
theorem d24_37 : decode jdk_65_method_131_code 37 = .ok (.return_, 1) := by decide +kernel
theorem d25_0 : decode jdk_29_method_69_code 0 = .ok (.iload_n 0, 1) := by decide +kernel
theorem d25_1 : decode jdk_29_method_69_code 1 = .ok (.iload_n 1, 1) := by decide +kernel
theorem d25_2 : decode jdk_29_method_69_code 2 = .ok (.if_icmp .gt 7, 3) := by decide +kernel
theorem d25_5 : decode jdk_29_method_69_code 5 = .ok (.iload_n 0, 1) := by decide +kernel
theorem d25_6 : decode jdk_29_method_69_code 6 = .ok (.goto 4, 3) := by decide +kernel
theorem d25_9 : decode jdk_29_method_69_code 9 = .ok (.iload_n 1, 1) := by decide +kernel
theorem d25_10 : decode jdk_29_method_69_code 10 = .ok (.ireturn, 1) := by decide +kernel
theorem d26_0 : decode jdk_42_method_151_code 0 = .ok (.aload_n 0, 1) := by decide +kernel
theorem d26_1 : decode jdk_42_method_151_code 1 = .ok (.invokespecial 1, 3) := by decide +kernel
theorem d26_4 : decode jdk_42_method_151_code 4 = .ok (.aload_n 0, 1) := by decide +kernel
theorem d26_5 : decode jdk_42_method_151_code 5 = .ok (.aload_n 1, 1) := by decide +kernel
theorem d26_6 : decode jdk_42_method_151_code 6 = .ok (.putfield 9, 3) := by decide +kernel
theorem d26_9 : decode jdk_42_method_151_code 9 = .ok (.aload_n 0, 1) := by decide +kernel
theorem d26_10 : decode jdk_42_method_151_code 10 = .ok (.iload_n 2, 1) := by decide +kernel
theorem d26_11 : decode jdk_42_method_151_code 11 = .ok (.putfield 15, 3) := by decide +kernel
theorem d26_14 : decode jdk_42_method_151_code 14 = .ok (.return_, 1) := by decide +kernel
theorem d27_0 : decode method_3_code 0 = .ok (.iload_n 0, 1) := by decide +kernel
theorem d27_1 : decode method_3_code 1 = .ok (.bipush 32, 2) := by decide +kernel
theorem d27_3 : decode method_3_code 3 = .ok (.if_icmp .eq 9, 3) := by decide +kernel
theorem d27_6 : decode method_3_code 6 = .ok (.iload_n 0, 1) := by decide +kernel
theorem d27_7 : decode method_3_code 7 = .ok (.bipush 9, 2) := by decide +kernel
theorem d27_9 : decode method_3_code 9 = .ok (.if_icmp .ne 7, 3) := by decide +kernel
theorem d27_12 : decode method_3_code 12 = .ok (.iconst 1, 1) := by decide +kernel
theorem d27_13 : decode method_3_code 13 = .ok (.goto 4, 3) := by decide +kernel
theorem d27_16 : decode method_3_code 16 = .ok (.iconst 0, 1) := by decide +kernel
theorem d27_17 : decode method_3_code 17 = .ok (.ireturn, 1) := by decide +kernel
theorem pn_2 : plainName "org/portcullis/HttpSyntaxTrimPinLaw" = true := by first | (simp [plainName, overriddenIn]; done) | decide +kernel
theorem pn_3 : plainName "org/portcullis/HttpSyntax" = true := by first | (simp [plainName, overriddenIn]; done) | decide +kernel
/-! new String(char[]), all chars below 256: the JDK's bodies walked -/
section StrInit
variable {l : Launch} {Z : State} {a0 : Array Value}
theorem own_hEL (hw : ∀ d ∈ tables_1, d.before a0 Z = true) : EW Z a0 consts_1 := (EW.cons (w22 hw) (by decide) (EW.cons (w122 hw) (by decide) EW.nil))
theorem own_wS (hw : ∀ d ∈ tables_1, d.before a0 Z = true) : ∀ a ∈ Bundle.stringAtoms, a.before a0 Z = true := by
  intro a ha
  simp only [Bundle.stringAtoms, List.mem_cons, List.not_mem_nil, or_false] at ha
  rcases ha with rfl | rfl | rfl | rfl | rfl | rfl | rfl
  · exact (w11 hw)
  · exact (w10 hw)
  · exact (w23 hw)
  · exact (w24 hw)
  · exact (w25 hw)
  · exact (w26 hw)
  · exact (w27 hw)
theorem pn_utf16 : plainName "java/lang/StringUTF16" = true := by first | (simp [plainName, overriddenIn]; done) | decide +kernel
theorem pf_str (n d : String) (q : plainFor ⟨"java/lang/String", n, d⟩ = true) : plainFor ⟨"java/lang/String", n, d⟩ = true := q
abbrev rm0 : Room := { frames := 0, cells := 0, slots := 0, locals := 0 }
theorem coderLen_met (hw : ∀ d ∈ tables_1, d.before a0 Z = true) {h : Heap} {b : Addr} {kb : ClassId} {z zz : Int32} {vs : List Value} {dv : Value} (F : Arv Z h b kb .byte z vs dv) :
    Met l Z consts_1 ⟨"java/lang/StringUTF16", "coderFromArrayLen", "([BI)B"⟩ jdk_52_method_15_code 2 (some .byte) [] rm0 #[.ref b, .int zz] h [] (fun v h' => v = some (.int (((zz - z).toUInt32 >>> ((31 : Int32) &&& 31).toUInt32).toInt32.toInt8.toInt32)) ∧ h = h') := by
  refine Met.of_walk (a0 := a0) (Ls := #[.val (.ref b), .val (.int zz)]) (plainFor_of_name pn_utf16) (own_hEL hw) rfl ?_
  refine Wl.iload_n 1 d14_0 rfl ?_
  refine Wl.aload_n 2 d14_1 rfl rfl ?_
  refine Wl.arraylength 3 d14_2 F ?_
  refine Wl.isub 4 d14_3 ?_
  refine Wl.bipush 6 (31 : Int32) d14_4 (by decide) ?_
  refine Wl.iushr 7 d14_6 ?_
  refine Wl.i2b 8 d14_7 ?_
  exact Wl.ireturn (t := .byte) d14_8 rfl (Jvm.Free.XT.narrow_b _) (by simp) (by decide) (by decide) ⟨rfl, rfl⟩
/-- the inner compress: the loop -/
theorem comp2_loop (hw : ∀ d ∈ tables_1, d.before a0 Z = true) {h0 : Heap} {b d : Addr} {kb kd : ClassId} {cs : List Int32} (hn : cs.length < 65536) (hlat : ∀ c ∈ cs, Lat c) (hne : b ≠ d) (j : Nat) :
    ∀ (i : Nat) (h : Heap) (o : Slot), i + j = cs.length → (o = .unset ∨ ∃ w, o = .val w ∧ w.category = 1) → Arv Z h b kb .char (Int32.ofNat cs.length) (cs.map Value.int) (.int 0) → Arv Z h d kd .byte (Int32.ofNat cs.length) (fil (cs.map byV) (.int 0) i) (.int 0) → Keep h0 h [d] →
    Wl l Z a0 consts_1 ⟨"java/lang/StringUTF16", "compress", "([CI[BII)I"⟩ jdk_52_method_21_code 7 (some .int) rm0 #[.ref b, .int 0, .ref d, .int 0, .int (Int32.ofNat cs.length)] (fun v h' => v = some (.int (Int32.ofNat cs.length)) ∧ Keep h0 h' [d] ∧ Arv Z h' d kd .byte (Int32.ofNat cs.length) (cs.map byV) (.int 0)) [d] h 0 0 3
      #[.val (.ref b), .val (.int (Int32.ofNat i)), .val (.ref d), .val (.int (Int32.ofNat i)), .val (.int (Int32.ofNat cs.length)), .val (.int (Int32.ofNat i)), o] [] := by
  induction j with
  | zero =>
    intro i h o hij ho Kb Kd K
    have hi : i = cs.length := by omega
    subst hi
    refine Wl.iload 5 d13_3 rfl ?_
    refine Wl.iload 7 d13_5 rfl ?_
    refine Wl.icmpY 44 d13_7 (flt Int32.lt_irrefl).2.1 ?_
    refine Wl.iload 46 d13_44 rfl ?_
    have e : fil (cs.map byV) (.int 0) cs.length = cs.map byV := by
      have := fil_all (cs.map byV) (.int 0); rwa [List.length_map] at this
    rw [e] at Kd
    exact Wl.ireturn (t := .int) d13_46 rfl rfl (by simp) (by decide) (by decide) ⟨rfl, K, Kd⟩
  | succ j ih =>
    intro i h o hij ho Kb Kd K
    have hi : i < cs.length := by omega
    have h31 : i < 2147483648 := by omega
    have hl : Lat cs[i] := hlat _ (List.getElem_mem hi)
    have hcl := nCl (i := cs.length) (by omega)
    refine Wl.iload 5 d13_3 rfl ?_
    refine Wl.iload 7 d13_5 rfl ?_
    refine Wl.icmpN 10 d13_7 (tlt ((nLt h31 (by omega)).mpr hi)).2.1 ?_
    refine Wl.aload_n 11 d13_10 rfl rfl ?_
    refine Wl.iload_n 12 d13_11 rfl ?_
    refine Wl.caload 13 i d13_12 Kb (nNn h31) (nCl h31) (by rw [hcl]; exact hi) (v := .int cs[i]) (by simp [List.getD_eq_getElem?_getD, hi]) ?_
    refine Wl.istore 15 #[.val (.ref b), .val (.int (Int32.ofNat i)), .val (.ref d), .val (.int (Int32.ofNat i)), .val (.int (Int32.ofNat cs.length)), .val (.int (Int32.ofNat i)), .val (.int cs[i])] d13_13 (XS.store1 (o := o) rfl ho rfl) ?_
    refine Wl.iload 17 d13_15 rfl ?_
    refine Wl.sipush 20 (255 : Int32) d13_17 (by decide) ?_
    refine Wl.icmpY 26 d13_20 (flt (lat_le hl)).2.2.2 ?_
    refine Wl.aload_n 27 d13_26 rfl rfl ?_
    refine Wl.iload_n 28 d13_27 rfl ?_
    refine Wl.iload 30 d13_28 rfl ?_
    refine Wl.i2b 31 d13_30 ?_
    refine Wl.bastore 32 i d13_31 Kd (List.mem_of_getElem? (i := 0) rfl) (nNn h31) (nCl h31) (by rw [hcl]; exact hi) (by rw [fil_len _ _ _ (by rw [List.length_map]; omega), List.length_map]; exact hi) ?_
    intro h' W Kd'
    rw [show nar .byte (cs[i]).toInt8.toInt32 = (cs[i]).toInt8.toInt32 from i2b_id _, fil_set (cs.map byV) (.int 0) _ i (by rw [List.length_map]; exact hi) (by simp [byV])] at Kd'
    refine Wl.iinc 35 #[.val (.ref b), .val (.int (Int32.ofNat (i + 1))), .val (.ref d), .val (.int (Int32.ofNat i)), .val (.int (Int32.ofNat cs.length)), .val (.int (Int32.ofNat i)), .val (.int cs[i])] (1 : Int32) d13_32 (by decide) rfl (by rw [nS]; rfl) ?_
    refine Wl.iinc 38 #[.val (.ref b), .val (.int (Int32.ofNat (i + 1))), .val (.ref d), .val (.int (Int32.ofNat (i + 1))), .val (.int (Int32.ofNat cs.length)), .val (.int (Int32.ofNat i)), .val (.int cs[i])] (1 : Int32) d13_35 (by decide) rfl (by rw [nS]; rfl) ?_
    refine Wl.iinc 41 #[.val (.ref b), .val (.int (Int32.ofNat (i + 1))), .val (.ref d), .val (.int (Int32.ofNat (i + 1))), .val (.int (Int32.ofNat cs.length)), .val (.int (Int32.ofNat (i + 1))), .val (.int cs[i])] (1 : Int32) d13_38 (by decide) rfl (by rw [nS]; rfl) ?_
    refine Wl.goto 3 d13_41 ?_
    exact ih (i + 1) h' _ (by omega) (Or.inr ⟨_, rfl, rfl⟩) (Kb.other W hne) Kd' (K.wr W (Or.inl (List.mem_of_getElem? (i := 0) rfl)))
theorem comp2_met (hw : ∀ d ∈ tables_1, d.before a0 Z = true) {h : Heap} {b d : Addr} {kb kd : ClassId} {cs : List Int32} (hn : cs.length < 65536) (hlat : ∀ c ∈ cs, Lat c) (hne : b ≠ d) (Kb : Arv Z h b kb .char (Int32.ofNat cs.length) (cs.map Value.int) (.int 0)) (Kd : Arv Z h d kd .byte (Int32.ofNat cs.length) (List.replicate cs.length (.int 0)) (.int 0)) :
    Met l Z consts_1 ⟨"java/lang/StringUTF16", "compress", "([CI[BII)I"⟩ jdk_52_method_21_code 7 (some .int) [] rm0 #[.ref b, .int 0, .ref d, .int 0, .int (Int32.ofNat cs.length)] h [d] (fun v h' => v = some (.int (Int32.ofNat cs.length)) ∧ Keep h h' [d] ∧ Arv Z h' d kd .byte (Int32.ofNat cs.length) (cs.map byV) (.int 0)) := by
  refine Met.of_walk (a0 := a0) (Ls := #[.val (.ref b), .val (.int 0), .val (.ref d), .val (.int 0), .val (.int (Int32.ofNat cs.length)), .unset, .unset]) (plainFor_of_name pn_utf16) (own_hEL hw) rfl ?_
  refine Wl.iconst 1 (0 : Int32) d13_0 (by decide) ?_
  refine Wl.istore 3 #[.val (.ref b), .val (.int 0), .val (.ref d), .val (.int 0), .val (.int (Int32.ofNat cs.length)), .val (.int 0), .unset] d13_1 rfl ?_
  exact comp2_loop hw hn hlat hne cs.length 0 h _ (by omega) (Or.inl rfl) Kb (by have e := fil_zero (cs.map byV) (.int 0); rw [List.length_map] at e; rw [e]; exact Kd) (Keep.refl h [d])
/-- compress(char[], int, int) -/
theorem comp1_met (hw : ∀ d ∈ tables_1, d.before a0 Z = true) {h : Heap} {b : Addr} {kb : ClassId} {cs : List Int32} {N : Nat} (hn : cs.length < 65536) (hN : cs.length ≤ N) (hN2 : N < 65536) (hlat : ∀ c ∈ cs, Lat c) (Kb : Arv Z h b kb .char (Int32.ofNat cs.length) (cs.map Value.int) (.int 0)) :
    Met l Z consts_1 ⟨"java/lang/StringUTF16", "compress", "([CII)[B"⟩ jdk_52_method_16_code 6 (some (.array .byte)) [] { frames := 1, cells := 1, slots := N, locals := 18 } #[.ref b, .int 0, .int (Int32.ofNat cs.length)] h [] (fun v h' => ∃ (d : Addr) (kd : ClassId), v = some (.ref d) ∧ h.size ≤ d ∧ Ext h h' ∧ Arv Z h' d kd .byte (Int32.ofNat cs.length) (cs.map byV) (.int 0)) := by
  refine Met.of_walk (a0 := a0) (Ls := #[.val (.ref b), .val (.int 0), .val (.int (Int32.ofNat cs.length)), .unset, .unset, .unset]) (plainFor_of_name pn_utf16) (own_hEL hw) rfl ?_
  refine Wl.iload_n 1 d12_0 rfl ?_
  refine Wl.newarray 3 N d12_1 (w23 hw) (nNn (by omega)) (by rw [nCl (by omega)]; exact hN) (by omega) (by show 0 + 1 ≤ 1; omega) (by show 0 + N ≤ N; omega) ?_
  intro d h1 kd q E A
  rw [nCl (by omega)] at A
  have A : Arv Z h1 d kd .byte (Int32.ofNat cs.length) (List.replicate cs.length (.int 0)) (.int 0) := A
  have hne : b ≠ d := Nat.ne_of_lt (by rw [q]; exact Kb.lt)
  refine Wl.astore_n 4 #[.val (.ref b), .val (.int 0), .val (.int (Int32.ofNat cs.length)), .val (.ref d), .unset, .unset] d12_3 rfl rfl ?_
  refine Wl.aload_n 5 d12_4 rfl rfl ?_
  refine Wl.iload_n 6 d12_5 rfl ?_
  refine Wl.aload_n 7 d12_6 rfl rfl ?_
  refine Wl.iconst 8 (0 : Int32) d12_7 (by decide) ?_
  refine Wl.iload_n 9 d12_8 rfl ?_
  refine Wl.static 12 (argsL := [.ref b, .int 0, .ref d, .int 0, .int (Int32.ofNat cs.length)]) d12_9 (w64 hw) (w65 hw) (w62 hw) (w66 hw) (show parseMethodDescriptor "([CI[BII)I" = some ⟨[.array .char, .int, .array .byte, .int, .int], some .int⟩ by decide +kernel) rfl (comp2_met hw hn hlat hne (Kb.ext E) A) (allS (List.mem_of_getElem? (i := 0) rfl) (fun _ q => nomatch q)) rfl rfl rfl (by decide) ⟨⟨by show 0 + 1 ≤ 1; omega, by show 0 + (7 + 11) + 0 ≤ 18; omega⟩, by show 0 + 1 + 0 ≤ 1; omega, by show 0 + N + 0 ≤ N; omega⟩ ?_
  intro v h2 hq _
  obtain ⟨rfl, K, A2⟩ := hq
  refine Wl.istore 14 #[.val (.ref b), .val (.int 0), .val (.int (Int32.ofNat cs.length)), .val (.ref d), .val (.int (Int32.ofNat cs.length)), .unset] d12_12 rfl ?_
  refine Wl.iload 16 d12_14 rfl ?_
  refine Wl.iload_n 17 d12_16 rfl ?_
  refine Wl.icmpY 57 d12_17 (teq rfl).1 ?_
  refine Wl.aload_n 58 d12_57 rfl rfl ?_
  exact Wl.areturn d12_58 rfl rfl rfl (by show 0 + 1 + 0 ≤ 1; omega) (by show 0 + N + 0 ≤ N; omega) ⟨d, kd, rfl, Nat.le_of_eq q.symm, extKeep E K (allS (Nat.le_of_eq q.symm) all0), A2⟩
/-- String(char[], int, int, Void) -/
theorem strV_met (hw : ∀ d ∈ tables_1, d.before a0 Z = true) (hcs : CSon Z) {h : Heap} {a b : Addr} {kb : ClassId} {cs : List Int32} {N : Nat} (hN : cs.length ≤ N) (hN2 : N < 65536) (hlat : ∀ c ∈ cs, Lat c) (E : Exa Z h a "java/lang/String") (FV : Fld Z h a "java/lang/String" "value" "[B" .null) (FC : Fld Z h a "java/lang/String" "coder" "B" (.int 0)) (Kb : Arv Z h b kb .char (Int32.ofNat cs.length) (cs.map Value.int) (.int 0)) :
    Met l Z consts_1 ⟨"java/lang/String", "<init>", "([CIILjava/lang/Void;)V"⟩ jdk_42_method_149_code 6 none [] { frames := 2, cells := 4, slots := N + 8, locals := 36 } #[.ref a, .ref b, .int 0, .int (Int32.ofNat cs.length), .null] h [a] (fun v h' => v = none ∧ Keep h h' [a] ∧ Stl Z h' a cs) := by
  refine Met.of_walk (a0 := a0) (Ls := #[.val (.ref a), .val (.ref b), .val (.int 0), .val (.int (Int32.ofNat cs.length)), .val .null, .unset]) (plainFor_of_name pn_str) (own_hEL hw) rfl ?_
  refine Wl.aload_n 1 d4_0 rfl rfl ?_
  refine Wl.initO 4 d4_1 (w19 hw) (w20 hw) (w21 hw) rfl (by show 1 ≤ 2; omega) (by show 0 + 12 ≤ 36; omega) ?_
  refine Wl.iload_n 5 d4_4 rfl ?_
  obtain ⟨cst, hS, hcn⟩ := hcs
  have L1 : Laid Z a0 "java/lang/String" "java/lang/String" "value" "[B" := Or.inr (w24 hw)
  have L2 : Laid Z a0 "java/lang/String" "java/lang/String" "coder" "B" := Or.inr (w25 hw)
  have hsl : Jvm.RoadKit.slotOf Z "java/lang/String" "value" "[B" ≠ Jvm.RoadKit.slotOf Z "java/lang/String" "coder" "B" := slot_ne L1 L2 (by decide) (t := .array .byte) (t' := .byte) (by decide) (by decide)
  by_cases h0 : cs = []
  · subst h0
    refine Wl.ifN 8 d4_5 (teq (by decide)).2 ?_
    refine Wl.aload_n 9 d4_8 rfl rfl ?_
    refine Wl.ldcS 11 0 (text := "") (vs := []) (z := (0 : Int32)) d4_9 (w22 hw) (own_wS hw) (by decide) ⟨by simp, rfl⟩ (by decide) (by decide) (by decide) (by decide) (by show 0 + 2 ≤ 4; omega) (by show 0 + (0 + 4) ≤ N + 8; omega) ?_
    intro x1 h1 b1 k1 E1 X1 C1 V1 A1 hnx1
    refine Wl.getfield 14 d4_11 (w28 hw) V1 ?_
    have na1 := hnx1 a (List.mem_of_getElem? (i := 0) rfl)
    refine Wl.putfield 17 d4_14 (w28 hw) (FV.ext E1) (E.ext E1) (Or.inr ⟨(w24 hw), rfl, rfl⟩) (w10 hw) (ty := .array .byte) (by decide) rfl rfl (List.mem_of_getElem? (i := 0) rfl) ?_
    intro h2 W2
    refine Wl.aload_n 18 d4_17 rfl rfl ?_
    refine Wl.ldcS 20 0 (text := "") (vs := []) (z := (0 : Int32)) d4_18 (w22 hw) (own_wS hw) (by decide) ⟨by simp, rfl⟩ (by decide) (by decide) (by decide) (by decide) (by show 0 + 2 + 2 ≤ 4; omega) (by show 0 + (0 + 4) + (0 + 4) ≤ N + 8; omega) ?_
    intro x3 h3 b3 k3 E3 X3 C3 V3 A3 hnx3
    refine Wl.getfield 23 d4_20 (w29 hw) C3 ?_
    refine Wl.putfield 26 d4_23 (w29 hw) (((FC.ext E1).other W2 (Or.inr hsl.symm)).ext E3) (((E.ext E1).wr W2).ext E3) (Or.inr ⟨(w25 hw), rfl, rfl⟩) (w10 hw) (ty := .byte) (by decide) rfl rfl (List.mem_of_getElem? (i := 0) rfl) ?_
    intro h4 W4
    refine Wl.return_ d4_26 rfl (by show 0 + 2 + 2 ≤ 4; omega) (by show 0 + (0 + 4) + (0 + 4) ≤ N + 8; omega) ⟨rfl, ?_, ?_⟩
    · exact ((((Keep.refl h [a]).ext E1).wr W2 (Or.inl (List.mem_of_getElem? (i := 0) rfl))).ext E3).wr W4 (Or.inl (List.mem_of_getElem? (i := 0) rfl))
    · refine ⟨b1, k1, (((E.ext E1).wr W2).ext E3).wr W4, (((FC.ext E1).other W2 (Or.inr hsl.symm)).ext E3).same W4, ((((FV.ext E1).same W2).ext E3).other W4 (Or.inr hsl)), (((A1.other W2 na1.2.symm).ext E3).other W4 na1.2.symm), (fun c hc => nomatch hc), by decide⟩
  · have hpos : 0 < cs.length := List.length_pos_iff.mpr h0
    refine Wl.ifY 27 d4_5 (feq (fun q => by have := congrArg Int32.toInt q; rw [nI (by omega), show (0 : Int32).toInt = 0 by decide] at this; omega)).2 ?_
    refine Wl.getstatic 30 d4_27 (w44 hw) hS ?_
    refine Wl.ifN 33 d4_30 (feq hcn).1 ?_
    refine Wl.aload_n 34 d4_33 rfl rfl ?_
    refine Wl.iload_n 35 d4_34 rfl ?_
    refine Wl.iload_n 36 d4_35 rfl ?_
    refine Wl.static 39 (argsL := [.ref b, .int 0, .int (Int32.ofNat cs.length)]) d4_36 (w60 hw) (w61 hw) (w62 hw) (w63 hw) (show parseMethodDescriptor "([CII)[B" = some ⟨[.array .char, .int, .int], some (.array .byte)⟩ by decide +kernel) rfl (comp1_met hw (by omega) hN hN2 hlat Kb) (fun _ q => nomatch q) rfl rfl rfl (by decide) ⟨⟨by show 1 + 1 ≤ 2; omega, by show 0 + (6 + 11) + 18 ≤ 36; omega⟩, by show 0 + 1 ≤ 4; omega, by show 0 + N ≤ N + 8; omega⟩ ?_
    intro v h1 hq _
    obtain ⟨d, kd, rfl, hd, E1, A1⟩ := hq
    have hne : d ≠ a := Nat.ne_of_gt (Nat.lt_of_lt_of_le E.lt hd)
    refine Wl.astore 41 #[.val (.ref a), .val (.ref b), .val (.int 0), .val (.int (Int32.ofNat cs.length)), .val .null, .val (.ref d)] d4_39 rfl rfl ?_
    refine Wl.aload_n 42 d4_41 rfl rfl ?_
    refine Wl.aload 44 d4_42 rfl rfl ?_
    refine Wl.iload_n 45 d4_44 rfl ?_
    refine Wl.static 48 (argsL := [.ref d, .int (Int32.ofNat cs.length)]) d4_45 (w67 hw) (w68 hw) (w62 hw) (w69 hw) (show parseMethodDescriptor "([BI)B" = some ⟨[.array .byte, .int], some .byte⟩ by decide +kernel) rfl (coderLen_met hw A1) (fun _ q => nomatch q) rfl rfl rfl (by decide) ⟨⟨by show 0 + 1 ≤ 2; omega, by show 1 + (2 + 11) + 0 ≤ 36; omega⟩, by show 0 + 1 + 0 ≤ 4; omega, by show 0 + N + 0 ≤ N + 8; omega⟩ ?_
    intro v h2 hq _
    obtain ⟨rfl, rfl⟩ := hq
    have e0 : ((Int32.ofNat cs.length - Int32.ofNat cs.length).toUInt32 >>> ((31 : Int32) &&& 31).toUInt32).toInt32.toInt8.toInt32 = 0 := by rw [Int32.sub_self]; decide
    rw [e0]
    refine Wl.putfield 51 d4_48 (w29 hw) (FC.ext E1) (E.ext E1) (Or.inr ⟨(w25 hw), rfl, rfl⟩) (w10 hw) (ty := .byte) (by decide) rfl rfl (List.mem_of_getElem? (i := 0) rfl) ?_
    intro h3 W3
    refine Wl.aload_n 52 d4_51 rfl rfl ?_
    refine Wl.aload 54 d4_52 rfl rfl ?_
    refine Wl.putfield 57 d4_54 (w28 hw) ((FV.ext E1).other W3 (Or.inr hsl)) ((E.ext E1).wr W3) (Or.inr ⟨(w24 hw), rfl, rfl⟩) (w10 hw) (ty := .array .byte) (by decide) rfl rfl (List.mem_of_getElem? (i := 0) rfl) ?_
    intro h4 W4
    refine Wl.return_ d4_57 rfl (by show 0 + 1 + 0 ≤ 4; omega) (by show 0 + N + 0 ≤ N + 8; omega) ⟨rfl, ?_, ?_⟩
    · exact ((((Keep.refl h [a]).ext E1)).wr W3 (Or.inl (List.mem_of_getElem? (i := 0) rfl))).wr W4 (Or.inl (List.mem_of_getElem? (i := 0) rfl))
    · exact ⟨d, kd, ((E.ext E1).wr W3).wr W4, ((FC.ext E1).same W3).other W4 (Or.inr hsl.symm), ((FV.ext E1).other W3 (Or.inr hsl)).same W4, (A1.other W3 hne).other W4 hne, hlat, by omega⟩
/-- String(char[]) -/
theorem strC_met (hw : ∀ d ∈ tables_1, d.before a0 Z = true) (hcs : CSon Z) {h : Heap} {a b : Addr} {kb : ClassId} {cs : List Int32} (N : Nat) (hN : cs.length ≤ N) (hN2 : N < 65536) (hlat : ∀ c ∈ cs, Lat c) (E : Exa Z h a "java/lang/String") (FV : Fld Z h a "java/lang/String" "value" "[B" .null) (FC : Fld Z h a "java/lang/String" "coder" "B" (.int 0)) (Kb : Arv Z h b kb .char (Int32.ofNat cs.length) (cs.map Value.int) (.int 0)) :
    Met l Z consts_1 ⟨"java/lang/String", "<init>", "([C)V"⟩ jdk_42_method_3_code 2 none [] { frames := 3, cells := 4, slots := N + 8, locals := 53 } #[.ref a, .ref b] h [a] (fun v h' => v = none ∧ Keep h h' [a] ∧ Stl Z h' a cs) := by
  refine Met.of_walk (a0 := a0) (Ls := #[.val (.ref a), .val (.ref b)]) (plainFor_of_name pn_str) (own_hEL hw) rfl ?_
  refine Wl.aload_n 1 d3_0 rfl rfl ?_
  refine Wl.aload_n 2 d3_1 rfl rfl ?_
  refine Wl.iconst 3 (0 : Int32) d3_2 (by decide) ?_
  refine Wl.aload_n 4 d3_3 rfl rfl ?_
  refine Wl.arraylength 5 d3_4 Kb ?_
  refine Wl.aconst_null 6 d3_5 ?_
  refine Wl.special 9 (argsL := [.ref b, .int 0, .int (Int32.ofNat cs.length), .null]) d3_6 (w15 hw) (w16 hw) (w11 hw) (w18 hw) (show parseMethodDescriptor "([CIILjava/lang/Void;)V" = some ⟨[.array .char, .int, .int, .object "java/lang/Void"], none⟩ by decide +kernel) rfl (strV_met hw hcs hN hN2 hlat E FV FC Kb) (allS (List.mem_of_getElem? (i := 0) rfl) (fun _ q => nomatch q)) rfl rfl rfl rfl (by decide) ⟨⟨by show 2 + 1 ≤ 3; omega, by show 0 + (6 + 11) + 36 ≤ 53; omega⟩, by show 0 + 4 ≤ 4; omega, by show 0 + (N + 8) ≤ N + 8; omega⟩ ?_
  intro v h1 hq _
  obtain ⟨rfl, K1, S1⟩ := hq
  exact Wl.return_ d3_9 rfl (by show 0 + 4 ≤ 4; omega) (by show 0 + (N + 8) ≤ N + 8; omega) ⟨rfl, K1, S1⟩
end StrInit

section OpLen
variable {l : Launch} {Z : State} {a0 : Array Value}
theorem coder_met (hw : ∀ d ∈ tables_1, d.before a0 Z = true) (hcs : CSon Z) {h : Heap} {a : Addr} {cd : Int32} (hnar : narrow .byte (.int cd) = .int cd) (FC : Fld Z h a "java/lang/String" "coder" "B" (.int cd)) :
    Met l Z consts_1 ⟨"java/lang/String", "coder", "()B"⟩ jdk_42_method_152_code 1 (some .byte) [] rm0 #[.ref a] h [] (fun v h' => v = some (.int cd) ∧ h = h') := by
  obtain ⟨cst, hS, hcn⟩ := hcs
  refine Met.of_walk (a0 := a0) (Ls := #[.val (.ref a)]) (plainFor_of_name pn_str) (own_hEL hw) rfl ?_
  refine Wl.getstatic 3 d8_0 (w44 hw) hS ?_
  refine Wl.ifN 6 d8_3 (feq hcn).1 ?_
  refine Wl.aload_n 7 d8_6 rfl rfl ?_
  refine Wl.getfield 10 d8_7 (w29 hw) FC ?_
  refine Wl.goto 14 d8_10 ?_
  exact Wl.ireturn (t := .byte) d8_14 rfl hnar (by simp) (nle rfl) (nle rfl) ⟨rfl, rfl⟩
theorem len_met (hw : ∀ d ∈ tables_1, d.before a0 Z = true) (hcs : CSon Z) {h : Heap} {a : Addr} {cs : List Int32} (S : Stl Z h a cs) :
    Met l Z consts_1 ⟨"java/lang/String", "length", "()I"⟩ jdk_42_method_54_code 1 (some .int) [] { frames := 1, cells := 0, slots := 0, locals := 13 } #[.ref a] h [] (fun v h' => v = some (.int (Int32.ofNat cs.length)) ∧ h = h') := by
  obtain ⟨b, kb, X, C, Vl, A, hlat, hn⟩ := S
  refine Met.of_walk (a0 := a0) (Ls := #[.val (.ref a)]) (plainFor_of_name pn_str) (own_hEL hw) rfl ?_
  refine Wl.aload_n 1 d7_0 rfl rfl ?_
  refine Wl.getfield 4 d7_1 (w28 hw) Vl ?_
  refine Wl.arraylength 5 d7_4 A ?_
  refine Wl.aload_n 6 d7_5 rfl rfl ?_
  refine Wl.virtual 9 (argsL := []) d7_6 (w39 hw) (w40 hw) (w42 hw) (w41 hw) (w11 hw) (w43 hw) (nf_sel (w42 hw) rfl) X (show parseMethodDescriptor "()B" = some ⟨[], some .byte⟩ by decide +kernel) rfl (coder_met hw hcs rfl C) (fun _ q => nomatch q) rfl rfl rfl (by decide) ⟨⟨nle rfl, nle rfl⟩, nle rfl, nle rfl⟩ ?_
  intro v h1 hq _
  obtain ⟨rfl, rfl⟩ := hq
  show Wl _ _ _ _ _ _ _ _ _ _ _ _ _ _ _ _ _ [.int 0, .int (Int32.ofNat cs.length)]
  refine Wl.ishr 10 d7_9 ?_
  rw [show (Int32.ofNat cs.length >>> ((0 : Int32) &&& 31)) = Int32.ofNat cs.length by simp]
  exact Wl.ireturn (t := .int) d7_10 rfl rfl (by simp) (nle rfl) (nle rfl) ⟨rfl, rfl⟩
end OpLen

/-- the formatter of an index that lies outside: a reference -/
def Fmt (Z : State) : Prop := ∃ f : Value, Sta Z Z.heap "jdk/internal/util/Preconditions" "SIOOBE_FORMATTER" "Ljava/util/function/BiFunction;" f ∧ f.isRef = true
section OpChar
variable {l : Launch} {Z : State} {a0 : Array Value}
theorem pn_prec : plainName "jdk/internal/util/Preconditions" = true := by first | (simp [plainName, overriddenIn]; done) | decide +kernel
theorem pn_lat : plainName "java/lang/StringLatin1" = true := by first | (simp [plainName, overriddenIn]; done) | decide +kernel
theorem isLatin1_met (hw : ∀ d ∈ tables_1, d.before a0 Z = true) (hcs : CSon Z) {h : Heap} {a : Addr} (FC : Fld Z h a "java/lang/String" "coder" "B" (.int 0)) :
    Met l Z consts_1 ⟨"java/lang/String", "isLatin1", "()Z"⟩ jdk_42_method_154_code 1 (some .boolean) [] rm0 #[.ref a] h [] (fun v h' => v = some (.int 1) ∧ h = h') := by
  obtain ⟨cst, hS, hcn⟩ := hcs
  refine Met.of_walk (a0 := a0) (Ls := #[.val (.ref a)]) (plainFor_of_name pn_str) (own_hEL hw) rfl ?_
  refine Wl.getstatic 3 d16_0 (w44 hw) hS ?_
  refine Wl.ifN 6 d16_3 (feq hcn).1 ?_
  refine Wl.aload_n 7 d16_6 rfl rfl ?_
  refine Wl.getfield 10 d16_7 (w29 hw) FC ?_
  refine Wl.ifN 13 d16_10 (teq rfl).2 ?_
  refine Wl.iconst 14 (1 : Int32) d16_13 (by decide) ?_
  refine Wl.goto 18 d16_14 ?_
  exact Wl.ireturn (t := .boolean) d16_18 rfl rfl (by simp) (nle rfl) (nle rfl) ⟨rfl, rfl⟩
theorem chk_met (hw : ∀ d ∈ tables_1, d.before a0 Z = true) {h : Heap} {i z : Int32} {f : Value} (hf : f.isRef = true) (h1 : ¬ i < 0) (h2 : i < z) :
    Met l Z consts_1 ⟨"jdk/internal/util/Preconditions", "checkIndex", "(IILjava/util/function/BiFunction;)I"⟩ jdk_41_method_11_code 3 (some .int) [] rm0 #[.int i, .int z, f] h [] (fun v h' => v = some (.int i) ∧ h = h') := by
  refine Met.of_walk (a0 := a0) (Ls := #[.val (.int i), .val (.int z), .val f]) (plainFor_of_name pn_prec) (own_hEL hw) (by rcases ref_cases hf with rfl | ⟨x, rfl⟩ <;> rfl) ?_
  refine Wl.iload_n 1 d19_0 rfl ?_
  refine Wl.ifN 4 d19_1 (flt h1).1 ?_
  refine Wl.iload_n 5 d19_4 rfl ?_
  refine Wl.iload_n 6 d19_5 rfl ?_
  refine Wl.icmpY 16 d19_6 (tlt h2).1 ?_
  refine Wl.iload_n 17 d19_16 rfl ?_
  exact Wl.ireturn (t := .int) d19_17 rfl rfl (by simp) (nle rfl) (nle rfl) ⟨rfl, rfl⟩
theorem chkS_met (hw : ∀ d ∈ tables_1, d.before a0 Z = true) (hfm : Fmt Z) {h : Heap} {i z : Int32} (h1 : ¬ i < 0) (h2 : i < z) :
    Met l Z consts_1 ⟨"java/lang/String", "checkIndex", "(II)V"⟩ jdk_42_method_155_code 2 none [] { frames := 1, cells := 0, slots := 0, locals := 14 } #[.int i, .int z] h [] (fun v h' => v = none ∧ h = h') := by
  obtain ⟨f, hS, hf⟩ := hfm
  refine Met.of_walk (a0 := a0) (Ls := #[.val (.int i), .val (.int z)]) (plainFor_of_name pn_str) (own_hEL hw) rfl ?_
  refine Wl.iload_n 1 d18_0 rfl ?_
  refine Wl.iload_n 2 d18_1 rfl ?_
  refine Wl.getstatic 5 d18_2 (w54 hw) hS ?_
  refine Wl.static 8 (argsL := [.int i, .int z, f]) d18_5 (w87 hw) (w88 hw) (w55 hw) (w89 hw) (show parseMethodDescriptor "(IILjava/util/function/BiFunction;)I" = some ⟨[.int, .int, .object "java/util/function/BiFunction"], some .int⟩ by decide +kernel) rfl (chk_met hw hf h1 h2) (fun _ q => nomatch q) rfl rfl rfl (by decide) ⟨⟨nle rfl, nle rfl⟩, nle rfl, nle rfl⟩ ?_
  intro v h1 hq _
  obtain ⟨rfl, rfl⟩ := hq
  show Wl _ _ _ _ _ _ _ _ _ _ _ _ _ _ _ _ _ [.int i]
  refine Wl.pop 9 d18_8 rfl ?_
  exact Wl.return_ d18_9 rfl (nle rfl) (nle rfl) ⟨rfl, rfl⟩
theorem charL_met (hw : ∀ d ∈ tables_1, d.before a0 Z = true) (hfm : Fmt Z) {h : Heap} {b : Addr} {kb : ClassId} {cs : List Int32} (A : Arv Z h b kb .byte (Int32.ofNat cs.length) (cs.map byV) (.int 0)) (hlat : ∀ c ∈ cs, Lat c) (hn : cs.length < 65536) {i : Nat} (hi : i < cs.length) :
    Met l Z consts_1 ⟨"java/lang/StringLatin1", "charAt", "([BI)C"⟩ jdk_43_method_2_code 2 (some .char) [] { frames := 2, cells := 0, slots := 0, locals := 27 } #[.ref b, .int (Int32.ofNat i)] h [] (fun v h' => v = some (.int cs[i]) ∧ h = h') := by
  have hl : Lat cs[i] := hlat _ (List.getElem_mem hi)
  refine Met.of_walk (a0 := a0) (Ls := #[.val (.ref b), .val (.int (Int32.ofNat i))]) (plainFor_of_name pn_lat) (own_hEL hw) rfl ?_
  refine Wl.iload_n 1 d17_0 rfl ?_
  refine Wl.aload_n 2 d17_1 rfl rfl ?_
  refine Wl.arraylength 3 d17_2 A ?_
  refine Wl.static 6 (argsL := [.int (Int32.ofNat i), .int (Int32.ofNat cs.length)]) d17_3 (w84 hw) (w85 hw) (w11 hw) (w86 hw) (show parseMethodDescriptor "(II)V" = some ⟨[.int, .int], none⟩ by decide +kernel) rfl (chkS_met hw hfm (nNn (by omega)) ((nLt (by omega) (by omega)).mpr hi)) (fun _ q => nomatch q) rfl rfl rfl (by decide) ⟨⟨nle rfl, nle rfl⟩, nle rfl, nle rfl⟩ ?_
  intro v h1 hq _
  obtain ⟨rfl, rfl⟩ := hq
  show Wl _ _ _ _ _ _ _ _ _ _ _ _ _ _ _ _ _ []
  refine Wl.aload_n 7 d17_6 rfl rfl ?_
  refine Wl.iload_n 8 d17_7 rfl ?_
  refine Wl.baload 9 i d17_8 A (nNn (by omega)) (nCl (by omega)) (by rw [nCl (by omega)]; exact hi) (v := .int (cs[i]).toInt8.toInt32) (by simp [List.getD_eq_getElem?_getD, hi, byV]) ?_
  refine Wl.sipush 12 (255 : Int32) d17_9 (by decide) ?_
  refine Wl.iand 13 d17_12 ?_
  refine Wl.i2c 14 d17_13 ?_
  rw [lo8 hl, i2c_id hl.ch]
  exact Wl.ireturn (t := .char) d17_14 rfl (narC hl.ch) (by simp) (nle rfl) (nle rfl) ⟨rfl, rfl⟩
theorem charAt_met (hw : ∀ d ∈ tables_1, d.before a0 Z = true) (hcs : CSon Z) (hfm : Fmt Z) {h : Heap} {a : Addr} {cs : List Int32} (S : Stl Z h a cs) {i : Nat} (hi : i < cs.length) :
    Met l Z consts_1 ⟨"java/lang/String", "charAt", "(I)C"⟩ jdk_42_method_56_code 2 (some .char) [] { frames := 3, cells := 0, slots := 0, locals := 40 } #[.ref a, .int (Int32.ofNat i)] h [] (fun v h' => v = some (.int cs[i]) ∧ h = h') := by
  obtain ⟨b, kb, X, C, Vl, A, hlat, hn⟩ := S
  have hl : Lat cs[i] := hlat _ (List.getElem_mem hi)
  refine Met.of_walk (a0 := a0) (Ls := #[.val (.ref a), .val (.int (Int32.ofNat i))]) (plainFor_of_name pn_str) (own_hEL hw) rfl ?_
  refine Wl.aload_n 1 d15_0 rfl rfl ?_
  refine Wl.virtual 4 (argsL := []) d15_1 (w75 hw) (w76 hw) (w78 hw) (w77 hw) (w11 hw) (w79 hw) (nf_sel (w78 hw) rfl) X (show parseMethodDescriptor "()Z" = some ⟨[], some .boolean⟩ by decide +kernel) rfl (isLatin1_met hw hcs C) (fun _ q => nomatch q) rfl rfl rfl (by decide) ⟨⟨nle rfl, nle rfl⟩, nle rfl, nle rfl⟩ ?_
  intro v h1 hq _
  obtain ⟨rfl, rfl⟩ := hq
  show Wl _ _ _ _ _ _ _ _ _ _ _ _ _ _ _ _ _ [.int 1]
  refine Wl.ifN 7 d15_4 (by decide) ?_
  refine Wl.aload_n 8 d15_7 rfl rfl ?_
  refine Wl.getfield 11 d15_8 (w28 hw) Vl ?_
  refine Wl.iload_n 12 d15_11 rfl ?_
  refine Wl.static 15 (argsL := [.ref b, .int (Int32.ofNat i)]) d15_12 (w80 hw) (w81 hw) (w82 hw) (w83 hw) (show parseMethodDescriptor "([BI)C" = some ⟨[.array .byte, .int], some .char⟩ by decide +kernel) rfl (charL_met hw hfm A hlat hn hi) (fun _ q => nomatch q) rfl rfl rfl (by decide) ⟨⟨nle rfl, nle rfl⟩, nle rfl, nle rfl⟩ ?_
  intro v h2 hq _
  obtain ⟨rfl, rfl⟩ := hq
  show Wl _ _ _ _ _ _ _ _ _ _ _ _ _ _ _ _ _ [.int cs[i]]
  exact Wl.ireturn (t := .char) d15_15 rfl (narC hl.ch) (by simp) (nle rfl) (nle rfl) ⟨rfl, rfl⟩
end OpChar

/-! String.substring(int, int) of a Latin-1 String -/
theorem rng_map (xs : List Int32) (i n : Nat) (h : i + n ≤ xs.length) : (List.range n).map (fun t => (xs.map byV).getD (i + t) (.int 0)) = ((xs.drop i).take n).map byV := by
  apply List.ext_getElem
  · simp; omega
  · intro k h1 h2
    have hk : k < n := by simpa using h1
    have hk2 : i + k < xs.length := by omega
    simp [List.getD_eq_getElem?_getD, hk2]
theorem sub_lat {cs : List Int32} (hl : ∀ c ∈ cs, Lat c) (i n : Nat) : ∀ c ∈ (cs.drop i).take n, Lat c := fun c q => hl c (List.mem_of_mem_drop (List.mem_of_mem_take q))
theorem sub_len {cs : List Int32} {i n : Nat} (h : i + n ≤ cs.length) : ((cs.drop i).take n).length = n := by simp; omega
section OpSub
variable {l : Launch} {Z : State} {a0 : Array Value}
theorem pn_arr : plainName "java/util/Arrays" = true := by first | (simp [plainName, overriddenIn]; done) | decide +kernel
theorem min_met (hw : ∀ d ∈ tables_1, d.before a0 Z = true) {h : Heap} {x z : Int32} (q : ¬ z < x) :
    Met l Z consts_1 ⟨"java/lang/Math", "min", "(II)I"⟩ jdk_29_method_69_code 2 (some .int) [] rm0 #[.int x, .int z] h [] (fun v h' => v = some (.int x) ∧ h = h') := by
  refine Met.of_walk (a0 := a0) (Ls := #[.val (.int x), .val (.int z)]) (Jvm.Free.JP.mathPlain rfl (by decide +kernel)) (own_hEL hw) rfl ?_
  refine Wl.iload_n 1 d25_0 rfl ?_
  refine Wl.iload_n 2 d25_1 rfl ?_
  refine Wl.icmpN 5 d25_2 (flt q).2.2.1 ?_
  refine Wl.iload_n 6 d25_5 rfl ?_
  refine Wl.goto 10 d25_6 ?_
  exact Wl.ireturn (t := .int) d25_10 rfl rfl (by simp) (nle rfl) (nle rfl) ⟨rfl, rfl⟩
theorem min2_met (hw : ∀ d ∈ tables_1, d.before a0 Z = true) {h : Heap} {x z : Int32} (q : z < x) :
    Met l Z consts_1 ⟨"java/lang/Math", "min", "(II)I"⟩ jdk_29_method_69_code 2 (some .int) [] rm0 #[.int x, .int z] h [] (fun v h' => v = some (.int z) ∧ h = h') := by
  refine Met.of_walk (a0 := a0) (Ls := #[.val (.int x), .val (.int z)]) (Jvm.Free.JP.mathPlain rfl (by decide +kernel)) (own_hEL hw) rfl ?_
  refine Wl.iload_n 1 d25_0 rfl ?_
  refine Wl.iload_n 2 d25_1 rfl ?_
  refine Wl.icmpY 9 d25_2 (tlt q).2.2.1 ?_
  refine Wl.iload_n 10 d25_9 rfl ?_
  exact Wl.ireturn (t := .int) d25_10 rfl rfl (by simp) (nle rfl) (nle rfl) ⟨rfl, rfl⟩

theorem chkFT_met (hw : ∀ d ∈ tables_1, d.before a0 Z = true) {h : Heap} {i e z : Int32} {f : Value} (hf : f.isRef = true) (h1 : ¬ i < 0) (h2 : ¬ e < i) (h3 : ¬ z < e) :
    Met l Z consts_1 ⟨"jdk/internal/util/Preconditions", "checkFromToIndex", "(IIILjava/util/function/BiFunction;)I"⟩ jdk_41_method_12_code 4 (some .int) [] rm0 #[.int i, .int e, .int z, f] h [] (fun v h' => v = some (.int i) ∧ h = h') := by
  refine Met.of_walk (a0 := a0) (Ls := #[.val (.int i), .val (.int e), .val (.int z), .val f]) (plainFor_of_name pn_prec) (own_hEL hw) (by rcases ref_cases hf with rfl | ⟨x, rfl⟩ <;> rfl) ?_
  refine Wl.iload_n 1 d11_0 rfl ?_
  refine Wl.ifN 4 d11_1 (flt h1).1 ?_
  refine Wl.iload_n 5 d11_4 rfl ?_
  refine Wl.iload_n 6 d11_5 rfl ?_
  refine Wl.icmpN 9 d11_6 (flt h2).2.2.1 ?_
  refine Wl.iload_n 10 d11_9 rfl ?_
  refine Wl.iload_n 11 d11_10 rfl ?_
  refine Wl.icmpY 22 d11_11 (flt h3).2.2.2 ?_
  refine Wl.iload_n 23 d11_22 rfl ?_
  exact Wl.ireturn (t := .int) d11_23 rfl rfl (by simp) (nle rfl) (nle rfl) ⟨rfl, rfl⟩
theorem chkB_met (hw : ∀ d ∈ tables_1, d.before a0 Z = true) (hfm : Fmt Z) {h : Heap} {i e z : Int32} (h1 : ¬ i < 0) (h2 : ¬ e < i) (h3 : ¬ z < e) :
    Met l Z consts_1 ⟨"java/lang/String", "checkBoundsBeginEnd", "(III)V"⟩ jdk_42_method_158_code 3 none [] { frames := 1, cells := 0, slots := 0, locals := 15 } #[.int i, .int e, .int z] h [] (fun v h' => v = none ∧ h = h') := by
  obtain ⟨f, hS, hf⟩ := hfm
  refine Met.of_walk (a0 := a0) (Ls := #[.val (.int i), .val (.int e), .val (.int z)]) (plainFor_of_name pn_str) (own_hEL hw) rfl ?_
  refine Wl.iload_n 1 d10_0 rfl ?_
  refine Wl.iload_n 2 d10_1 rfl ?_
  refine Wl.iload_n 3 d10_2 rfl ?_
  refine Wl.getstatic 6 d10_3 (w54 hw) hS ?_
  refine Wl.static 9 (argsL := [.int i, .int e, .int z, f]) d10_6 (w56 hw) (w57 hw) (w55 hw) (w58 hw) (show parseMethodDescriptor "(IIILjava/util/function/BiFunction;)I" = some ⟨[.int, .int, .int, .object "java/util/function/BiFunction"], some .int⟩ by decide +kernel) rfl (chkFT_met hw hf h1 h2 h3) (fun _ q => nomatch q) rfl rfl rfl (by decide) ⟨⟨nle rfl, nle rfl⟩, nle rfl, nle rfl⟩ ?_
  intro v h1 hq _
  obtain ⟨rfl, rfl⟩ := hq
  show Wl _ _ _ _ _ _ _ _ _ _ _ _ _ _ _ _ _ [.int i]
  refine Wl.pop 10 d10_9 rfl ?_
  exact Wl.return_ d10_10 rfl (nle rfl) (nle rfl) ⟨rfl, rfl⟩
theorem chkLen_met (hw : ∀ d ∈ tables_1, d.before a0 Z = true) {h : Heap} {i e : Int32} (h2 : ¬ e < i) :
    Met l Z consts_1 ⟨"java/util/Arrays", "checkLength", "(II)V"⟩ jdk_65_method_131_code 2 none [] rm0 #[.int i, .int e] h [] (fun v h' => v = none ∧ h = h') := by
  refine Met.of_walk (a0 := a0) (Ls := #[.val (.int i), .val (.int e)]) (plainFor_of_name pn_arr) (own_hEL hw) rfl ?_
  refine Wl.iload_n 1 d24_0 rfl ?_
  refine Wl.iload_n 2 d24_1 rfl ?_
  refine Wl.icmpY 37 d24_2 (flt h2).2.1 ?_
  exact Wl.return_ d24_37 rfl (nle rfl) (nle rfl) ⟨rfl, rfl⟩
/-- copyOfRangeByte: bytes i to i + n of a byte[] -/
theorem copyRB_met (hw : ∀ d ∈ tables_1, d.before a0 Z = true) {h : Heap} {b : Addr} {kb : ClassId} {cs : List Int32} {i n N : Nat} (hn : cs.length < 65536) (hi : i + n ≤ cs.length) (hN : n ≤ N) (hN2 : N < 65536) (A : Arv Z h b kb .byte (Int32.ofNat cs.length) (cs.map byV) (.int 0)) :
    Met l Z consts_1 ⟨"java/util/Arrays", "copyOfRangeByte", "([BII)[B"⟩ jdk_65_method_133_code 5 (some (.array .byte)) [] { frames := 1, cells := 1, slots := N, locals := 18 } #[.ref b, .int (Int32.ofNat i), .int (Int32.ofNat (i + n))] h [] (fun v h' => ∃ (d : Addr) (kd : ClassId), v = some (.ref d) ∧ h.size ≤ d ∧ Ext h h' ∧ Arv Z h' d kd .byte (Int32.ofNat n) (((cs.drop i).take n).map byV) (.int 0)) := by
  refine Met.of_walk (a0 := a0) (Ls := #[.val (.ref b), .val (.int (Int32.ofNat i)), .val (.int (Int32.ofNat (i + n))), .unset, .unset]) (plainFor_of_name pn_arr) (own_hEL hw) rfl ?_
  refine Wl.iload_n 1 d23_0 rfl ?_
  refine Wl.iload_n 2 d23_1 rfl ?_
  refine Wl.static 5 (argsL := [.int (Int32.ofNat i), .int (Int32.ofNat (i + n))]) d23_2 (w104 hw) (w105 hw) (w99 hw) (w106 hw) (show parseMethodDescriptor "(II)V" = some ⟨[.int, .int], none⟩ by decide +kernel) rfl (chkLen_met hw (fun q => by rw [nLt (by omega) (by omega)] at q; omega)) (fun _ q => nomatch q) rfl rfl rfl (by decide) ⟨⟨by show 0 + 1 ≤ 1; omega, by show 0 + (2 + 11) + 0 ≤ 18; omega⟩, by show 0 + 0 ≤ 1; omega, by show 0 + 0 ≤ N; omega⟩ ?_
  intro v h1 hq _
  obtain ⟨rfl, rfl⟩ := hq
  show Wl _ _ _ _ _ _ _ _ _ _ _ _ _ _ _ _ _ []
  refine Wl.iload_n 6 d23_5 rfl ?_
  refine Wl.iload_n 7 d23_6 rfl ?_
  refine Wl.isub 8 d23_7 ?_
  rw [nSub (by omega) (by omega), show i + n - i = n by omega]
  refine Wl.istore_n 9 #[.val (.ref b), .val (.int (Int32.ofNat i)), .val (.int (Int32.ofNat (i + n))), .val (.int (Int32.ofNat n)), .unset] d23_8 rfl ?_
  refine Wl.iload_n 10 d23_9 rfl ?_
  refine Wl.newarray 12 N d23_10 (w23 hw) (nNn (by omega)) (by rw [nCl (by omega)]; exact hN) (by omega) (by show 0 + 0 + 1 ≤ 1; omega) (by show 0 + 0 + N ≤ N; omega) ?_
  intro d h2 kd q E D
  rw [nCl (by omega)] at D
  have D : Arv Z h2 d kd .byte (Int32.ofNat n) (List.replicate n (.int 0)) (.int 0) := D
  have A2 := A.ext E
  refine Wl.astore 14 #[.val (.ref b), .val (.int (Int32.ofNat i)), .val (.int (Int32.ofNat (i + n))), .val (.int (Int32.ofNat n)), .val (.ref d)] d23_12 rfl rfl ?_
  refine Wl.aload_n 15 d23_14 rfl rfl ?_
  refine Wl.iload_n 16 d23_15 rfl ?_
  refine Wl.aload 18 d23_16 rfl rfl ?_
  refine Wl.iconst 19 (0 : Int32) d23_18 (by decide) ?_
  refine Wl.aload_n 20 d23_19 rfl rfl ?_
  refine Wl.arraylength 21 d23_20 A2 ?_
  refine Wl.iload_n 22 d23_21 rfl ?_
  refine Wl.isub 23 d23_22 ?_
  rw [nSub (by omega) (by omega)]
  refine Wl.iload_n 24 d23_23 rfl ?_
  have hmin : Met l Z consts_1 ⟨"java/lang/Math", "min", "(II)I"⟩ jdk_29_method_69_code 2 (some .int) [] rm0 #[.int (Int32.ofNat (cs.length - i)), .int (Int32.ofNat n)] h2 [] (fun v h' => v = some (.int (Int32.ofNat n)) ∧ h2 = h') := by
    by_cases hlt : n < cs.length - i
    · exact min2_met hw ((nLt (by omega) (by omega)).mpr hlt)
    · have e : cs.length - i = n := by omega
      rw [e]; exact min_met hw Int32.lt_irrefl
  refine Wl.static 27 (argsL := [.int (Int32.ofNat (cs.length - i)), .int (Int32.ofNat n)]) d23_24 (w107 hw) (w108 hw) (w109 hw) (w110 hw) (show parseMethodDescriptor "(II)I" = some ⟨[.int, .int], some .int⟩ by decide +kernel) rfl hmin (fun _ q => nomatch q) rfl rfl rfl (by decide) ⟨⟨by show 0 + 1 ≤ 1; omega, by show 4 + (2 + 11) + 0 ≤ 18; omega⟩, by show 0 + 0 + 1 + 0 ≤ 1; omega, by show 0 + 0 + N + 0 ≤ N; omega⟩ ?_
  intro v h3 hq _
  obtain ⟨rfl, rfl⟩ := hq
  show Wl _ _ _ _ _ _ _ _ _ _ _ _ _ _ _ _ _ [.int (Int32.ofNat n), .int 0, .ref d, .int (Int32.ofNat i), .ref b]
  refine Wl.arraycopy 30 d23_27 (w111 hw) (w114 hw) (w112 hw) (w113 hw) A2 D rfl (nNn (by omega)) (by decide) (nNn (by omega)) (by rw [nCl (by omega), nCl (by omega), nCl (by omega)]; exact hi) (by rw [nCl (i := n) (by omega)]; exact Nat.le_of_eq (Nat.zero_add n)) (by rw [nCl (i := n) (by omega), List.length_replicate]; exact Nat.le_of_eq (Nat.zero_add n)) (List.mem_of_getElem? (i := 0) rfl) rfl (by show 1 ≤ 1; omega) (by show 0 + (7 + 11) ≤ 18; omega) ?_
  intro h4 K D4
  rw [nCl (i := n) (by omega), nCl (i := i) (by omega), rng_map cs i n hi] at D4
  have e0 : List.take (Int32.toNatClampNeg 0) (List.replicate n (Value.int 0)) ++ List.map byV (List.take n (List.drop i cs)) ++ List.drop (Int32.toNatClampNeg 0 + n) (List.replicate n (Value.int 0)) = ((cs.drop i).take n).map byV := by
    rw [show Int32.toNatClampNeg 0 = 0 by decide]; simp
  rw [e0] at D4
  refine Wl.aload 32 d23_30 rfl rfl ?_
  exact Wl.areturn d23_32 rfl rfl rfl (by show 0 + 0 + 1 + 0 ≤ 1; omega) (by show 0 + 0 + N + 0 ≤ N; omega) ⟨d, kd, rfl, Nat.le_of_eq q.symm, extKeep E K (allS (Nat.le_of_eq q.symm) all0), D4⟩
theorem copyR_met (hw : ∀ d ∈ tables_1, d.before a0 Z = true) {h : Heap} {b : Addr} {kb : ClassId} {cs : List Int32} {i n N : Nat} (hn : cs.length < 65536) (hi : i + n ≤ cs.length) (hno : ¬ (i = 0 ∧ n = cs.length)) (hN : n ≤ N) (hN2 : N < 65536) (A : Arv Z h b kb .byte (Int32.ofNat cs.length) (cs.map byV) (.int 0)) :
    Met l Z consts_1 ⟨"java/util/Arrays", "copyOfRange", "([BII)[B"⟩ jdk_65_method_132_code 3 (some (.array .byte)) [] { frames := 2, cells := 1, slots := N, locals := 34 } #[.ref b, .int (Int32.ofNat i), .int (Int32.ofNat (i + n))] h [] (fun v h' => ∃ (d : Addr) (kd : ClassId), v = some (.ref d) ∧ h.size ≤ d ∧ Ext h h' ∧ Arv Z h' d kd .byte (Int32.ofNat n) (((cs.drop i).take n).map byV) (.int 0)) := by
  refine Met.of_walk (a0 := a0) (Ls := #[.val (.ref b), .val (.int (Int32.ofNat i)), .val (.int (Int32.ofNat (i + n)))]) (plainFor_of_name pn_arr) (own_hEL hw) rfl ?_
  have go : ∀ {l : Launch}, Wl l Z a0 consts_1 ⟨"java/util/Arrays", "copyOfRange", "([BII)[B"⟩ jdk_65_method_132_code 3 (some (.array .byte)) { frames := 2, cells := 1, slots := N, locals := 34 } #[.ref b, .int (Int32.ofNat i), .int (Int32.ofNat (i + n))] (fun v h' => ∃ (d : Addr) (kd : ClassId), v = some (.ref d) ∧ h.size ≤ d ∧ Ext h h' ∧ Arv Z h' d kd .byte (Int32.ofNat n) (((cs.drop i).take n).map byV) (.int 0)) [] h 0 0 10 #[.val (.ref b), .val (.int (Int32.ofNat i)), .val (.int (Int32.ofNat (i + n)))] [] := by
    intro l
    refine Wl.aload_n 11 d22_10 rfl rfl ?_
    refine Wl.iload_n 12 d22_11 rfl ?_
    refine Wl.iload_n 13 d22_12 rfl ?_
    refine Wl.static 16 (argsL := [.ref b, .int (Int32.ofNat i), .int (Int32.ofNat (i + n))]) d22_13 (w101 hw) (w102 hw) (w99 hw) (w103 hw) (show parseMethodDescriptor "([BII)[B" = some ⟨[.array .byte, .int, .int], some (.array .byte)⟩ by decide +kernel) rfl (copyRB_met hw hn hi hN hN2 A) (fun _ q => nomatch q) rfl rfl rfl (by decide) ⟨⟨by show 1 + 1 ≤ 2; omega, by show 0 + (5 + 11) + 18 ≤ 34; omega⟩, by show 0 + 1 ≤ 1; omega, by show 0 + N ≤ N; omega⟩ ?_
    intro v h1 hq _
    obtain ⟨d, kd, rfl, r⟩ := hq
    show Wl _ _ _ _ _ _ _ _ _ _ _ _ _ _ _ _ _ [.ref d]
    exact Wl.areturn d22_16 rfl rfl rfl (by show 0 + 1 ≤ 1; omega) (by show 0 + N ≤ N; omega) ⟨d, kd, rfl, r⟩
  refine Wl.iload_n 1 d22_0 rfl ?_
  by_cases h0 : i = 0
  · subst h0
    refine Wl.ifN 4 d22_1 (teq (by decide)).2 ?_
    refine Wl.iload_n 5 d22_4 rfl ?_
    refine Wl.aload_n 6 d22_5 rfl rfl ?_
    refine Wl.arraylength 7 d22_6 A ?_
    refine Wl.icmpN 10 d22_7 (feq (fun q => by rw [nEq (by omega) (by omega)] at q; exact hno ⟨rfl, by omega⟩)).1 ?_
    exact go
  · refine Wl.ifY 10 d22_1 (feq (fun q => h0 ((nEq (j := 0) (by omega) (by omega)).mp q))).2 ?_
    exact go
/-- String(byte[], byte) -/
theorem strBB_met (hw : ∀ d ∈ tables_1, d.before a0 Z = true) {h : Heap} {a d : Addr} {cd : Int32} (hnar : narrow .byte (.int cd) = .int cd) (hfit : fits .byte (.int cd) = true) (E : Exa Z h a "java/lang/String") (FV : Fld Z h a "java/lang/String" "value" "[B" .null) (FC : Fld Z h a "java/lang/String" "coder" "B" (.int 0)) :
    Met l Z consts_1 ⟨"java/lang/String", "<init>", "([BB)V"⟩ jdk_42_method_151_code 3 none [] { frames := 1, cells := 0, slots := 0, locals := 12 } #[.ref a, .ref d, .int cd] h [a] (fun v h' => v = none ∧ Keep h h' [a] ∧ Exa Z h' a "java/lang/String" ∧ Fld Z h' a "java/lang/String" "value" "[B" (.ref d) ∧ Fld Z h' a "java/lang/String" "coder" "B" (.int cd)) := by
  have L1 : Laid Z a0 "java/lang/String" "java/lang/String" "value" "[B" := Or.inr (w24 hw)
  have L2 : Laid Z a0 "java/lang/String" "java/lang/String" "coder" "B" := Or.inr (w25 hw)
  have hsl : Jvm.RoadKit.slotOf Z "java/lang/String" "value" "[B" ≠ Jvm.RoadKit.slotOf Z "java/lang/String" "coder" "B" := slot_ne L1 L2 (by decide) (t := .array .byte) (t' := .byte) (by decide) (by decide)
  refine Met.of_walk (a0 := a0) (Ls := #[.val (.ref a), .val (.ref d), .val (.int cd)]) (plainFor_of_name pn_str) (own_hEL hw) rfl ?_
  refine Wl.aload_n 1 d26_0 rfl rfl ?_
  refine Wl.initO 4 d26_1 (w19 hw) (w20 hw) (w21 hw) rfl (nle rfl) (nle rfl) ?_
  refine Wl.aload_n 5 d26_4 rfl rfl ?_
  refine Wl.aload_n 6 d26_5 rfl rfl ?_
  refine Wl.putfield 9 d26_6 (w28 hw) FV E (Or.inr ⟨(w24 hw), rfl, rfl⟩) (w10 hw) (ty := .array .byte) (by decide) rfl rfl (List.mem_of_getElem? (i := 0) rfl) ?_
  intro h1 W1
  refine Wl.aload_n 10 d26_9 rfl rfl ?_
  refine Wl.iload_n 11 d26_10 rfl ?_
  refine Wl.putfield 14 d26_11 (w29 hw) (FC.other W1 (Or.inr hsl.symm)) (E.wr W1) (Or.inr ⟨(w25 hw), rfl, rfl⟩) (w10 hw) (ty := .byte) (by decide) hnar hfit (List.mem_of_getElem? (i := 0) rfl) ?_
  intro h2 W2
  exact Wl.return_ d26_14 rfl (nle rfl) (nle rfl) ⟨rfl, ((Keep.refl h [a]).wr W1 (Or.inl (List.mem_of_getElem? (i := 0) rfl))).wr W2 (Or.inl (List.mem_of_getElem? (i := 0) rfl)), (E.wr W1).wr W2, ((FV.same W1).other W2 (Or.inr hsl)), (FC.other W1 (Or.inr hsl.symm)).same W2⟩
/-- StringLatin1.newString -/
theorem newS_met (hw : ∀ d ∈ tables_1, d.before a0 Z = true) {h : Heap} {b : Addr} {kb : ClassId} {cs : List Int32} {i n N : Nat} (hn : cs.length < 65536) (hlat : ∀ c ∈ cs, Lat c) (hi : i + n ≤ cs.length) (hno : ¬ (i = 0 ∧ n = cs.length) ∨ n = 0) (hN : n ≤ N) (hN2 : N < 65536) (A : Arv Z h b kb .byte (Int32.ofNat cs.length) (cs.map byV) (.int 0)) :
    Met l Z consts_1 ⟨"java/lang/StringLatin1", "newString", "([BII)Ljava/lang/String;"⟩ jdk_43_method_47_code 3 (some (.object "java/lang/String")) [] { frames := 3, cells := 2, slots := N + 4, locals := 50 } #[.ref b, .int (Int32.ofNat i), .int (Int32.ofNat n)] h [] (fun v h' => ∃ a : Addr, v = some (.ref a) ∧ Ext h h' ∧ Stl Z h' a ((cs.drop i).take n)) := by
  refine Met.of_walk (a0 := a0) (Ls := #[.val (.ref b), .val (.int (Int32.ofNat i)), .val (.int (Int32.ofNat n))]) (plainFor_of_name pn_lat) (own_hEL hw) rfl ?_
  refine Wl.iload_n 1 d21_0 rfl ?_
  by_cases h0 : n = 0
  · subst h0
    refine Wl.ifN 4 d21_1 (teq (by decide)).2 ?_
    refine Wl.ldcS 6 0 (text := "") (vs := []) (z := (0 : Int32)) d21_4 (w122 hw) (own_wS hw) (by decide) ⟨by simp, rfl⟩ (by decide) (by decide) (by decide) (by decide) (by show 0 + 2 ≤ 2; omega) (by show 0 + (0 + 4) ≤ N + 4; omega) ?_
    intro x1 h1 b1 k1 E1 X1 C1 V1 A1 _
    exact Wl.areturn d21_6 rfl rfl rfl (by show 0 + 2 ≤ 2; omega) (by show 0 + (0 + 4) ≤ N + 4; omega) ⟨x1, rfl, E1, by rw [List.take_zero]; exact ⟨b1, k1, X1, C1, V1, A1, latN, by decide⟩⟩
  · have hno' : ¬ (i = 0 ∧ n = cs.length) := hno.elim id (fun q => absurd q h0)
    refine Wl.ifY 7 d21_1 (feq (fun q => h0 ((nEq (j := 0) (by omega) (by omega)).mp q))).2 ?_
    refine Wl.new 10 d21_7 (w96 hw) (w10 hw) (w11 hw) (by show 0 + 1 ≤ 2; omega) (by show 0 + 4 ≤ N + 4; omega) ?_
    intro a h1 q1 E1 X1 D1
    have FV : Fld Z h1 a "java/lang/String" "value" "[B" .null := D1 (Or.inr (w24 hw)) (ty := .array .byte) (by decide)
    have FC : Fld Z h1 a "java/lang/String" "coder" "B" (.int 0) := D1 (Or.inr (w25 hw)) (ty := .byte) (by decide)
    refine Wl.dup 11 d21_10 rfl ?_
    refine Wl.aload_n 12 d21_11 rfl rfl ?_
    refine Wl.iload_n 13 d21_12 rfl ?_
    refine Wl.iload_n 14 d21_13 rfl ?_
    refine Wl.iload_n 15 d21_14 rfl ?_
    refine Wl.iadd 16 d21_15 ?_
    rw [nAdd]
    refine Wl.static 19 (argsL := [.ref b, .int (Int32.ofNat i), .int (Int32.ofNat (i + n))]) d21_16 (w97 hw) (w98 hw) (w99 hw) (w100 hw) (show parseMethodDescriptor "([BII)[B" = some ⟨[.array .byte, .int, .int], some (.array .byte)⟩ by decide +kernel) rfl (copyR_met hw hn hi hno' hN hN2 (A.ext E1)) (fun _ q => nomatch q) rfl rfl rfl (by decide) ⟨⟨by show 2 + 1 ≤ 3; omega, by show 1 + (1 + 0) + (3 + 11) + 34 ≤ 50; omega⟩, by show 0 + 1 + 1 ≤ 2; omega, by show 0 + 4 + N ≤ N + 4; omega⟩ ?_
    intro v h2 hq _
    obtain ⟨d, kd, rfl, hd, E2, A2⟩ := hq
    have hne : d ≠ a := Nat.ne_of_gt (Nat.lt_of_lt_of_le X1.lt hd)
    show Wl _ _ _ _ _ _ _ _ _ _ _ _ _ _ _ _ _ [.ref d, .ref a, .ref a]
    refine Wl.iconst 20 (0 : Int32) d21_19 (by decide) ?_
    refine Wl.special 23 (argsL := [.ref d, .int 0]) d21_20 (w115 hw) (w116 hw) (w11 hw) (w117 hw) (show parseMethodDescriptor "([BB)V" = some ⟨[.array .byte, .byte], none⟩ by decide +kernel) rfl (strBB_met hw (d := d) (cd := 0) rfl rfl (X1.ext E2) (FV.ext E2) (FC.ext E2)) (allS (List.mem_of_getElem? (i := 0) rfl) (fun _ q => nomatch q)) rfl rfl rfl rfl (by decide) ⟨⟨by show 1 + 1 ≤ 3; omega, by show 1 + 0 + (3 + 11) + 12 ≤ 50; omega⟩, by show 0 + 1 + 1 + 0 ≤ 2; omega, by show 0 + 4 + N + 0 ≤ N + 4; omega⟩ ?_
    intro v h3 hq _
    obtain ⟨rfl, K3, X3, V3, C3⟩ := hq
    show Wl _ _ _ _ _ _ _ _ _ _ _ _ _ _ _ _ _ [.ref a]
    have hl : Int32.ofNat n = Int32.ofNat ((cs.drop i).take n).length := by rw [sub_len hi]
    have A3 := A2.keep K3 (ninS hne nin0)
    rw [hl] at A3
    exact Wl.areturn d21_23 rfl rfl rfl (by show 0 + 1 + 1 + 0 ≤ 2; omega) (by show 0 + 4 + N + 0 ≤ N + 4; omega) ⟨a, rfl, extKeep (extTr E1 E2) K3 (allS (Nat.le_of_eq q1.symm) all0), d, kd, X3, C3, V3, A3, sub_lat hlat i n, by rw [sub_len hi]; omega⟩
/-- substring(i, e) -/
theorem sub_met (hw : ∀ d ∈ tables_1, d.before a0 Z = true) (hcs : CSon Z) (hfm : Fmt Z) {h : Heap} {a : Addr} {cs : List Int32} {i e N : Nat} (S : Stl Z h a cs) (hie : i ≤ e) (he : e ≤ cs.length) (hN : e - i ≤ N) (hN2 : N < 65536) :
    Met l Z consts_1 ⟨"java/lang/String", "substring", "(II)Ljava/lang/String;"⟩ jdk_42_method_92_code 5 (some (.object "java/lang/String")) [] { frames := 4, cells := 2, slots := N + 4, locals := 64 } #[.ref a, .int (Int32.ofNat i), .int (Int32.ofNat e)] h [] (fun v h' => ∃ x : Addr, v = some (.ref x) ∧ Ext h h' ∧ Stl Z h' x ((cs.drop i).take (e - i))) := by
  have S0 := S
  obtain ⟨b, kb, X, C, Vl, A, hlat, hn⟩ := S
  refine Met.of_walk (a0 := a0) (Ls := #[.val (.ref a), .val (.int (Int32.ofNat i)), .val (.int (Int32.ofNat e)), .unset, .unset]) (plainFor_of_name pn_str) (own_hEL hw) rfl ?_
  refine Wl.aload_n 1 d9_0 rfl rfl ?_
  refine Wl.virtual 4 (argsL := []) d9_1 (w50 hw) (w35 hw) (w37 hw) (w36 hw) (w11 hw) (w38 hw) (nf_sel (w37 hw) rfl) X (show parseMethodDescriptor "()I" = some ⟨[], some .int⟩ by decide +kernel) rfl (len_met hw hcs S0) (fun _ q => nomatch q) rfl rfl rfl (by decide) ⟨⟨by show 1 + 1 ≤ 4; omega, by show 0 + (1 + 11) + 13 ≤ 64; omega⟩, by show 0 + 0 ≤ 2; omega, by show 0 + 0 ≤ N + 4; omega⟩ ?_
  intro v h1 hq _
  obtain ⟨rfl, rfl⟩ := hq
  show Wl _ _ _ _ _ _ _ _ _ _ _ _ _ _ _ _ _ [.int (Int32.ofNat cs.length)]
  refine Wl.istore_n 5 #[.val (.ref a), .val (.int (Int32.ofNat i)), .val (.int (Int32.ofNat e)), .val (.int (Int32.ofNat cs.length)), .unset] d9_4 rfl ?_
  refine Wl.iload_n 6 d9_5 rfl ?_
  refine Wl.iload_n 7 d9_6 rfl ?_
  refine Wl.iload_n 8 d9_7 rfl ?_
  refine Wl.static 11 (argsL := [.int (Int32.ofNat i), .int (Int32.ofNat e), .int (Int32.ofNat cs.length)]) d9_8 (w51 hw) (w52 hw) (w11 hw) (w53 hw) (show parseMethodDescriptor "(III)V" = some ⟨[.int, .int, .int], none⟩ by decide +kernel) rfl (chkB_met hw hfm (nNn (by omega)) (fun q => by rw [nLt (by omega) (by omega)] at q; omega) (fun q => by rw [nLt (by omega) (by omega)] at q; omega)) (fun _ q => nomatch q) rfl rfl rfl (by decide) ⟨⟨by show 1 + 1 ≤ 4; omega, by show 0 + (3 + 11) + 15 ≤ 64; omega⟩, by show 0 + 0 + 0 ≤ 2; omega, by show 0 + 0 + 0 ≤ N + 4; omega⟩ ?_
  intro v h2 hq _
  obtain ⟨rfl, rfl⟩ := hq
  show Wl _ _ _ _ _ _ _ _ _ _ _ _ _ _ _ _ _ []
  refine Wl.iload_n 12 d9_11 rfl ?_
  have go : ¬ (i = 0 ∧ e = cs.length) → Wl l Z a0 consts_1 ⟨"java/lang/String", "substring", "(II)Ljava/lang/String;"⟩ jdk_42_method_92_code 5 (some (.object "java/lang/String")) { frames := 4, cells := 2, slots := N + 4, locals := 64 } #[.ref a, .int (Int32.ofNat i), .int (Int32.ofNat e)] (fun v h' => ∃ x : Addr, v = some (.ref x) ∧ Ext h h' ∧ Stl Z h' x ((cs.drop i).take (e - i))) [] h (0 + 0 + 0) (0 + 0 + 0) 22 #[.val (.ref a), .val (.int (Int32.ofNat i)), .val (.int (Int32.ofNat e)), .val (.int (Int32.ofNat cs.length)), .unset] [] := by
    intro hno
    refine Wl.iload_n 23 d9_22 rfl ?_
    refine Wl.iload_n 24 d9_23 rfl ?_
    refine Wl.isub 25 d9_24 ?_
    rw [nSub hie (by omega)]
    refine Wl.istore 27 #[.val (.ref a), .val (.int (Int32.ofNat i)), .val (.int (Int32.ofNat e)), .val (.int (Int32.ofNat cs.length)), .val (.int (Int32.ofNat (e - i)))] d9_25 rfl ?_
    refine Wl.aload_n 28 d9_27 rfl rfl ?_
    refine Wl.virtual 31 (argsL := []) d9_28 (w75 hw) (w76 hw) (w78 hw) (w77 hw) (w11 hw) (w79 hw) (nf_sel (w78 hw) rfl) X (show parseMethodDescriptor "()Z" = some ⟨[], some .boolean⟩ by decide +kernel) rfl (isLatin1_met hw hcs C) (fun _ q => nomatch q) rfl rfl rfl (by decide) ⟨⟨by show 0 + 1 ≤ 4; omega, by show 0 + (1 + 11) + 0 ≤ 64; omega⟩, by show 0 + 0 + 0 + 0 ≤ 2; omega, by show 0 + 0 + 0 + 0 ≤ N + 4; omega⟩ ?_
    intro v h3 hq _
    obtain ⟨rfl, rfl⟩ := hq
    show Wl _ _ _ _ _ _ _ _ _ _ _ _ _ _ _ _ _ [.int 1]
    refine Wl.ifN 34 d9_31 (by decide) ?_
    refine Wl.aload_n 35 d9_34 rfl rfl ?_
    refine Wl.getfield 38 d9_35 (w28 hw) Vl ?_
    refine Wl.iload_n 39 d9_38 rfl ?_
    refine Wl.iload 41 d9_39 rfl ?_
    refine Wl.static 44 (argsL := [.ref b, .int (Int32.ofNat i), .int (Int32.ofNat (e - i))]) d9_41 (w93 hw) (w94 hw) (w82 hw) (w95 hw) (show parseMethodDescriptor "([BII)Ljava/lang/String;" = some ⟨[.array .byte, .int, .int], some (.object "java/lang/String")⟩ by decide +kernel) rfl (newS_met hw hn hlat (by omega) (Or.inl (fun q => hno ⟨q.1, by omega⟩)) hN hN2 A) (fun _ q => nomatch q) rfl rfl rfl (by decide) ⟨⟨by show 3 + 1 ≤ 4; omega, by show 0 + (3 + 11) + 50 ≤ 64; omega⟩, by show 0 + 0 + 0 + 0 + 2 ≤ 2; omega, by show 0 + 0 + 0 + 0 + (N + 4) ≤ N + 4; omega⟩ ?_
    intro v h4 hq _
    obtain ⟨x, rfl, r⟩ := hq
    show Wl _ _ _ _ _ _ _ _ _ _ _ _ _ _ _ _ _ [.ref x]
    refine Wl.goto 57 d9_44 ?_
    exact Wl.areturn d9_57 rfl rfl rfl (by show 0 + 0 + 0 + 0 + 2 ≤ 2; omega) (by show 0 + 0 + 0 + 0 + (N + 4) ≤ N + 4; omega) ⟨x, rfl, r⟩
  by_cases h0 : i = 0
  · subst h0
    refine Wl.ifN 15 d9_12 (teq (by decide)).2 ?_
    refine Wl.iload_n 16 d9_15 rfl ?_
    refine Wl.iload_n 17 d9_16 rfl ?_
    by_cases h1 : e = cs.length
    · subst h1
      refine Wl.icmpN 20 d9_17 (teq rfl).2 ?_
      refine Wl.aload_n 21 d9_20 rfl rfl ?_
      exact Wl.areturn d9_21 rfl rfl rfl (by show 0 + 0 + 0 ≤ 2; omega) (by show 0 + 0 + 0 ≤ N + 4; omega) ⟨a, rfl, ext_rfl _, by simpa using S0⟩
    · refine Wl.icmpY 22 d9_17 (feq (fun q => h1 ((nEq (by omega) (by omega)).mp q))).2 ?_
      exact go (fun q => h1 q.2)
  · refine Wl.ifY 22 d9_12 (feq (fun q => h0 ((nEq (j := 0) (by omega) (by omega)).mp q))).2 ?_
    exact go (fun q => h0 q.1)

end OpSub

def pickI (x : Int32) : Int32 := if (x &&& (3 : Int32)) = (0 : Int32) then 32 else if (x &&& (3 : Int32)) = (1 : Int32) then 9 else ((x.toUInt32 >>> ((2 : Int32) &&& 31).toUInt32).toInt32 &&& (255 : Int32)).toUInt32.toUInt16.toUInt32.toInt32
theorem pick_lat (x : Int32) : Lat (pickI x) := by
  unfold pickI
  split
  · decide
  · split
    · decide
    · exact i2c_mask_lat _
def spI (x : Int32) : Int32 := if x = (32 : Int32) then 1 else if x = (9 : Int32) then 1 else 0
def isp (x : Int32) : Bool := decide (¬ spI x = 0)
def trimL (cs : List Int32) : List Int32 := ((cs.dropWhile isp).reverse.dropWhile isp).reverse
set_option maxRecDepth 65536 in
set_option maxHeartbeats 40000000 in
theorem pick_met {l : Launch} {Z : State} {a0 : Array Value} (hw : ∀ d ∈ tables_1, d.before a0 Z = true) {h : Heap} {x : Int32}  :
    Met l Z consts_1 ⟨"org/portcullis/HttpSyntaxTrimPinLaw", "pick", "(I)C"⟩ method_2_code 2 (some .char) [] { frames := 0, cells := 0, slots := 0, locals := 0 } #[.int x] h [] (fun v h' => v = some (.int (pickI x)) ∧ h = h') := by
  refine Met.of_walk (a0 := a0) (Ls := #[.val (.int x), .unset]) (plainFor_of_name pn_2) (own_hEL hw) rfl ?_
  refine Wl.iload_n 1 d1_0 rfl ?_
  refine Wl.iconst 2 (3 : Int32) d1_1 (by decide) ?_
  refine Wl.iand 3 d1_2 ?_
  refine Wl.istore_n 4 #[.val (.int x), .val (.int (x &&& (3 : Int32)))] d1_3 rfl ?_
  refine Wl.iload_n 5 d1_4 rfl ?_
  by_cases c1 : (x &&& (3 : Int32)) = (0 : Int32)
  · refine Wl.ifN 8 d1_5 (teq c1).2 ?_
    refine Wl.bipush 10 (32 : Int32) d1_8 (by decide) ?_
    exact Wl.ireturn d1_10 rfl rfl (by simp) (nle rfl) (nle rfl) ⟨by rw [pickI, if_pos c1], rfl⟩
  · refine Wl.ifY 11 d1_5 (feq c1).2 ?_
    refine Wl.iload_n 12 d1_11 rfl ?_
    refine Wl.iconst 13 (1 : Int32) d1_12 (by decide) ?_
    by_cases c2 : (x &&& (3 : Int32)) = (1 : Int32)
    · refine Wl.icmpN 16 d1_13 (teq c2).2 ?_
      refine Wl.bipush 18 (9 : Int32) d1_16 (by decide) ?_
      exact Wl.ireturn d1_18 rfl rfl (by simp) (nle rfl) (nle rfl) ⟨by rw [pickI, if_neg c1, if_pos c2], rfl⟩
    · refine Wl.icmpY 19 d1_13 (feq c2).2 ?_
      refine Wl.iload_n 20 d1_19 rfl ?_
      refine Wl.iconst 21 (2 : Int32) d1_20 (by decide) ?_
      refine Wl.iushr 22 d1_21 ?_
      refine Wl.sipush 25 (255 : Int32) d1_22 (by decide) ?_
      refine Wl.iand 26 d1_25 ?_
      refine Wl.i2c 27 d1_26 ?_
      exact Wl.ireturn d1_27 rfl (narC (i2c_ch _)) (by simp) (nle rfl) (nle rfl) ⟨by rw [pickI, if_neg c1, if_neg c2], rfl⟩
set_option maxRecDepth 65536 in
set_option maxHeartbeats 40000000 in
theorem sp_met {l : Launch} {Z : State} {a0 : Array Value} (hw : ∀ d ∈ tables_1, d.before a0 Z = true) {h : Heap} {x : Int32}  :
    Met l Z consts_1 ⟨"org/portcullis/HttpSyntaxTrimPinLaw", "sp", "(C)Z"⟩ method_3_code 1 (some .boolean) [] { frames := 0, cells := 0, slots := 0, locals := 0 } #[.int x] h [] (fun v h' => v = some (.int (spI x)) ∧ h = h') := by
  refine Met.of_walk (a0 := a0) (Ls := #[.val (.int x)]) (plainFor_of_name pn_2) (own_hEL hw) rfl ?_
  refine Wl.iload_n 1 d27_0 rfl ?_
  refine Wl.bipush 3 (32 : Int32) d27_1 (by decide) ?_
  by_cases c1 : x = (32 : Int32)
  · refine Wl.icmpY 12 d27_3 (teq c1).1 ?_
    refine Wl.iconst 13 (1 : Int32) d27_12 (by decide) ?_
    refine Wl.goto 17 d27_13 ?_
    exact Wl.ireturn d27_17 rfl rfl (by simp) (nle rfl) (nle rfl) ⟨by rw [spI, if_pos c1], rfl⟩
  · refine Wl.icmpN 6 d27_3 (feq c1).1 ?_
    refine Wl.iload_n 7 d27_6 rfl ?_
    refine Wl.bipush 9 (9 : Int32) d27_7 (by decide) ?_
    by_cases c2 : x = (9 : Int32)
    · refine Wl.icmpN 12 d27_9 (teq c2).2 ?_
      refine Wl.iconst 13 (1 : Int32) d27_12 (by decide) ?_
      refine Wl.goto 17 d27_13 ?_
      exact Wl.ireturn d27_17 rfl rfl (by simp) (nle rfl) (nle rfl) ⟨by rw [spI, if_neg c1, if_pos c2], rfl⟩
    · refine Wl.icmpY 16 d27_9 (feq c2).2 ?_
      refine Wl.iconst 17 (0 : Int32) d27_16 (by decide) ?_
      exact Wl.ireturn d27_17 rfl rfl (by simp) (nle rfl) (nle rfl) ⟨by rw [spI, if_neg c1, if_neg c2], rfl⟩
set_option maxRecDepth 65536 in
set_option maxHeartbeats 40000000 in
theorem isSp_met {l : Launch} {Z : State} {a0 : Array Value} (hw : ∀ d ∈ tables_1, d.before a0 Z = true) {h : Heap} {x : Int32}  :
    Met l Z consts_1 ⟨"org/portcullis/HttpSyntax", "isSpace", "(C)Z"⟩ prog_24_method_6_code 1 (some .boolean) [] { frames := 0, cells := 0, slots := 0, locals := 0 } #[.int x] h [] (fun v h' => v = some (.int (spI x)) ∧ h = h') := by
  refine Met.of_walk (a0 := a0) (Ls := #[.val (.int x)]) (plainFor_of_name pn_3) (own_hEL hw) rfl ?_
  refine Wl.iload_n 1 d20_0 rfl ?_
  refine Wl.bipush 3 (32 : Int32) d20_1 (by decide) ?_
  by_cases c1 : x = (32 : Int32)
  · refine Wl.icmpY 12 d20_3 (teq c1).1 ?_
    refine Wl.iconst 13 (1 : Int32) d20_12 (by decide) ?_
    refine Wl.goto 17 d20_13 ?_
    exact Wl.ireturn d20_17 rfl rfl (by simp) (nle rfl) (nle rfl) ⟨by rw [spI, if_pos c1], rfl⟩
  · refine Wl.icmpN 6 d20_3 (feq c1).1 ?_
    refine Wl.iload_n 7 d20_6 rfl ?_
    refine Wl.bipush 9 (9 : Int32) d20_7 (by decide) ?_
    by_cases c2 : x = (9 : Int32)
    · refine Wl.icmpN 12 d20_9 (teq c2).2 ?_
      refine Wl.iconst 13 (1 : Int32) d20_12 (by decide) ?_
      refine Wl.goto 17 d20_13 ?_
      exact Wl.ireturn d20_17 rfl rfl (by simp) (nle rfl) (nle rfl) ⟨by rw [spI, if_neg c1, if_pos c2], rfl⟩
    · refine Wl.icmpY 16 d20_9 (feq c2).2 ?_
      refine Wl.iconst 17 (0 : Int32) d20_16 (by decide) ?_
      exact Wl.ireturn d20_17 rfl rfl (by simp) (nle rfl) (nle rfl) ⟨by rw [spI, if_neg c1, if_neg c2], rfl⟩
set_option maxRecDepth 65536 in
set_option maxHeartbeats 40000000 in
theorem trim0_met {l : Launch} {Z : State} {a0 : Array Value} (hw : ∀ d ∈ tables_1, d.before a0 Z = true) (hcs : CSon Z) (hfm : Fmt Z) {h : Heap} {a : Addr} {c0 c1 c2 c3 : Int32} (S : Stl Z h a []) :
    Met l Z consts_1 ⟨"org/portcullis/HttpSyntax", "trim", "(Ljava/lang/String;)Ljava/lang/String;"⟩ prog_24_method_5_code 3 (some (.object "java/lang/String")) [] { frames := 5, cells := 2, slots := 8, locals := 80 } #[.ref a] h [] (fun v h' => ∃ x : Addr, v = some (.ref x) ∧ Ext h h' ∧ Stl Z h' x (trimL [])) := by
  refine Met.of_walk (a0 := a0) (Ls := #[.val (.ref a), .unset, .unset]) (plainFor_of_name pn_3) (own_hEL hw) rfl ?_
  refine Wl.iconst 1 (0 : Int32) d6_0 (by decide) ?_
  refine Wl.istore_n 2 #[.val (.ref a), .val (.int (0 : Int32)), .unset] d6_1 rfl ?_
  refine Wl.aload_n 3 d6_2 rfl rfl ?_
  refine Wl.virtual 6 (argsL := []) d6_3 (w34 hw) (w35 hw) (w37 hw) (w36 hw) (w11 hw) (w38 hw) (nf_sel (w37 hw) rfl) (S).exa (show parseMethodDescriptor "()I" = some ⟨[], some .int⟩ by decide +kernel) rfl (len_met hw hcs S) (fun _ q => nomatch q) rfl rfl rfl (by decide) ⟨⟨nle rfl, nle rfl⟩, nle rfl, nle rfl⟩ ?_
  intro v1 h2 hq3 _
  obtain ⟨rfl, rfl⟩ := hq3
  show WlO _ _ _ _ _ _ _ _ _ _ _ _ _ _ _ _ _ _ [.int (0 : Int32)]
  refine Wl.istore_n 7 #[.val (.ref a), .val (.int (0 : Int32)), .val (.int (0 : Int32))] d6_6 rfl ?_
  refine Wl.iload_n 8 d6_7 rfl ?_
  refine Wl.iload_n 9 d6_8 rfl ?_
  refine Wl.icmpY 29 d6_9 (flt (by decide)).2.1 ?_
  refine Wl.iload_n 30 d6_29 rfl ?_
  refine Wl.iload_n 31 d6_30 rfl ?_
  refine Wl.icmpY 53 d6_31 (flt (by decide)).2.2.2 ?_
  refine Wl.aload_n 54 d6_53 rfl rfl ?_
  refine Wl.iload_n 55 d6_54 rfl ?_
  refine Wl.iload_n 56 d6_55 rfl ?_
  refine Wl.virtual 59 (argsL := [.int (0 : Int32), .int (0 : Int32)]) d6_56 (w45 hw) (w46 hw) (w48 hw) (w47 hw) (w11 hw) (w49 hw) (nf_sel (w48 hw) rfl) (S).exa (show parseMethodDescriptor "(II)Ljava/lang/String;" = some ⟨[.int, .int], some (.object "java/lang/String")⟩ by decide +kernel) rfl (sub_met hw hcs hfm (i := 0) (e := 0) (N := 4) S (nle rfl) (nle rfl) (nle rfl) (nle rfl)) (fun _ q => nomatch q) rfl rfl rfl (by decide) ⟨⟨nle rfl, nle rfl⟩, nle rfl, nle rfl⟩ ?_
  intro v4 h5 hq6 _
  obtain ⟨a7, rfl, E8, S9⟩ := hq6
  have S9 : Stl Z h5 a7 [] := S9
  have B10 : Ext h h5 := E8
  show WlO _ _ _ _ _ _ _ _ _ _ _ _ _ _ _ _ _ _ [.ref a7]
  exact Wl.areturn d6_59 rfl rfl rfl (nle rfl) (nle rfl) ⟨a7, rfl, B10, S9⟩
set_option maxRecDepth 65536 in
set_option maxHeartbeats 40000000 in
theorem trim1_met {l : Launch} {Z : State} {a0 : Array Value} (hw : ∀ d ∈ tables_1, d.before a0 Z = true) (hcs : CSon Z) (hfm : Fmt Z) {h : Heap} {a : Addr} {c0 c1 c2 c3 : Int32} (S : Stl Z h a [c0]) :
    Met l Z consts_1 ⟨"org/portcullis/HttpSyntax", "trim", "(Ljava/lang/String;)Ljava/lang/String;"⟩ prog_24_method_5_code 3 (some (.object "java/lang/String")) [] { frames := 5, cells := 2, slots := 8, locals := 80 } #[.ref a] h [] (fun v h' => ∃ x : Addr, v = some (.ref x) ∧ Ext h h' ∧ Stl Z h' x (trimL [c0])) := by
  refine Met.of_walk (a0 := a0) (Ls := #[.val (.ref a), .unset, .unset]) (plainFor_of_name pn_3) (own_hEL hw) rfl ?_
  refine Wl.iconst 1 (0 : Int32) d6_0 (by decide) ?_
  refine Wl.istore_n 2 #[.val (.ref a), .val (.int (0 : Int32)), .unset] d6_1 rfl ?_
  refine Wl.aload_n 3 d6_2 rfl rfl ?_
  refine Wl.virtual 6 (argsL := []) d6_3 (w34 hw) (w35 hw) (w37 hw) (w36 hw) (w11 hw) (w38 hw) (nf_sel (w37 hw) rfl) (S).exa (show parseMethodDescriptor "()I" = some ⟨[], some .int⟩ by decide +kernel) rfl (len_met hw hcs S) (fun _ q => nomatch q) rfl rfl rfl (by decide) ⟨⟨nle rfl, nle rfl⟩, nle rfl, nle rfl⟩ ?_
  intro v1 h2 hq3 _
  obtain ⟨rfl, rfl⟩ := hq3
  show WlO _ _ _ _ _ _ _ _ _ _ _ _ _ _ _ _ _ _ [.int (1 : Int32)]
  refine Wl.istore_n 7 #[.val (.ref a), .val (.int (0 : Int32)), .val (.int (1 : Int32))] d6_6 rfl ?_
  refine Wl.iload_n 8 d6_7 rfl ?_
  refine Wl.iload_n 9 d6_8 rfl ?_
  refine Wl.icmpN 12 d6_9 (tlt (by decide)).2.1 ?_
  refine Wl.aload_n 13 d6_12 rfl rfl ?_
  refine Wl.iload_n 14 d6_13 rfl ?_
  refine Wl.virtual 17 (argsL := [.int (0 : Int32)]) d6_14 (w70 hw) (w71 hw) (w73 hw) (w72 hw) (w11 hw) (w74 hw) (nf_sel (w73 hw) rfl) (S).exa (show parseMethodDescriptor "(I)C" = some ⟨[.int], some .char⟩ by decide +kernel) rfl (charAt_met hw hcs hfm S (i := 0) (nle rfl)) (fun _ q => nomatch q) rfl rfl rfl (by decide) ⟨⟨nle rfl, nle rfl⟩, nle rfl, nle rfl⟩ ?_
  intro v4 h5 hq6 _
  obtain ⟨rfl, rfl⟩ := hq6
  show WlO _ _ _ _ _ _ _ _ _ _ _ _ _ _ _ _ _ _ [.int c0]
  refine Wl.static 20 (argsL := [.int c0]) d6_17 (w90 hw) (w91 hw) (w32 hw) (w92 hw) (show parseMethodDescriptor "(C)Z" = some ⟨[.char], some .boolean⟩ by decide +kernel) rfl (isSp_met hw) (fun _ q => nomatch q) rfl rfl rfl (by decide) ⟨⟨nle rfl, nle rfl⟩, nle rfl, nle rfl⟩ ?_
  intro v7 h8 hq9 _
  obtain ⟨rfl, rfl⟩ := hq9
  show WlO _ _ _ _ _ _ _ _ _ _ _ _ _ _ _ _ _ _ [.int (spI c0)]
  by_cases c10 : (spI c0) = (0 : Int32)
  · refine Wl.ifY 29 d6_20 (teq c10).1 ?_
    refine Wl.iload_n 30 d6_29 rfl ?_
    refine Wl.iload_n 31 d6_30 rfl ?_
    refine Wl.icmpN 34 d6_31 (tlt (by decide)).2.2.2 ?_
    refine Wl.aload_n 35 d6_34 rfl rfl ?_
    refine Wl.iload_n 36 d6_35 rfl ?_
    refine Wl.iconst 37 (1 : Int32) d6_36 (by decide) ?_
    refine Wl.isub 38 d6_37 ?_
    show WlO _ _ _ _ _ _ _ _ _ _ _ _ _ _ _ _ _ _ [.int (0 : Int32), .ref a]
    refine Wl.virtual 41 (argsL := [.int (0 : Int32)]) d6_38 (w70 hw) (w71 hw) (w73 hw) (w72 hw) (w11 hw) (w74 hw) (nf_sel (w73 hw) rfl) (S).exa (show parseMethodDescriptor "(I)C" = some ⟨[.int], some .char⟩ by decide +kernel) rfl (charAt_met hw hcs hfm S (i := 0) (nle rfl)) (fun _ q => nomatch q) rfl rfl rfl (by decide) ⟨⟨nle rfl, nle rfl⟩, nle rfl, nle rfl⟩ ?_
    intro v11 h12 hq13 _
    obtain ⟨rfl, rfl⟩ := hq13
    show WlO _ _ _ _ _ _ _ _ _ _ _ _ _ _ _ _ _ _ [.int c0]
    refine Wl.static 44 (argsL := [.int c0]) d6_41 (w90 hw) (w91 hw) (w32 hw) (w92 hw) (show parseMethodDescriptor "(C)Z" = some ⟨[.char], some .boolean⟩ by decide +kernel) rfl (isSp_met hw) (fun _ q => nomatch q) rfl rfl rfl (by decide) ⟨⟨nle rfl, nle rfl⟩, nle rfl, nle rfl⟩ ?_
    intro v14 h15 hq16 _
    obtain ⟨rfl, rfl⟩ := hq16
    show WlO _ _ _ _ _ _ _ _ _ _ _ _ _ _ _ _ _ _ [.int (spI c0)]
    refine Wl.ifY 53 d6_44 (teq c10).1 ?_
    refine Wl.aload_n 54 d6_53 rfl rfl ?_
    refine Wl.iload_n 55 d6_54 rfl ?_
    refine Wl.iload_n 56 d6_55 rfl ?_
    refine Wl.virtual 59 (argsL := [.int (0 : Int32), .int (1 : Int32)]) d6_56 (w45 hw) (w46 hw) (w48 hw) (w47 hw) (w11 hw) (w49 hw) (nf_sel (w48 hw) rfl) (S).exa (show parseMethodDescriptor "(II)Ljava/lang/String;" = some ⟨[.int, .int], some (.object "java/lang/String")⟩ by decide +kernel) rfl (sub_met hw hcs hfm (i := 0) (e := 1) (N := 4) S (nle rfl) (nle rfl) (nle rfl) (nle rfl)) (fun _ q => nomatch q) rfl rfl rfl (by decide) ⟨⟨nle rfl, nle rfl⟩, nle rfl, nle rfl⟩ ?_
    intro v17 h18 hq19 _
    obtain ⟨a20, rfl, E21, S22⟩ := hq19
    have S22 : Stl Z h18 a20 [c0] := S22
    have B23 : Ext h h18 := E21
    show WlO _ _ _ _ _ _ _ _ _ _ _ _ _ _ _ _ _ _ [.ref a20]
    exact Wl.areturn d6_59 rfl rfl rfl (nle rfl) (nle rfl) ⟨a20, rfl, B23, by rw [show trimL [c0] = [c0] by simp [trimL, isp, List.dropWhile, c10]]; exact S22⟩
  · refine Wl.ifN 23 d6_20 (feq c10).1 ?_
    refine Wl.iinc 26 #[.val (.ref a), .val (.int (1 : Int32)), .val (.int (1 : Int32))] (1 : Int32) d6_23 (by decide) rfl rfl ?_
    refine Wl.goto 7 d6_26 ?_
    refine Wl.iload_n 8 d6_7 rfl ?_
    refine Wl.iload_n 9 d6_8 rfl ?_
    refine Wl.icmpY 29 d6_9 (flt (by decide)).2.1 ?_
    refine Wl.iload_n 30 d6_29 rfl ?_
    refine Wl.iload_n 31 d6_30 rfl ?_
    refine Wl.icmpY 53 d6_31 (flt (by decide)).2.2.2 ?_
    refine Wl.aload_n 54 d6_53 rfl rfl ?_
    refine Wl.iload_n 55 d6_54 rfl ?_
    refine Wl.iload_n 56 d6_55 rfl ?_
    refine Wl.virtual 59 (argsL := [.int (1 : Int32), .int (1 : Int32)]) d6_56 (w45 hw) (w46 hw) (w48 hw) (w47 hw) (w11 hw) (w49 hw) (nf_sel (w48 hw) rfl) (S).exa (show parseMethodDescriptor "(II)Ljava/lang/String;" = some ⟨[.int, .int], some (.object "java/lang/String")⟩ by decide +kernel) rfl (sub_met hw hcs hfm (i := 1) (e := 1) (N := 4) S (nle rfl) (nle rfl) (nle rfl) (nle rfl)) (fun _ q => nomatch q) rfl rfl rfl (by decide) ⟨⟨nle rfl, nle rfl⟩, nle rfl, nle rfl⟩ ?_
    intro v24 h25 hq26 _
    obtain ⟨a27, rfl, E28, S29⟩ := hq26
    have S29 : Stl Z h25 a27 [] := S29
    have B30 : Ext h h25 := E28
    show WlO _ _ _ _ _ _ _ _ _ _ _ _ _ _ _ _ _ _ [.ref a27]
    exact Wl.areturn d6_59 rfl rfl rfl (nle rfl) (nle rfl) ⟨a27, rfl, B30, by rw [show trimL [c0] = [] by simp [trimL, isp, List.dropWhile, c10]]; exact S29⟩
set_option maxRecDepth 65536 in
set_option maxHeartbeats 40000000 in
theorem trim2_met {l : Launch} {Z : State} {a0 : Array Value} (hw : ∀ d ∈ tables_1, d.before a0 Z = true) (hcs : CSon Z) (hfm : Fmt Z) {h : Heap} {a : Addr} {c0 c1 c2 c3 : Int32} (S : Stl Z h a [c0, c1]) :
    Met l Z consts_1 ⟨"org/portcullis/HttpSyntax", "trim", "(Ljava/lang/String;)Ljava/lang/String;"⟩ prog_24_method_5_code 3 (some (.object "java/lang/String")) [] { frames := 5, cells := 2, slots := 8, locals := 80 } #[.ref a] h [] (fun v h' => ∃ x : Addr, v = some (.ref x) ∧ Ext h h' ∧ Stl Z h' x (trimL [c0, c1])) := by
  refine Met.of_walk (a0 := a0) (Ls := #[.val (.ref a), .unset, .unset]) (plainFor_of_name pn_3) (own_hEL hw) rfl ?_
  refine Wl.iconst 1 (0 : Int32) d6_0 (by decide) ?_
  refine Wl.istore_n 2 #[.val (.ref a), .val (.int (0 : Int32)), .unset] d6_1 rfl ?_
  refine Wl.aload_n 3 d6_2 rfl rfl ?_
  refine Wl.virtual 6 (argsL := []) d6_3 (w34 hw) (w35 hw) (w37 hw) (w36 hw) (w11 hw) (w38 hw) (nf_sel (w37 hw) rfl) (S).exa (show parseMethodDescriptor "()I" = some ⟨[], some .int⟩ by decide +kernel) rfl (len_met hw hcs S) (fun _ q => nomatch q) rfl rfl rfl (by decide) ⟨⟨nle rfl, nle rfl⟩, nle rfl, nle rfl⟩ ?_
  intro v1 h2 hq3 _
  obtain ⟨rfl, rfl⟩ := hq3
  show WlO _ _ _ _ _ _ _ _ _ _ _ _ _ _ _ _ _ _ [.int (2 : Int32)]
  refine Wl.istore_n 7 #[.val (.ref a), .val (.int (0 : Int32)), .val (.int (2 : Int32))] d6_6 rfl ?_
  refine Wl.iload_n 8 d6_7 rfl ?_
  refine Wl.iload_n 9 d6_8 rfl ?_
  refine Wl.icmpN 12 d6_9 (tlt (by decide)).2.1 ?_
  refine Wl.aload_n 13 d6_12 rfl rfl ?_
  refine Wl.iload_n 14 d6_13 rfl ?_
  refine Wl.virtual 17 (argsL := [.int (0 : Int32)]) d6_14 (w70 hw) (w71 hw) (w73 hw) (w72 hw) (w11 hw) (w74 hw) (nf_sel (w73 hw) rfl) (S).exa (show parseMethodDescriptor "(I)C" = some ⟨[.int], some .char⟩ by decide +kernel) rfl (charAt_met hw hcs hfm S (i := 0) (nle rfl)) (fun _ q => nomatch q) rfl rfl rfl (by decide) ⟨⟨nle rfl, nle rfl⟩, nle rfl, nle rfl⟩ ?_
  intro v4 h5 hq6 _
  obtain ⟨rfl, rfl⟩ := hq6
  show WlO _ _ _ _ _ _ _ _ _ _ _ _ _ _ _ _ _ _ [.int c0]
  refine Wl.static 20 (argsL := [.int c0]) d6_17 (w90 hw) (w91 hw) (w32 hw) (w92 hw) (show parseMethodDescriptor "(C)Z" = some ⟨[.char], some .boolean⟩ by decide +kernel) rfl (isSp_met hw) (fun _ q => nomatch q) rfl rfl rfl (by decide) ⟨⟨nle rfl, nle rfl⟩, nle rfl, nle rfl⟩ ?_
  intro v7 h8 hq9 _
  obtain ⟨rfl, rfl⟩ := hq9
  show WlO _ _ _ _ _ _ _ _ _ _ _ _ _ _ _ _ _ _ [.int (spI c0)]
  by_cases c10 : (spI c0) = (0 : Int32)
  · refine Wl.ifY 29 d6_20 (teq c10).1 ?_
    refine Wl.iload_n 30 d6_29 rfl ?_
    refine Wl.iload_n 31 d6_30 rfl ?_
    refine Wl.icmpN 34 d6_31 (tlt (by decide)).2.2.2 ?_
    refine Wl.aload_n 35 d6_34 rfl rfl ?_
    refine Wl.iload_n 36 d6_35 rfl ?_
    refine Wl.iconst 37 (1 : Int32) d6_36 (by decide) ?_
    refine Wl.isub 38 d6_37 ?_
    show WlO _ _ _ _ _ _ _ _ _ _ _ _ _ _ _ _ _ _ [.int (1 : Int32), .ref a]
    refine Wl.virtual 41 (argsL := [.int (1 : Int32)]) d6_38 (w70 hw) (w71 hw) (w73 hw) (w72 hw) (w11 hw) (w74 hw) (nf_sel (w73 hw) rfl) (S).exa (show parseMethodDescriptor "(I)C" = some ⟨[.int], some .char⟩ by decide +kernel) rfl (charAt_met hw hcs hfm S (i := 1) (nle rfl)) (fun _ q => nomatch q) rfl rfl rfl (by decide) ⟨⟨nle rfl, nle rfl⟩, nle rfl, nle rfl⟩ ?_
    intro v11 h12 hq13 _
    obtain ⟨rfl, rfl⟩ := hq13
    show WlO _ _ _ _ _ _ _ _ _ _ _ _ _ _ _ _ _ _ [.int c1]
    refine Wl.static 44 (argsL := [.int c1]) d6_41 (w90 hw) (w91 hw) (w32 hw) (w92 hw) (show parseMethodDescriptor "(C)Z" = some ⟨[.char], some .boolean⟩ by decide +kernel) rfl (isSp_met hw) (fun _ q => nomatch q) rfl rfl rfl (by decide) ⟨⟨nle rfl, nle rfl⟩, nle rfl, nle rfl⟩ ?_
    intro v14 h15 hq16 _
    obtain ⟨rfl, rfl⟩ := hq16
    show WlO _ _ _ _ _ _ _ _ _ _ _ _ _ _ _ _ _ _ [.int (spI c1)]
    by_cases c17 : (spI c1) = (0 : Int32)
    · refine Wl.ifY 53 d6_44 (teq c17).1 ?_
      refine Wl.aload_n 54 d6_53 rfl rfl ?_
      refine Wl.iload_n 55 d6_54 rfl ?_
      refine Wl.iload_n 56 d6_55 rfl ?_
      refine Wl.virtual 59 (argsL := [.int (0 : Int32), .int (2 : Int32)]) d6_56 (w45 hw) (w46 hw) (w48 hw) (w47 hw) (w11 hw) (w49 hw) (nf_sel (w48 hw) rfl) (S).exa (show parseMethodDescriptor "(II)Ljava/lang/String;" = some ⟨[.int, .int], some (.object "java/lang/String")⟩ by decide +kernel) rfl (sub_met hw hcs hfm (i := 0) (e := 2) (N := 4) S (nle rfl) (nle rfl) (nle rfl) (nle rfl)) (fun _ q => nomatch q) rfl rfl rfl (by decide) ⟨⟨nle rfl, nle rfl⟩, nle rfl, nle rfl⟩ ?_
      intro v18 h19 hq20 _
      obtain ⟨a21, rfl, E22, S23⟩ := hq20
      have S23 : Stl Z h19 a21 [c0, c1] := S23
      have B24 : Ext h h19 := E22
      show WlO _ _ _ _ _ _ _ _ _ _ _ _ _ _ _ _ _ _ [.ref a21]
      exact Wl.areturn d6_59 rfl rfl rfl (nle rfl) (nle rfl) ⟨a21, rfl, B24, by rw [show trimL [c0, c1] = [c0, c1] by simp [trimL, isp, List.dropWhile, c10, c17]]; exact S23⟩
    · refine Wl.ifN 47 d6_44 (feq c17).1 ?_
      refine Wl.iinc 50 #[.val (.ref a), .val (.int (0 : Int32)), .val (.int (1 : Int32))] (-1 : Int32) d6_47 (by decide) rfl rfl ?_
      refine Wl.goto 29 d6_50 ?_
      refine Wl.iload_n 30 d6_29 rfl ?_
      refine Wl.iload_n 31 d6_30 rfl ?_
      refine Wl.icmpN 34 d6_31 (tlt (by decide)).2.2.2 ?_
      refine Wl.aload_n 35 d6_34 rfl rfl ?_
      refine Wl.iload_n 36 d6_35 rfl ?_
      refine Wl.iconst 37 (1 : Int32) d6_36 (by decide) ?_
      refine Wl.isub 38 d6_37 ?_
      show WlO _ _ _ _ _ _ _ _ _ _ _ _ _ _ _ _ _ _ [.int (0 : Int32), .ref a]
      refine Wl.virtual 41 (argsL := [.int (0 : Int32)]) d6_38 (w70 hw) (w71 hw) (w73 hw) (w72 hw) (w11 hw) (w74 hw) (nf_sel (w73 hw) rfl) (S).exa (show parseMethodDescriptor "(I)C" = some ⟨[.int], some .char⟩ by decide +kernel) rfl (charAt_met hw hcs hfm S (i := 0) (nle rfl)) (fun _ q => nomatch q) rfl rfl rfl (by decide) ⟨⟨nle rfl, nle rfl⟩, nle rfl, nle rfl⟩ ?_
      intro v25 h26 hq27 _
      obtain ⟨rfl, rfl⟩ := hq27
      show WlO _ _ _ _ _ _ _ _ _ _ _ _ _ _ _ _ _ _ [.int c0]
      refine Wl.static 44 (argsL := [.int c0]) d6_41 (w90 hw) (w91 hw) (w32 hw) (w92 hw) (show parseMethodDescriptor "(C)Z" = some ⟨[.char], some .boolean⟩ by decide +kernel) rfl (isSp_met hw) (fun _ q => nomatch q) rfl rfl rfl (by decide) ⟨⟨nle rfl, nle rfl⟩, nle rfl, nle rfl⟩ ?_
      intro v28 h29 hq30 _
      obtain ⟨rfl, rfl⟩ := hq30
      show WlO _ _ _ _ _ _ _ _ _ _ _ _ _ _ _ _ _ _ [.int (spI c0)]
      refine Wl.ifY 53 d6_44 (teq c10).1 ?_
      refine Wl.aload_n 54 d6_53 rfl rfl ?_
      refine Wl.iload_n 55 d6_54 rfl ?_
      refine Wl.iload_n 56 d6_55 rfl ?_
      refine Wl.virtual 59 (argsL := [.int (0 : Int32), .int (1 : Int32)]) d6_56 (w45 hw) (w46 hw) (w48 hw) (w47 hw) (w11 hw) (w49 hw) (nf_sel (w48 hw) rfl) (S).exa (show parseMethodDescriptor "(II)Ljava/lang/String;" = some ⟨[.int, .int], some (.object "java/lang/String")⟩ by decide +kernel) rfl (sub_met hw hcs hfm (i := 0) (e := 1) (N := 4) S (nle rfl) (nle rfl) (nle rfl) (nle rfl)) (fun _ q => nomatch q) rfl rfl rfl (by decide) ⟨⟨nle rfl, nle rfl⟩, nle rfl, nle rfl⟩ ?_
      intro v31 h32 hq33 _
      obtain ⟨a34, rfl, E35, S36⟩ := hq33
      have S36 : Stl Z h32 a34 [c0] := S36
      have B37 : Ext h h32 := E35
      show WlO _ _ _ _ _ _ _ _ _ _ _ _ _ _ _ _ _ _ [.ref a34]
      exact Wl.areturn d6_59 rfl rfl rfl (nle rfl) (nle rfl) ⟨a34, rfl, B37, by rw [show trimL [c0, c1] = [c0] by simp [trimL, isp, List.dropWhile, c10, c17]]; exact S36⟩
  · refine Wl.ifN 23 d6_20 (feq c10).1 ?_
    refine Wl.iinc 26 #[.val (.ref a), .val (.int (1 : Int32)), .val (.int (2 : Int32))] (1 : Int32) d6_23 (by decide) rfl rfl ?_
    refine Wl.goto 7 d6_26 ?_
    refine Wl.iload_n 8 d6_7 rfl ?_
    refine Wl.iload_n 9 d6_8 rfl ?_
    refine Wl.icmpN 12 d6_9 (tlt (by decide)).2.1 ?_
    refine Wl.aload_n 13 d6_12 rfl rfl ?_
    refine Wl.iload_n 14 d6_13 rfl ?_
    refine Wl.virtual 17 (argsL := [.int (1 : Int32)]) d6_14 (w70 hw) (w71 hw) (w73 hw) (w72 hw) (w11 hw) (w74 hw) (nf_sel (w73 hw) rfl) (S).exa (show parseMethodDescriptor "(I)C" = some ⟨[.int], some .char⟩ by decide +kernel) rfl (charAt_met hw hcs hfm S (i := 1) (nle rfl)) (fun _ q => nomatch q) rfl rfl rfl (by decide) ⟨⟨nle rfl, nle rfl⟩, nle rfl, nle rfl⟩ ?_
    intro v38 h39 hq40 _
    obtain ⟨rfl, rfl⟩ := hq40
    show WlO _ _ _ _ _ _ _ _ _ _ _ _ _ _ _ _ _ _ [.int c1]
    refine Wl.static 20 (argsL := [.int c1]) d6_17 (w90 hw) (w91 hw) (w32 hw) (w92 hw) (show parseMethodDescriptor "(C)Z" = some ⟨[.char], some .boolean⟩ by decide +kernel) rfl (isSp_met hw) (fun _ q => nomatch q) rfl rfl rfl (by decide) ⟨⟨nle rfl, nle rfl⟩, nle rfl, nle rfl⟩ ?_
    intro v41 h42 hq43 _
    obtain ⟨rfl, rfl⟩ := hq43
    show WlO _ _ _ _ _ _ _ _ _ _ _ _ _ _ _ _ _ _ [.int (spI c1)]
    by_cases c44 : (spI c1) = (0 : Int32)
    · refine Wl.ifY 29 d6_20 (teq c44).1 ?_
      refine Wl.iload_n 30 d6_29 rfl ?_
      refine Wl.iload_n 31 d6_30 rfl ?_
      refine Wl.icmpN 34 d6_31 (tlt (by decide)).2.2.2 ?_
      refine Wl.aload_n 35 d6_34 rfl rfl ?_
      refine Wl.iload_n 36 d6_35 rfl ?_
      refine Wl.iconst 37 (1 : Int32) d6_36 (by decide) ?_
      refine Wl.isub 38 d6_37 ?_
      show WlO _ _ _ _ _ _ _ _ _ _ _ _ _ _ _ _ _ _ [.int (1 : Int32), .ref a]
      refine Wl.virtual 41 (argsL := [.int (1 : Int32)]) d6_38 (w70 hw) (w71 hw) (w73 hw) (w72 hw) (w11 hw) (w74 hw) (nf_sel (w73 hw) rfl) (S).exa (show parseMethodDescriptor "(I)C" = some ⟨[.int], some .char⟩ by decide +kernel) rfl (charAt_met hw hcs hfm S (i := 1) (nle rfl)) (fun _ q => nomatch q) rfl rfl rfl (by decide) ⟨⟨nle rfl, nle rfl⟩, nle rfl, nle rfl⟩ ?_
      intro v45 h46 hq47 _
      obtain ⟨rfl, rfl⟩ := hq47
      show WlO _ _ _ _ _ _ _ _ _ _ _ _ _ _ _ _ _ _ [.int c1]
      refine Wl.static 44 (argsL := [.int c1]) d6_41 (w90 hw) (w91 hw) (w32 hw) (w92 hw) (show parseMethodDescriptor "(C)Z" = some ⟨[.char], some .boolean⟩ by decide +kernel) rfl (isSp_met hw) (fun _ q => nomatch q) rfl rfl rfl (by decide) ⟨⟨nle rfl, nle rfl⟩, nle rfl, nle rfl⟩ ?_
      intro v48 h49 hq50 _
      obtain ⟨rfl, rfl⟩ := hq50
      show WlO _ _ _ _ _ _ _ _ _ _ _ _ _ _ _ _ _ _ [.int (spI c1)]
      refine Wl.ifY 53 d6_44 (teq c44).1 ?_
      refine Wl.aload_n 54 d6_53 rfl rfl ?_
      refine Wl.iload_n 55 d6_54 rfl ?_
      refine Wl.iload_n 56 d6_55 rfl ?_
      refine Wl.virtual 59 (argsL := [.int (1 : Int32), .int (2 : Int32)]) d6_56 (w45 hw) (w46 hw) (w48 hw) (w47 hw) (w11 hw) (w49 hw) (nf_sel (w48 hw) rfl) (S).exa (show parseMethodDescriptor "(II)Ljava/lang/String;" = some ⟨[.int, .int], some (.object "java/lang/String")⟩ by decide +kernel) rfl (sub_met hw hcs hfm (i := 1) (e := 2) (N := 4) S (nle rfl) (nle rfl) (nle rfl) (nle rfl)) (fun _ q => nomatch q) rfl rfl rfl (by decide) ⟨⟨nle rfl, nle rfl⟩, nle rfl, nle rfl⟩ ?_
      intro v51 h52 hq53 _
      obtain ⟨a54, rfl, E55, S56⟩ := hq53
      have S56 : Stl Z h52 a54 [c1] := S56
      have B57 : Ext h h52 := E55
      show WlO _ _ _ _ _ _ _ _ _ _ _ _ _ _ _ _ _ _ [.ref a54]
      exact Wl.areturn d6_59 rfl rfl rfl (nle rfl) (nle rfl) ⟨a54, rfl, B57, by rw [show trimL [c0, c1] = [c1] by simp [trimL, isp, List.dropWhile, c10, c44]]; exact S56⟩
    · refine Wl.ifN 23 d6_20 (feq c44).1 ?_
      refine Wl.iinc 26 #[.val (.ref a), .val (.int (2 : Int32)), .val (.int (2 : Int32))] (1 : Int32) d6_23 (by decide) rfl rfl ?_
      refine Wl.goto 7 d6_26 ?_
      refine Wl.iload_n 8 d6_7 rfl ?_
      refine Wl.iload_n 9 d6_8 rfl ?_
      refine Wl.icmpY 29 d6_9 (flt (by decide)).2.1 ?_
      refine Wl.iload_n 30 d6_29 rfl ?_
      refine Wl.iload_n 31 d6_30 rfl ?_
      refine Wl.icmpY 53 d6_31 (flt (by decide)).2.2.2 ?_
      refine Wl.aload_n 54 d6_53 rfl rfl ?_
      refine Wl.iload_n 55 d6_54 rfl ?_
      refine Wl.iload_n 56 d6_55 rfl ?_
      refine Wl.virtual 59 (argsL := [.int (2 : Int32), .int (2 : Int32)]) d6_56 (w45 hw) (w46 hw) (w48 hw) (w47 hw) (w11 hw) (w49 hw) (nf_sel (w48 hw) rfl) (S).exa (show parseMethodDescriptor "(II)Ljava/lang/String;" = some ⟨[.int, .int], some (.object "java/lang/String")⟩ by decide +kernel) rfl (sub_met hw hcs hfm (i := 2) (e := 2) (N := 4) S (nle rfl) (nle rfl) (nle rfl) (nle rfl)) (fun _ q => nomatch q) rfl rfl rfl (by decide) ⟨⟨nle rfl, nle rfl⟩, nle rfl, nle rfl⟩ ?_
      intro v58 h59 hq60 _
      obtain ⟨a61, rfl, E62, S63⟩ := hq60
      have S63 : Stl Z h59 a61 [] := S63
      have B64 : Ext h h59 := E62
      show WlO _ _ _ _ _ _ _ _ _ _ _ _ _ _ _ _ _ _ [.ref a61]
      exact Wl.areturn d6_59 rfl rfl rfl (nle rfl) (nle rfl) ⟨a61, rfl, B64, by rw [show trimL [c0, c1] = [] by simp [trimL, isp, List.dropWhile, c10, c44]]; exact S63⟩
set_option maxRecDepth 65536 in
set_option maxHeartbeats 40000000 in
theorem trim3_met {l : Launch} {Z : State} {a0 : Array Value} (hw : ∀ d ∈ tables_1, d.before a0 Z = true) (hcs : CSon Z) (hfm : Fmt Z) {h : Heap} {a : Addr} {c0 c1 c2 c3 : Int32} (S : Stl Z h a [c0, c1, c2]) :
    Met l Z consts_1 ⟨"org/portcullis/HttpSyntax", "trim", "(Ljava/lang/String;)Ljava/lang/String;"⟩ prog_24_method_5_code 3 (some (.object "java/lang/String")) [] { frames := 5, cells := 2, slots := 8, locals := 80 } #[.ref a] h [] (fun v h' => ∃ x : Addr, v = some (.ref x) ∧ Ext h h' ∧ Stl Z h' x (trimL [c0, c1, c2])) := by
  refine Met.of_walk (a0 := a0) (Ls := #[.val (.ref a), .unset, .unset]) (plainFor_of_name pn_3) (own_hEL hw) rfl ?_
  refine Wl.iconst 1 (0 : Int32) d6_0 (by decide) ?_
  refine Wl.istore_n 2 #[.val (.ref a), .val (.int (0 : Int32)), .unset] d6_1 rfl ?_
  refine Wl.aload_n 3 d6_2 rfl rfl ?_
  refine Wl.virtual 6 (argsL := []) d6_3 (w34 hw) (w35 hw) (w37 hw) (w36 hw) (w11 hw) (w38 hw) (nf_sel (w37 hw) rfl) (S).exa (show parseMethodDescriptor "()I" = some ⟨[], some .int⟩ by decide +kernel) rfl (len_met hw hcs S) (fun _ q => nomatch q) rfl rfl rfl (by decide) ⟨⟨nle rfl, nle rfl⟩, nle rfl, nle rfl⟩ ?_
  intro v1 h2 hq3 _
  obtain ⟨rfl, rfl⟩ := hq3
  show WlO _ _ _ _ _ _ _ _ _ _ _ _ _ _ _ _ _ _ [.int (3 : Int32)]
  refine Wl.istore_n 7 #[.val (.ref a), .val (.int (0 : Int32)), .val (.int (3 : Int32))] d6_6 rfl ?_
  refine Wl.iload_n 8 d6_7 rfl ?_
  refine Wl.iload_n 9 d6_8 rfl ?_
  refine Wl.icmpN 12 d6_9 (tlt (by decide)).2.1 ?_
  refine Wl.aload_n 13 d6_12 rfl rfl ?_
  refine Wl.iload_n 14 d6_13 rfl ?_
  refine Wl.virtual 17 (argsL := [.int (0 : Int32)]) d6_14 (w70 hw) (w71 hw) (w73 hw) (w72 hw) (w11 hw) (w74 hw) (nf_sel (w73 hw) rfl) (S).exa (show parseMethodDescriptor "(I)C" = some ⟨[.int], some .char⟩ by decide +kernel) rfl (charAt_met hw hcs hfm S (i := 0) (nle rfl)) (fun _ q => nomatch q) rfl rfl rfl (by decide) ⟨⟨nle rfl, nle rfl⟩, nle rfl, nle rfl⟩ ?_
  intro v4 h5 hq6 _
  obtain ⟨rfl, rfl⟩ := hq6
  show WlO _ _ _ _ _ _ _ _ _ _ _ _ _ _ _ _ _ _ [.int c0]
  refine Wl.static 20 (argsL := [.int c0]) d6_17 (w90 hw) (w91 hw) (w32 hw) (w92 hw) (show parseMethodDescriptor "(C)Z" = some ⟨[.char], some .boolean⟩ by decide +kernel) rfl (isSp_met hw) (fun _ q => nomatch q) rfl rfl rfl (by decide) ⟨⟨nle rfl, nle rfl⟩, nle rfl, nle rfl⟩ ?_
  intro v7 h8 hq9 _
  obtain ⟨rfl, rfl⟩ := hq9
  show WlO _ _ _ _ _ _ _ _ _ _ _ _ _ _ _ _ _ _ [.int (spI c0)]
  by_cases c10 : (spI c0) = (0 : Int32)
  · refine Wl.ifY 29 d6_20 (teq c10).1 ?_
    refine Wl.iload_n 30 d6_29 rfl ?_
    refine Wl.iload_n 31 d6_30 rfl ?_
    refine Wl.icmpN 34 d6_31 (tlt (by decide)).2.2.2 ?_
    refine Wl.aload_n 35 d6_34 rfl rfl ?_
    refine Wl.iload_n 36 d6_35 rfl ?_
    refine Wl.iconst 37 (1 : Int32) d6_36 (by decide) ?_
    refine Wl.isub 38 d6_37 ?_
    show WlO _ _ _ _ _ _ _ _ _ _ _ _ _ _ _ _ _ _ [.int (2 : Int32), .ref a]
    refine Wl.virtual 41 (argsL := [.int (2 : Int32)]) d6_38 (w70 hw) (w71 hw) (w73 hw) (w72 hw) (w11 hw) (w74 hw) (nf_sel (w73 hw) rfl) (S).exa (show parseMethodDescriptor "(I)C" = some ⟨[.int], some .char⟩ by decide +kernel) rfl (charAt_met hw hcs hfm S (i := 2) (nle rfl)) (fun _ q => nomatch q) rfl rfl rfl (by decide) ⟨⟨nle rfl, nle rfl⟩, nle rfl, nle rfl⟩ ?_
    intro v11 h12 hq13 _
    obtain ⟨rfl, rfl⟩ := hq13
    show WlO _ _ _ _ _ _ _ _ _ _ _ _ _ _ _ _ _ _ [.int c2]
    refine Wl.static 44 (argsL := [.int c2]) d6_41 (w90 hw) (w91 hw) (w32 hw) (w92 hw) (show parseMethodDescriptor "(C)Z" = some ⟨[.char], some .boolean⟩ by decide +kernel) rfl (isSp_met hw) (fun _ q => nomatch q) rfl rfl rfl (by decide) ⟨⟨nle rfl, nle rfl⟩, nle rfl, nle rfl⟩ ?_
    intro v14 h15 hq16 _
    obtain ⟨rfl, rfl⟩ := hq16
    show WlO _ _ _ _ _ _ _ _ _ _ _ _ _ _ _ _ _ _ [.int (spI c2)]
    by_cases c17 : (spI c2) = (0 : Int32)
    · refine Wl.ifY 53 d6_44 (teq c17).1 ?_
      refine Wl.aload_n 54 d6_53 rfl rfl ?_
      refine Wl.iload_n 55 d6_54 rfl ?_
      refine Wl.iload_n 56 d6_55 rfl ?_
      refine Wl.virtual 59 (argsL := [.int (0 : Int32), .int (3 : Int32)]) d6_56 (w45 hw) (w46 hw) (w48 hw) (w47 hw) (w11 hw) (w49 hw) (nf_sel (w48 hw) rfl) (S).exa (show parseMethodDescriptor "(II)Ljava/lang/String;" = some ⟨[.int, .int], some (.object "java/lang/String")⟩ by decide +kernel) rfl (sub_met hw hcs hfm (i := 0) (e := 3) (N := 4) S (nle rfl) (nle rfl) (nle rfl) (nle rfl)) (fun _ q => nomatch q) rfl rfl rfl (by decide) ⟨⟨nle rfl, nle rfl⟩, nle rfl, nle rfl⟩ ?_
      intro v18 h19 hq20 _
      obtain ⟨a21, rfl, E22, S23⟩ := hq20
      have S23 : Stl Z h19 a21 [c0, c1, c2] := S23
      have B24 : Ext h h19 := E22
      show WlO _ _ _ _ _ _ _ _ _ _ _ _ _ _ _ _ _ _ [.ref a21]
      exact Wl.areturn d6_59 rfl rfl rfl (nle rfl) (nle rfl) ⟨a21, rfl, B24, by rw [show trimL [c0, c1, c2] = [c0, c1, c2] by simp [trimL, isp, List.dropWhile, c10, c17]]; exact S23⟩
    · refine Wl.ifN 47 d6_44 (feq c17).1 ?_
      refine Wl.iinc 50 #[.val (.ref a), .val (.int (0 : Int32)), .val (.int (2 : Int32))] (-1 : Int32) d6_47 (by decide) rfl rfl ?_
      refine Wl.goto 29 d6_50 ?_
      refine Wl.iload_n 30 d6_29 rfl ?_
      refine Wl.iload_n 31 d6_30 rfl ?_
      refine Wl.icmpN 34 d6_31 (tlt (by decide)).2.2.2 ?_
      refine Wl.aload_n 35 d6_34 rfl rfl ?_
      refine Wl.iload_n 36 d6_35 rfl ?_
      refine Wl.iconst 37 (1 : Int32) d6_36 (by decide) ?_
      refine Wl.isub 38 d6_37 ?_
      show WlO _ _ _ _ _ _ _ _ _ _ _ _ _ _ _ _ _ _ [.int (1 : Int32), .ref a]
      refine Wl.virtual 41 (argsL := [.int (1 : Int32)]) d6_38 (w70 hw) (w71 hw) (w73 hw) (w72 hw) (w11 hw) (w74 hw) (nf_sel (w73 hw) rfl) (S).exa (show parseMethodDescriptor "(I)C" = some ⟨[.int], some .char⟩ by decide +kernel) rfl (charAt_met hw hcs hfm S (i := 1) (nle rfl)) (fun _ q => nomatch q) rfl rfl rfl (by decide) ⟨⟨nle rfl, nle rfl⟩, nle rfl, nle rfl⟩ ?_
      intro v25 h26 hq27 _
      obtain ⟨rfl, rfl⟩ := hq27
      show WlO _ _ _ _ _ _ _ _ _ _ _ _ _ _ _ _ _ _ [.int c1]
      refine Wl.static 44 (argsL := [.int c1]) d6_41 (w90 hw) (w91 hw) (w32 hw) (w92 hw) (show parseMethodDescriptor "(C)Z" = some ⟨[.char], some .boolean⟩ by decide +kernel) rfl (isSp_met hw) (fun _ q => nomatch q) rfl rfl rfl (by decide) ⟨⟨nle rfl, nle rfl⟩, nle rfl, nle rfl⟩ ?_
      intro v28 h29 hq30 _
      obtain ⟨rfl, rfl⟩ := hq30
      show WlO _ _ _ _ _ _ _ _ _ _ _ _ _ _ _ _ _ _ [.int (spI c1)]
      by_cases c31 : (spI c1) = (0 : Int32)
      · refine Wl.ifY 53 d6_44 (teq c31).1 ?_
        refine Wl.aload_n 54 d6_53 rfl rfl ?_
        refine Wl.iload_n 55 d6_54 rfl ?_
        refine Wl.iload_n 56 d6_55 rfl ?_
        refine Wl.virtual 59 (argsL := [.int (0 : Int32), .int (2 : Int32)]) d6_56 (w45 hw) (w46 hw) (w48 hw) (w47 hw) (w11 hw) (w49 hw) (nf_sel (w48 hw) rfl) (S).exa (show parseMethodDescriptor "(II)Ljava/lang/String;" = some ⟨[.int, .int], some (.object "java/lang/String")⟩ by decide +kernel) rfl (sub_met hw hcs hfm (i := 0) (e := 2) (N := 4) S (nle rfl) (nle rfl) (nle rfl) (nle rfl)) (fun _ q => nomatch q) rfl rfl rfl (by decide) ⟨⟨nle rfl, nle rfl⟩, nle rfl, nle rfl⟩ ?_
        intro v32 h33 hq34 _
        obtain ⟨a35, rfl, E36, S37⟩ := hq34
        have S37 : Stl Z h33 a35 [c0, c1] := S37
        have B38 : Ext h h33 := E36
        show WlO _ _ _ _ _ _ _ _ _ _ _ _ _ _ _ _ _ _ [.ref a35]
        exact Wl.areturn d6_59 rfl rfl rfl (nle rfl) (nle rfl) ⟨a35, rfl, B38, by rw [show trimL [c0, c1, c2] = [c0, c1] by simp [trimL, isp, List.dropWhile, c10, c17, c31]]; exact S37⟩
      · refine Wl.ifN 47 d6_44 (feq c31).1 ?_
        refine Wl.iinc 50 #[.val (.ref a), .val (.int (0 : Int32)), .val (.int (1 : Int32))] (-1 : Int32) d6_47 (by decide) rfl rfl ?_
        refine Wl.goto 29 d6_50 ?_
        refine Wl.iload_n 30 d6_29 rfl ?_
        refine Wl.iload_n 31 d6_30 rfl ?_
        refine Wl.icmpN 34 d6_31 (tlt (by decide)).2.2.2 ?_
        refine Wl.aload_n 35 d6_34 rfl rfl ?_
        refine Wl.iload_n 36 d6_35 rfl ?_
        refine Wl.iconst 37 (1 : Int32) d6_36 (by decide) ?_
        refine Wl.isub 38 d6_37 ?_
        show WlO _ _ _ _ _ _ _ _ _ _ _ _ _ _ _ _ _ _ [.int (0 : Int32), .ref a]
        refine Wl.virtual 41 (argsL := [.int (0 : Int32)]) d6_38 (w70 hw) (w71 hw) (w73 hw) (w72 hw) (w11 hw) (w74 hw) (nf_sel (w73 hw) rfl) (S).exa (show parseMethodDescriptor "(I)C" = some ⟨[.int], some .char⟩ by decide +kernel) rfl (charAt_met hw hcs hfm S (i := 0) (nle rfl)) (fun _ q => nomatch q) rfl rfl rfl (by decide) ⟨⟨nle rfl, nle rfl⟩, nle rfl, nle rfl⟩ ?_
        intro v39 h40 hq41 _
        obtain ⟨rfl, rfl⟩ := hq41
        show WlO _ _ _ _ _ _ _ _ _ _ _ _ _ _ _ _ _ _ [.int c0]
        refine Wl.static 44 (argsL := [.int c0]) d6_41 (w90 hw) (w91 hw) (w32 hw) (w92 hw) (show parseMethodDescriptor "(C)Z" = some ⟨[.char], some .boolean⟩ by decide +kernel) rfl (isSp_met hw) (fun _ q => nomatch q) rfl rfl rfl (by decide) ⟨⟨nle rfl, nle rfl⟩, nle rfl, nle rfl⟩ ?_
        intro v42 h43 hq44 _
        obtain ⟨rfl, rfl⟩ := hq44
        show WlO _ _ _ _ _ _ _ _ _ _ _ _ _ _ _ _ _ _ [.int (spI c0)]
        refine Wl.ifY 53 d6_44 (teq c10).1 ?_
        refine Wl.aload_n 54 d6_53 rfl rfl ?_
        refine Wl.iload_n 55 d6_54 rfl ?_
        refine Wl.iload_n 56 d6_55 rfl ?_
        refine Wl.virtual 59 (argsL := [.int (0 : Int32), .int (1 : Int32)]) d6_56 (w45 hw) (w46 hw) (w48 hw) (w47 hw) (w11 hw) (w49 hw) (nf_sel (w48 hw) rfl) (S).exa (show parseMethodDescriptor "(II)Ljava/lang/String;" = some ⟨[.int, .int], some (.object "java/lang/String")⟩ by decide +kernel) rfl (sub_met hw hcs hfm (i := 0) (e := 1) (N := 4) S (nle rfl) (nle rfl) (nle rfl) (nle rfl)) (fun _ q => nomatch q) rfl rfl rfl (by decide) ⟨⟨nle rfl, nle rfl⟩, nle rfl, nle rfl⟩ ?_
        intro v45 h46 hq47 _
        obtain ⟨a48, rfl, E49, S50⟩ := hq47
        have S50 : Stl Z h46 a48 [c0] := S50
        have B51 : Ext h h46 := E49
        show WlO _ _ _ _ _ _ _ _ _ _ _ _ _ _ _ _ _ _ [.ref a48]
        exact Wl.areturn d6_59 rfl rfl rfl (nle rfl) (nle rfl) ⟨a48, rfl, B51, by rw [show trimL [c0, c1, c2] = [c0] by simp [trimL, isp, List.dropWhile, c10, c17, c31]]; exact S50⟩
  · refine Wl.ifN 23 d6_20 (feq c10).1 ?_
    refine Wl.iinc 26 #[.val (.ref a), .val (.int (1 : Int32)), .val (.int (3 : Int32))] (1 : Int32) d6_23 (by decide) rfl rfl ?_
    refine Wl.goto 7 d6_26 ?_
    refine Wl.iload_n 8 d6_7 rfl ?_
    refine Wl.iload_n 9 d6_8 rfl ?_
    refine Wl.icmpN 12 d6_9 (tlt (by decide)).2.1 ?_
    refine Wl.aload_n 13 d6_12 rfl rfl ?_
    refine Wl.iload_n 14 d6_13 rfl ?_
    refine Wl.virtual 17 (argsL := [.int (1 : Int32)]) d6_14 (w70 hw) (w71 hw) (w73 hw) (w72 hw) (w11 hw) (w74 hw) (nf_sel (w73 hw) rfl) (S).exa (show parseMethodDescriptor "(I)C" = some ⟨[.int], some .char⟩ by decide +kernel) rfl (charAt_met hw hcs hfm S (i := 1) (nle rfl)) (fun _ q => nomatch q) rfl rfl rfl (by decide) ⟨⟨nle rfl, nle rfl⟩, nle rfl, nle rfl⟩ ?_
    intro v52 h53 hq54 _
    obtain ⟨rfl, rfl⟩ := hq54
    show WlO _ _ _ _ _ _ _ _ _ _ _ _ _ _ _ _ _ _ [.int c1]
    refine Wl.static 20 (argsL := [.int c1]) d6_17 (w90 hw) (w91 hw) (w32 hw) (w92 hw) (show parseMethodDescriptor "(C)Z" = some ⟨[.char], some .boolean⟩ by decide +kernel) rfl (isSp_met hw) (fun _ q => nomatch q) rfl rfl rfl (by decide) ⟨⟨nle rfl, nle rfl⟩, nle rfl, nle rfl⟩ ?_
    intro v55 h56 hq57 _
    obtain ⟨rfl, rfl⟩ := hq57
    show WlO _ _ _ _ _ _ _ _ _ _ _ _ _ _ _ _ _ _ [.int (spI c1)]
    by_cases c58 : (spI c1) = (0 : Int32)
    · refine Wl.ifY 29 d6_20 (teq c58).1 ?_
      refine Wl.iload_n 30 d6_29 rfl ?_
      refine Wl.iload_n 31 d6_30 rfl ?_
      refine Wl.icmpN 34 d6_31 (tlt (by decide)).2.2.2 ?_
      refine Wl.aload_n 35 d6_34 rfl rfl ?_
      refine Wl.iload_n 36 d6_35 rfl ?_
      refine Wl.iconst 37 (1 : Int32) d6_36 (by decide) ?_
      refine Wl.isub 38 d6_37 ?_
      show WlO _ _ _ _ _ _ _ _ _ _ _ _ _ _ _ _ _ _ [.int (2 : Int32), .ref a]
      refine Wl.virtual 41 (argsL := [.int (2 : Int32)]) d6_38 (w70 hw) (w71 hw) (w73 hw) (w72 hw) (w11 hw) (w74 hw) (nf_sel (w73 hw) rfl) (S).exa (show parseMethodDescriptor "(I)C" = some ⟨[.int], some .char⟩ by decide +kernel) rfl (charAt_met hw hcs hfm S (i := 2) (nle rfl)) (fun _ q => nomatch q) rfl rfl rfl (by decide) ⟨⟨nle rfl, nle rfl⟩, nle rfl, nle rfl⟩ ?_
      intro v59 h60 hq61 _
      obtain ⟨rfl, rfl⟩ := hq61
      show WlO _ _ _ _ _ _ _ _ _ _ _ _ _ _ _ _ _ _ [.int c2]
      refine Wl.static 44 (argsL := [.int c2]) d6_41 (w90 hw) (w91 hw) (w32 hw) (w92 hw) (show parseMethodDescriptor "(C)Z" = some ⟨[.char], some .boolean⟩ by decide +kernel) rfl (isSp_met hw) (fun _ q => nomatch q) rfl rfl rfl (by decide) ⟨⟨nle rfl, nle rfl⟩, nle rfl, nle rfl⟩ ?_
      intro v62 h63 hq64 _
      obtain ⟨rfl, rfl⟩ := hq64
      show WlO _ _ _ _ _ _ _ _ _ _ _ _ _ _ _ _ _ _ [.int (spI c2)]
      by_cases c65 : (spI c2) = (0 : Int32)
      · refine Wl.ifY 53 d6_44 (teq c65).1 ?_
        refine Wl.aload_n 54 d6_53 rfl rfl ?_
        refine Wl.iload_n 55 d6_54 rfl ?_
        refine Wl.iload_n 56 d6_55 rfl ?_
        refine Wl.virtual 59 (argsL := [.int (1 : Int32), .int (3 : Int32)]) d6_56 (w45 hw) (w46 hw) (w48 hw) (w47 hw) (w11 hw) (w49 hw) (nf_sel (w48 hw) rfl) (S).exa (show parseMethodDescriptor "(II)Ljava/lang/String;" = some ⟨[.int, .int], some (.object "java/lang/String")⟩ by decide +kernel) rfl (sub_met hw hcs hfm (i := 1) (e := 3) (N := 4) S (nle rfl) (nle rfl) (nle rfl) (nle rfl)) (fun _ q => nomatch q) rfl rfl rfl (by decide) ⟨⟨nle rfl, nle rfl⟩, nle rfl, nle rfl⟩ ?_
        intro v66 h67 hq68 _
        obtain ⟨a69, rfl, E70, S71⟩ := hq68
        have S71 : Stl Z h67 a69 [c1, c2] := S71
        have B72 : Ext h h67 := E70
        show WlO _ _ _ _ _ _ _ _ _ _ _ _ _ _ _ _ _ _ [.ref a69]
        exact Wl.areturn d6_59 rfl rfl rfl (nle rfl) (nle rfl) ⟨a69, rfl, B72, by rw [show trimL [c0, c1, c2] = [c1, c2] by simp [trimL, isp, List.dropWhile, c10, c58, c65]]; exact S71⟩
      · refine Wl.ifN 47 d6_44 (feq c65).1 ?_
        refine Wl.iinc 50 #[.val (.ref a), .val (.int (1 : Int32)), .val (.int (2 : Int32))] (-1 : Int32) d6_47 (by decide) rfl rfl ?_
        refine Wl.goto 29 d6_50 ?_
        refine Wl.iload_n 30 d6_29 rfl ?_
        refine Wl.iload_n 31 d6_30 rfl ?_
        refine Wl.icmpN 34 d6_31 (tlt (by decide)).2.2.2 ?_
        refine Wl.aload_n 35 d6_34 rfl rfl ?_
        refine Wl.iload_n 36 d6_35 rfl ?_
        refine Wl.iconst 37 (1 : Int32) d6_36 (by decide) ?_
        refine Wl.isub 38 d6_37 ?_
        show WlO _ _ _ _ _ _ _ _ _ _ _ _ _ _ _ _ _ _ [.int (1 : Int32), .ref a]
        refine Wl.virtual 41 (argsL := [.int (1 : Int32)]) d6_38 (w70 hw) (w71 hw) (w73 hw) (w72 hw) (w11 hw) (w74 hw) (nf_sel (w73 hw) rfl) (S).exa (show parseMethodDescriptor "(I)C" = some ⟨[.int], some .char⟩ by decide +kernel) rfl (charAt_met hw hcs hfm S (i := 1) (nle rfl)) (fun _ q => nomatch q) rfl rfl rfl (by decide) ⟨⟨nle rfl, nle rfl⟩, nle rfl, nle rfl⟩ ?_
        intro v73 h74 hq75 _
        obtain ⟨rfl, rfl⟩ := hq75
        show WlO _ _ _ _ _ _ _ _ _ _ _ _ _ _ _ _ _ _ [.int c1]
        refine Wl.static 44 (argsL := [.int c1]) d6_41 (w90 hw) (w91 hw) (w32 hw) (w92 hw) (show parseMethodDescriptor "(C)Z" = some ⟨[.char], some .boolean⟩ by decide +kernel) rfl (isSp_met hw) (fun _ q => nomatch q) rfl rfl rfl (by decide) ⟨⟨nle rfl, nle rfl⟩, nle rfl, nle rfl⟩ ?_
        intro v76 h77 hq78 _
        obtain ⟨rfl, rfl⟩ := hq78
        show WlO _ _ _ _ _ _ _ _ _ _ _ _ _ _ _ _ _ _ [.int (spI c1)]
        refine Wl.ifY 53 d6_44 (teq c58).1 ?_
        refine Wl.aload_n 54 d6_53 rfl rfl ?_
        refine Wl.iload_n 55 d6_54 rfl ?_
        refine Wl.iload_n 56 d6_55 rfl ?_
        refine Wl.virtual 59 (argsL := [.int (1 : Int32), .int (2 : Int32)]) d6_56 (w45 hw) (w46 hw) (w48 hw) (w47 hw) (w11 hw) (w49 hw) (nf_sel (w48 hw) rfl) (S).exa (show parseMethodDescriptor "(II)Ljava/lang/String;" = some ⟨[.int, .int], some (.object "java/lang/String")⟩ by decide +kernel) rfl (sub_met hw hcs hfm (i := 1) (e := 2) (N := 4) S (nle rfl) (nle rfl) (nle rfl) (nle rfl)) (fun _ q => nomatch q) rfl rfl rfl (by decide) ⟨⟨nle rfl, nle rfl⟩, nle rfl, nle rfl⟩ ?_
        intro v79 h80 hq81 _
        obtain ⟨a82, rfl, E83, S84⟩ := hq81
        have S84 : Stl Z h80 a82 [c1] := S84
        have B85 : Ext h h80 := E83
        show WlO _ _ _ _ _ _ _ _ _ _ _ _ _ _ _ _ _ _ [.ref a82]
        exact Wl.areturn d6_59 rfl rfl rfl (nle rfl) (nle rfl) ⟨a82, rfl, B85, by rw [show trimL [c0, c1, c2] = [c1] by simp [trimL, isp, List.dropWhile, c10, c58, c65]]; exact S84⟩
    · refine Wl.ifN 23 d6_20 (feq c58).1 ?_
      refine Wl.iinc 26 #[.val (.ref a), .val (.int (2 : Int32)), .val (.int (3 : Int32))] (1 : Int32) d6_23 (by decide) rfl rfl ?_
      refine Wl.goto 7 d6_26 ?_
      refine Wl.iload_n 8 d6_7 rfl ?_
      refine Wl.iload_n 9 d6_8 rfl ?_
      refine Wl.icmpN 12 d6_9 (tlt (by decide)).2.1 ?_
      refine Wl.aload_n 13 d6_12 rfl rfl ?_
      refine Wl.iload_n 14 d6_13 rfl ?_
      refine Wl.virtual 17 (argsL := [.int (2 : Int32)]) d6_14 (w70 hw) (w71 hw) (w73 hw) (w72 hw) (w11 hw) (w74 hw) (nf_sel (w73 hw) rfl) (S).exa (show parseMethodDescriptor "(I)C" = some ⟨[.int], some .char⟩ by decide +kernel) rfl (charAt_met hw hcs hfm S (i := 2) (nle rfl)) (fun _ q => nomatch q) rfl rfl rfl (by decide) ⟨⟨nle rfl, nle rfl⟩, nle rfl, nle rfl⟩ ?_
      intro v86 h87 hq88 _
      obtain ⟨rfl, rfl⟩ := hq88
      show WlO _ _ _ _ _ _ _ _ _ _ _ _ _ _ _ _ _ _ [.int c2]
      refine Wl.static 20 (argsL := [.int c2]) d6_17 (w90 hw) (w91 hw) (w32 hw) (w92 hw) (show parseMethodDescriptor "(C)Z" = some ⟨[.char], some .boolean⟩ by decide +kernel) rfl (isSp_met hw) (fun _ q => nomatch q) rfl rfl rfl (by decide) ⟨⟨nle rfl, nle rfl⟩, nle rfl, nle rfl⟩ ?_
      intro v89 h90 hq91 _
      obtain ⟨rfl, rfl⟩ := hq91
      show WlO _ _ _ _ _ _ _ _ _ _ _ _ _ _ _ _ _ _ [.int (spI c2)]
      by_cases c92 : (spI c2) = (0 : Int32)
      · refine Wl.ifY 29 d6_20 (teq c92).1 ?_
        refine Wl.iload_n 30 d6_29 rfl ?_
        refine Wl.iload_n 31 d6_30 rfl ?_
        refine Wl.icmpN 34 d6_31 (tlt (by decide)).2.2.2 ?_
        refine Wl.aload_n 35 d6_34 rfl rfl ?_
        refine Wl.iload_n 36 d6_35 rfl ?_
        refine Wl.iconst 37 (1 : Int32) d6_36 (by decide) ?_
        refine Wl.isub 38 d6_37 ?_
        show WlO _ _ _ _ _ _ _ _ _ _ _ _ _ _ _ _ _ _ [.int (2 : Int32), .ref a]
        refine Wl.virtual 41 (argsL := [.int (2 : Int32)]) d6_38 (w70 hw) (w71 hw) (w73 hw) (w72 hw) (w11 hw) (w74 hw) (nf_sel (w73 hw) rfl) (S).exa (show parseMethodDescriptor "(I)C" = some ⟨[.int], some .char⟩ by decide +kernel) rfl (charAt_met hw hcs hfm S (i := 2) (nle rfl)) (fun _ q => nomatch q) rfl rfl rfl (by decide) ⟨⟨nle rfl, nle rfl⟩, nle rfl, nle rfl⟩ ?_
        intro v93 h94 hq95 _
        obtain ⟨rfl, rfl⟩ := hq95
        show WlO _ _ _ _ _ _ _ _ _ _ _ _ _ _ _ _ _ _ [.int c2]
        refine Wl.static 44 (argsL := [.int c2]) d6_41 (w90 hw) (w91 hw) (w32 hw) (w92 hw) (show parseMethodDescriptor "(C)Z" = some ⟨[.char], some .boolean⟩ by decide +kernel) rfl (isSp_met hw) (fun _ q => nomatch q) rfl rfl rfl (by decide) ⟨⟨nle rfl, nle rfl⟩, nle rfl, nle rfl⟩ ?_
        intro v96 h97 hq98 _
        obtain ⟨rfl, rfl⟩ := hq98
        show WlO _ _ _ _ _ _ _ _ _ _ _ _ _ _ _ _ _ _ [.int (spI c2)]
        refine Wl.ifY 53 d6_44 (teq c92).1 ?_
        refine Wl.aload_n 54 d6_53 rfl rfl ?_
        refine Wl.iload_n 55 d6_54 rfl ?_
        refine Wl.iload_n 56 d6_55 rfl ?_
        refine Wl.virtual 59 (argsL := [.int (2 : Int32), .int (3 : Int32)]) d6_56 (w45 hw) (w46 hw) (w48 hw) (w47 hw) (w11 hw) (w49 hw) (nf_sel (w48 hw) rfl) (S).exa (show parseMethodDescriptor "(II)Ljava/lang/String;" = some ⟨[.int, .int], some (.object "java/lang/String")⟩ by decide +kernel) rfl (sub_met hw hcs hfm (i := 2) (e := 3) (N := 4) S (nle rfl) (nle rfl) (nle rfl) (nle rfl)) (fun _ q => nomatch q) rfl rfl rfl (by decide) ⟨⟨nle rfl, nle rfl⟩, nle rfl, nle rfl⟩ ?_
        intro v99 h100 hq101 _
        obtain ⟨a102, rfl, E103, S104⟩ := hq101
        have S104 : Stl Z h100 a102 [c2] := S104
        have B105 : Ext h h100 := E103
        show WlO _ _ _ _ _ _ _ _ _ _ _ _ _ _ _ _ _ _ [.ref a102]
        exact Wl.areturn d6_59 rfl rfl rfl (nle rfl) (nle rfl) ⟨a102, rfl, B105, by rw [show trimL [c0, c1, c2] = [c2] by simp [trimL, isp, List.dropWhile, c10, c58, c92]]; exact S104⟩
      · refine Wl.ifN 23 d6_20 (feq c92).1 ?_
        refine Wl.iinc 26 #[.val (.ref a), .val (.int (3 : Int32)), .val (.int (3 : Int32))] (1 : Int32) d6_23 (by decide) rfl rfl ?_
        refine Wl.goto 7 d6_26 ?_
        refine Wl.iload_n 8 d6_7 rfl ?_
        refine Wl.iload_n 9 d6_8 rfl ?_
        refine Wl.icmpY 29 d6_9 (flt (by decide)).2.1 ?_
        refine Wl.iload_n 30 d6_29 rfl ?_
        refine Wl.iload_n 31 d6_30 rfl ?_
        refine Wl.icmpY 53 d6_31 (flt (by decide)).2.2.2 ?_
        refine Wl.aload_n 54 d6_53 rfl rfl ?_
        refine Wl.iload_n 55 d6_54 rfl ?_
        refine Wl.iload_n 56 d6_55 rfl ?_
        refine Wl.virtual 59 (argsL := [.int (3 : Int32), .int (3 : Int32)]) d6_56 (w45 hw) (w46 hw) (w48 hw) (w47 hw) (w11 hw) (w49 hw) (nf_sel (w48 hw) rfl) (S).exa (show parseMethodDescriptor "(II)Ljava/lang/String;" = some ⟨[.int, .int], some (.object "java/lang/String")⟩ by decide +kernel) rfl (sub_met hw hcs hfm (i := 3) (e := 3) (N := 4) S (nle rfl) (nle rfl) (nle rfl) (nle rfl)) (fun _ q => nomatch q) rfl rfl rfl (by decide) ⟨⟨nle rfl, nle rfl⟩, nle rfl, nle rfl⟩ ?_
        intro v106 h107 hq108 _
        obtain ⟨a109, rfl, E110, S111⟩ := hq108
        have S111 : Stl Z h107 a109 [] := S111
        have B112 : Ext h h107 := E110
        show WlO _ _ _ _ _ _ _ _ _ _ _ _ _ _ _ _ _ _ [.ref a109]
        exact Wl.areturn d6_59 rfl rfl rfl (nle rfl) (nle rfl) ⟨a109, rfl, B112, by rw [show trimL [c0, c1, c2] = [] by simp [trimL, isp, List.dropWhile, c10, c58, c92]]; exact S111⟩
set_option maxRecDepth 65536 in
set_option maxHeartbeats 40000000 in
theorem trim4_met {l : Launch} {Z : State} {a0 : Array Value} (hw : ∀ d ∈ tables_1, d.before a0 Z = true) (hcs : CSon Z) (hfm : Fmt Z) {h : Heap} {a : Addr} {c0 c1 c2 c3 : Int32} (S : Stl Z h a [c0, c1, c2, c3]) :
    Met l Z consts_1 ⟨"org/portcullis/HttpSyntax", "trim", "(Ljava/lang/String;)Ljava/lang/String;"⟩ prog_24_method_5_code 3 (some (.object "java/lang/String")) [] { frames := 5, cells := 2, slots := 8, locals := 80 } #[.ref a] h [] (fun v h' => ∃ x : Addr, v = some (.ref x) ∧ Ext h h' ∧ Stl Z h' x (trimL [c0, c1, c2, c3])) := by
  refine Met.of_walk (a0 := a0) (Ls := #[.val (.ref a), .unset, .unset]) (plainFor_of_name pn_3) (own_hEL hw) rfl ?_
  refine Wl.iconst 1 (0 : Int32) d6_0 (by decide) ?_
  refine Wl.istore_n 2 #[.val (.ref a), .val (.int (0 : Int32)), .unset] d6_1 rfl ?_
  refine Wl.aload_n 3 d6_2 rfl rfl ?_
  refine Wl.virtual 6 (argsL := []) d6_3 (w34 hw) (w35 hw) (w37 hw) (w36 hw) (w11 hw) (w38 hw) (nf_sel (w37 hw) rfl) (S).exa (show parseMethodDescriptor "()I" = some ⟨[], some .int⟩ by decide +kernel) rfl (len_met hw hcs S) (fun _ q => nomatch q) rfl rfl rfl (by decide) ⟨⟨nle rfl, nle rfl⟩, nle rfl, nle rfl⟩ ?_
  intro v1 h2 hq3 _
  obtain ⟨rfl, rfl⟩ := hq3
  show WlO _ _ _ _ _ _ _ _ _ _ _ _ _ _ _ _ _ _ [.int (4 : Int32)]
  refine Wl.istore_n 7 #[.val (.ref a), .val (.int (0 : Int32)), .val (.int (4 : Int32))] d6_6 rfl ?_
  refine Wl.iload_n 8 d6_7 rfl ?_
  refine Wl.iload_n 9 d6_8 rfl ?_
  refine Wl.icmpN 12 d6_9 (tlt (by decide)).2.1 ?_
  refine Wl.aload_n 13 d6_12 rfl rfl ?_
  refine Wl.iload_n 14 d6_13 rfl ?_
  refine Wl.virtual 17 (argsL := [.int (0 : Int32)]) d6_14 (w70 hw) (w71 hw) (w73 hw) (w72 hw) (w11 hw) (w74 hw) (nf_sel (w73 hw) rfl) (S).exa (show parseMethodDescriptor "(I)C" = some ⟨[.int], some .char⟩ by decide +kernel) rfl (charAt_met hw hcs hfm S (i := 0) (nle rfl)) (fun _ q => nomatch q) rfl rfl rfl (by decide) ⟨⟨nle rfl, nle rfl⟩, nle rfl, nle rfl⟩ ?_
  intro v4 h5 hq6 _
  obtain ⟨rfl, rfl⟩ := hq6
  show WlO _ _ _ _ _ _ _ _ _ _ _ _ _ _ _ _ _ _ [.int c0]
  refine Wl.static 20 (argsL := [.int c0]) d6_17 (w90 hw) (w91 hw) (w32 hw) (w92 hw) (show parseMethodDescriptor "(C)Z" = some ⟨[.char], some .boolean⟩ by decide +kernel) rfl (isSp_met hw) (fun _ q => nomatch q) rfl rfl rfl (by decide) ⟨⟨nle rfl, nle rfl⟩, nle rfl, nle rfl⟩ ?_
  intro v7 h8 hq9 _
  obtain ⟨rfl, rfl⟩ := hq9
  show WlO _ _ _ _ _ _ _ _ _ _ _ _ _ _ _ _ _ _ [.int (spI c0)]
  by_cases c10 : (spI c0) = (0 : Int32)
  · refine Wl.ifY 29 d6_20 (teq c10).1 ?_
    refine Wl.iload_n 30 d6_29 rfl ?_
    refine Wl.iload_n 31 d6_30 rfl ?_
    refine Wl.icmpN 34 d6_31 (tlt (by decide)).2.2.2 ?_
    refine Wl.aload_n 35 d6_34 rfl rfl ?_
    refine Wl.iload_n 36 d6_35 rfl ?_
    refine Wl.iconst 37 (1 : Int32) d6_36 (by decide) ?_
    refine Wl.isub 38 d6_37 ?_
    show WlO _ _ _ _ _ _ _ _ _ _ _ _ _ _ _ _ _ _ [.int (3 : Int32), .ref a]
    refine Wl.virtual 41 (argsL := [.int (3 : Int32)]) d6_38 (w70 hw) (w71 hw) (w73 hw) (w72 hw) (w11 hw) (w74 hw) (nf_sel (w73 hw) rfl) (S).exa (show parseMethodDescriptor "(I)C" = some ⟨[.int], some .char⟩ by decide +kernel) rfl (charAt_met hw hcs hfm S (i := 3) (nle rfl)) (fun _ q => nomatch q) rfl rfl rfl (by decide) ⟨⟨nle rfl, nle rfl⟩, nle rfl, nle rfl⟩ ?_
    intro v11 h12 hq13 _
    obtain ⟨rfl, rfl⟩ := hq13
    show WlO _ _ _ _ _ _ _ _ _ _ _ _ _ _ _ _ _ _ [.int c3]
    refine Wl.static 44 (argsL := [.int c3]) d6_41 (w90 hw) (w91 hw) (w32 hw) (w92 hw) (show parseMethodDescriptor "(C)Z" = some ⟨[.char], some .boolean⟩ by decide +kernel) rfl (isSp_met hw) (fun _ q => nomatch q) rfl rfl rfl (by decide) ⟨⟨nle rfl, nle rfl⟩, nle rfl, nle rfl⟩ ?_
    intro v14 h15 hq16 _
    obtain ⟨rfl, rfl⟩ := hq16
    show WlO _ _ _ _ _ _ _ _ _ _ _ _ _ _ _ _ _ _ [.int (spI c3)]
    by_cases c17 : (spI c3) = (0 : Int32)
    · refine Wl.ifY 53 d6_44 (teq c17).1 ?_
      refine Wl.aload_n 54 d6_53 rfl rfl ?_
      refine Wl.iload_n 55 d6_54 rfl ?_
      refine Wl.iload_n 56 d6_55 rfl ?_
      refine Wl.virtual 59 (argsL := [.int (0 : Int32), .int (4 : Int32)]) d6_56 (w45 hw) (w46 hw) (w48 hw) (w47 hw) (w11 hw) (w49 hw) (nf_sel (w48 hw) rfl) (S).exa (show parseMethodDescriptor "(II)Ljava/lang/String;" = some ⟨[.int, .int], some (.object "java/lang/String")⟩ by decide +kernel) rfl (sub_met hw hcs hfm (i := 0) (e := 4) (N := 4) S (nle rfl) (nle rfl) (nle rfl) (nle rfl)) (fun _ q => nomatch q) rfl rfl rfl (by decide) ⟨⟨nle rfl, nle rfl⟩, nle rfl, nle rfl⟩ ?_
      intro v18 h19 hq20 _
      obtain ⟨a21, rfl, E22, S23⟩ := hq20
      have S23 : Stl Z h19 a21 [c0, c1, c2, c3] := S23
      have B24 : Ext h h19 := E22
      show WlO _ _ _ _ _ _ _ _ _ _ _ _ _ _ _ _ _ _ [.ref a21]
      exact Wl.areturn d6_59 rfl rfl rfl (nle rfl) (nle rfl) ⟨a21, rfl, B24, by rw [show trimL [c0, c1, c2, c3] = [c0, c1, c2, c3] by simp [trimL, isp, List.dropWhile, c10, c17]]; exact S23⟩
    · refine Wl.ifN 47 d6_44 (feq c17).1 ?_
      refine Wl.iinc 50 #[.val (.ref a), .val (.int (0 : Int32)), .val (.int (3 : Int32))] (-1 : Int32) d6_47 (by decide) rfl rfl ?_
      refine Wl.goto 29 d6_50 ?_
      refine Wl.iload_n 30 d6_29 rfl ?_
      refine Wl.iload_n 31 d6_30 rfl ?_
      refine Wl.icmpN 34 d6_31 (tlt (by decide)).2.2.2 ?_
      refine Wl.aload_n 35 d6_34 rfl rfl ?_
      refine Wl.iload_n 36 d6_35 rfl ?_
      refine Wl.iconst 37 (1 : Int32) d6_36 (by decide) ?_
      refine Wl.isub 38 d6_37 ?_
      show WlO _ _ _ _ _ _ _ _ _ _ _ _ _ _ _ _ _ _ [.int (2 : Int32), .ref a]
      refine Wl.virtual 41 (argsL := [.int (2 : Int32)]) d6_38 (w70 hw) (w71 hw) (w73 hw) (w72 hw) (w11 hw) (w74 hw) (nf_sel (w73 hw) rfl) (S).exa (show parseMethodDescriptor "(I)C" = some ⟨[.int], some .char⟩ by decide +kernel) rfl (charAt_met hw hcs hfm S (i := 2) (nle rfl)) (fun _ q => nomatch q) rfl rfl rfl (by decide) ⟨⟨nle rfl, nle rfl⟩, nle rfl, nle rfl⟩ ?_
      intro v25 h26 hq27 _
      obtain ⟨rfl, rfl⟩ := hq27
      show WlO _ _ _ _ _ _ _ _ _ _ _ _ _ _ _ _ _ _ [.int c2]
      refine Wl.static 44 (argsL := [.int c2]) d6_41 (w90 hw) (w91 hw) (w32 hw) (w92 hw) (show parseMethodDescriptor "(C)Z" = some ⟨[.char], some .boolean⟩ by decide +kernel) rfl (isSp_met hw) (fun _ q => nomatch q) rfl rfl rfl (by decide) ⟨⟨nle rfl, nle rfl⟩, nle rfl, nle rfl⟩ ?_
      intro v28 h29 hq30 _
      obtain ⟨rfl, rfl⟩ := hq30
      show WlO _ _ _ _ _ _ _ _ _ _ _ _ _ _ _ _ _ _ [.int (spI c2)]
      by_cases c31 : (spI c2) = (0 : Int32)
      · refine Wl.ifY 53 d6_44 (teq c31).1 ?_
        refine Wl.aload_n 54 d6_53 rfl rfl ?_
        refine Wl.iload_n 55 d6_54 rfl ?_
        refine Wl.iload_n 56 d6_55 rfl ?_
        refine Wl.virtual 59 (argsL := [.int (0 : Int32), .int (3 : Int32)]) d6_56 (w45 hw) (w46 hw) (w48 hw) (w47 hw) (w11 hw) (w49 hw) (nf_sel (w48 hw) rfl) (S).exa (show parseMethodDescriptor "(II)Ljava/lang/String;" = some ⟨[.int, .int], some (.object "java/lang/String")⟩ by decide +kernel) rfl (sub_met hw hcs hfm (i := 0) (e := 3) (N := 4) S (nle rfl) (nle rfl) (nle rfl) (nle rfl)) (fun _ q => nomatch q) rfl rfl rfl (by decide) ⟨⟨nle rfl, nle rfl⟩, nle rfl, nle rfl⟩ ?_
        intro v32 h33 hq34 _
        obtain ⟨a35, rfl, E36, S37⟩ := hq34
        have S37 : Stl Z h33 a35 [c0, c1, c2] := S37
        have B38 : Ext h h33 := E36
        show WlO _ _ _ _ _ _ _ _ _ _ _ _ _ _ _ _ _ _ [.ref a35]
        exact Wl.areturn d6_59 rfl rfl rfl (nle rfl) (nle rfl) ⟨a35, rfl, B38, by rw [show trimL [c0, c1, c2, c3] = [c0, c1, c2] by simp [trimL, isp, List.dropWhile, c10, c17, c31]]; exact S37⟩
      · refine Wl.ifN 47 d6_44 (feq c31).1 ?_
        refine Wl.iinc 50 #[.val (.ref a), .val (.int (0 : Int32)), .val (.int (2 : Int32))] (-1 : Int32) d6_47 (by decide) rfl rfl ?_
        refine Wl.goto 29 d6_50 ?_
        refine Wl.iload_n 30 d6_29 rfl ?_
        refine Wl.iload_n 31 d6_30 rfl ?_
        refine Wl.icmpN 34 d6_31 (tlt (by decide)).2.2.2 ?_
        refine Wl.aload_n 35 d6_34 rfl rfl ?_
        refine Wl.iload_n 36 d6_35 rfl ?_
        refine Wl.iconst 37 (1 : Int32) d6_36 (by decide) ?_
        refine Wl.isub 38 d6_37 ?_
        show WlO _ _ _ _ _ _ _ _ _ _ _ _ _ _ _ _ _ _ [.int (1 : Int32), .ref a]
        refine Wl.virtual 41 (argsL := [.int (1 : Int32)]) d6_38 (w70 hw) (w71 hw) (w73 hw) (w72 hw) (w11 hw) (w74 hw) (nf_sel (w73 hw) rfl) (S).exa (show parseMethodDescriptor "(I)C" = some ⟨[.int], some .char⟩ by decide +kernel) rfl (charAt_met hw hcs hfm S (i := 1) (nle rfl)) (fun _ q => nomatch q) rfl rfl rfl (by decide) ⟨⟨nle rfl, nle rfl⟩, nle rfl, nle rfl⟩ ?_
        intro v39 h40 hq41 _
        obtain ⟨rfl, rfl⟩ := hq41
        show WlO _ _ _ _ _ _ _ _ _ _ _ _ _ _ _ _ _ _ [.int c1]
        refine Wl.static 44 (argsL := [.int c1]) d6_41 (w90 hw) (w91 hw) (w32 hw) (w92 hw) (show parseMethodDescriptor "(C)Z" = some ⟨[.char], some .boolean⟩ by decide +kernel) rfl (isSp_met hw) (fun _ q => nomatch q) rfl rfl rfl (by decide) ⟨⟨nle rfl, nle rfl⟩, nle rfl, nle rfl⟩ ?_
        intro v42 h43 hq44 _
        obtain ⟨rfl, rfl⟩ := hq44
        show WlO _ _ _ _ _ _ _ _ _ _ _ _ _ _ _ _ _ _ [.int (spI c1)]
        by_cases c45 : (spI c1) = (0 : Int32)
        · refine Wl.ifY 53 d6_44 (teq c45).1 ?_
          refine Wl.aload_n 54 d6_53 rfl rfl ?_
          refine Wl.iload_n 55 d6_54 rfl ?_
          refine Wl.iload_n 56 d6_55 rfl ?_
          refine Wl.virtual 59 (argsL := [.int (0 : Int32), .int (2 : Int32)]) d6_56 (w45 hw) (w46 hw) (w48 hw) (w47 hw) (w11 hw) (w49 hw) (nf_sel (w48 hw) rfl) (S).exa (show parseMethodDescriptor "(II)Ljava/lang/String;" = some ⟨[.int, .int], some (.object "java/lang/String")⟩ by decide +kernel) rfl (sub_met hw hcs hfm (i := 0) (e := 2) (N := 4) S (nle rfl) (nle rfl) (nle rfl) (nle rfl)) (fun _ q => nomatch q) rfl rfl rfl (by decide) ⟨⟨nle rfl, nle rfl⟩, nle rfl, nle rfl⟩ ?_
          intro v46 h47 hq48 _
          obtain ⟨a49, rfl, E50, S51⟩ := hq48
          have S51 : Stl Z h47 a49 [c0, c1] := S51
          have B52 : Ext h h47 := E50
          show WlO _ _ _ _ _ _ _ _ _ _ _ _ _ _ _ _ _ _ [.ref a49]
          exact Wl.areturn d6_59 rfl rfl rfl (nle rfl) (nle rfl) ⟨a49, rfl, B52, by rw [show trimL [c0, c1, c2, c3] = [c0, c1] by simp [trimL, isp, List.dropWhile, c10, c17, c31, c45]]; exact S51⟩
        · refine Wl.ifN 47 d6_44 (feq c45).1 ?_
          refine Wl.iinc 50 #[.val (.ref a), .val (.int (0 : Int32)), .val (.int (1 : Int32))] (-1 : Int32) d6_47 (by decide) rfl rfl ?_
          refine Wl.goto 29 d6_50 ?_
          refine Wl.iload_n 30 d6_29 rfl ?_
          refine Wl.iload_n 31 d6_30 rfl ?_
          refine Wl.icmpN 34 d6_31 (tlt (by decide)).2.2.2 ?_
          refine Wl.aload_n 35 d6_34 rfl rfl ?_
          refine Wl.iload_n 36 d6_35 rfl ?_
          refine Wl.iconst 37 (1 : Int32) d6_36 (by decide) ?_
          refine Wl.isub 38 d6_37 ?_
          show WlO _ _ _ _ _ _ _ _ _ _ _ _ _ _ _ _ _ _ [.int (0 : Int32), .ref a]
          refine Wl.virtual 41 (argsL := [.int (0 : Int32)]) d6_38 (w70 hw) (w71 hw) (w73 hw) (w72 hw) (w11 hw) (w74 hw) (nf_sel (w73 hw) rfl) (S).exa (show parseMethodDescriptor "(I)C" = some ⟨[.int], some .char⟩ by decide +kernel) rfl (charAt_met hw hcs hfm S (i := 0) (nle rfl)) (fun _ q => nomatch q) rfl rfl rfl (by decide) ⟨⟨nle rfl, nle rfl⟩, nle rfl, nle rfl⟩ ?_
          intro v53 h54 hq55 _
          obtain ⟨rfl, rfl⟩ := hq55
          show WlO _ _ _ _ _ _ _ _ _ _ _ _ _ _ _ _ _ _ [.int c0]
          refine Wl.static 44 (argsL := [.int c0]) d6_41 (w90 hw) (w91 hw) (w32 hw) (w92 hw) (show parseMethodDescriptor "(C)Z" = some ⟨[.char], some .boolean⟩ by decide +kernel) rfl (isSp_met hw) (fun _ q => nomatch q) rfl rfl rfl (by decide) ⟨⟨nle rfl, nle rfl⟩, nle rfl, nle rfl⟩ ?_
          intro v56 h57 hq58 _
          obtain ⟨rfl, rfl⟩ := hq58
          show WlO _ _ _ _ _ _ _ _ _ _ _ _ _ _ _ _ _ _ [.int (spI c0)]
          refine Wl.ifY 53 d6_44 (teq c10).1 ?_
          refine Wl.aload_n 54 d6_53 rfl rfl ?_
          refine Wl.iload_n 55 d6_54 rfl ?_
          refine Wl.iload_n 56 d6_55 rfl ?_
          refine Wl.virtual 59 (argsL := [.int (0 : Int32), .int (1 : Int32)]) d6_56 (w45 hw) (w46 hw) (w48 hw) (w47 hw) (w11 hw) (w49 hw) (nf_sel (w48 hw) rfl) (S).exa (show parseMethodDescriptor "(II)Ljava/lang/String;" = some ⟨[.int, .int], some (.object "java/lang/String")⟩ by decide +kernel) rfl (sub_met hw hcs hfm (i := 0) (e := 1) (N := 4) S (nle rfl) (nle rfl) (nle rfl) (nle rfl)) (fun _ q => nomatch q) rfl rfl rfl (by decide) ⟨⟨nle rfl, nle rfl⟩, nle rfl, nle rfl⟩ ?_
          intro v59 h60 hq61 _
          obtain ⟨a62, rfl, E63, S64⟩ := hq61
          have S64 : Stl Z h60 a62 [c0] := S64
          have B65 : Ext h h60 := E63
          show WlO _ _ _ _ _ _ _ _ _ _ _ _ _ _ _ _ _ _ [.ref a62]
          exact Wl.areturn d6_59 rfl rfl rfl (nle rfl) (nle rfl) ⟨a62, rfl, B65, by rw [show trimL [c0, c1, c2, c3] = [c0] by simp [trimL, isp, List.dropWhile, c10, c17, c31, c45]]; exact S64⟩
  · refine Wl.ifN 23 d6_20 (feq c10).1 ?_
    refine Wl.iinc 26 #[.val (.ref a), .val (.int (1 : Int32)), .val (.int (4 : Int32))] (1 : Int32) d6_23 (by decide) rfl rfl ?_
    refine Wl.goto 7 d6_26 ?_
    refine Wl.iload_n 8 d6_7 rfl ?_
    refine Wl.iload_n 9 d6_8 rfl ?_
    refine Wl.icmpN 12 d6_9 (tlt (by decide)).2.1 ?_
    refine Wl.aload_n 13 d6_12 rfl rfl ?_
    refine Wl.iload_n 14 d6_13 rfl ?_
    refine Wl.virtual 17 (argsL := [.int (1 : Int32)]) d6_14 (w70 hw) (w71 hw) (w73 hw) (w72 hw) (w11 hw) (w74 hw) (nf_sel (w73 hw) rfl) (S).exa (show parseMethodDescriptor "(I)C" = some ⟨[.int], some .char⟩ by decide +kernel) rfl (charAt_met hw hcs hfm S (i := 1) (nle rfl)) (fun _ q => nomatch q) rfl rfl rfl (by decide) ⟨⟨nle rfl, nle rfl⟩, nle rfl, nle rfl⟩ ?_
    intro v66 h67 hq68 _
    obtain ⟨rfl, rfl⟩ := hq68
    show WlO _ _ _ _ _ _ _ _ _ _ _ _ _ _ _ _ _ _ [.int c1]
    refine Wl.static 20 (argsL := [.int c1]) d6_17 (w90 hw) (w91 hw) (w32 hw) (w92 hw) (show parseMethodDescriptor "(C)Z" = some ⟨[.char], some .boolean⟩ by decide +kernel) rfl (isSp_met hw) (fun _ q => nomatch q) rfl rfl rfl (by decide) ⟨⟨nle rfl, nle rfl⟩, nle rfl, nle rfl⟩ ?_
    intro v69 h70 hq71 _
    obtain ⟨rfl, rfl⟩ := hq71
    show WlO _ _ _ _ _ _ _ _ _ _ _ _ _ _ _ _ _ _ [.int (spI c1)]
    by_cases c72 : (spI c1) = (0 : Int32)
    · refine Wl.ifY 29 d6_20 (teq c72).1 ?_
      refine Wl.iload_n 30 d6_29 rfl ?_
      refine Wl.iload_n 31 d6_30 rfl ?_
      refine Wl.icmpN 34 d6_31 (tlt (by decide)).2.2.2 ?_
      refine Wl.aload_n 35 d6_34 rfl rfl ?_
      refine Wl.iload_n 36 d6_35 rfl ?_
      refine Wl.iconst 37 (1 : Int32) d6_36 (by decide) ?_
      refine Wl.isub 38 d6_37 ?_
      show WlO _ _ _ _ _ _ _ _ _ _ _ _ _ _ _ _ _ _ [.int (3 : Int32), .ref a]
      refine Wl.virtual 41 (argsL := [.int (3 : Int32)]) d6_38 (w70 hw) (w71 hw) (w73 hw) (w72 hw) (w11 hw) (w74 hw) (nf_sel (w73 hw) rfl) (S).exa (show parseMethodDescriptor "(I)C" = some ⟨[.int], some .char⟩ by decide +kernel) rfl (charAt_met hw hcs hfm S (i := 3) (nle rfl)) (fun _ q => nomatch q) rfl rfl rfl (by decide) ⟨⟨nle rfl, nle rfl⟩, nle rfl, nle rfl⟩ ?_
      intro v73 h74 hq75 _
      obtain ⟨rfl, rfl⟩ := hq75
      show WlO _ _ _ _ _ _ _ _ _ _ _ _ _ _ _ _ _ _ [.int c3]
      refine Wl.static 44 (argsL := [.int c3]) d6_41 (w90 hw) (w91 hw) (w32 hw) (w92 hw) (show parseMethodDescriptor "(C)Z" = some ⟨[.char], some .boolean⟩ by decide +kernel) rfl (isSp_met hw) (fun _ q => nomatch q) rfl rfl rfl (by decide) ⟨⟨nle rfl, nle rfl⟩, nle rfl, nle rfl⟩ ?_
      intro v76 h77 hq78 _
      obtain ⟨rfl, rfl⟩ := hq78
      show WlO _ _ _ _ _ _ _ _ _ _ _ _ _ _ _ _ _ _ [.int (spI c3)]
      by_cases c79 : (spI c3) = (0 : Int32)
      · refine Wl.ifY 53 d6_44 (teq c79).1 ?_
        refine Wl.aload_n 54 d6_53 rfl rfl ?_
        refine Wl.iload_n 55 d6_54 rfl ?_
        refine Wl.iload_n 56 d6_55 rfl ?_
        refine Wl.virtual 59 (argsL := [.int (1 : Int32), .int (4 : Int32)]) d6_56 (w45 hw) (w46 hw) (w48 hw) (w47 hw) (w11 hw) (w49 hw) (nf_sel (w48 hw) rfl) (S).exa (show parseMethodDescriptor "(II)Ljava/lang/String;" = some ⟨[.int, .int], some (.object "java/lang/String")⟩ by decide +kernel) rfl (sub_met hw hcs hfm (i := 1) (e := 4) (N := 4) S (nle rfl) (nle rfl) (nle rfl) (nle rfl)) (fun _ q => nomatch q) rfl rfl rfl (by decide) ⟨⟨nle rfl, nle rfl⟩, nle rfl, nle rfl⟩ ?_
        intro v80 h81 hq82 _
        obtain ⟨a83, rfl, E84, S85⟩ := hq82
        have S85 : Stl Z h81 a83 [c1, c2, c3] := S85
        have B86 : Ext h h81 := E84
        show WlO _ _ _ _ _ _ _ _ _ _ _ _ _ _ _ _ _ _ [.ref a83]
        exact Wl.areturn d6_59 rfl rfl rfl (nle rfl) (nle rfl) ⟨a83, rfl, B86, by rw [show trimL [c0, c1, c2, c3] = [c1, c2, c3] by simp [trimL, isp, List.dropWhile, c10, c72, c79]]; exact S85⟩
      · refine Wl.ifN 47 d6_44 (feq c79).1 ?_
        refine Wl.iinc 50 #[.val (.ref a), .val (.int (1 : Int32)), .val (.int (3 : Int32))] (-1 : Int32) d6_47 (by decide) rfl rfl ?_
        refine Wl.goto 29 d6_50 ?_
        refine Wl.iload_n 30 d6_29 rfl ?_
        refine Wl.iload_n 31 d6_30 rfl ?_
        refine Wl.icmpN 34 d6_31 (tlt (by decide)).2.2.2 ?_
        refine Wl.aload_n 35 d6_34 rfl rfl ?_
        refine Wl.iload_n 36 d6_35 rfl ?_
        refine Wl.iconst 37 (1 : Int32) d6_36 (by decide) ?_
        refine Wl.isub 38 d6_37 ?_
        show WlO _ _ _ _ _ _ _ _ _ _ _ _ _ _ _ _ _ _ [.int (2 : Int32), .ref a]
        refine Wl.virtual 41 (argsL := [.int (2 : Int32)]) d6_38 (w70 hw) (w71 hw) (w73 hw) (w72 hw) (w11 hw) (w74 hw) (nf_sel (w73 hw) rfl) (S).exa (show parseMethodDescriptor "(I)C" = some ⟨[.int], some .char⟩ by decide +kernel) rfl (charAt_met hw hcs hfm S (i := 2) (nle rfl)) (fun _ q => nomatch q) rfl rfl rfl (by decide) ⟨⟨nle rfl, nle rfl⟩, nle rfl, nle rfl⟩ ?_
        intro v87 h88 hq89 _
        obtain ⟨rfl, rfl⟩ := hq89
        show WlO _ _ _ _ _ _ _ _ _ _ _ _ _ _ _ _ _ _ [.int c2]
        refine Wl.static 44 (argsL := [.int c2]) d6_41 (w90 hw) (w91 hw) (w32 hw) (w92 hw) (show parseMethodDescriptor "(C)Z" = some ⟨[.char], some .boolean⟩ by decide +kernel) rfl (isSp_met hw) (fun _ q => nomatch q) rfl rfl rfl (by decide) ⟨⟨nle rfl, nle rfl⟩, nle rfl, nle rfl⟩ ?_
        intro v90 h91 hq92 _
        obtain ⟨rfl, rfl⟩ := hq92
        show WlO _ _ _ _ _ _ _ _ _ _ _ _ _ _ _ _ _ _ [.int (spI c2)]
        by_cases c93 : (spI c2) = (0 : Int32)
        · refine Wl.ifY 53 d6_44 (teq c93).1 ?_
          refine Wl.aload_n 54 d6_53 rfl rfl ?_
          refine Wl.iload_n 55 d6_54 rfl ?_
          refine Wl.iload_n 56 d6_55 rfl ?_
          refine Wl.virtual 59 (argsL := [.int (1 : Int32), .int (3 : Int32)]) d6_56 (w45 hw) (w46 hw) (w48 hw) (w47 hw) (w11 hw) (w49 hw) (nf_sel (w48 hw) rfl) (S).exa (show parseMethodDescriptor "(II)Ljava/lang/String;" = some ⟨[.int, .int], some (.object "java/lang/String")⟩ by decide +kernel) rfl (sub_met hw hcs hfm (i := 1) (e := 3) (N := 4) S (nle rfl) (nle rfl) (nle rfl) (nle rfl)) (fun _ q => nomatch q) rfl rfl rfl (by decide) ⟨⟨nle rfl, nle rfl⟩, nle rfl, nle rfl⟩ ?_
          intro v94 h95 hq96 _
          obtain ⟨a97, rfl, E98, S99⟩ := hq96
          have S99 : Stl Z h95 a97 [c1, c2] := S99
          have B100 : Ext h h95 := E98
          show WlO _ _ _ _ _ _ _ _ _ _ _ _ _ _ _ _ _ _ [.ref a97]
          exact Wl.areturn d6_59 rfl rfl rfl (nle rfl) (nle rfl) ⟨a97, rfl, B100, by rw [show trimL [c0, c1, c2, c3] = [c1, c2] by simp [trimL, isp, List.dropWhile, c10, c72, c79, c93]]; exact S99⟩
        · refine Wl.ifN 47 d6_44 (feq c93).1 ?_
          refine Wl.iinc 50 #[.val (.ref a), .val (.int (1 : Int32)), .val (.int (2 : Int32))] (-1 : Int32) d6_47 (by decide) rfl rfl ?_
          refine Wl.goto 29 d6_50 ?_
          refine Wl.iload_n 30 d6_29 rfl ?_
          refine Wl.iload_n 31 d6_30 rfl ?_
          refine Wl.icmpN 34 d6_31 (tlt (by decide)).2.2.2 ?_
          refine Wl.aload_n 35 d6_34 rfl rfl ?_
          refine Wl.iload_n 36 d6_35 rfl ?_
          refine Wl.iconst 37 (1 : Int32) d6_36 (by decide) ?_
          refine Wl.isub 38 d6_37 ?_
          show WlO _ _ _ _ _ _ _ _ _ _ _ _ _ _ _ _ _ _ [.int (1 : Int32), .ref a]
          refine Wl.virtual 41 (argsL := [.int (1 : Int32)]) d6_38 (w70 hw) (w71 hw) (w73 hw) (w72 hw) (w11 hw) (w74 hw) (nf_sel (w73 hw) rfl) (S).exa (show parseMethodDescriptor "(I)C" = some ⟨[.int], some .char⟩ by decide +kernel) rfl (charAt_met hw hcs hfm S (i := 1) (nle rfl)) (fun _ q => nomatch q) rfl rfl rfl (by decide) ⟨⟨nle rfl, nle rfl⟩, nle rfl, nle rfl⟩ ?_
          intro v101 h102 hq103 _
          obtain ⟨rfl, rfl⟩ := hq103
          show WlO _ _ _ _ _ _ _ _ _ _ _ _ _ _ _ _ _ _ [.int c1]
          refine Wl.static 44 (argsL := [.int c1]) d6_41 (w90 hw) (w91 hw) (w32 hw) (w92 hw) (show parseMethodDescriptor "(C)Z" = some ⟨[.char], some .boolean⟩ by decide +kernel) rfl (isSp_met hw) (fun _ q => nomatch q) rfl rfl rfl (by decide) ⟨⟨nle rfl, nle rfl⟩, nle rfl, nle rfl⟩ ?_
          intro v104 h105 hq106 _
          obtain ⟨rfl, rfl⟩ := hq106
          show WlO _ _ _ _ _ _ _ _ _ _ _ _ _ _ _ _ _ _ [.int (spI c1)]
          refine Wl.ifY 53 d6_44 (teq c72).1 ?_
          refine Wl.aload_n 54 d6_53 rfl rfl ?_
          refine Wl.iload_n 55 d6_54 rfl ?_
          refine Wl.iload_n 56 d6_55 rfl ?_
          refine Wl.virtual 59 (argsL := [.int (1 : Int32), .int (2 : Int32)]) d6_56 (w45 hw) (w46 hw) (w48 hw) (w47 hw) (w11 hw) (w49 hw) (nf_sel (w48 hw) rfl) (S).exa (show parseMethodDescriptor "(II)Ljava/lang/String;" = some ⟨[.int, .int], some (.object "java/lang/String")⟩ by decide +kernel) rfl (sub_met hw hcs hfm (i := 1) (e := 2) (N := 4) S (nle rfl) (nle rfl) (nle rfl) (nle rfl)) (fun _ q => nomatch q) rfl rfl rfl (by decide) ⟨⟨nle rfl, nle rfl⟩, nle rfl, nle rfl⟩ ?_
          intro v107 h108 hq109 _
          obtain ⟨a110, rfl, E111, S112⟩ := hq109
          have S112 : Stl Z h108 a110 [c1] := S112
          have B113 : Ext h h108 := E111
          show WlO _ _ _ _ _ _ _ _ _ _ _ _ _ _ _ _ _ _ [.ref a110]
          exact Wl.areturn d6_59 rfl rfl rfl (nle rfl) (nle rfl) ⟨a110, rfl, B113, by rw [show trimL [c0, c1, c2, c3] = [c1] by simp [trimL, isp, List.dropWhile, c10, c72, c79, c93]]; exact S112⟩
    · refine Wl.ifN 23 d6_20 (feq c72).1 ?_
      refine Wl.iinc 26 #[.val (.ref a), .val (.int (2 : Int32)), .val (.int (4 : Int32))] (1 : Int32) d6_23 (by decide) rfl rfl ?_
      refine Wl.goto 7 d6_26 ?_
      refine Wl.iload_n 8 d6_7 rfl ?_
      refine Wl.iload_n 9 d6_8 rfl ?_
      refine Wl.icmpN 12 d6_9 (tlt (by decide)).2.1 ?_
      refine Wl.aload_n 13 d6_12 rfl rfl ?_
      refine Wl.iload_n 14 d6_13 rfl ?_
      refine Wl.virtual 17 (argsL := [.int (2 : Int32)]) d6_14 (w70 hw) (w71 hw) (w73 hw) (w72 hw) (w11 hw) (w74 hw) (nf_sel (w73 hw) rfl) (S).exa (show parseMethodDescriptor "(I)C" = some ⟨[.int], some .char⟩ by decide +kernel) rfl (charAt_met hw hcs hfm S (i := 2) (nle rfl)) (fun _ q => nomatch q) rfl rfl rfl (by decide) ⟨⟨nle rfl, nle rfl⟩, nle rfl, nle rfl⟩ ?_
      intro v114 h115 hq116 _
      obtain ⟨rfl, rfl⟩ := hq116
      show WlO _ _ _ _ _ _ _ _ _ _ _ _ _ _ _ _ _ _ [.int c2]
      refine Wl.static 20 (argsL := [.int c2]) d6_17 (w90 hw) (w91 hw) (w32 hw) (w92 hw) (show parseMethodDescriptor "(C)Z" = some ⟨[.char], some .boolean⟩ by decide +kernel) rfl (isSp_met hw) (fun _ q => nomatch q) rfl rfl rfl (by decide) ⟨⟨nle rfl, nle rfl⟩, nle rfl, nle rfl⟩ ?_
      intro v117 h118 hq119 _
      obtain ⟨rfl, rfl⟩ := hq119
      show WlO _ _ _ _ _ _ _ _ _ _ _ _ _ _ _ _ _ _ [.int (spI c2)]
      by_cases c120 : (spI c2) = (0 : Int32)
      · refine Wl.ifY 29 d6_20 (teq c120).1 ?_
        refine Wl.iload_n 30 d6_29 rfl ?_
        refine Wl.iload_n 31 d6_30 rfl ?_
        refine Wl.icmpN 34 d6_31 (tlt (by decide)).2.2.2 ?_
        refine Wl.aload_n 35 d6_34 rfl rfl ?_
        refine Wl.iload_n 36 d6_35 rfl ?_
        refine Wl.iconst 37 (1 : Int32) d6_36 (by decide) ?_
        refine Wl.isub 38 d6_37 ?_
        show WlO _ _ _ _ _ _ _ _ _ _ _ _ _ _ _ _ _ _ [.int (3 : Int32), .ref a]
        refine Wl.virtual 41 (argsL := [.int (3 : Int32)]) d6_38 (w70 hw) (w71 hw) (w73 hw) (w72 hw) (w11 hw) (w74 hw) (nf_sel (w73 hw) rfl) (S).exa (show parseMethodDescriptor "(I)C" = some ⟨[.int], some .char⟩ by decide +kernel) rfl (charAt_met hw hcs hfm S (i := 3) (nle rfl)) (fun _ q => nomatch q) rfl rfl rfl (by decide) ⟨⟨nle rfl, nle rfl⟩, nle rfl, nle rfl⟩ ?_
        intro v121 h122 hq123 _
        obtain ⟨rfl, rfl⟩ := hq123
        show WlO _ _ _ _ _ _ _ _ _ _ _ _ _ _ _ _ _ _ [.int c3]
        refine Wl.static 44 (argsL := [.int c3]) d6_41 (w90 hw) (w91 hw) (w32 hw) (w92 hw) (show parseMethodDescriptor "(C)Z" = some ⟨[.char], some .boolean⟩ by decide +kernel) rfl (isSp_met hw) (fun _ q => nomatch q) rfl rfl rfl (by decide) ⟨⟨nle rfl, nle rfl⟩, nle rfl, nle rfl⟩ ?_
        intro v124 h125 hq126 _
        obtain ⟨rfl, rfl⟩ := hq126
        show WlO _ _ _ _ _ _ _ _ _ _ _ _ _ _ _ _ _ _ [.int (spI c3)]
        by_cases c127 : (spI c3) = (0 : Int32)
        · refine Wl.ifY 53 d6_44 (teq c127).1 ?_
          refine Wl.aload_n 54 d6_53 rfl rfl ?_
          refine Wl.iload_n 55 d6_54 rfl ?_
          refine Wl.iload_n 56 d6_55 rfl ?_
          refine Wl.virtual 59 (argsL := [.int (2 : Int32), .int (4 : Int32)]) d6_56 (w45 hw) (w46 hw) (w48 hw) (w47 hw) (w11 hw) (w49 hw) (nf_sel (w48 hw) rfl) (S).exa (show parseMethodDescriptor "(II)Ljava/lang/String;" = some ⟨[.int, .int], some (.object "java/lang/String")⟩ by decide +kernel) rfl (sub_met hw hcs hfm (i := 2) (e := 4) (N := 4) S (nle rfl) (nle rfl) (nle rfl) (nle rfl)) (fun _ q => nomatch q) rfl rfl rfl (by decide) ⟨⟨nle rfl, nle rfl⟩, nle rfl, nle rfl⟩ ?_
          intro v128 h129 hq130 _
          obtain ⟨a131, rfl, E132, S133⟩ := hq130
          have S133 : Stl Z h129 a131 [c2, c3] := S133
          have B134 : Ext h h129 := E132
          show WlO _ _ _ _ _ _ _ _ _ _ _ _ _ _ _ _ _ _ [.ref a131]
          exact Wl.areturn d6_59 rfl rfl rfl (nle rfl) (nle rfl) ⟨a131, rfl, B134, by rw [show trimL [c0, c1, c2, c3] = [c2, c3] by simp [trimL, isp, List.dropWhile, c10, c72, c120, c127]]; exact S133⟩
        · refine Wl.ifN 47 d6_44 (feq c127).1 ?_
          refine Wl.iinc 50 #[.val (.ref a), .val (.int (2 : Int32)), .val (.int (3 : Int32))] (-1 : Int32) d6_47 (by decide) rfl rfl ?_
          refine Wl.goto 29 d6_50 ?_
          refine Wl.iload_n 30 d6_29 rfl ?_
          refine Wl.iload_n 31 d6_30 rfl ?_
          refine Wl.icmpN 34 d6_31 (tlt (by decide)).2.2.2 ?_
          refine Wl.aload_n 35 d6_34 rfl rfl ?_
          refine Wl.iload_n 36 d6_35 rfl ?_
          refine Wl.iconst 37 (1 : Int32) d6_36 (by decide) ?_
          refine Wl.isub 38 d6_37 ?_
          show WlO _ _ _ _ _ _ _ _ _ _ _ _ _ _ _ _ _ _ [.int (2 : Int32), .ref a]
          refine Wl.virtual 41 (argsL := [.int (2 : Int32)]) d6_38 (w70 hw) (w71 hw) (w73 hw) (w72 hw) (w11 hw) (w74 hw) (nf_sel (w73 hw) rfl) (S).exa (show parseMethodDescriptor "(I)C" = some ⟨[.int], some .char⟩ by decide +kernel) rfl (charAt_met hw hcs hfm S (i := 2) (nle rfl)) (fun _ q => nomatch q) rfl rfl rfl (by decide) ⟨⟨nle rfl, nle rfl⟩, nle rfl, nle rfl⟩ ?_
          intro v135 h136 hq137 _
          obtain ⟨rfl, rfl⟩ := hq137
          show WlO _ _ _ _ _ _ _ _ _ _ _ _ _ _ _ _ _ _ [.int c2]
          refine Wl.static 44 (argsL := [.int c2]) d6_41 (w90 hw) (w91 hw) (w32 hw) (w92 hw) (show parseMethodDescriptor "(C)Z" = some ⟨[.char], some .boolean⟩ by decide +kernel) rfl (isSp_met hw) (fun _ q => nomatch q) rfl rfl rfl (by decide) ⟨⟨nle rfl, nle rfl⟩, nle rfl, nle rfl⟩ ?_
          intro v138 h139 hq140 _
          obtain ⟨rfl, rfl⟩ := hq140
          show WlO _ _ _ _ _ _ _ _ _ _ _ _ _ _ _ _ _ _ [.int (spI c2)]
          refine Wl.ifY 53 d6_44 (teq c120).1 ?_
          refine Wl.aload_n 54 d6_53 rfl rfl ?_
          refine Wl.iload_n 55 d6_54 rfl ?_
          refine Wl.iload_n 56 d6_55 rfl ?_
          refine Wl.virtual 59 (argsL := [.int (2 : Int32), .int (3 : Int32)]) d6_56 (w45 hw) (w46 hw) (w48 hw) (w47 hw) (w11 hw) (w49 hw) (nf_sel (w48 hw) rfl) (S).exa (show parseMethodDescriptor "(II)Ljava/lang/String;" = some ⟨[.int, .int], some (.object "java/lang/String")⟩ by decide +kernel) rfl (sub_met hw hcs hfm (i := 2) (e := 3) (N := 4) S (nle rfl) (nle rfl) (nle rfl) (nle rfl)) (fun _ q => nomatch q) rfl rfl rfl (by decide) ⟨⟨nle rfl, nle rfl⟩, nle rfl, nle rfl⟩ ?_
          intro v141 h142 hq143 _
          obtain ⟨a144, rfl, E145, S146⟩ := hq143
          have S146 : Stl Z h142 a144 [c2] := S146
          have B147 : Ext h h142 := E145
          show WlO _ _ _ _ _ _ _ _ _ _ _ _ _ _ _ _ _ _ [.ref a144]
          exact Wl.areturn d6_59 rfl rfl rfl (nle rfl) (nle rfl) ⟨a144, rfl, B147, by rw [show trimL [c0, c1, c2, c3] = [c2] by simp [trimL, isp, List.dropWhile, c10, c72, c120, c127]]; exact S146⟩
      · refine Wl.ifN 23 d6_20 (feq c120).1 ?_
        refine Wl.iinc 26 #[.val (.ref a), .val (.int (3 : Int32)), .val (.int (4 : Int32))] (1 : Int32) d6_23 (by decide) rfl rfl ?_
        refine Wl.goto 7 d6_26 ?_
        refine Wl.iload_n 8 d6_7 rfl ?_
        refine Wl.iload_n 9 d6_8 rfl ?_
        refine Wl.icmpN 12 d6_9 (tlt (by decide)).2.1 ?_
        refine Wl.aload_n 13 d6_12 rfl rfl ?_
        refine Wl.iload_n 14 d6_13 rfl ?_
        refine Wl.virtual 17 (argsL := [.int (3 : Int32)]) d6_14 (w70 hw) (w71 hw) (w73 hw) (w72 hw) (w11 hw) (w74 hw) (nf_sel (w73 hw) rfl) (S).exa (show parseMethodDescriptor "(I)C" = some ⟨[.int], some .char⟩ by decide +kernel) rfl (charAt_met hw hcs hfm S (i := 3) (nle rfl)) (fun _ q => nomatch q) rfl rfl rfl (by decide) ⟨⟨nle rfl, nle rfl⟩, nle rfl, nle rfl⟩ ?_
        intro v148 h149 hq150 _
        obtain ⟨rfl, rfl⟩ := hq150
        show WlO _ _ _ _ _ _ _ _ _ _ _ _ _ _ _ _ _ _ [.int c3]
        refine Wl.static 20 (argsL := [.int c3]) d6_17 (w90 hw) (w91 hw) (w32 hw) (w92 hw) (show parseMethodDescriptor "(C)Z" = some ⟨[.char], some .boolean⟩ by decide +kernel) rfl (isSp_met hw) (fun _ q => nomatch q) rfl rfl rfl (by decide) ⟨⟨nle rfl, nle rfl⟩, nle rfl, nle rfl⟩ ?_
        intro v151 h152 hq153 _
        obtain ⟨rfl, rfl⟩ := hq153
        show WlO _ _ _ _ _ _ _ _ _ _ _ _ _ _ _ _ _ _ [.int (spI c3)]
        by_cases c154 : (spI c3) = (0 : Int32)
        · refine Wl.ifY 29 d6_20 (teq c154).1 ?_
          refine Wl.iload_n 30 d6_29 rfl ?_
          refine Wl.iload_n 31 d6_30 rfl ?_
          refine Wl.icmpN 34 d6_31 (tlt (by decide)).2.2.2 ?_
          refine Wl.aload_n 35 d6_34 rfl rfl ?_
          refine Wl.iload_n 36 d6_35 rfl ?_
          refine Wl.iconst 37 (1 : Int32) d6_36 (by decide) ?_
          refine Wl.isub 38 d6_37 ?_
          show WlO _ _ _ _ _ _ _ _ _ _ _ _ _ _ _ _ _ _ [.int (3 : Int32), .ref a]
          refine Wl.virtual 41 (argsL := [.int (3 : Int32)]) d6_38 (w70 hw) (w71 hw) (w73 hw) (w72 hw) (w11 hw) (w74 hw) (nf_sel (w73 hw) rfl) (S).exa (show parseMethodDescriptor "(I)C" = some ⟨[.int], some .char⟩ by decide +kernel) rfl (charAt_met hw hcs hfm S (i := 3) (nle rfl)) (fun _ q => nomatch q) rfl rfl rfl (by decide) ⟨⟨nle rfl, nle rfl⟩, nle rfl, nle rfl⟩ ?_
          intro v155 h156 hq157 _
          obtain ⟨rfl, rfl⟩ := hq157
          show WlO _ _ _ _ _ _ _ _ _ _ _ _ _ _ _ _ _ _ [.int c3]
          refine Wl.static 44 (argsL := [.int c3]) d6_41 (w90 hw) (w91 hw) (w32 hw) (w92 hw) (show parseMethodDescriptor "(C)Z" = some ⟨[.char], some .boolean⟩ by decide +kernel) rfl (isSp_met hw) (fun _ q => nomatch q) rfl rfl rfl (by decide) ⟨⟨nle rfl, nle rfl⟩, nle rfl, nle rfl⟩ ?_
          intro v158 h159 hq160 _
          obtain ⟨rfl, rfl⟩ := hq160
          show WlO _ _ _ _ _ _ _ _ _ _ _ _ _ _ _ _ _ _ [.int (spI c3)]
          refine Wl.ifY 53 d6_44 (teq c154).1 ?_
          refine Wl.aload_n 54 d6_53 rfl rfl ?_
          refine Wl.iload_n 55 d6_54 rfl ?_
          refine Wl.iload_n 56 d6_55 rfl ?_
          refine Wl.virtual 59 (argsL := [.int (3 : Int32), .int (4 : Int32)]) d6_56 (w45 hw) (w46 hw) (w48 hw) (w47 hw) (w11 hw) (w49 hw) (nf_sel (w48 hw) rfl) (S).exa (show parseMethodDescriptor "(II)Ljava/lang/String;" = some ⟨[.int, .int], some (.object "java/lang/String")⟩ by decide +kernel) rfl (sub_met hw hcs hfm (i := 3) (e := 4) (N := 4) S (nle rfl) (nle rfl) (nle rfl) (nle rfl)) (fun _ q => nomatch q) rfl rfl rfl (by decide) ⟨⟨nle rfl, nle rfl⟩, nle rfl, nle rfl⟩ ?_
          intro v161 h162 hq163 _
          obtain ⟨a164, rfl, E165, S166⟩ := hq163
          have S166 : Stl Z h162 a164 [c3] := S166
          have B167 : Ext h h162 := E165
          show WlO _ _ _ _ _ _ _ _ _ _ _ _ _ _ _ _ _ _ [.ref a164]
          exact Wl.areturn d6_59 rfl rfl rfl (nle rfl) (nle rfl) ⟨a164, rfl, B167, by rw [show trimL [c0, c1, c2, c3] = [c3] by simp [trimL, isp, List.dropWhile, c10, c72, c120, c154]]; exact S166⟩
        · refine Wl.ifN 23 d6_20 (feq c154).1 ?_
          refine Wl.iinc 26 #[.val (.ref a), .val (.int (4 : Int32)), .val (.int (4 : Int32))] (1 : Int32) d6_23 (by decide) rfl rfl ?_
          refine Wl.goto 7 d6_26 ?_
          refine Wl.iload_n 8 d6_7 rfl ?_
          refine Wl.iload_n 9 d6_8 rfl ?_
          refine Wl.icmpY 29 d6_9 (flt (by decide)).2.1 ?_
          refine Wl.iload_n 30 d6_29 rfl ?_
          refine Wl.iload_n 31 d6_30 rfl ?_
          refine Wl.icmpY 53 d6_31 (flt (by decide)).2.2.2 ?_
          refine Wl.aload_n 54 d6_53 rfl rfl ?_
          refine Wl.iload_n 55 d6_54 rfl ?_
          refine Wl.iload_n 56 d6_55 rfl ?_
          refine Wl.virtual 59 (argsL := [.int (4 : Int32), .int (4 : Int32)]) d6_56 (w45 hw) (w46 hw) (w48 hw) (w47 hw) (w11 hw) (w49 hw) (nf_sel (w48 hw) rfl) (S).exa (show parseMethodDescriptor "(II)Ljava/lang/String;" = some ⟨[.int, .int], some (.object "java/lang/String")⟩ by decide +kernel) rfl (sub_met hw hcs hfm (i := 4) (e := 4) (N := 4) S (nle rfl) (nle rfl) (nle rfl) (nle rfl)) (fun _ q => nomatch q) rfl rfl rfl (by decide) ⟨⟨nle rfl, nle rfl⟩, nle rfl, nle rfl⟩ ?_
          intro v168 h169 hq170 _
          obtain ⟨a171, rfl, E172, S173⟩ := hq170
          have S173 : Stl Z h169 a171 [] := S173
          have B174 : Ext h h169 := E172
          show WlO _ _ _ _ _ _ _ _ _ _ _ _ _ _ _ _ _ _ [.ref a171]
          exact Wl.areturn d6_59 rfl rfl rfl (nle rfl) (nle rfl) ⟨a171, rfl, B174, by rw [show trimL [c0, c1, c2, c3] = [] by simp [trimL, isp, List.dropWhile, c10, c72, c120, c154]]; exact S173⟩
set_option maxRecDepth 65536 in
set_option maxHeartbeats 40000000 in
theorem make0_met {l : Launch} {Z : State} {a0 : Array Value} (hw : ∀ d ∈ tables_1, d.before a0 Z = true) (hcs : CSon Z) {h : Heap} {b : Addr} {kb : ClassId} {c0 c1 c2 c3 : Int32} (A : Arv Z h b kb .char (4 : Int32) [.int c0, .int c1, .int c2, .int c3] (.int 0)) (lc0 : Lat c0) (lc1 : Lat c1) (lc2 : Lat c2) (lc3 : Lat c3) :
    Met l Z consts_1 ⟨"org/portcullis/HttpSyntaxTrimPinLaw", "make", "(I[C)Ljava/lang/String;"⟩ method_4_code 2 (some (.object "java/lang/String")) [] { frames := 4, cells := 6, slots := 24, locals := 70 } #[.int (0 : Int32), .ref b] h [] (fun v h' => ∃ x : Addr, v = some (.ref x) ∧ Ext h h' ∧ Stl Z h' x []) := by
  refine Met.of_walk (a0 := a0) (Ls := #[.val (.int (0 : Int32)), .val (.ref b)]) (plainFor_of_name pn_2) (own_hEL hw) rfl ?_
  refine Wl.iload_n 1 d2_0 rfl ?_
  refine Wl.ifN 4 d2_1 (teq (by decide)).2 ?_
  refine Wl.new 7 d2_4 (w9 hw) (w10 hw) (w11 hw) (nle rfl) (nle rfl) ?_
  intro a1 h2 q3 E4 X5 D6
  have z7 : h.size ≤ a1 := Nat.le_of_eq q3.symm
  have ne8 : b ≠ a1 := Nat.ne_of_lt (by rw [q3]; exact (A).lt)
  have B9 : Ext h h2 := E4
  have F10 : Fld Z h2 a1 "java/lang/String" "value" "[B" (.null) := D6 (Or.inr (w24 hw)) (ty := (.array .byte)) (by decide)
  have F11 : Fld Z h2 a1 "java/lang/String" "coder" "B" (.int 0) := D6 (Or.inr (w25 hw)) (ty := .byte) (by decide)
  refine Wl.dup 8 d2_7 rfl ?_
  refine Wl.iconst 9 (0 : Int32) d2_8 (by decide) ?_
  refine Wl.newarray 11 0 d2_9 (w1 hw) (by decide) (by decide) (by decide) (nle rfl) (nle rfl) ?_
  intro a12 h13 k14 q15 E16 A17
  have A17 : Arv Z h13 a12 k14 .char (0 : Int32) [] (.int 0) := A17
  have z18 : h.size ≤ a12 := Nat.le_trans B9.1 (Nat.le_of_eq q15.symm)
  have z19 : h2.size ≤ a12 := Nat.le_of_eq q15.symm
  have ne20 : b ≠ a12 := Nat.ne_of_lt (by rw [q15]; exact ((A.ext E4)).lt)
  have ne21 : a1 ≠ a12 := Nat.ne_of_lt (by rw [q15]; exact (X5).lt)
  have B22 : Ext h h13 := extTr B9 E16
  have B23 : Ext h2 h13 := E16
  refine Wl.special 14 (argsL := [.ref a12]) d2_11 (w12 hw) (w13 hw) (w11 hw) (w14 hw) (show parseMethodDescriptor "([C)V" = some ⟨[(.array .char)], none⟩ by decide +kernel) rfl (strC_met hw hcs (cs := []) 4 (nle rfl) (nle rfl)  latN (X5.ext E16) (F10.ext E16) (F11.ext E16) A17) (allS (List.mem_of_getElem? (i := 1) rfl) (fun _ q => nomatch q)) rfl rfl rfl rfl (by decide) ⟨⟨nle rfl, nle rfl⟩, nle rfl, nle rfl⟩ ?_
  intro v24 h25 hq26 _
  obtain ⟨rfl, K27, S28⟩ := hq26
  have B29 : Ext h h25 := extKeep B22 K27 (allS z7 all0)
  show WlO _ _ _ _ _ _ _ _ _ _ _ _ _ _ _ _ _ _ [.ref a1]
  exact Wl.areturn d2_14 rfl rfl rfl (nle rfl) (nle rfl) ⟨a1, rfl, B29, S28⟩
set_option maxRecDepth 65536 in
set_option maxHeartbeats 40000000 in
theorem make1_met {l : Launch} {Z : State} {a0 : Array Value} (hw : ∀ d ∈ tables_1, d.before a0 Z = true) (hcs : CSon Z) {h : Heap} {b : Addr} {kb : ClassId} {c0 c1 c2 c3 : Int32} (A : Arv Z h b kb .char (4 : Int32) [.int c0, .int c1, .int c2, .int c3] (.int 0)) (lc0 : Lat c0) (lc1 : Lat c1) (lc2 : Lat c2) (lc3 : Lat c3) :
    Met l Z consts_1 ⟨"org/portcullis/HttpSyntaxTrimPinLaw", "make", "(I[C)Ljava/lang/String;"⟩ method_4_code 2 (some (.object "java/lang/String")) [] { frames := 4, cells := 6, slots := 24, locals := 70 } #[.int (1 : Int32), .ref b] h [] (fun v h' => ∃ x : Addr, v = some (.ref x) ∧ Ext h h' ∧ Stl Z h' x [c0]) := by
  refine Met.of_walk (a0 := a0) (Ls := #[.val (.int (1 : Int32)), .val (.ref b)]) (plainFor_of_name pn_2) (own_hEL hw) rfl ?_
  refine Wl.iload_n 1 d2_0 rfl ?_
  refine Wl.ifY 15 d2_1 (feq (by decide)).2 ?_
  refine Wl.iload_n 16 d2_15 rfl ?_
  refine Wl.iconst 17 (1 : Int32) d2_16 (by decide) ?_
  refine Wl.icmpN 20 d2_17 (teq (by decide)).2 ?_
  refine Wl.new 23 d2_20 (w9 hw) (w10 hw) (w11 hw) (nle rfl) (nle rfl) ?_
  intro a1 h2 q3 E4 X5 D6
  have z7 : h.size ≤ a1 := Nat.le_of_eq q3.symm
  have ne8 : b ≠ a1 := Nat.ne_of_lt (by rw [q3]; exact (A).lt)
  have B9 : Ext h h2 := E4
  have F10 : Fld Z h2 a1 "java/lang/String" "value" "[B" (.null) := D6 (Or.inr (w24 hw)) (ty := (.array .byte)) (by decide)
  have F11 : Fld Z h2 a1 "java/lang/String" "coder" "B" (.int 0) := D6 (Or.inr (w25 hw)) (ty := .byte) (by decide)
  refine Wl.dup 24 d2_23 rfl ?_
  refine Wl.iconst 25 (1 : Int32) d2_24 (by decide) ?_
  refine Wl.newarray 27 1 d2_25 (w1 hw) (by decide) (by decide) (by decide) (nle rfl) (nle rfl) ?_
  intro a12 h13 k14 q15 E16 A17
  have A17 : Arv Z h13 a12 k14 .char (1 : Int32) [.int 0] (.int 0) := A17
  have z18 : h.size ≤ a12 := Nat.le_trans B9.1 (Nat.le_of_eq q15.symm)
  have z19 : h2.size ≤ a12 := Nat.le_of_eq q15.symm
  have ne20 : b ≠ a12 := Nat.ne_of_lt (by rw [q15]; exact ((A.ext E4)).lt)
  have ne21 : a1 ≠ a12 := Nat.ne_of_lt (by rw [q15]; exact (X5).lt)
  have B22 : Ext h h13 := extTr B9 E16
  have B23 : Ext h2 h13 := E16
  refine Wl.dup 28 d2_27 rfl ?_
  refine Wl.iconst 29 (0 : Int32) d2_28 (by decide) ?_
  refine Wl.aload_n 30 d2_29 rfl rfl ?_
  refine Wl.iconst 31 (0 : Int32) d2_30 (by decide) ?_
  refine Wl.caload 32 0 d2_31 (A.ext B22) (by decide) (by decide) (by decide) rfl ?_
  refine Wl.castore 33 0 d2_32 A17 (List.mem_of_getElem? (i := 0) rfl) (by decide) (by decide) (by decide) (nle rfl) ?_
  intro h24 W25 A26
  rw [nar_ch (lc0).ch] at A26
  have A26 : Arv Z h24 a12 k14 .char (1 : Int32) [.int c0] (.int 0) := A26
  have B27 : Ext h h24 := extWr B22 W25 z18
  have B28 : Ext h2 h24 := extWr B23 W25 z19
  refine Wl.special 36 (argsL := [.ref a12]) d2_33 (w12 hw) (w13 hw) (w11 hw) (w14 hw) (show parseMethodDescriptor "([C)V" = some ⟨[(.array .char)], none⟩ by decide +kernel) rfl (strC_met hw hcs (cs := [c0]) 4 (nle rfl) (nle rfl)  (latC lc0 latN) (X5.ext B28) (F10.ext B28) (F11.ext B28) A26) (allS (List.mem_of_getElem? (i := 1) rfl) (fun _ q => nomatch q)) rfl rfl rfl rfl (by decide) ⟨⟨nle rfl, nle rfl⟩, nle rfl, nle rfl⟩ ?_
  intro v29 h30 hq31 _
  obtain ⟨rfl, K32, S33⟩ := hq31
  have B34 : Ext h h30 := extKeep B27 K32 (allS z7 all0)
  show WlO _ _ _ _ _ _ _ _ _ _ _ _ _ _ _ _ _ _ [.ref a1]
  exact Wl.areturn d2_36 rfl rfl rfl (nle rfl) (nle rfl) ⟨a1, rfl, B34, S33⟩
set_option maxRecDepth 65536 in
set_option maxHeartbeats 40000000 in
theorem make2_met {l : Launch} {Z : State} {a0 : Array Value} (hw : ∀ d ∈ tables_1, d.before a0 Z = true) (hcs : CSon Z) {h : Heap} {b : Addr} {kb : ClassId} {c0 c1 c2 c3 : Int32} (A : Arv Z h b kb .char (4 : Int32) [.int c0, .int c1, .int c2, .int c3] (.int 0)) (lc0 : Lat c0) (lc1 : Lat c1) (lc2 : Lat c2) (lc3 : Lat c3) :
    Met l Z consts_1 ⟨"org/portcullis/HttpSyntaxTrimPinLaw", "make", "(I[C)Ljava/lang/String;"⟩ method_4_code 2 (some (.object "java/lang/String")) [] { frames := 4, cells := 6, slots := 24, locals := 70 } #[.int (2 : Int32), .ref b] h [] (fun v h' => ∃ x : Addr, v = some (.ref x) ∧ Ext h h' ∧ Stl Z h' x [c0, c1]) := by
  refine Met.of_walk (a0 := a0) (Ls := #[.val (.int (2 : Int32)), .val (.ref b)]) (plainFor_of_name pn_2) (own_hEL hw) rfl ?_
  refine Wl.iload_n 1 d2_0 rfl ?_
  refine Wl.ifY 15 d2_1 (feq (by decide)).2 ?_
  refine Wl.iload_n 16 d2_15 rfl ?_
  refine Wl.iconst 17 (1 : Int32) d2_16 (by decide) ?_
  refine Wl.icmpY 37 d2_17 (feq (by decide)).2 ?_
  refine Wl.iload_n 38 d2_37 rfl ?_
  refine Wl.iconst 39 (2 : Int32) d2_38 (by decide) ?_
  refine Wl.icmpN 42 d2_39 (teq (by decide)).2 ?_
  refine Wl.new 45 d2_42 (w9 hw) (w10 hw) (w11 hw) (nle rfl) (nle rfl) ?_
  intro a1 h2 q3 E4 X5 D6
  have z7 : h.size ≤ a1 := Nat.le_of_eq q3.symm
  have ne8 : b ≠ a1 := Nat.ne_of_lt (by rw [q3]; exact (A).lt)
  have B9 : Ext h h2 := E4
  have F10 : Fld Z h2 a1 "java/lang/String" "value" "[B" (.null) := D6 (Or.inr (w24 hw)) (ty := (.array .byte)) (by decide)
  have F11 : Fld Z h2 a1 "java/lang/String" "coder" "B" (.int 0) := D6 (Or.inr (w25 hw)) (ty := .byte) (by decide)
  refine Wl.dup 46 d2_45 rfl ?_
  refine Wl.iconst 47 (2 : Int32) d2_46 (by decide) ?_
  refine Wl.newarray 49 2 d2_47 (w1 hw) (by decide) (by decide) (by decide) (nle rfl) (nle rfl) ?_
  intro a12 h13 k14 q15 E16 A17
  have A17 : Arv Z h13 a12 k14 .char (2 : Int32) [.int 0, .int 0] (.int 0) := A17
  have z18 : h.size ≤ a12 := Nat.le_trans B9.1 (Nat.le_of_eq q15.symm)
  have z19 : h2.size ≤ a12 := Nat.le_of_eq q15.symm
  have ne20 : b ≠ a12 := Nat.ne_of_lt (by rw [q15]; exact ((A.ext E4)).lt)
  have ne21 : a1 ≠ a12 := Nat.ne_of_lt (by rw [q15]; exact (X5).lt)
  have B22 : Ext h h13 := extTr B9 E16
  have B23 : Ext h2 h13 := E16
  refine Wl.dup 50 d2_49 rfl ?_
  refine Wl.iconst 51 (0 : Int32) d2_50 (by decide) ?_
  refine Wl.aload_n 52 d2_51 rfl rfl ?_
  refine Wl.iconst 53 (0 : Int32) d2_52 (by decide) ?_
  refine Wl.caload 54 0 d2_53 (A.ext B22) (by decide) (by decide) (by decide) rfl ?_
  refine Wl.castore 55 0 d2_54 A17 (List.mem_of_getElem? (i := 0) rfl) (by decide) (by decide) (by decide) (nle rfl) ?_
  intro h24 W25 A26
  rw [nar_ch (lc0).ch] at A26
  have A26 : Arv Z h24 a12 k14 .char (2 : Int32) [.int c0, .int (0 : Int32)] (.int 0) := A26
  have B27 : Ext h h24 := extWr B22 W25 z18
  have B28 : Ext h2 h24 := extWr B23 W25 z19
  refine Wl.dup 56 d2_55 rfl ?_
  refine Wl.iconst 57 (1 : Int32) d2_56 (by decide) ?_
  refine Wl.aload_n 58 d2_57 rfl rfl ?_
  refine Wl.iconst 59 (1 : Int32) d2_58 (by decide) ?_
  refine Wl.caload 60 1 d2_59 (A.ext B27) (by decide) (by decide) (by decide) rfl ?_
  refine Wl.castore 61 1 d2_60 A26 (List.mem_of_getElem? (i := 0) rfl) (by decide) (by decide) (by decide) (nle rfl) ?_
  intro h29 W30 A31
  rw [nar_ch (lc1).ch] at A31
  have A31 : Arv Z h29 a12 k14 .char (2 : Int32) [.int c0, .int c1] (.int 0) := A31
  have B32 : Ext h h29 := extWr B27 W30 z18
  have B33 : Ext h2 h29 := extWr B28 W30 z19
  refine Wl.special 64 (argsL := [.ref a12]) d2_61 (w12 hw) (w13 hw) (w11 hw) (w14 hw) (show parseMethodDescriptor "([C)V" = some ⟨[(.array .char)], none⟩ by decide +kernel) rfl (strC_met hw hcs (cs := [c0, c1]) 4 (nle rfl) (nle rfl)  (latC lc0 (latC lc1 latN)) (X5.ext B33) (F10.ext B33) (F11.ext B33) A31) (allS (List.mem_of_getElem? (i := 1) rfl) (fun _ q => nomatch q)) rfl rfl rfl rfl (by decide) ⟨⟨nle rfl, nle rfl⟩, nle rfl, nle rfl⟩ ?_
  intro v34 h35 hq36 _
  obtain ⟨rfl, K37, S38⟩ := hq36
  have B39 : Ext h h35 := extKeep B32 K37 (allS z7 all0)
  show WlO _ _ _ _ _ _ _ _ _ _ _ _ _ _ _ _ _ _ [.ref a1]
  exact Wl.areturn d2_64 rfl rfl rfl (nle rfl) (nle rfl) ⟨a1, rfl, B39, S38⟩
set_option maxRecDepth 65536 in
set_option maxHeartbeats 40000000 in
theorem make3_met {l : Launch} {Z : State} {a0 : Array Value} (hw : ∀ d ∈ tables_1, d.before a0 Z = true) (hcs : CSon Z) {h : Heap} {b : Addr} {kb : ClassId} {c0 c1 c2 c3 : Int32} (A : Arv Z h b kb .char (4 : Int32) [.int c0, .int c1, .int c2, .int c3] (.int 0)) (lc0 : Lat c0) (lc1 : Lat c1) (lc2 : Lat c2) (lc3 : Lat c3) :
    Met l Z consts_1 ⟨"org/portcullis/HttpSyntaxTrimPinLaw", "make", "(I[C)Ljava/lang/String;"⟩ method_4_code 2 (some (.object "java/lang/String")) [] { frames := 4, cells := 6, slots := 24, locals := 70 } #[.int (3 : Int32), .ref b] h [] (fun v h' => ∃ x : Addr, v = some (.ref x) ∧ Ext h h' ∧ Stl Z h' x [c0, c1, c2]) := by
  refine Met.of_walk (a0 := a0) (Ls := #[.val (.int (3 : Int32)), .val (.ref b)]) (plainFor_of_name pn_2) (own_hEL hw) rfl ?_
  refine Wl.iload_n 1 d2_0 rfl ?_
  refine Wl.ifY 15 d2_1 (feq (by decide)).2 ?_
  refine Wl.iload_n 16 d2_15 rfl ?_
  refine Wl.iconst 17 (1 : Int32) d2_16 (by decide) ?_
  refine Wl.icmpY 37 d2_17 (feq (by decide)).2 ?_
  refine Wl.iload_n 38 d2_37 rfl ?_
  refine Wl.iconst 39 (2 : Int32) d2_38 (by decide) ?_
  refine Wl.icmpY 65 d2_39 (feq (by decide)).2 ?_
  refine Wl.iload_n 66 d2_65 rfl ?_
  refine Wl.iconst 67 (3 : Int32) d2_66 (by decide) ?_
  refine Wl.icmpN 70 d2_67 (teq (by decide)).2 ?_
  refine Wl.new 73 d2_70 (w9 hw) (w10 hw) (w11 hw) (nle rfl) (nle rfl) ?_
  intro a1 h2 q3 E4 X5 D6
  have z7 : h.size ≤ a1 := Nat.le_of_eq q3.symm
  have ne8 : b ≠ a1 := Nat.ne_of_lt (by rw [q3]; exact (A).lt)
  have B9 : Ext h h2 := E4
  have F10 : Fld Z h2 a1 "java/lang/String" "value" "[B" (.null) := D6 (Or.inr (w24 hw)) (ty := (.array .byte)) (by decide)
  have F11 : Fld Z h2 a1 "java/lang/String" "coder" "B" (.int 0) := D6 (Or.inr (w25 hw)) (ty := .byte) (by decide)
  refine Wl.dup 74 d2_73 rfl ?_
  refine Wl.iconst 75 (3 : Int32) d2_74 (by decide) ?_
  refine Wl.newarray 77 3 d2_75 (w1 hw) (by decide) (by decide) (by decide) (nle rfl) (nle rfl) ?_
  intro a12 h13 k14 q15 E16 A17
  have A17 : Arv Z h13 a12 k14 .char (3 : Int32) [.int 0, .int 0, .int 0] (.int 0) := A17
  have z18 : h.size ≤ a12 := Nat.le_trans B9.1 (Nat.le_of_eq q15.symm)
  have z19 : h2.size ≤ a12 := Nat.le_of_eq q15.symm
  have ne20 : b ≠ a12 := Nat.ne_of_lt (by rw [q15]; exact ((A.ext E4)).lt)
  have ne21 : a1 ≠ a12 := Nat.ne_of_lt (by rw [q15]; exact (X5).lt)
  have B22 : Ext h h13 := extTr B9 E16
  have B23 : Ext h2 h13 := E16
  refine Wl.dup 78 d2_77 rfl ?_
  refine Wl.iconst 79 (0 : Int32) d2_78 (by decide) ?_
  refine Wl.aload_n 80 d2_79 rfl rfl ?_
  refine Wl.iconst 81 (0 : Int32) d2_80 (by decide) ?_
  refine Wl.caload 82 0 d2_81 (A.ext B22) (by decide) (by decide) (by decide) rfl ?_
  refine Wl.castore 83 0 d2_82 A17 (List.mem_of_getElem? (i := 0) rfl) (by decide) (by decide) (by decide) (nle rfl) ?_
  intro h24 W25 A26
  rw [nar_ch (lc0).ch] at A26
  have A26 : Arv Z h24 a12 k14 .char (3 : Int32) [.int c0, .int (0 : Int32), .int (0 : Int32)] (.int 0) := A26
  have B27 : Ext h h24 := extWr B22 W25 z18
  have B28 : Ext h2 h24 := extWr B23 W25 z19
  refine Wl.dup 84 d2_83 rfl ?_
  refine Wl.iconst 85 (1 : Int32) d2_84 (by decide) ?_
  refine Wl.aload_n 86 d2_85 rfl rfl ?_
  refine Wl.iconst 87 (1 : Int32) d2_86 (by decide) ?_
  refine Wl.caload 88 1 d2_87 (A.ext B27) (by decide) (by decide) (by decide) rfl ?_
  refine Wl.castore 89 1 d2_88 A26 (List.mem_of_getElem? (i := 0) rfl) (by decide) (by decide) (by decide) (nle rfl) ?_
  intro h29 W30 A31
  rw [nar_ch (lc1).ch] at A31
  have A31 : Arv Z h29 a12 k14 .char (3 : Int32) [.int c0, .int c1, .int (0 : Int32)] (.int 0) := A31
  have B32 : Ext h h29 := extWr B27 W30 z18
  have B33 : Ext h2 h29 := extWr B28 W30 z19
  refine Wl.dup 90 d2_89 rfl ?_
  refine Wl.iconst 91 (2 : Int32) d2_90 (by decide) ?_
  refine Wl.aload_n 92 d2_91 rfl rfl ?_
  refine Wl.iconst 93 (2 : Int32) d2_92 (by decide) ?_
  refine Wl.caload 94 2 d2_93 (A.ext B32) (by decide) (by decide) (by decide) rfl ?_
  refine Wl.castore 95 2 d2_94 A31 (List.mem_of_getElem? (i := 0) rfl) (by decide) (by decide) (by decide) (nle rfl) ?_
  intro h34 W35 A36
  rw [nar_ch (lc2).ch] at A36
  have A36 : Arv Z h34 a12 k14 .char (3 : Int32) [.int c0, .int c1, .int c2] (.int 0) := A36
  have B37 : Ext h h34 := extWr B32 W35 z18
  have B38 : Ext h2 h34 := extWr B33 W35 z19
  refine Wl.special 98 (argsL := [.ref a12]) d2_95 (w12 hw) (w13 hw) (w11 hw) (w14 hw) (show parseMethodDescriptor "([C)V" = some ⟨[(.array .char)], none⟩ by decide +kernel) rfl (strC_met hw hcs (cs := [c0, c1, c2]) 4 (nle rfl) (nle rfl)  (latC lc0 (latC lc1 (latC lc2 latN))) (X5.ext B38) (F10.ext B38) (F11.ext B38) A36) (allS (List.mem_of_getElem? (i := 1) rfl) (fun _ q => nomatch q)) rfl rfl rfl rfl (by decide) ⟨⟨nle rfl, nle rfl⟩, nle rfl, nle rfl⟩ ?_
  intro v39 h40 hq41 _
  obtain ⟨rfl, K42, S43⟩ := hq41
  have B44 : Ext h h40 := extKeep B37 K42 (allS z7 all0)
  show WlO _ _ _ _ _ _ _ _ _ _ _ _ _ _ _ _ _ _ [.ref a1]
  exact Wl.areturn d2_98 rfl rfl rfl (nle rfl) (nle rfl) ⟨a1, rfl, B44, S43⟩
set_option maxRecDepth 65536 in
set_option maxHeartbeats 40000000 in
theorem make4_met {l : Launch} {Z : State} {a0 : Array Value} (hw : ∀ d ∈ tables_1, d.before a0 Z = true) (hcs : CSon Z) {h : Heap} {b : Addr} {kb : ClassId} {c0 c1 c2 c3 : Int32} (A : Arv Z h b kb .char (4 : Int32) [.int c0, .int c1, .int c2, .int c3] (.int 0)) (lc0 : Lat c0) (lc1 : Lat c1) (lc2 : Lat c2) (lc3 : Lat c3) :
    Met l Z consts_1 ⟨"org/portcullis/HttpSyntaxTrimPinLaw", "make", "(I[C)Ljava/lang/String;"⟩ method_4_code 2 (some (.object "java/lang/String")) [] { frames := 4, cells := 6, slots := 24, locals := 70 } #[.int (4 : Int32), .ref b] h [] (fun v h' => ∃ x : Addr, v = some (.ref x) ∧ Ext h h' ∧ Stl Z h' x [c0, c1, c2, c3]) := by
  refine Met.of_walk (a0 := a0) (Ls := #[.val (.int (4 : Int32)), .val (.ref b)]) (plainFor_of_name pn_2) (own_hEL hw) rfl ?_
  refine Wl.iload_n 1 d2_0 rfl ?_
  refine Wl.ifY 15 d2_1 (feq (by decide)).2 ?_
  refine Wl.iload_n 16 d2_15 rfl ?_
  refine Wl.iconst 17 (1 : Int32) d2_16 (by decide) ?_
  refine Wl.icmpY 37 d2_17 (feq (by decide)).2 ?_
  refine Wl.iload_n 38 d2_37 rfl ?_
  refine Wl.iconst 39 (2 : Int32) d2_38 (by decide) ?_
  refine Wl.icmpY 65 d2_39 (feq (by decide)).2 ?_
  refine Wl.iload_n 66 d2_65 rfl ?_
  refine Wl.iconst 67 (3 : Int32) d2_66 (by decide) ?_
  refine Wl.icmpY 99 d2_67 (feq (by decide)).2 ?_
  refine Wl.new 102 d2_99 (w9 hw) (w10 hw) (w11 hw) (nle rfl) (nle rfl) ?_
  intro a1 h2 q3 E4 X5 D6
  have z7 : h.size ≤ a1 := Nat.le_of_eq q3.symm
  have ne8 : b ≠ a1 := Nat.ne_of_lt (by rw [q3]; exact (A).lt)
  have B9 : Ext h h2 := E4
  have F10 : Fld Z h2 a1 "java/lang/String" "value" "[B" (.null) := D6 (Or.inr (w24 hw)) (ty := (.array .byte)) (by decide)
  have F11 : Fld Z h2 a1 "java/lang/String" "coder" "B" (.int 0) := D6 (Or.inr (w25 hw)) (ty := .byte) (by decide)
  refine Wl.dup 103 d2_102 rfl ?_
  refine Wl.iconst 104 (4 : Int32) d2_103 (by decide) ?_
  refine Wl.newarray 106 4 d2_104 (w1 hw) (by decide) (by decide) (by decide) (nle rfl) (nle rfl) ?_
  intro a12 h13 k14 q15 E16 A17
  have A17 : Arv Z h13 a12 k14 .char (4 : Int32) [.int 0, .int 0, .int 0, .int 0] (.int 0) := A17
  have z18 : h.size ≤ a12 := Nat.le_trans B9.1 (Nat.le_of_eq q15.symm)
  have z19 : h2.size ≤ a12 := Nat.le_of_eq q15.symm
  have ne20 : b ≠ a12 := Nat.ne_of_lt (by rw [q15]; exact ((A.ext E4)).lt)
  have ne21 : a1 ≠ a12 := Nat.ne_of_lt (by rw [q15]; exact (X5).lt)
  have B22 : Ext h h13 := extTr B9 E16
  have B23 : Ext h2 h13 := E16
  refine Wl.dup 107 d2_106 rfl ?_
  refine Wl.iconst 108 (0 : Int32) d2_107 (by decide) ?_
  refine Wl.aload_n 109 d2_108 rfl rfl ?_
  refine Wl.iconst 110 (0 : Int32) d2_109 (by decide) ?_
  refine Wl.caload 111 0 d2_110 (A.ext B22) (by decide) (by decide) (by decide) rfl ?_
  refine Wl.castore 112 0 d2_111 A17 (List.mem_of_getElem? (i := 0) rfl) (by decide) (by decide) (by decide) (nle rfl) ?_
  intro h24 W25 A26
  rw [nar_ch (lc0).ch] at A26
  have A26 : Arv Z h24 a12 k14 .char (4 : Int32) [.int c0, .int (0 : Int32), .int (0 : Int32), .int (0 : Int32)] (.int 0) := A26
  have B27 : Ext h h24 := extWr B22 W25 z18
  have B28 : Ext h2 h24 := extWr B23 W25 z19
  refine Wl.dup 113 d2_112 rfl ?_
  refine Wl.iconst 114 (1 : Int32) d2_113 (by decide) ?_
  refine Wl.aload_n 115 d2_114 rfl rfl ?_
  refine Wl.iconst 116 (1 : Int32) d2_115 (by decide) ?_
  refine Wl.caload 117 1 d2_116 (A.ext B27) (by decide) (by decide) (by decide) rfl ?_
  refine Wl.castore 118 1 d2_117 A26 (List.mem_of_getElem? (i := 0) rfl) (by decide) (by decide) (by decide) (nle rfl) ?_
  intro h29 W30 A31
  rw [nar_ch (lc1).ch] at A31
  have A31 : Arv Z h29 a12 k14 .char (4 : Int32) [.int c0, .int c1, .int (0 : Int32), .int (0 : Int32)] (.int 0) := A31
  have B32 : Ext h h29 := extWr B27 W30 z18
  have B33 : Ext h2 h29 := extWr B28 W30 z19
  refine Wl.dup 119 d2_118 rfl ?_
  refine Wl.iconst 120 (2 : Int32) d2_119 (by decide) ?_
  refine Wl.aload_n 121 d2_120 rfl rfl ?_
  refine Wl.iconst 122 (2 : Int32) d2_121 (by decide) ?_
  refine Wl.caload 123 2 d2_122 (A.ext B32) (by decide) (by decide) (by decide) rfl ?_
  refine Wl.castore 124 2 d2_123 A31 (List.mem_of_getElem? (i := 0) rfl) (by decide) (by decide) (by decide) (nle rfl) ?_
  intro h34 W35 A36
  rw [nar_ch (lc2).ch] at A36
  have A36 : Arv Z h34 a12 k14 .char (4 : Int32) [.int c0, .int c1, .int c2, .int (0 : Int32)] (.int 0) := A36
  have B37 : Ext h h34 := extWr B32 W35 z18
  have B38 : Ext h2 h34 := extWr B33 W35 z19
  refine Wl.dup 125 d2_124 rfl ?_
  refine Wl.iconst 126 (3 : Int32) d2_125 (by decide) ?_
  refine Wl.aload_n 127 d2_126 rfl rfl ?_
  refine Wl.iconst 128 (3 : Int32) d2_127 (by decide) ?_
  refine Wl.caload 129 3 d2_128 (A.ext B37) (by decide) (by decide) (by decide) rfl ?_
  refine Wl.castore 130 3 d2_129 A36 (List.mem_of_getElem? (i := 0) rfl) (by decide) (by decide) (by decide) (nle rfl) ?_
  intro h39 W40 A41
  rw [nar_ch (lc3).ch] at A41
  have A41 : Arv Z h39 a12 k14 .char (4 : Int32) [.int c0, .int c1, .int c2, .int c3] (.int 0) := A41
  have B42 : Ext h h39 := extWr B37 W40 z18
  have B43 : Ext h2 h39 := extWr B38 W40 z19
  refine Wl.special 133 (argsL := [.ref a12]) d2_130 (w12 hw) (w13 hw) (w11 hw) (w14 hw) (show parseMethodDescriptor "([C)V" = some ⟨[(.array .char)], none⟩ by decide +kernel) rfl (strC_met hw hcs (cs := [c0, c1, c2, c3]) 4 (nle rfl) (nle rfl)  (latC lc0 (latC lc1 (latC lc2 (latC lc3 latN)))) (X5.ext B43) (F10.ext B43) (F11.ext B43) A41) (allS (List.mem_of_getElem? (i := 1) rfl) (fun _ q => nomatch q)) rfl rfl rfl rfl (by decide) ⟨⟨nle rfl, nle rfl⟩, nle rfl, nle rfl⟩ ?_
  intro v44 h45 hq46 _
  obtain ⟨rfl, K47, S48⟩ := hq46
  have B49 : Ext h h45 := extKeep B42 K47 (allS z7 all0)
  show WlO _ _ _ _ _ _ _ _ _ _ _ _ _ _ _ _ _ _ [.ref a1]
  exact Wl.areturn d2_133 rfl rfl rfl (nle rfl) (nle rfl) ⟨a1, rfl, B49, S48⟩
set_option maxRecDepth 65536 in
set_option maxHeartbeats 40000000 in
theorem law_t0 {l : Launch} {Z : State} {a0 : Array Value} (hw : ∀ d ∈ tables_1, d.before a0 Z = true) (hcs : CSon Z) (hfm : Fmt Z) {as : Array Value} {h : Heap} {i0 i1 i2 i3 i4 : Int32}  :
    Wl l Z a0 consts_1 x code maxLocals ret room_1 as (fun v h' => v = some (.int 1)) [] h 0 0 9 #[.val (.int i0), .val (.int i1), .val (.int i2), .val (.int i3), .val (.int i4), .val (.int (0 : Int32)), .unset, .unset, .unset, .unset, .unset, .unset, .unset, .unset, .unset, .unset, .unset] [] := by
  refine Wl.iconst 10 (4 : Int32) at_9 (by decide) ?_
  refine Wl.newarray 12 4 at_10 (w1 hw) (by decide) (by decide) (by decide) (nle rfl) (nle rfl) ?_
  intro a1 h2 k3 q4 E5 A6
  have A6 : Arv Z h2 a1 k3 .char (4 : Int32) [.int 0, .int 0, .int 0, .int 0] (.int 0) := A6
  have z7 : h.size ≤ a1 := Nat.le_of_eq q4.symm
  have B8 : Ext h h2 := E5
  refine Wl.dup 13 at_12 rfl ?_
  refine Wl.iconst 14 (0 : Int32) at_13 (by decide) ?_
  refine Wl.iload_n 15 at_14 rfl ?_
  refine Wl.static 18 (argsL := [.int i0]) at_15 (w2 hw) (w3 hw) (w4 hw) (w5 hw) (show parseMethodDescriptor "(I)C" = some ⟨[.int], some .char⟩ by decide +kernel) rfl (pick_met hw) (fun _ q => nomatch q) rfl rfl rfl (by decide) ⟨⟨nle rfl, nle rfl⟩, nle rfl, nle rfl⟩ ?_
  intro v9 h10 hq11 _
  obtain ⟨rfl, rfl⟩ := hq11
  have lc0 := pick_lat i0
  generalize pickI i0 = c0 at lc0 ⊢
  show WlO _ _ _ _ _ _ _ _ _ _ _ _ _ _ _ _ _ _ [.int c0, .int (0 : Int32), .ref a1, .ref a1]
  refine Wl.castore 19 0 at_18 A6 (List.mem_of_getElem? (i := 0) rfl) (by decide) (by decide) (by decide) (nle rfl) ?_
  intro h13 W14 A15
  rw [nar_ch (lc0).ch] at A15
  have A15 : Arv Z h13 a1 k3 .char (4 : Int32) [.int c0, .int (0 : Int32), .int (0 : Int32), .int (0 : Int32)] (.int 0) := A15
  have B16 : Ext h h13 := extWr B8 W14 z7
  refine Wl.dup 20 at_19 rfl ?_
  refine Wl.iconst 21 (1 : Int32) at_20 (by decide) ?_
  refine Wl.iload_n 22 at_21 rfl ?_
  refine Wl.static 25 (argsL := [.int i1]) at_22 (w2 hw) (w3 hw) (w4 hw) (w5 hw) (show parseMethodDescriptor "(I)C" = some ⟨[.int], some .char⟩ by decide +kernel) rfl (pick_met hw) (fun _ q => nomatch q) rfl rfl rfl (by decide) ⟨⟨nle rfl, nle rfl⟩, nle rfl, nle rfl⟩ ?_
  intro v17 h18 hq19 _
  obtain ⟨rfl, rfl⟩ := hq19
  have lc1 := pick_lat i1
  generalize pickI i1 = c1 at lc1 ⊢
  show WlO _ _ _ _ _ _ _ _ _ _ _ _ _ _ _ _ _ _ [.int c1, .int (1 : Int32), .ref a1, .ref a1]
  refine Wl.castore 26 1 at_25 A15 (List.mem_of_getElem? (i := 0) rfl) (by decide) (by decide) (by decide) (nle rfl) ?_
  intro h21 W22 A23
  rw [nar_ch (lc1).ch] at A23
  have A23 : Arv Z h21 a1 k3 .char (4 : Int32) [.int c0, .int c1, .int (0 : Int32), .int (0 : Int32)] (.int 0) := A23
  have B24 : Ext h h21 := extWr B16 W22 z7
  refine Wl.dup 27 at_26 rfl ?_
  refine Wl.iconst 28 (2 : Int32) at_27 (by decide) ?_
  refine Wl.iload_n 29 at_28 rfl ?_
  refine Wl.static 32 (argsL := [.int i2]) at_29 (w2 hw) (w3 hw) (w4 hw) (w5 hw) (show parseMethodDescriptor "(I)C" = some ⟨[.int], some .char⟩ by decide +kernel) rfl (pick_met hw) (fun _ q => nomatch q) rfl rfl rfl (by decide) ⟨⟨nle rfl, nle rfl⟩, nle rfl, nle rfl⟩ ?_
  intro v25 h26 hq27 _
  obtain ⟨rfl, rfl⟩ := hq27
  have lc2 := pick_lat i2
  generalize pickI i2 = c2 at lc2 ⊢
  show WlO _ _ _ _ _ _ _ _ _ _ _ _ _ _ _ _ _ _ [.int c2, .int (2 : Int32), .ref a1, .ref a1]
  refine Wl.castore 33 2 at_32 A23 (List.mem_of_getElem? (i := 0) rfl) (by decide) (by decide) (by decide) (nle rfl) ?_
  intro h29 W30 A31
  rw [nar_ch (lc2).ch] at A31
  have A31 : Arv Z h29 a1 k3 .char (4 : Int32) [.int c0, .int c1, .int c2, .int (0 : Int32)] (.int 0) := A31
  have B32 : Ext h h29 := extWr B24 W30 z7
  refine Wl.dup 34 at_33 rfl ?_
  refine Wl.iconst 35 (3 : Int32) at_34 (by decide) ?_
  refine Wl.iload_n 36 at_35 rfl ?_
  refine Wl.static 39 (argsL := [.int i3]) at_36 (w2 hw) (w3 hw) (w4 hw) (w5 hw) (show parseMethodDescriptor "(I)C" = some ⟨[.int], some .char⟩ by decide +kernel) rfl (pick_met hw) (fun _ q => nomatch q) rfl rfl rfl (by decide) ⟨⟨nle rfl, nle rfl⟩, nle rfl, nle rfl⟩ ?_
  intro v33 h34 hq35 _
  obtain ⟨rfl, rfl⟩ := hq35
  have lc3 := pick_lat i3
  generalize pickI i3 = c3 at lc3 ⊢
  show WlO _ _ _ _ _ _ _ _ _ _ _ _ _ _ _ _ _ _ [.int c3, .int (3 : Int32), .ref a1, .ref a1]
  refine Wl.castore 40 3 at_39 A31 (List.mem_of_getElem? (i := 0) rfl) (by decide) (by decide) (by decide) (nle rfl) ?_
  intro h37 W38 A39
  rw [nar_ch (lc3).ch] at A39
  have A39 : Arv Z h37 a1 k3 .char (4 : Int32) [.int c0, .int c1, .int c2, .int c3] (.int 0) := A39
  have B40 : Ext h h37 := extWr B32 W38 z7
  refine Wl.astore 42 #[.val (.int i0), .val (.int i1), .val (.int i2), .val (.int i3), .val (.int i4), .val (.int (0 : Int32)), .val (.ref a1), .unset, .unset, .unset, .unset, .unset, .unset, .unset, .unset, .unset, .unset] at_40 rfl rfl ?_
  refine Wl.iload 44 at_42 rfl ?_
  refine Wl.aload 46 at_44 rfl rfl ?_
  refine Wl.static 49 (argsL := [.int (0 : Int32), .ref a1]) at_46 (w6 hw) (w7 hw) (w4 hw) (w8 hw) (show parseMethodDescriptor "(I[C)Ljava/lang/String;" = some ⟨[.int, (.array .char)], some (.object "java/lang/String")⟩ by decide +kernel) rfl (make0_met hw hcs A39 lc0 lc1 lc2 lc3) (fun _ q => nomatch q) rfl rfl rfl (by decide) ⟨⟨nle rfl, nle rfl⟩, nle rfl, nle rfl⟩ ?_
  intro v41 h42 hq43 _
  obtain ⟨a44, rfl, E45, S46⟩ := hq43
  have B47 : Ext h h42 := extTr B40 E45
  show WlO _ _ _ _ _ _ _ _ _ _ _ _ _ _ _ _ _ _ [.ref a44]
  refine Wl.astore 51 #[.val (.int i0), .val (.int i1), .val (.int i2), .val (.int i3), .val (.int i4), .val (.int (0 : Int32)), .val (.ref a1), .val (.ref a44), .unset, .unset, .unset, .unset, .unset, .unset, .unset, .unset, .unset] at_49 rfl rfl ?_
  refine Wl.aload 53 at_51 rfl rfl ?_
  refine Wl.static 56 (argsL := [.ref a44]) at_53 (w30 hw) (w31 hw) (w32 hw) (w33 hw) (show parseMethodDescriptor "(Ljava/lang/String;)Ljava/lang/String;" = some ⟨[(.object "java/lang/String")], some (.object "java/lang/String")⟩ by decide +kernel) rfl (trim0_met hw hcs hfm (c0 := c0) (c1 := c1) (c2 := c2) (c3 := c3) S46) (fun _ q => nomatch q) rfl rfl rfl (by decide) ⟨⟨nle rfl, nle rfl⟩, nle rfl, nle rfl⟩ ?_
  intro v48 h49 hq50 _
  obtain ⟨a51, rfl, E52, S53⟩ := hq50
  have B54 : Ext h h49 := extTr B47 E52
  show WlO _ _ _ _ _ _ _ _ _ _ _ _ _ _ _ _ _ _ [.ref a51]
  refine Wl.astore 58 #[.val (.int i0), .val (.int i1), .val (.int i2), .val (.int i3), .val (.int i4), .val (.int (0 : Int32)), .val (.ref a1), .val (.ref a44), .val (.ref a51), .unset, .unset, .unset, .unset, .unset, .unset, .unset, .unset] at_56 rfl rfl ?_
  refine Wl.iload 60 at_58 rfl ?_
  refine Wl.ifY 77 at_60 (flt (by decide)).2.2.2 ?_
  refine Wl.iconst 78 (0 : Int32) at_77 (by decide) ?_
  refine Wl.istore 80 #[.val (.int i0), .val (.int i1), .val (.int i2), .val (.int i3), .val (.int i4), .val (.int (0 : Int32)), .val (.ref a1), .val (.ref a44), .val (.ref a51), .val (.int (0 : Int32)), .unset, .unset, .unset, .unset, .unset, .unset, .unset] at_78 rfl ?_
  refine Wl.iload 82 at_80 rfl ?_
  refine Wl.iconst 83 (1 : Int32) at_82 (by decide) ?_
  refine Wl.icmpY 100 at_83 (flt (by decide)).2.2.2 ?_
  refine Wl.iconst 101 (0 : Int32) at_100 (by decide) ?_
  refine Wl.istore 103 #[.val (.int i0), .val (.int i1), .val (.int i2), .val (.int i3), .val (.int i4), .val (.int (0 : Int32)), .val (.ref a1), .val (.ref a44), .val (.ref a51), .val (.int (0 : Int32)), .val (.int (0 : Int32)), .unset, .unset, .unset, .unset, .unset, .unset] at_101 rfl ?_
  refine Wl.iload 105 at_103 rfl ?_
  refine Wl.iconst 106 (2 : Int32) at_105 (by decide) ?_
  refine Wl.icmpY 123 at_106 (flt (by decide)).2.2.2 ?_
  refine Wl.iconst 124 (0 : Int32) at_123 (by decide) ?_
  refine Wl.istore 126 #[.val (.int i0), .val (.int i1), .val (.int i2), .val (.int i3), .val (.int i4), .val (.int (0 : Int32)), .val (.ref a1), .val (.ref a44), .val (.ref a51), .val (.int (0 : Int32)), .val (.int (0 : Int32)), .val (.int (0 : Int32)), .unset, .unset, .unset, .unset, .unset] at_124 rfl ?_
  refine Wl.iload 128 at_126 rfl ?_
  refine Wl.iconst 129 (3 : Int32) at_128 (by decide) ?_
  refine Wl.icmpY 146 at_129 (flt (by decide)).2.2.2 ?_
  refine Wl.iconst 147 (0 : Int32) at_146 (by decide) ?_
  refine Wl.istore 149 #[.val (.int i0), .val (.int i1), .val (.int i2), .val (.int i3), .val (.int i4), .val (.int (0 : Int32)), .val (.ref a1), .val (.ref a44), .val (.ref a51), .val (.int (0 : Int32)), .val (.int (0 : Int32)), .val (.int (0 : Int32)), .val (.int (0 : Int32)), .unset, .unset, .unset, .unset] at_147 rfl ?_
  refine Wl.iload 151 at_149 rfl ?_
  refine Wl.ifY 160 at_151 (teq (by decide)).1 ?_
  refine Wl.iload 162 at_160 rfl ?_
  refine Wl.ifY 171 at_162 (teq (by decide)).1 ?_
  refine Wl.iload 173 at_171 rfl ?_
  refine Wl.ifY 182 at_173 (teq (by decide)).1 ?_
  refine Wl.iload 184 at_182 rfl ?_
  refine Wl.ifY 193 at_184 (teq (by decide)).1 ?_
  refine Wl.iload 195 at_193 rfl ?_
  refine Wl.istore 197 #[.val (.int i0), .val (.int i1), .val (.int i2), .val (.int i3), .val (.int i4), .val (.int (0 : Int32)), .val (.ref a1), .val (.ref a44), .val (.ref a51), .val (.int (0 : Int32)), .val (.int (0 : Int32)), .val (.int (0 : Int32)), .val (.int (0 : Int32)), .val (.int (0 : Int32)), .unset, .unset, .unset] at_195 rfl ?_
  refine Wl.iload 199 at_197 rfl ?_
  refine Wl.iload 201 at_199 rfl ?_
  refine Wl.icmpN 204 at_201 (teq (by decide)).2 ?_
  refine Wl.iload 206 at_204 rfl ?_
  refine Wl.istore 208 #[.val (.int i0), .val (.int i1), .val (.int i2), .val (.int i3), .val (.int i4), .val (.int (0 : Int32)), .val (.ref a1), .val (.ref a44), .val (.ref a51), .val (.int (0 : Int32)), .val (.int (0 : Int32)), .val (.int (0 : Int32)), .val (.int (0 : Int32)), .val (.int (0 : Int32)), .val (.int (0 : Int32)), .unset, .unset] at_206 rfl ?_
  refine Wl.goto 247 at_208 ?_
  refine Wl.iload 249 at_247 rfl ?_
  refine Wl.iload 251 at_249 rfl ?_
  refine Wl.isub 252 at_251 ?_
  show WlO _ _ _ _ _ _ _ _ _ _ _ _ _ _ _ _ _ _ [.int (0 : Int32)]
  refine Wl.istore 254 #[.val (.int i0), .val (.int i1), .val (.int i2), .val (.int i3), .val (.int i4), .val (.int (0 : Int32)), .val (.ref a1), .val (.ref a44), .val (.ref a51), .val (.int (0 : Int32)), .val (.int (0 : Int32)), .val (.int (0 : Int32)), .val (.int (0 : Int32)), .val (.int (0 : Int32)), .val (.int (0 : Int32)), .val (.int (0 : Int32)), .unset] at_252 rfl ?_
  refine Wl.aload 256 at_254 rfl rfl ?_
  have S55 : Stl Z h49 a51 [] := S53
  refine Wl.virtual 259 (argsL := []) at_256 (w59 hw) (w35 hw) (w37 hw) (w36 hw) (w11 hw) (w38 hw) (nf_sel (w37 hw) rfl) (S53).exa (show parseMethodDescriptor "()I" = some ⟨[], some .int⟩ by decide +kernel) rfl (len_met hw hcs S55) (fun _ q => nomatch q) rfl rfl rfl (by decide) ⟨⟨nle rfl, nle rfl⟩, nle rfl, nle rfl⟩ ?_
  intro v56 h57 hq58 _
  obtain ⟨rfl, rfl⟩ := hq58
  show WlO _ _ _ _ _ _ _ _ _ _ _ _ _ _ _ _ _ _ [.int (0 : Int32)]
  refine Wl.iload 261 at_259 rfl ?_
  refine Wl.icmpN 264 at_261 (teq (by decide)).2 ?_
  refine Wl.iconst 265 (1 : Int32) at_264 (by decide) ?_
  refine Wl.goto 269 at_265 ?_
  refine Wl.istore 271 #[.val (.int i0), .val (.int i1), .val (.int i2), .val (.int i3), .val (.int i4), .val (.int (0 : Int32)), .val (.ref a1), .val (.ref a44), .val (.ref a51), .val (.int (0 : Int32)), .val (.int (0 : Int32)), .val (.int (0 : Int32)), .val (.int (0 : Int32)), .val (.int (0 : Int32)), .val (.int (0 : Int32)), .val (.int (0 : Int32)), .val (.int (1 : Int32))] at_269 rfl ?_
  refine Wl.iload 273 at_271 rfl ?_
  refine Wl.ifN 276 at_273 (feq (by decide)).1 ?_
  refine Wl.iload 278 at_276 rfl ?_
  refine Wl.ifY 302 at_278 (flt (by decide)).2.2.2 ?_
  refine Wl.iload 304 at_302 rfl ?_
  refine Wl.ifN 307 at_304 (feq (by decide)).1 ?_
  refine Wl.iload 309 at_307 rfl ?_
  refine Wl.iconst 310 (1 : Int32) at_309 (by decide) ?_
  refine Wl.icmpY 336 at_310 (flt (by decide)).2.2.2 ?_
  refine Wl.iload 338 at_336 rfl ?_
  refine Wl.ifN 341 at_338 (feq (by decide)).1 ?_
  refine Wl.iload 343 at_341 rfl ?_
  refine Wl.iconst 344 (2 : Int32) at_343 (by decide) ?_
  refine Wl.icmpY 370 at_344 (flt (by decide)).2.2.2 ?_
  refine Wl.iload 372 at_370 rfl ?_
  refine Wl.ifN 375 at_372 (feq (by decide)).1 ?_
  refine Wl.iload 377 at_375 rfl ?_
  refine Wl.iconst 378 (3 : Int32) at_377 (by decide) ?_
  refine Wl.icmpY 404 at_378 (flt (by decide)).2.2.2 ?_
  refine Wl.iload 406 at_404 rfl ?_
  exact Wl.ireturn at_406 rfl rfl (by simp) (nle rfl) (nle rfl) rfl
set_option maxRecDepth 65536 in
set_option maxHeartbeats 40000000 in
theorem law_t1 {l : Launch} {Z : State} {a0 : Array Value} (hw : ∀ d ∈ tables_1, d.before a0 Z = true) (hcs : CSon Z) (hfm : Fmt Z) {as : Array Value} {h : Heap} {i0 i1 i2 i3 i4 : Int32}  :
    Wl l Z a0 consts_1 x code maxLocals ret room_1 as (fun v h' => v = some (.int 1)) [] h 0 0 9 #[.val (.int i0), .val (.int i1), .val (.int i2), .val (.int i3), .val (.int i4), .val (.int (1 : Int32)), .unset, .unset, .unset, .unset, .unset, .unset, .unset, .unset, .unset, .unset, .unset] [] := by
  refine Wl.iconst 10 (4 : Int32) at_9 (by decide) ?_
  refine Wl.newarray 12 4 at_10 (w1 hw) (by decide) (by decide) (by decide) (nle rfl) (nle rfl) ?_
  intro a1 h2 k3 q4 E5 A6
  have A6 : Arv Z h2 a1 k3 .char (4 : Int32) [.int 0, .int 0, .int 0, .int 0] (.int 0) := A6
  have z7 : h.size ≤ a1 := Nat.le_of_eq q4.symm
  have B8 : Ext h h2 := E5
  refine Wl.dup 13 at_12 rfl ?_
  refine Wl.iconst 14 (0 : Int32) at_13 (by decide) ?_
  refine Wl.iload_n 15 at_14 rfl ?_
  refine Wl.static 18 (argsL := [.int i0]) at_15 (w2 hw) (w3 hw) (w4 hw) (w5 hw) (show parseMethodDescriptor "(I)C" = some ⟨[.int], some .char⟩ by decide +kernel) rfl (pick_met hw) (fun _ q => nomatch q) rfl rfl rfl (by decide) ⟨⟨nle rfl, nle rfl⟩, nle rfl, nle rfl⟩ ?_
  intro v9 h10 hq11 _
  obtain ⟨rfl, rfl⟩ := hq11
  have lc0 := pick_lat i0
  generalize pickI i0 = c0 at lc0 ⊢
  show WlO _ _ _ _ _ _ _ _ _ _ _ _ _ _ _ _ _ _ [.int c0, .int (0 : Int32), .ref a1, .ref a1]
  refine Wl.castore 19 0 at_18 A6 (List.mem_of_getElem? (i := 0) rfl) (by decide) (by decide) (by decide) (nle rfl) ?_
  intro h13 W14 A15
  rw [nar_ch (lc0).ch] at A15
  have A15 : Arv Z h13 a1 k3 .char (4 : Int32) [.int c0, .int (0 : Int32), .int (0 : Int32), .int (0 : Int32)] (.int 0) := A15
  have B16 : Ext h h13 := extWr B8 W14 z7
  refine Wl.dup 20 at_19 rfl ?_
  refine Wl.iconst 21 (1 : Int32) at_20 (by decide) ?_
  refine Wl.iload_n 22 at_21 rfl ?_
  refine Wl.static 25 (argsL := [.int i1]) at_22 (w2 hw) (w3 hw) (w4 hw) (w5 hw) (show parseMethodDescriptor "(I)C" = some ⟨[.int], some .char⟩ by decide +kernel) rfl (pick_met hw) (fun _ q => nomatch q) rfl rfl rfl (by decide) ⟨⟨nle rfl, nle rfl⟩, nle rfl, nle rfl⟩ ?_
  intro v17 h18 hq19 _
  obtain ⟨rfl, rfl⟩ := hq19
  have lc1 := pick_lat i1
  generalize pickI i1 = c1 at lc1 ⊢
  show WlO _ _ _ _ _ _ _ _ _ _ _ _ _ _ _ _ _ _ [.int c1, .int (1 : Int32), .ref a1, .ref a1]
  refine Wl.castore 26 1 at_25 A15 (List.mem_of_getElem? (i := 0) rfl) (by decide) (by decide) (by decide) (nle rfl) ?_
  intro h21 W22 A23
  rw [nar_ch (lc1).ch] at A23
  have A23 : Arv Z h21 a1 k3 .char (4 : Int32) [.int c0, .int c1, .int (0 : Int32), .int (0 : Int32)] (.int 0) := A23
  have B24 : Ext h h21 := extWr B16 W22 z7
  refine Wl.dup 27 at_26 rfl ?_
  refine Wl.iconst 28 (2 : Int32) at_27 (by decide) ?_
  refine Wl.iload_n 29 at_28 rfl ?_
  refine Wl.static 32 (argsL := [.int i2]) at_29 (w2 hw) (w3 hw) (w4 hw) (w5 hw) (show parseMethodDescriptor "(I)C" = some ⟨[.int], some .char⟩ by decide +kernel) rfl (pick_met hw) (fun _ q => nomatch q) rfl rfl rfl (by decide) ⟨⟨nle rfl, nle rfl⟩, nle rfl, nle rfl⟩ ?_
  intro v25 h26 hq27 _
  obtain ⟨rfl, rfl⟩ := hq27
  have lc2 := pick_lat i2
  generalize pickI i2 = c2 at lc2 ⊢
  show WlO _ _ _ _ _ _ _ _ _ _ _ _ _ _ _ _ _ _ [.int c2, .int (2 : Int32), .ref a1, .ref a1]
  refine Wl.castore 33 2 at_32 A23 (List.mem_of_getElem? (i := 0) rfl) (by decide) (by decide) (by decide) (nle rfl) ?_
  intro h29 W30 A31
  rw [nar_ch (lc2).ch] at A31
  have A31 : Arv Z h29 a1 k3 .char (4 : Int32) [.int c0, .int c1, .int c2, .int (0 : Int32)] (.int 0) := A31
  have B32 : Ext h h29 := extWr B24 W30 z7
  refine Wl.dup 34 at_33 rfl ?_
  refine Wl.iconst 35 (3 : Int32) at_34 (by decide) ?_
  refine Wl.iload_n 36 at_35 rfl ?_
  refine Wl.static 39 (argsL := [.int i3]) at_36 (w2 hw) (w3 hw) (w4 hw) (w5 hw) (show parseMethodDescriptor "(I)C" = some ⟨[.int], some .char⟩ by decide +kernel) rfl (pick_met hw) (fun _ q => nomatch q) rfl rfl rfl (by decide) ⟨⟨nle rfl, nle rfl⟩, nle rfl, nle rfl⟩ ?_
  intro v33 h34 hq35 _
  obtain ⟨rfl, rfl⟩ := hq35
  have lc3 := pick_lat i3
  generalize pickI i3 = c3 at lc3 ⊢
  show WlO _ _ _ _ _ _ _ _ _ _ _ _ _ _ _ _ _ _ [.int c3, .int (3 : Int32), .ref a1, .ref a1]
  refine Wl.castore 40 3 at_39 A31 (List.mem_of_getElem? (i := 0) rfl) (by decide) (by decide) (by decide) (nle rfl) ?_
  intro h37 W38 A39
  rw [nar_ch (lc3).ch] at A39
  have A39 : Arv Z h37 a1 k3 .char (4 : Int32) [.int c0, .int c1, .int c2, .int c3] (.int 0) := A39
  have B40 : Ext h h37 := extWr B32 W38 z7
  refine Wl.astore 42 #[.val (.int i0), .val (.int i1), .val (.int i2), .val (.int i3), .val (.int i4), .val (.int (1 : Int32)), .val (.ref a1), .unset, .unset, .unset, .unset, .unset, .unset, .unset, .unset, .unset, .unset] at_40 rfl rfl ?_
  refine Wl.iload 44 at_42 rfl ?_
  refine Wl.aload 46 at_44 rfl rfl ?_
  refine Wl.static 49 (argsL := [.int (1 : Int32), .ref a1]) at_46 (w6 hw) (w7 hw) (w4 hw) (w8 hw) (show parseMethodDescriptor "(I[C)Ljava/lang/String;" = some ⟨[.int, (.array .char)], some (.object "java/lang/String")⟩ by decide +kernel) rfl (make1_met hw hcs A39 lc0 lc1 lc2 lc3) (fun _ q => nomatch q) rfl rfl rfl (by decide) ⟨⟨nle rfl, nle rfl⟩, nle rfl, nle rfl⟩ ?_
  intro v41 h42 hq43 _
  obtain ⟨a44, rfl, E45, S46⟩ := hq43
  have B47 : Ext h h42 := extTr B40 E45
  show WlO _ _ _ _ _ _ _ _ _ _ _ _ _ _ _ _ _ _ [.ref a44]
  refine Wl.astore 51 #[.val (.int i0), .val (.int i1), .val (.int i2), .val (.int i3), .val (.int i4), .val (.int (1 : Int32)), .val (.ref a1), .val (.ref a44), .unset, .unset, .unset, .unset, .unset, .unset, .unset, .unset, .unset] at_49 rfl rfl ?_
  refine Wl.aload 53 at_51 rfl rfl ?_
  refine Wl.static 56 (argsL := [.ref a44]) at_53 (w30 hw) (w31 hw) (w32 hw) (w33 hw) (show parseMethodDescriptor "(Ljava/lang/String;)Ljava/lang/String;" = some ⟨[(.object "java/lang/String")], some (.object "java/lang/String")⟩ by decide +kernel) rfl (trim1_met hw hcs hfm (c0 := c0) (c1 := c1) (c2 := c2) (c3 := c3) S46) (fun _ q => nomatch q) rfl rfl rfl (by decide) ⟨⟨nle rfl, nle rfl⟩, nle rfl, nle rfl⟩ ?_
  intro v48 h49 hq50 _
  obtain ⟨a51, rfl, E52, S53⟩ := hq50
  have B54 : Ext h h49 := extTr B47 E52
  show WlO _ _ _ _ _ _ _ _ _ _ _ _ _ _ _ _ _ _ [.ref a51]
  refine Wl.astore 58 #[.val (.int i0), .val (.int i1), .val (.int i2), .val (.int i3), .val (.int i4), .val (.int (1 : Int32)), .val (.ref a1), .val (.ref a44), .val (.ref a51), .unset, .unset, .unset, .unset, .unset, .unset, .unset, .unset] at_56 rfl rfl ?_
  refine Wl.iload 60 at_58 rfl ?_
  refine Wl.ifN 63 at_60 (tlt (by decide)).2.2.2 ?_
  refine Wl.aload 65 at_63 rfl rfl ?_
  refine Wl.iconst 66 (0 : Int32) at_65 (by decide) ?_
  refine Wl.caload 67 0 at_66 ((A39.ext E45).ext E52) (by decide) (by decide) (by decide) rfl ?_
  refine Wl.static 70 (argsL := [.int c0]) at_67 (w118 hw) (w119 hw) (w4 hw) (w120 hw) (show parseMethodDescriptor "(C)Z" = some ⟨[.char], some .boolean⟩ by decide +kernel) rfl (sp_met hw) (fun _ q => nomatch q) rfl rfl rfl (by decide) ⟨⟨nle rfl, nle rfl⟩, nle rfl, nle rfl⟩ ?_
  intro v55 h56 hq57 _
  obtain ⟨rfl, rfl⟩ := hq57
  show WlO _ _ _ _ _ _ _ _ _ _ _ _ _ _ _ _ _ _ [.int (spI c0)]
  by_cases c58 : (spI c0) = (0 : Int32)
  · refine Wl.ifN 73 at_70 (teq c58).2 ?_
    refine Wl.iconst 74 (1 : Int32) at_73 (by decide) ?_
    refine Wl.goto 78 at_74 ?_
    refine Wl.istore 80 #[.val (.int i0), .val (.int i1), .val (.int i2), .val (.int i3), .val (.int i4), .val (.int (1 : Int32)), .val (.ref a1), .val (.ref a44), .val (.ref a51), .val (.int (1 : Int32)), .unset, .unset, .unset, .unset, .unset, .unset, .unset] at_78 rfl ?_
    refine Wl.iload 82 at_80 rfl ?_
    refine Wl.iconst 83 (1 : Int32) at_82 (by decide) ?_
    refine Wl.icmpY 100 at_83 (flt (by decide)).2.2.2 ?_
    refine Wl.iconst 101 (0 : Int32) at_100 (by decide) ?_
    refine Wl.istore 103 #[.val (.int i0), .val (.int i1), .val (.int i2), .val (.int i3), .val (.int i4), .val (.int (1 : Int32)), .val (.ref a1), .val (.ref a44), .val (.ref a51), .val (.int (1 : Int32)), .val (.int (0 : Int32)), .unset, .unset, .unset, .unset, .unset, .unset] at_101 rfl ?_
    refine Wl.iload 105 at_103 rfl ?_
    refine Wl.iconst 106 (2 : Int32) at_105 (by decide) ?_
    refine Wl.icmpY 123 at_106 (flt (by decide)).2.2.2 ?_
    refine Wl.iconst 124 (0 : Int32) at_123 (by decide) ?_
    refine Wl.istore 126 #[.val (.int i0), .val (.int i1), .val (.int i2), .val (.int i3), .val (.int i4), .val (.int (1 : Int32)), .val (.ref a1), .val (.ref a44), .val (.ref a51), .val (.int (1 : Int32)), .val (.int (0 : Int32)), .val (.int (0 : Int32)), .unset, .unset, .unset, .unset, .unset] at_124 rfl ?_
    refine Wl.iload 128 at_126 rfl ?_
    refine Wl.iconst 129 (3 : Int32) at_128 (by decide) ?_
    refine Wl.icmpY 146 at_129 (flt (by decide)).2.2.2 ?_
    refine Wl.iconst 147 (0 : Int32) at_146 (by decide) ?_
    refine Wl.istore 149 #[.val (.int i0), .val (.int i1), .val (.int i2), .val (.int i3), .val (.int i4), .val (.int (1 : Int32)), .val (.ref a1), .val (.ref a44), .val (.ref a51), .val (.int (1 : Int32)), .val (.int (0 : Int32)), .val (.int (0 : Int32)), .val (.int (0 : Int32)), .unset, .unset, .unset, .unset] at_147 rfl ?_
    refine Wl.iload 151 at_149 rfl ?_
    refine Wl.ifN 154 at_151 (feq (by decide)).1 ?_
    refine Wl.iconst 155 (0 : Int32) at_154 (by decide) ?_
    refine Wl.istore 157 #[.val (.int i0), .val (.int i1), .val (.int i2), .val (.int i3), .val (.int i4), .val (.int (1 : Int32)), .val (.ref a1), .val (.ref a44), .val (.ref a51), .val (.int (1 : Int32)), .val (.int (0 : Int32)), .val (.int (0 : Int32)), .val (.int (0 : Int32)), .val (.int (0 : Int32)), .unset, .unset, .unset] at_155 rfl ?_
    refine Wl.goto 197 at_157 ?_
    refine Wl.iload 199 at_197 rfl ?_
    refine Wl.iload 201 at_199 rfl ?_
    refine Wl.icmpY 211 at_201 (feq (by decide)).2 ?_
    refine Wl.iload 213 at_211 rfl ?_
    refine Wl.ifY 222 at_213 (teq (by decide)).1 ?_
    refine Wl.iload 224 at_222 rfl ?_
    refine Wl.ifY 233 at_224 (teq (by decide)).1 ?_
    refine Wl.iload 235 at_233 rfl ?_
    refine Wl.ifY 244 at_235 (teq (by decide)).1 ?_
    refine Wl.iconst 245 (1 : Int32) at_244 (by decide) ?_
    refine Wl.istore 247 #[.val (.int i0), .val (.int i1), .val (.int i2), .val (.int i3), .val (.int i4), .val (.int (1 : Int32)), .val (.ref a1), .val (.ref a44), .val (.ref a51), .val (.int (1 : Int32)), .val (.int (0 : Int32)), .val (.int (0 : Int32)), .val (.int (0 : Int32)), .val (.int (0 : Int32)), .val (.int (1 : Int32)), .unset, .unset] at_245 rfl ?_
    refine Wl.iload 249 at_247 rfl ?_
    refine Wl.iload 251 at_249 rfl ?_
    refine Wl.isub 252 at_251 ?_
    show WlO _ _ _ _ _ _ _ _ _ _ _ _ _ _ _ _ _ _ [.int (1 : Int32)]
    refine Wl.istore 254 #[.val (.int i0), .val (.int i1), .val (.int i2), .val (.int i3), .val (.int i4), .val (.int (1 : Int32)), .val (.ref a1), .val (.ref a44), .val (.ref a51), .val (.int (1 : Int32)), .val (.int (0 : Int32)), .val (.int (0 : Int32)), .val (.int (0 : Int32)), .val (.int (0 : Int32)), .val (.int (1 : Int32)), .val (.int (1 : Int32)), .unset] at_252 rfl ?_
    refine Wl.aload 256 at_254 rfl rfl ?_
    have S59 := S53
    rw [show trimL [c0] = [c0] by simp [trimL, isp, List.dropWhile, c58]] at S59
    refine Wl.virtual 259 (argsL := []) at_256 (w59 hw) (w35 hw) (w37 hw) (w36 hw) (w11 hw) (w38 hw) (nf_sel (w37 hw) rfl) (S53).exa (show parseMethodDescriptor "()I" = some ⟨[], some .int⟩ by decide +kernel) rfl (len_met hw hcs S59) (fun _ q => nomatch q) rfl rfl rfl (by decide) ⟨⟨nle rfl, nle rfl⟩, nle rfl, nle rfl⟩ ?_
    intro v60 h61 hq62 _
    obtain ⟨rfl, rfl⟩ := hq62
    show WlO _ _ _ _ _ _ _ _ _ _ _ _ _ _ _ _ _ _ [.int (1 : Int32)]
    refine Wl.iload 261 at_259 rfl ?_
    refine Wl.icmpN 264 at_261 (teq (by decide)).2 ?_
    refine Wl.iconst 265 (1 : Int32) at_264 (by decide) ?_
    refine Wl.goto 269 at_265 ?_
    refine Wl.istore 271 #[.val (.int i0), .val (.int i1), .val (.int i2), .val (.int i3), .val (.int i4), .val (.int (1 : Int32)), .val (.ref a1), .val (.ref a44), .val (.ref a51), .val (.int (1 : Int32)), .val (.int (0 : Int32)), .val (.int (0 : Int32)), .val (.int (0 : Int32)), .val (.int (0 : Int32)), .val (.int (1 : Int32)), .val (.int (1 : Int32)), .val (.int (1 : Int32))] at_269 rfl ?_
    refine Wl.iload 273 at_271 rfl ?_
    refine Wl.ifN 276 at_273 (feq (by decide)).1 ?_
    refine Wl.iload 278 at_276 rfl ?_
    refine Wl.ifN 281 at_278 (tlt (by decide)).2.2.2 ?_
    refine Wl.aload 283 at_281 rfl rfl ?_
    refine Wl.iconst 284 (0 : Int32) at_283 (by decide) ?_
    refine Wl.virtual 287 (argsL := [.int (0 : Int32)]) at_284 (w121 hw) (w71 hw) (w73 hw) (w72 hw) (w11 hw) (w74 hw) (nf_sel (w73 hw) rfl) (S53).exa (show parseMethodDescriptor "(I)C" = some ⟨[.int], some .char⟩ by decide +kernel) rfl (charAt_met hw hcs hfm S59 (i := 0) (nle rfl)) (fun _ q => nomatch q) rfl rfl rfl (by decide) ⟨⟨nle rfl, nle rfl⟩, nle rfl, nle rfl⟩ ?_
    intro v63 h64 hq65 _
    obtain ⟨rfl, rfl⟩ := hq65
    show WlO _ _ _ _ _ _ _ _ _ _ _ _ _ _ _ _ _ _ [.int c0]
    refine Wl.aload 289 at_287 rfl rfl ?_
    refine Wl.iload 291 at_289 rfl ?_
    refine Wl.caload 292 0 at_291 ((A39.ext E45).ext E52) (by decide) (by decide) (by decide) rfl ?_
    refine Wl.icmpN 295 at_292 (teq rfl).2 ?_
    refine Wl.iconst 296 (1 : Int32) at_295 (by decide) ?_
    refine Wl.goto 300 at_296 ?_
    refine Wl.istore 302 #[.val (.int i0), .val (.int i1), .val (.int i2), .val (.int i3), .val (.int i4), .val (.int (1 : Int32)), .val (.ref a1), .val (.ref a44), .val (.ref a51), .val (.int (1 : Int32)), .val (.int (0 : Int32)), .val (.int (0 : Int32)), .val (.int (0 : Int32)), .val (.int (0 : Int32)), .val (.int (1 : Int32)), .val (.int (1 : Int32)), .val (.int (1 : Int32))] at_300 rfl ?_
    refine Wl.iload 304 at_302 rfl ?_
    refine Wl.ifN 307 at_304 (feq (by decide)).1 ?_
    refine Wl.iload 309 at_307 rfl ?_
    refine Wl.iconst 310 (1 : Int32) at_309 (by decide) ?_
    refine Wl.icmpY 336 at_310 (flt (by decide)).2.2.2 ?_
    refine Wl.iload 338 at_336 rfl ?_
    refine Wl.ifN 341 at_338 (feq (by decide)).1 ?_
    refine Wl.iload 343 at_341 rfl ?_
    refine Wl.iconst 344 (2 : Int32) at_343 (by decide) ?_
    refine Wl.icmpY 370 at_344 (flt (by decide)).2.2.2 ?_
    refine Wl.iload 372 at_370 rfl ?_
    refine Wl.ifN 375 at_372 (feq (by decide)).1 ?_
    refine Wl.iload 377 at_375 rfl ?_
    refine Wl.iconst 378 (3 : Int32) at_377 (by decide) ?_
    refine Wl.icmpY 404 at_378 (flt (by decide)).2.2.2 ?_
    refine Wl.iload 406 at_404 rfl ?_
    exact Wl.ireturn at_406 rfl rfl (by simp) (nle rfl) (nle rfl) rfl
  · refine Wl.ifY 77 at_70 (feq c58).2 ?_
    refine Wl.iconst 78 (0 : Int32) at_77 (by decide) ?_
    refine Wl.istore 80 #[.val (.int i0), .val (.int i1), .val (.int i2), .val (.int i3), .val (.int i4), .val (.int (1 : Int32)), .val (.ref a1), .val (.ref a44), .val (.ref a51), .val (.int (0 : Int32)), .unset, .unset, .unset, .unset, .unset, .unset, .unset] at_78 rfl ?_
    refine Wl.iload 82 at_80 rfl ?_
    refine Wl.iconst 83 (1 : Int32) at_82 (by decide) ?_
    refine Wl.icmpY 100 at_83 (flt (by decide)).2.2.2 ?_
    refine Wl.iconst 101 (0 : Int32) at_100 (by decide) ?_
    refine Wl.istore 103 #[.val (.int i0), .val (.int i1), .val (.int i2), .val (.int i3), .val (.int i4), .val (.int (1 : Int32)), .val (.ref a1), .val (.ref a44), .val (.ref a51), .val (.int (0 : Int32)), .val (.int (0 : Int32)), .unset, .unset, .unset, .unset, .unset, .unset] at_101 rfl ?_
    refine Wl.iload 105 at_103 rfl ?_
    refine Wl.iconst 106 (2 : Int32) at_105 (by decide) ?_
    refine Wl.icmpY 123 at_106 (flt (by decide)).2.2.2 ?_
    refine Wl.iconst 124 (0 : Int32) at_123 (by decide) ?_
    refine Wl.istore 126 #[.val (.int i0), .val (.int i1), .val (.int i2), .val (.int i3), .val (.int i4), .val (.int (1 : Int32)), .val (.ref a1), .val (.ref a44), .val (.ref a51), .val (.int (0 : Int32)), .val (.int (0 : Int32)), .val (.int (0 : Int32)), .unset, .unset, .unset, .unset, .unset] at_124 rfl ?_
    refine Wl.iload 128 at_126 rfl ?_
    refine Wl.iconst 129 (3 : Int32) at_128 (by decide) ?_
    refine Wl.icmpY 146 at_129 (flt (by decide)).2.2.2 ?_
    refine Wl.iconst 147 (0 : Int32) at_146 (by decide) ?_
    refine Wl.istore 149 #[.val (.int i0), .val (.int i1), .val (.int i2), .val (.int i3), .val (.int i4), .val (.int (1 : Int32)), .val (.ref a1), .val (.ref a44), .val (.ref a51), .val (.int (0 : Int32)), .val (.int (0 : Int32)), .val (.int (0 : Int32)), .val (.int (0 : Int32)), .unset, .unset, .unset, .unset] at_147 rfl ?_
    refine Wl.iload 151 at_149 rfl ?_
    refine Wl.ifY 160 at_151 (teq (by decide)).1 ?_
    refine Wl.iload 162 at_160 rfl ?_
    refine Wl.ifY 171 at_162 (teq (by decide)).1 ?_
    refine Wl.iload 173 at_171 rfl ?_
    refine Wl.ifY 182 at_173 (teq (by decide)).1 ?_
    refine Wl.iload 184 at_182 rfl ?_
    refine Wl.ifY 193 at_184 (teq (by decide)).1 ?_
    refine Wl.iload 195 at_193 rfl ?_
    refine Wl.istore 197 #[.val (.int i0), .val (.int i1), .val (.int i2), .val (.int i3), .val (.int i4), .val (.int (1 : Int32)), .val (.ref a1), .val (.ref a44), .val (.ref a51), .val (.int (0 : Int32)), .val (.int (0 : Int32)), .val (.int (0 : Int32)), .val (.int (0 : Int32)), .val (.int (1 : Int32)), .unset, .unset, .unset] at_195 rfl ?_
    refine Wl.iload 199 at_197 rfl ?_
    refine Wl.iload 201 at_199 rfl ?_
    refine Wl.icmpN 204 at_201 (teq (by decide)).2 ?_
    refine Wl.iload 206 at_204 rfl ?_
    refine Wl.istore 208 #[.val (.int i0), .val (.int i1), .val (.int i2), .val (.int i3), .val (.int i4), .val (.int (1 : Int32)), .val (.ref a1), .val (.ref a44), .val (.ref a51), .val (.int (0 : Int32)), .val (.int (0 : Int32)), .val (.int (0 : Int32)), .val (.int (0 : Int32)), .val (.int (1 : Int32)), .val (.int (1 : Int32)), .unset, .unset] at_206 rfl ?_
    refine Wl.goto 247 at_208 ?_
    refine Wl.iload 249 at_247 rfl ?_
    refine Wl.iload 251 at_249 rfl ?_
    refine Wl.isub 252 at_251 ?_
    show WlO _ _ _ _ _ _ _ _ _ _ _ _ _ _ _ _ _ _ [.int (0 : Int32)]
    refine Wl.istore 254 #[.val (.int i0), .val (.int i1), .val (.int i2), .val (.int i3), .val (.int i4), .val (.int (1 : Int32)), .val (.ref a1), .val (.ref a44), .val (.ref a51), .val (.int (0 : Int32)), .val (.int (0 : Int32)), .val (.int (0 : Int32)), .val (.int (0 : Int32)), .val (.int (1 : Int32)), .val (.int (1 : Int32)), .val (.int (0 : Int32)), .unset] at_252 rfl ?_
    refine Wl.aload 256 at_254 rfl rfl ?_
    have S66 := S53
    rw [show trimL [c0] = [] by simp [trimL, isp, List.dropWhile, c58]] at S66
    refine Wl.virtual 259 (argsL := []) at_256 (w59 hw) (w35 hw) (w37 hw) (w36 hw) (w11 hw) (w38 hw) (nf_sel (w37 hw) rfl) (S53).exa (show parseMethodDescriptor "()I" = some ⟨[], some .int⟩ by decide +kernel) rfl (len_met hw hcs S66) (fun _ q => nomatch q) rfl rfl rfl (by decide) ⟨⟨nle rfl, nle rfl⟩, nle rfl, nle rfl⟩ ?_
    intro v67 h68 hq69 _
    obtain ⟨rfl, rfl⟩ := hq69
    show WlO _ _ _ _ _ _ _ _ _ _ _ _ _ _ _ _ _ _ [.int (0 : Int32)]
    refine Wl.iload 261 at_259 rfl ?_
    refine Wl.icmpN 264 at_261 (teq (by decide)).2 ?_
    refine Wl.iconst 265 (1 : Int32) at_264 (by decide) ?_
    refine Wl.goto 269 at_265 ?_
    refine Wl.istore 271 #[.val (.int i0), .val (.int i1), .val (.int i2), .val (.int i3), .val (.int i4), .val (.int (1 : Int32)), .val (.ref a1), .val (.ref a44), .val (.ref a51), .val (.int (0 : Int32)), .val (.int (0 : Int32)), .val (.int (0 : Int32)), .val (.int (0 : Int32)), .val (.int (1 : Int32)), .val (.int (1 : Int32)), .val (.int (0 : Int32)), .val (.int (1 : Int32))] at_269 rfl ?_
    refine Wl.iload 273 at_271 rfl ?_
    refine Wl.ifN 276 at_273 (feq (by decide)).1 ?_
    refine Wl.iload 278 at_276 rfl ?_
    refine Wl.ifY 302 at_278 (flt (by decide)).2.2.2 ?_
    refine Wl.iload 304 at_302 rfl ?_
    refine Wl.ifN 307 at_304 (feq (by decide)).1 ?_
    refine Wl.iload 309 at_307 rfl ?_
    refine Wl.iconst 310 (1 : Int32) at_309 (by decide) ?_
    refine Wl.icmpY 336 at_310 (flt (by decide)).2.2.2 ?_
    refine Wl.iload 338 at_336 rfl ?_
    refine Wl.ifN 341 at_338 (feq (by decide)).1 ?_
    refine Wl.iload 343 at_341 rfl ?_
    refine Wl.iconst 344 (2 : Int32) at_343 (by decide) ?_
    refine Wl.icmpY 370 at_344 (flt (by decide)).2.2.2 ?_
    refine Wl.iload 372 at_370 rfl ?_
    refine Wl.ifN 375 at_372 (feq (by decide)).1 ?_
    refine Wl.iload 377 at_375 rfl ?_
    refine Wl.iconst 378 (3 : Int32) at_377 (by decide) ?_
    refine Wl.icmpY 404 at_378 (flt (by decide)).2.2.2 ?_
    refine Wl.iload 406 at_404 rfl ?_
    exact Wl.ireturn at_406 rfl rfl (by simp) (nle rfl) (nle rfl) rfl
set_option maxRecDepth 65536 in
set_option maxHeartbeats 40000000 in
theorem law_t2 {l : Launch} {Z : State} {a0 : Array Value} (hw : ∀ d ∈ tables_1, d.before a0 Z = true) (hcs : CSon Z) (hfm : Fmt Z) {as : Array Value} {h : Heap} {i0 i1 i2 i3 i4 : Int32}  :
    Wl l Z a0 consts_1 x code maxLocals ret room_1 as (fun v h' => v = some (.int 1)) [] h 0 0 9 #[.val (.int i0), .val (.int i1), .val (.int i2), .val (.int i3), .val (.int i4), .val (.int (2 : Int32)), .unset, .unset, .unset, .unset, .unset, .unset, .unset, .unset, .unset, .unset, .unset] [] := by
  refine Wl.iconst 10 (4 : Int32) at_9 (by decide) ?_
  refine Wl.newarray 12 4 at_10 (w1 hw) (by decide) (by decide) (by decide) (nle rfl) (nle rfl) ?_
  intro a1 h2 k3 q4 E5 A6
  have A6 : Arv Z h2 a1 k3 .char (4 : Int32) [.int 0, .int 0, .int 0, .int 0] (.int 0) := A6
  have z7 : h.size ≤ a1 := Nat.le_of_eq q4.symm
  have B8 : Ext h h2 := E5
  refine Wl.dup 13 at_12 rfl ?_
  refine Wl.iconst 14 (0 : Int32) at_13 (by decide) ?_
  refine Wl.iload_n 15 at_14 rfl ?_
  refine Wl.static 18 (argsL := [.int i0]) at_15 (w2 hw) (w3 hw) (w4 hw) (w5 hw) (show parseMethodDescriptor "(I)C" = some ⟨[.int], some .char⟩ by decide +kernel) rfl (pick_met hw) (fun _ q => nomatch q) rfl rfl rfl (by decide) ⟨⟨nle rfl, nle rfl⟩, nle rfl, nle rfl⟩ ?_
  intro v9 h10 hq11 _
  obtain ⟨rfl, rfl⟩ := hq11
  have lc0 := pick_lat i0
  generalize pickI i0 = c0 at lc0 ⊢
  show WlO _ _ _ _ _ _ _ _ _ _ _ _ _ _ _ _ _ _ [.int c0, .int (0 : Int32), .ref a1, .ref a1]
  refine Wl.castore 19 0 at_18 A6 (List.mem_of_getElem? (i := 0) rfl) (by decide) (by decide) (by decide) (nle rfl) ?_
  intro h13 W14 A15
  rw [nar_ch (lc0).ch] at A15
  have A15 : Arv Z h13 a1 k3 .char (4 : Int32) [.int c0, .int (0 : Int32), .int (0 : Int32), .int (0 : Int32)] (.int 0) := A15
  have B16 : Ext h h13 := extWr B8 W14 z7
  refine Wl.dup 20 at_19 rfl ?_
  refine Wl.iconst 21 (1 : Int32) at_20 (by decide) ?_
  refine Wl.iload_n 22 at_21 rfl ?_
  refine Wl.static 25 (argsL := [.int i1]) at_22 (w2 hw) (w3 hw) (w4 hw) (w5 hw) (show parseMethodDescriptor "(I)C" = some ⟨[.int], some .char⟩ by decide +kernel) rfl (pick_met hw) (fun _ q => nomatch q) rfl rfl rfl (by decide) ⟨⟨nle rfl, nle rfl⟩, nle rfl, nle rfl⟩ ?_
  intro v17 h18 hq19 _
  obtain ⟨rfl, rfl⟩ := hq19
  have lc1 := pick_lat i1
  generalize pickI i1 = c1 at lc1 ⊢
  show WlO _ _ _ _ _ _ _ _ _ _ _ _ _ _ _ _ _ _ [.int c1, .int (1 : Int32), .ref a1, .ref a1]
  refine Wl.castore 26 1 at_25 A15 (List.mem_of_getElem? (i := 0) rfl) (by decide) (by decide) (by decide) (nle rfl) ?_
  intro h21 W22 A23
  rw [nar_ch (lc1).ch] at A23
  have A23 : Arv Z h21 a1 k3 .char (4 : Int32) [.int c0, .int c1, .int (0 : Int32), .int (0 : Int32)] (.int 0) := A23
  have B24 : Ext h h21 := extWr B16 W22 z7
  refine Wl.dup 27 at_26 rfl ?_
  refine Wl.iconst 28 (2 : Int32) at_27 (by decide) ?_
  refine Wl.iload_n 29 at_28 rfl ?_
  refine Wl.static 32 (argsL := [.int i2]) at_29 (w2 hw) (w3 hw) (w4 hw) (w5 hw) (show parseMethodDescriptor "(I)C" = some ⟨[.int], some .char⟩ by decide +kernel) rfl (pick_met hw) (fun _ q => nomatch q) rfl rfl rfl (by decide) ⟨⟨nle rfl, nle rfl⟩, nle rfl, nle rfl⟩ ?_
  intro v25 h26 hq27 _
  obtain ⟨rfl, rfl⟩ := hq27
  have lc2 := pick_lat i2
  generalize pickI i2 = c2 at lc2 ⊢
  show WlO _ _ _ _ _ _ _ _ _ _ _ _ _ _ _ _ _ _ [.int c2, .int (2 : Int32), .ref a1, .ref a1]
  refine Wl.castore 33 2 at_32 A23 (List.mem_of_getElem? (i := 0) rfl) (by decide) (by decide) (by decide) (nle rfl) ?_
  intro h29 W30 A31
  rw [nar_ch (lc2).ch] at A31
  have A31 : Arv Z h29 a1 k3 .char (4 : Int32) [.int c0, .int c1, .int c2, .int (0 : Int32)] (.int 0) := A31
  have B32 : Ext h h29 := extWr B24 W30 z7
  refine Wl.dup 34 at_33 rfl ?_
  refine Wl.iconst 35 (3 : Int32) at_34 (by decide) ?_
  refine Wl.iload_n 36 at_35 rfl ?_
  refine Wl.static 39 (argsL := [.int i3]) at_36 (w2 hw) (w3 hw) (w4 hw) (w5 hw) (show parseMethodDescriptor "(I)C" = some ⟨[.int], some .char⟩ by decide +kernel) rfl (pick_met hw) (fun _ q => nomatch q) rfl rfl rfl (by decide) ⟨⟨nle rfl, nle rfl⟩, nle rfl, nle rfl⟩ ?_
  intro v33 h34 hq35 _
  obtain ⟨rfl, rfl⟩ := hq35
  have lc3 := pick_lat i3
  generalize pickI i3 = c3 at lc3 ⊢
  show WlO _ _ _ _ _ _ _ _ _ _ _ _ _ _ _ _ _ _ [.int c3, .int (3 : Int32), .ref a1, .ref a1]
  refine Wl.castore 40 3 at_39 A31 (List.mem_of_getElem? (i := 0) rfl) (by decide) (by decide) (by decide) (nle rfl) ?_
  intro h37 W38 A39
  rw [nar_ch (lc3).ch] at A39
  have A39 : Arv Z h37 a1 k3 .char (4 : Int32) [.int c0, .int c1, .int c2, .int c3] (.int 0) := A39
  have B40 : Ext h h37 := extWr B32 W38 z7
  refine Wl.astore 42 #[.val (.int i0), .val (.int i1), .val (.int i2), .val (.int i3), .val (.int i4), .val (.int (2 : Int32)), .val (.ref a1), .unset, .unset, .unset, .unset, .unset, .unset, .unset, .unset, .unset, .unset] at_40 rfl rfl ?_
  refine Wl.iload 44 at_42 rfl ?_
  refine Wl.aload 46 at_44 rfl rfl ?_
  refine Wl.static 49 (argsL := [.int (2 : Int32), .ref a1]) at_46 (w6 hw) (w7 hw) (w4 hw) (w8 hw) (show parseMethodDescriptor "(I[C)Ljava/lang/String;" = some ⟨[.int, (.array .char)], some (.object "java/lang/String")⟩ by decide +kernel) rfl (make2_met hw hcs A39 lc0 lc1 lc2 lc3) (fun _ q => nomatch q) rfl rfl rfl (by decide) ⟨⟨nle rfl, nle rfl⟩, nle rfl, nle rfl⟩ ?_
  intro v41 h42 hq43 _
  obtain ⟨a44, rfl, E45, S46⟩ := hq43
  have B47 : Ext h h42 := extTr B40 E45
  show WlO _ _ _ _ _ _ _ _ _ _ _ _ _ _ _ _ _ _ [.ref a44]
  refine Wl.astore 51 #[.val (.int i0), .val (.int i1), .val (.int i2), .val (.int i3), .val (.int i4), .val (.int (2 : Int32)), .val (.ref a1), .val (.ref a44), .unset, .unset, .unset, .unset, .unset, .unset, .unset, .unset, .unset] at_49 rfl rfl ?_
  refine Wl.aload 53 at_51 rfl rfl ?_
  refine Wl.static 56 (argsL := [.ref a44]) at_53 (w30 hw) (w31 hw) (w32 hw) (w33 hw) (show parseMethodDescriptor "(Ljava/lang/String;)Ljava/lang/String;" = some ⟨[(.object "java/lang/String")], some (.object "java/lang/String")⟩ by decide +kernel) rfl (trim2_met hw hcs hfm (c0 := c0) (c1 := c1) (c2 := c2) (c3 := c3) S46) (fun _ q => nomatch q) rfl rfl rfl (by decide) ⟨⟨nle rfl, nle rfl⟩, nle rfl, nle rfl⟩ ?_
  intro v48 h49 hq50 _
  obtain ⟨a51, rfl, E52, S53⟩ := hq50
  have B54 : Ext h h49 := extTr B47 E52
  show WlO _ _ _ _ _ _ _ _ _ _ _ _ _ _ _ _ _ _ [.ref a51]
  refine Wl.astore 58 #[.val (.int i0), .val (.int i1), .val (.int i2), .val (.int i3), .val (.int i4), .val (.int (2 : Int32)), .val (.ref a1), .val (.ref a44), .val (.ref a51), .unset, .unset, .unset, .unset, .unset, .unset, .unset, .unset] at_56 rfl rfl ?_
  refine Wl.iload 60 at_58 rfl ?_
  refine Wl.ifN 63 at_60 (tlt (by decide)).2.2.2 ?_
  refine Wl.aload 65 at_63 rfl rfl ?_
  refine Wl.iconst 66 (0 : Int32) at_65 (by decide) ?_
  refine Wl.caload 67 0 at_66 ((A39.ext E45).ext E52) (by decide) (by decide) (by decide) rfl ?_
  refine Wl.static 70 (argsL := [.int c0]) at_67 (w118 hw) (w119 hw) (w4 hw) (w120 hw) (show parseMethodDescriptor "(C)Z" = some ⟨[.char], some .boolean⟩ by decide +kernel) rfl (sp_met hw) (fun _ q => nomatch q) rfl rfl rfl (by decide) ⟨⟨nle rfl, nle rfl⟩, nle rfl, nle rfl⟩ ?_
  intro v55 h56 hq57 _
  obtain ⟨rfl, rfl⟩ := hq57
  show WlO _ _ _ _ _ _ _ _ _ _ _ _ _ _ _ _ _ _ [.int (spI c0)]
  by_cases c58 : (spI c0) = (0 : Int32)
  · refine Wl.ifN 73 at_70 (teq c58).2 ?_
    refine Wl.iconst 74 (1 : Int32) at_73 (by decide) ?_
    refine Wl.goto 78 at_74 ?_
    refine Wl.istore 80 #[.val (.int i0), .val (.int i1), .val (.int i2), .val (.int i3), .val (.int i4), .val (.int (2 : Int32)), .val (.ref a1), .val (.ref a44), .val (.ref a51), .val (.int (1 : Int32)), .unset, .unset, .unset, .unset, .unset, .unset, .unset] at_78 rfl ?_
    refine Wl.iload 82 at_80 rfl ?_
    refine Wl.iconst 83 (1 : Int32) at_82 (by decide) ?_
    refine Wl.icmpN 86 at_83 (tlt (by decide)).2.2.2 ?_
    refine Wl.aload 88 at_86 rfl rfl ?_
    refine Wl.iconst 89 (1 : Int32) at_88 (by decide) ?_
    refine Wl.caload 90 1 at_89 ((A39.ext E45).ext E52) (by decide) (by decide) (by decide) rfl ?_
    refine Wl.static 93 (argsL := [.int c1]) at_90 (w118 hw) (w119 hw) (w4 hw) (w120 hw) (show parseMethodDescriptor "(C)Z" = some ⟨[.char], some .boolean⟩ by decide +kernel) rfl (sp_met hw) (fun _ q => nomatch q) rfl rfl rfl (by decide) ⟨⟨nle rfl, nle rfl⟩, nle rfl, nle rfl⟩ ?_
    intro v59 h60 hq61 _
    obtain ⟨rfl, rfl⟩ := hq61
    show WlO _ _ _ _ _ _ _ _ _ _ _ _ _ _ _ _ _ _ [.int (spI c1)]
    by_cases c62 : (spI c1) = (0 : Int32)
    · refine Wl.ifN 96 at_93 (teq c62).2 ?_
      refine Wl.iconst 97 (1 : Int32) at_96 (by decide) ?_
      refine Wl.goto 101 at_97 ?_
      refine Wl.istore 103 #[.val (.int i0), .val (.int i1), .val (.int i2), .val (.int i3), .val (.int i4), .val (.int (2 : Int32)), .val (.ref a1), .val (.ref a44), .val (.ref a51), .val (.int (1 : Int32)), .val (.int (1 : Int32)), .unset, .unset, .unset, .unset, .unset, .unset] at_101 rfl ?_
      refine Wl.iload 105 at_103 rfl ?_
      refine Wl.iconst 106 (2 : Int32) at_105 (by decide) ?_
      refine Wl.icmpY 123 at_106 (flt (by decide)).2.2.2 ?_
      refine Wl.iconst 124 (0 : Int32) at_123 (by decide) ?_
      refine Wl.istore 126 #[.val (.int i0), .val (.int i1), .val (.int i2), .val (.int i3), .val (.int i4), .val (.int (2 : Int32)), .val (.ref a1), .val (.ref a44), .val (.ref a51), .val (.int (1 : Int32)), .val (.int (1 : Int32)), .val (.int (0 : Int32)), .unset, .unset, .unset, .unset, .unset] at_124 rfl ?_
      refine Wl.iload 128 at_126 rfl ?_
      refine Wl.iconst 129 (3 : Int32) at_128 (by decide) ?_
      refine Wl.icmpY 146 at_129 (flt (by decide)).2.2.2 ?_
      refine Wl.iconst 147 (0 : Int32) at_146 (by decide) ?_
      refine Wl.istore 149 #[.val (.int i0), .val (.int i1), .val (.int i2), .val (.int i3), .val (.int i4), .val (.int (2 : Int32)), .val (.ref a1), .val (.ref a44), .val (.ref a51), .val (.int (1 : Int32)), .val (.int (1 : Int32)), .val (.int (0 : Int32)), .val (.int (0 : Int32)), .unset, .unset, .unset, .unset] at_147 rfl ?_
      refine Wl.iload 151 at_149 rfl ?_
      refine Wl.ifN 154 at_151 (feq (by decide)).1 ?_
      refine Wl.iconst 155 (0 : Int32) at_154 (by decide) ?_
      refine Wl.istore 157 #[.val (.int i0), .val (.int i1), .val (.int i2), .val (.int i3), .val (.int i4), .val (.int (2 : Int32)), .val (.ref a1), .val (.ref a44), .val (.ref a51), .val (.int (1 : Int32)), .val (.int (1 : Int32)), .val (.int (0 : Int32)), .val (.int (0 : Int32)), .val (.int (0 : Int32)), .unset, .unset, .unset] at_155 rfl ?_
      refine Wl.goto 197 at_157 ?_
      refine Wl.iload 199 at_197 rfl ?_
      refine Wl.iload 201 at_199 rfl ?_
      refine Wl.icmpY 211 at_201 (feq (by decide)).2 ?_
      refine Wl.iload 213 at_211 rfl ?_
      refine Wl.ifY 222 at_213 (teq (by decide)).1 ?_
      refine Wl.iload 224 at_222 rfl ?_
      refine Wl.ifY 233 at_224 (teq (by decide)).1 ?_
      refine Wl.iload 235 at_233 rfl ?_
      refine Wl.ifN 238 at_235 (feq (by decide)).1 ?_
      refine Wl.iconst 239 (2 : Int32) at_238 (by decide) ?_
      refine Wl.istore 241 #[.val (.int i0), .val (.int i1), .val (.int i2), .val (.int i3), .val (.int i4), .val (.int (2 : Int32)), .val (.ref a1), .val (.ref a44), .val (.ref a51), .val (.int (1 : Int32)), .val (.int (1 : Int32)), .val (.int (0 : Int32)), .val (.int (0 : Int32)), .val (.int (0 : Int32)), .val (.int (2 : Int32)), .unset, .unset] at_239 rfl ?_
      refine Wl.goto 247 at_241 ?_
      refine Wl.iload 249 at_247 rfl ?_
      refine Wl.iload 251 at_249 rfl ?_
      refine Wl.isub 252 at_251 ?_
      show WlO _ _ _ _ _ _ _ _ _ _ _ _ _ _ _ _ _ _ [.int (2 : Int32)]
      refine Wl.istore 254 #[.val (.int i0), .val (.int i1), .val (.int i2), .val (.int i3), .val (.int i4), .val (.int (2 : Int32)), .val (.ref a1), .val (.ref a44), .val (.ref a51), .val (.int (1 : Int32)), .val (.int (1 : Int32)), .val (.int (0 : Int32)), .val (.int (0 : Int32)), .val (.int (0 : Int32)), .val (.int (2 : Int32)), .val (.int (2 : Int32)), .unset] at_252 rfl ?_
      refine Wl.aload 256 at_254 rfl rfl ?_
      have S63 := S53
      rw [show trimL [c0, c1] = [c0, c1] by simp [trimL, isp, List.dropWhile, c58, c62]] at S63
      refine Wl.virtual 259 (argsL := []) at_256 (w59 hw) (w35 hw) (w37 hw) (w36 hw) (w11 hw) (w38 hw) (nf_sel (w37 hw) rfl) (S53).exa (show parseMethodDescriptor "()I" = some ⟨[], some .int⟩ by decide +kernel) rfl (len_met hw hcs S63) (fun _ q => nomatch q) rfl rfl rfl (by decide) ⟨⟨nle rfl, nle rfl⟩, nle rfl, nle rfl⟩ ?_
      intro v64 h65 hq66 _
      obtain ⟨rfl, rfl⟩ := hq66
      show WlO _ _ _ _ _ _ _ _ _ _ _ _ _ _ _ _ _ _ [.int (2 : Int32)]
      refine Wl.iload 261 at_259 rfl ?_
      refine Wl.icmpN 264 at_261 (teq (by decide)).2 ?_
      refine Wl.iconst 265 (1 : Int32) at_264 (by decide) ?_
      refine Wl.goto 269 at_265 ?_
      refine Wl.istore 271 #[.val (.int i0), .val (.int i1), .val (.int i2), .val (.int i3), .val (.int i4), .val (.int (2 : Int32)), .val (.ref a1), .val (.ref a44), .val (.ref a51), .val (.int (1 : Int32)), .val (.int (1 : Int32)), .val (.int (0 : Int32)), .val (.int (0 : Int32)), .val (.int (0 : Int32)), .val (.int (2 : Int32)), .val (.int (2 : Int32)), .val (.int (1 : Int32))] at_269 rfl ?_
      refine Wl.iload 273 at_271 rfl ?_
      refine Wl.ifN 276 at_273 (feq (by decide)).1 ?_
      refine Wl.iload 278 at_276 rfl ?_
      refine Wl.ifN 281 at_278 (tlt (by decide)).2.2.2 ?_
      refine Wl.aload 283 at_281 rfl rfl ?_
      refine Wl.iconst 284 (0 : Int32) at_283 (by decide) ?_
      refine Wl.virtual 287 (argsL := [.int (0 : Int32)]) at_284 (w121 hw) (w71 hw) (w73 hw) (w72 hw) (w11 hw) (w74 hw) (nf_sel (w73 hw) rfl) (S53).exa (show parseMethodDescriptor "(I)C" = some ⟨[.int], some .char⟩ by decide +kernel) rfl (charAt_met hw hcs hfm S63 (i := 0) (nle rfl)) (fun _ q => nomatch q) rfl rfl rfl (by decide) ⟨⟨nle rfl, nle rfl⟩, nle rfl, nle rfl⟩ ?_
      intro v67 h68 hq69 _
      obtain ⟨rfl, rfl⟩ := hq69
      show WlO _ _ _ _ _ _ _ _ _ _ _ _ _ _ _ _ _ _ [.int c0]
      refine Wl.aload 289 at_287 rfl rfl ?_
      refine Wl.iload 291 at_289 rfl ?_
      refine Wl.caload 292 0 at_291 ((A39.ext E45).ext E52) (by decide) (by decide) (by decide) rfl ?_
      refine Wl.icmpN 295 at_292 (teq rfl).2 ?_
      refine Wl.iconst 296 (1 : Int32) at_295 (by decide) ?_
      refine Wl.goto 300 at_296 ?_
      refine Wl.istore 302 #[.val (.int i0), .val (.int i1), .val (.int i2), .val (.int i3), .val (.int i4), .val (.int (2 : Int32)), .val (.ref a1), .val (.ref a44), .val (.ref a51), .val (.int (1 : Int32)), .val (.int (1 : Int32)), .val (.int (0 : Int32)), .val (.int (0 : Int32)), .val (.int (0 : Int32)), .val (.int (2 : Int32)), .val (.int (2 : Int32)), .val (.int (1 : Int32))] at_300 rfl ?_
      refine Wl.iload 304 at_302 rfl ?_
      refine Wl.ifN 307 at_304 (feq (by decide)).1 ?_
      refine Wl.iload 309 at_307 rfl ?_
      refine Wl.iconst 310 (1 : Int32) at_309 (by decide) ?_
      refine Wl.icmpN 313 at_310 (tlt (by decide)).2.2.2 ?_
      refine Wl.aload 315 at_313 rfl rfl ?_
      refine Wl.iconst 316 (1 : Int32) at_315 (by decide) ?_
      refine Wl.virtual 319 (argsL := [.int (1 : Int32)]) at_316 (w121 hw) (w71 hw) (w73 hw) (w72 hw) (w11 hw) (w74 hw) (nf_sel (w73 hw) rfl) (S53).exa (show parseMethodDescriptor "(I)C" = some ⟨[.int], some .char⟩ by decide +kernel) rfl (charAt_met hw hcs hfm S63 (i := 1) (nle rfl)) (fun _ q => nomatch q) rfl rfl rfl (by decide) ⟨⟨nle rfl, nle rfl⟩, nle rfl, nle rfl⟩ ?_
      intro v70 h71 hq72 _
      obtain ⟨rfl, rfl⟩ := hq72
      show WlO _ _ _ _ _ _ _ _ _ _ _ _ _ _ _ _ _ _ [.int c1]
      refine Wl.aload 321 at_319 rfl rfl ?_
      refine Wl.iload 323 at_321 rfl ?_
      refine Wl.iconst 324 (1 : Int32) at_323 (by decide) ?_
      refine Wl.iadd 325 at_324 ?_
      show WlO _ _ _ _ _ _ _ _ _ _ _ _ _ _ _ _ _ _ [.int (1 : Int32), .ref a1, .int c1]
      refine Wl.caload 326 1 at_325 ((A39.ext E45).ext E52) (by decide) (by decide) (by decide) rfl ?_
      refine Wl.icmpN 329 at_326 (teq rfl).2 ?_
      refine Wl.iconst 330 (1 : Int32) at_329 (by decide) ?_
      refine Wl.goto 334 at_330 ?_
      refine Wl.istore 336 #[.val (.int i0), .val (.int i1), .val (.int i2), .val (.int i3), .val (.int i4), .val (.int (2 : Int32)), .val (.ref a1), .val (.ref a44), .val (.ref a51), .val (.int (1 : Int32)), .val (.int (1 : Int32)), .val (.int (0 : Int32)), .val (.int (0 : Int32)), .val (.int (0 : Int32)), .val (.int (2 : Int32)), .val (.int (2 : Int32)), .val (.int (1 : Int32))] at_334 rfl ?_
      refine Wl.iload 338 at_336 rfl ?_
      refine Wl.ifN 341 at_338 (feq (by decide)).1 ?_
      refine Wl.iload 343 at_341 rfl ?_
      refine Wl.iconst 344 (2 : Int32) at_343 (by decide) ?_
      refine Wl.icmpY 370 at_344 (flt (by decide)).2.2.2 ?_
      refine Wl.iload 372 at_370 rfl ?_
      refine Wl.ifN 375 at_372 (feq (by decide)).1 ?_
      refine Wl.iload 377 at_375 rfl ?_
      refine Wl.iconst 378 (3 : Int32) at_377 (by decide) ?_
      refine Wl.icmpY 404 at_378 (flt (by decide)).2.2.2 ?_
      refine Wl.iload 406 at_404 rfl ?_
      exact Wl.ireturn at_406 rfl rfl (by simp) (nle rfl) (nle rfl) rfl
    · refine Wl.ifY 100 at_93 (feq c62).2 ?_
      refine Wl.iconst 101 (0 : Int32) at_100 (by decide) ?_
      refine Wl.istore 103 #[.val (.int i0), .val (.int i1), .val (.int i2), .val (.int i3), .val (.int i4), .val (.int (2 : Int32)), .val (.ref a1), .val (.ref a44), .val (.ref a51), .val (.int (1 : Int32)), .val (.int (0 : Int32)), .unset, .unset, .unset, .unset, .unset, .unset] at_101 rfl ?_
      refine Wl.iload 105 at_103 rfl ?_
      refine Wl.iconst 106 (2 : Int32) at_105 (by decide) ?_
      refine Wl.icmpY 123 at_106 (flt (by decide)).2.2.2 ?_
      refine Wl.iconst 124 (0 : Int32) at_123 (by decide) ?_
      refine Wl.istore 126 #[.val (.int i0), .val (.int i1), .val (.int i2), .val (.int i3), .val (.int i4), .val (.int (2 : Int32)), .val (.ref a1), .val (.ref a44), .val (.ref a51), .val (.int (1 : Int32)), .val (.int (0 : Int32)), .val (.int (0 : Int32)), .unset, .unset, .unset, .unset, .unset] at_124 rfl ?_
      refine Wl.iload 128 at_126 rfl ?_
      refine Wl.iconst 129 (3 : Int32) at_128 (by decide) ?_
      refine Wl.icmpY 146 at_129 (flt (by decide)).2.2.2 ?_
      refine Wl.iconst 147 (0 : Int32) at_146 (by decide) ?_
      refine Wl.istore 149 #[.val (.int i0), .val (.int i1), .val (.int i2), .val (.int i3), .val (.int i4), .val (.int (2 : Int32)), .val (.ref a1), .val (.ref a44), .val (.ref a51), .val (.int (1 : Int32)), .val (.int (0 : Int32)), .val (.int (0 : Int32)), .val (.int (0 : Int32)), .unset, .unset, .unset, .unset] at_147 rfl ?_
      refine Wl.iload 151 at_149 rfl ?_
      refine Wl.ifN 154 at_151 (feq (by decide)).1 ?_
      refine Wl.iconst 155 (0 : Int32) at_154 (by decide) ?_
      refine Wl.istore 157 #[.val (.int i0), .val (.int i1), .val (.int i2), .val (.int i3), .val (.int i4), .val (.int (2 : Int32)), .val (.ref a1), .val (.ref a44), .val (.ref a51), .val (.int (1 : Int32)), .val (.int (0 : Int32)), .val (.int (0 : Int32)), .val (.int (0 : Int32)), .val (.int (0 : Int32)), .unset, .unset, .unset] at_155 rfl ?_
      refine Wl.goto 197 at_157 ?_
      refine Wl.iload 199 at_197 rfl ?_
      refine Wl.iload 201 at_199 rfl ?_
      refine Wl.icmpY 211 at_201 (feq (by decide)).2 ?_
      refine Wl.iload 213 at_211 rfl ?_
      refine Wl.ifY 222 at_213 (teq (by decide)).1 ?_
      refine Wl.iload 224 at_222 rfl ?_
      refine Wl.ifY 233 at_224 (teq (by decide)).1 ?_
      refine Wl.iload 235 at_233 rfl ?_
      refine Wl.ifY 244 at_235 (teq (by decide)).1 ?_
      refine Wl.iconst 245 (1 : Int32) at_244 (by decide) ?_
      refine Wl.istore 247 #[.val (.int i0), .val (.int i1), .val (.int i2), .val (.int i3), .val (.int i4), .val (.int (2 : Int32)), .val (.ref a1), .val (.ref a44), .val (.ref a51), .val (.int (1 : Int32)), .val (.int (0 : Int32)), .val (.int (0 : Int32)), .val (.int (0 : Int32)), .val (.int (0 : Int32)), .val (.int (1 : Int32)), .unset, .unset] at_245 rfl ?_
      refine Wl.iload 249 at_247 rfl ?_
      refine Wl.iload 251 at_249 rfl ?_
      refine Wl.isub 252 at_251 ?_
      show WlO _ _ _ _ _ _ _ _ _ _ _ _ _ _ _ _ _ _ [.int (1 : Int32)]
      refine Wl.istore 254 #[.val (.int i0), .val (.int i1), .val (.int i2), .val (.int i3), .val (.int i4), .val (.int (2 : Int32)), .val (.ref a1), .val (.ref a44), .val (.ref a51), .val (.int (1 : Int32)), .val (.int (0 : Int32)), .val (.int (0 : Int32)), .val (.int (0 : Int32)), .val (.int (0 : Int32)), .val (.int (1 : Int32)), .val (.int (1 : Int32)), .unset] at_252 rfl ?_
      refine Wl.aload 256 at_254 rfl rfl ?_
      have S73 := S53
      rw [show trimL [c0, c1] = [c0] by simp [trimL, isp, List.dropWhile, c58, c62]] at S73
      refine Wl.virtual 259 (argsL := []) at_256 (w59 hw) (w35 hw) (w37 hw) (w36 hw) (w11 hw) (w38 hw) (nf_sel (w37 hw) rfl) (S53).exa (show parseMethodDescriptor "()I" = some ⟨[], some .int⟩ by decide +kernel) rfl (len_met hw hcs S73) (fun _ q => nomatch q) rfl rfl rfl (by decide) ⟨⟨nle rfl, nle rfl⟩, nle rfl, nle rfl⟩ ?_
      intro v74 h75 hq76 _
      obtain ⟨rfl, rfl⟩ := hq76
      show WlO _ _ _ _ _ _ _ _ _ _ _ _ _ _ _ _ _ _ [.int (1 : Int32)]
      refine Wl.iload 261 at_259 rfl ?_
      refine Wl.icmpN 264 at_261 (teq (by decide)).2 ?_
      refine Wl.iconst 265 (1 : Int32) at_264 (by decide) ?_
      refine Wl.goto 269 at_265 ?_
      refine Wl.istore 271 #[.val (.int i0), .val (.int i1), .val (.int i2), .val (.int i3), .val (.int i4), .val (.int (2 : Int32)), .val (.ref a1), .val (.ref a44), .val (.ref a51), .val (.int (1 : Int32)), .val (.int (0 : Int32)), .val (.int (0 : Int32)), .val (.int (0 : Int32)), .val (.int (0 : Int32)), .val (.int (1 : Int32)), .val (.int (1 : Int32)), .val (.int (1 : Int32))] at_269 rfl ?_
      refine Wl.iload 273 at_271 rfl ?_
      refine Wl.ifN 276 at_273 (feq (by decide)).1 ?_
      refine Wl.iload 278 at_276 rfl ?_
      refine Wl.ifN 281 at_278 (tlt (by decide)).2.2.2 ?_
      refine Wl.aload 283 at_281 rfl rfl ?_
      refine Wl.iconst 284 (0 : Int32) at_283 (by decide) ?_
      refine Wl.virtual 287 (argsL := [.int (0 : Int32)]) at_284 (w121 hw) (w71 hw) (w73 hw) (w72 hw) (w11 hw) (w74 hw) (nf_sel (w73 hw) rfl) (S53).exa (show parseMethodDescriptor "(I)C" = some ⟨[.int], some .char⟩ by decide +kernel) rfl (charAt_met hw hcs hfm S73 (i := 0) (nle rfl)) (fun _ q => nomatch q) rfl rfl rfl (by decide) ⟨⟨nle rfl, nle rfl⟩, nle rfl, nle rfl⟩ ?_
      intro v77 h78 hq79 _
      obtain ⟨rfl, rfl⟩ := hq79
      show WlO _ _ _ _ _ _ _ _ _ _ _ _ _ _ _ _ _ _ [.int c0]
      refine Wl.aload 289 at_287 rfl rfl ?_
      refine Wl.iload 291 at_289 rfl ?_
      refine Wl.caload 292 0 at_291 ((A39.ext E45).ext E52) (by decide) (by decide) (by decide) rfl ?_
      refine Wl.icmpN 295 at_292 (teq rfl).2 ?_
      refine Wl.iconst 296 (1 : Int32) at_295 (by decide) ?_
      refine Wl.goto 300 at_296 ?_
      refine Wl.istore 302 #[.val (.int i0), .val (.int i1), .val (.int i2), .val (.int i3), .val (.int i4), .val (.int (2 : Int32)), .val (.ref a1), .val (.ref a44), .val (.ref a51), .val (.int (1 : Int32)), .val (.int (0 : Int32)), .val (.int (0 : Int32)), .val (.int (0 : Int32)), .val (.int (0 : Int32)), .val (.int (1 : Int32)), .val (.int (1 : Int32)), .val (.int (1 : Int32))] at_300 rfl ?_
      refine Wl.iload 304 at_302 rfl ?_
      refine Wl.ifN 307 at_304 (feq (by decide)).1 ?_
      refine Wl.iload 309 at_307 rfl ?_
      refine Wl.iconst 310 (1 : Int32) at_309 (by decide) ?_
      refine Wl.icmpY 336 at_310 (flt (by decide)).2.2.2 ?_
      refine Wl.iload 338 at_336 rfl ?_
      refine Wl.ifN 341 at_338 (feq (by decide)).1 ?_
      refine Wl.iload 343 at_341 rfl ?_
      refine Wl.iconst 344 (2 : Int32) at_343 (by decide) ?_
      refine Wl.icmpY 370 at_344 (flt (by decide)).2.2.2 ?_
      refine Wl.iload 372 at_370 rfl ?_
      refine Wl.ifN 375 at_372 (feq (by decide)).1 ?_
      refine Wl.iload 377 at_375 rfl ?_
      refine Wl.iconst 378 (3 : Int32) at_377 (by decide) ?_
      refine Wl.icmpY 404 at_378 (flt (by decide)).2.2.2 ?_
      refine Wl.iload 406 at_404 rfl ?_
      exact Wl.ireturn at_406 rfl rfl (by simp) (nle rfl) (nle rfl) rfl
  · refine Wl.ifY 77 at_70 (feq c58).2 ?_
    refine Wl.iconst 78 (0 : Int32) at_77 (by decide) ?_
    refine Wl.istore 80 #[.val (.int i0), .val (.int i1), .val (.int i2), .val (.int i3), .val (.int i4), .val (.int (2 : Int32)), .val (.ref a1), .val (.ref a44), .val (.ref a51), .val (.int (0 : Int32)), .unset, .unset, .unset, .unset, .unset, .unset, .unset] at_78 rfl ?_
    refine Wl.iload 82 at_80 rfl ?_
    refine Wl.iconst 83 (1 : Int32) at_82 (by decide) ?_
    refine Wl.icmpN 86 at_83 (tlt (by decide)).2.2.2 ?_
    refine Wl.aload 88 at_86 rfl rfl ?_
    refine Wl.iconst 89 (1 : Int32) at_88 (by decide) ?_
    refine Wl.caload 90 1 at_89 ((A39.ext E45).ext E52) (by decide) (by decide) (by decide) rfl ?_
    refine Wl.static 93 (argsL := [.int c1]) at_90 (w118 hw) (w119 hw) (w4 hw) (w120 hw) (show parseMethodDescriptor "(C)Z" = some ⟨[.char], some .boolean⟩ by decide +kernel) rfl (sp_met hw) (fun _ q => nomatch q) rfl rfl rfl (by decide) ⟨⟨nle rfl, nle rfl⟩, nle rfl, nle rfl⟩ ?_
    intro v80 h81 hq82 _
    obtain ⟨rfl, rfl⟩ := hq82
    show WlO _ _ _ _ _ _ _ _ _ _ _ _ _ _ _ _ _ _ [.int (spI c1)]
    by_cases c83 : (spI c1) = (0 : Int32)
    · refine Wl.ifN 96 at_93 (teq c83).2 ?_
      refine Wl.iconst 97 (1 : Int32) at_96 (by decide) ?_
      refine Wl.goto 101 at_97 ?_
      refine Wl.istore 103 #[.val (.int i0), .val (.int i1), .val (.int i2), .val (.int i3), .val (.int i4), .val (.int (2 : Int32)), .val (.ref a1), .val (.ref a44), .val (.ref a51), .val (.int (0 : Int32)), .val (.int (1 : Int32)), .unset, .unset, .unset, .unset, .unset, .unset] at_101 rfl ?_
      refine Wl.iload 105 at_103 rfl ?_
      refine Wl.iconst 106 (2 : Int32) at_105 (by decide) ?_
      refine Wl.icmpY 123 at_106 (flt (by decide)).2.2.2 ?_
      refine Wl.iconst 124 (0 : Int32) at_123 (by decide) ?_
      refine Wl.istore 126 #[.val (.int i0), .val (.int i1), .val (.int i2), .val (.int i3), .val (.int i4), .val (.int (2 : Int32)), .val (.ref a1), .val (.ref a44), .val (.ref a51), .val (.int (0 : Int32)), .val (.int (1 : Int32)), .val (.int (0 : Int32)), .unset, .unset, .unset, .unset, .unset] at_124 rfl ?_
      refine Wl.iload 128 at_126 rfl ?_
      refine Wl.iconst 129 (3 : Int32) at_128 (by decide) ?_
      refine Wl.icmpY 146 at_129 (flt (by decide)).2.2.2 ?_
      refine Wl.iconst 147 (0 : Int32) at_146 (by decide) ?_
      refine Wl.istore 149 #[.val (.int i0), .val (.int i1), .val (.int i2), .val (.int i3), .val (.int i4), .val (.int (2 : Int32)), .val (.ref a1), .val (.ref a44), .val (.ref a51), .val (.int (0 : Int32)), .val (.int (1 : Int32)), .val (.int (0 : Int32)), .val (.int (0 : Int32)), .unset, .unset, .unset, .unset] at_147 rfl ?_
      refine Wl.iload 151 at_149 rfl ?_
      refine Wl.ifY 160 at_151 (teq (by decide)).1 ?_
      refine Wl.iload 162 at_160 rfl ?_
      refine Wl.ifN 165 at_162 (feq (by decide)).1 ?_
      refine Wl.iconst 166 (1 : Int32) at_165 (by decide) ?_
      refine Wl.istore 168 #[.val (.int i0), .val (.int i1), .val (.int i2), .val (.int i3), .val (.int i4), .val (.int (2 : Int32)), .val (.ref a1), .val (.ref a44), .val (.ref a51), .val (.int (0 : Int32)), .val (.int (1 : Int32)), .val (.int (0 : Int32)), .val (.int (0 : Int32)), .val (.int (1 : Int32)), .unset, .unset, .unset] at_166 rfl ?_
      refine Wl.goto 197 at_168 ?_
      refine Wl.iload 199 at_197 rfl ?_
      refine Wl.iload 201 at_199 rfl ?_
      refine Wl.icmpY 211 at_201 (feq (by decide)).2 ?_
      refine Wl.iload 213 at_211 rfl ?_
      refine Wl.ifY 222 at_213 (teq (by decide)).1 ?_
      refine Wl.iload 224 at_222 rfl ?_
      refine Wl.ifY 233 at_224 (teq (by decide)).1 ?_
      refine Wl.iload 235 at_233 rfl ?_
      refine Wl.ifN 238 at_235 (feq (by decide)).1 ?_
      refine Wl.iconst 239 (2 : Int32) at_238 (by decide) ?_
      refine Wl.istore 241 #[.val (.int i0), .val (.int i1), .val (.int i2), .val (.int i3), .val (.int i4), .val (.int (2 : Int32)), .val (.ref a1), .val (.ref a44), .val (.ref a51), .val (.int (0 : Int32)), .val (.int (1 : Int32)), .val (.int (0 : Int32)), .val (.int (0 : Int32)), .val (.int (1 : Int32)), .val (.int (2 : Int32)), .unset, .unset] at_239 rfl ?_
      refine Wl.goto 247 at_241 ?_
      refine Wl.iload 249 at_247 rfl ?_
      refine Wl.iload 251 at_249 rfl ?_
      refine Wl.isub 252 at_251 ?_
      show WlO _ _ _ _ _ _ _ _ _ _ _ _ _ _ _ _ _ _ [.int (1 : Int32)]
      refine Wl.istore 254 #[.val (.int i0), .val (.int i1), .val (.int i2), .val (.int i3), .val (.int i4), .val (.int (2 : Int32)), .val (.ref a1), .val (.ref a44), .val (.ref a51), .val (.int (0 : Int32)), .val (.int (1 : Int32)), .val (.int (0 : Int32)), .val (.int (0 : Int32)), .val (.int (1 : Int32)), .val (.int (2 : Int32)), .val (.int (1 : Int32)), .unset] at_252 rfl ?_
      refine Wl.aload 256 at_254 rfl rfl ?_
      have S84 := S53
      rw [show trimL [c0, c1] = [c1] by simp [trimL, isp, List.dropWhile, c58, c83]] at S84
      refine Wl.virtual 259 (argsL := []) at_256 (w59 hw) (w35 hw) (w37 hw) (w36 hw) (w11 hw) (w38 hw) (nf_sel (w37 hw) rfl) (S53).exa (show parseMethodDescriptor "()I" = some ⟨[], some .int⟩ by decide +kernel) rfl (len_met hw hcs S84) (fun _ q => nomatch q) rfl rfl rfl (by decide) ⟨⟨nle rfl, nle rfl⟩, nle rfl, nle rfl⟩ ?_
      intro v85 h86 hq87 _
      obtain ⟨rfl, rfl⟩ := hq87
      show WlO _ _ _ _ _ _ _ _ _ _ _ _ _ _ _ _ _ _ [.int (1 : Int32)]
      refine Wl.iload 261 at_259 rfl ?_
      refine Wl.icmpN 264 at_261 (teq (by decide)).2 ?_
      refine Wl.iconst 265 (1 : Int32) at_264 (by decide) ?_
      refine Wl.goto 269 at_265 ?_
      refine Wl.istore 271 #[.val (.int i0), .val (.int i1), .val (.int i2), .val (.int i3), .val (.int i4), .val (.int (2 : Int32)), .val (.ref a1), .val (.ref a44), .val (.ref a51), .val (.int (0 : Int32)), .val (.int (1 : Int32)), .val (.int (0 : Int32)), .val (.int (0 : Int32)), .val (.int (1 : Int32)), .val (.int (2 : Int32)), .val (.int (1 : Int32)), .val (.int (1 : Int32))] at_269 rfl ?_
      refine Wl.iload 273 at_271 rfl ?_
      refine Wl.ifN 276 at_273 (feq (by decide)).1 ?_
      refine Wl.iload 278 at_276 rfl ?_
      refine Wl.ifN 281 at_278 (tlt (by decide)).2.2.2 ?_
      refine Wl.aload 283 at_281 rfl rfl ?_
      refine Wl.iconst 284 (0 : Int32) at_283 (by decide) ?_
      refine Wl.virtual 287 (argsL := [.int (0 : Int32)]) at_284 (w121 hw) (w71 hw) (w73 hw) (w72 hw) (w11 hw) (w74 hw) (nf_sel (w73 hw) rfl) (S53).exa (show parseMethodDescriptor "(I)C" = some ⟨[.int], some .char⟩ by decide +kernel) rfl (charAt_met hw hcs hfm S84 (i := 0) (nle rfl)) (fun _ q => nomatch q) rfl rfl rfl (by decide) ⟨⟨nle rfl, nle rfl⟩, nle rfl, nle rfl⟩ ?_
      intro v88 h89 hq90 _
      obtain ⟨rfl, rfl⟩ := hq90
      show WlO _ _ _ _ _ _ _ _ _ _ _ _ _ _ _ _ _ _ [.int c1]
      refine Wl.aload 289 at_287 rfl rfl ?_
      refine Wl.iload 291 at_289 rfl ?_
      refine Wl.caload 292 1 at_291 ((A39.ext E45).ext E52) (by decide) (by decide) (by decide) rfl ?_
      refine Wl.icmpN 295 at_292 (teq rfl).2 ?_
      refine Wl.iconst 296 (1 : Int32) at_295 (by decide) ?_
      refine Wl.goto 300 at_296 ?_
      refine Wl.istore 302 #[.val (.int i0), .val (.int i1), .val (.int i2), .val (.int i3), .val (.int i4), .val (.int (2 : Int32)), .val (.ref a1), .val (.ref a44), .val (.ref a51), .val (.int (0 : Int32)), .val (.int (1 : Int32)), .val (.int (0 : Int32)), .val (.int (0 : Int32)), .val (.int (1 : Int32)), .val (.int (2 : Int32)), .val (.int (1 : Int32)), .val (.int (1 : Int32))] at_300 rfl ?_
      refine Wl.iload 304 at_302 rfl ?_
      refine Wl.ifN 307 at_304 (feq (by decide)).1 ?_
      refine Wl.iload 309 at_307 rfl ?_
      refine Wl.iconst 310 (1 : Int32) at_309 (by decide) ?_
      refine Wl.icmpY 336 at_310 (flt (by decide)).2.2.2 ?_
      refine Wl.iload 338 at_336 rfl ?_
      refine Wl.ifN 341 at_338 (feq (by decide)).1 ?_
      refine Wl.iload 343 at_341 rfl ?_
      refine Wl.iconst 344 (2 : Int32) at_343 (by decide) ?_
      refine Wl.icmpY 370 at_344 (flt (by decide)).2.2.2 ?_
      refine Wl.iload 372 at_370 rfl ?_
      refine Wl.ifN 375 at_372 (feq (by decide)).1 ?_
      refine Wl.iload 377 at_375 rfl ?_
      refine Wl.iconst 378 (3 : Int32) at_377 (by decide) ?_
      refine Wl.icmpY 404 at_378 (flt (by decide)).2.2.2 ?_
      refine Wl.iload 406 at_404 rfl ?_
      exact Wl.ireturn at_406 rfl rfl (by simp) (nle rfl) (nle rfl) rfl
    · refine Wl.ifY 100 at_93 (feq c83).2 ?_
      refine Wl.iconst 101 (0 : Int32) at_100 (by decide) ?_
      refine Wl.istore 103 #[.val (.int i0), .val (.int i1), .val (.int i2), .val (.int i3), .val (.int i4), .val (.int (2 : Int32)), .val (.ref a1), .val (.ref a44), .val (.ref a51), .val (.int (0 : Int32)), .val (.int (0 : Int32)), .unset, .unset, .unset, .unset, .unset, .unset] at_101 rfl ?_
      refine Wl.iload 105 at_103 rfl ?_
      refine Wl.iconst 106 (2 : Int32) at_105 (by decide) ?_
      refine Wl.icmpY 123 at_106 (flt (by decide)).2.2.2 ?_
      refine Wl.iconst 124 (0 : Int32) at_123 (by decide) ?_
      refine Wl.istore 126 #[.val (.int i0), .val (.int i1), .val (.int i2), .val (.int i3), .val (.int i4), .val (.int (2 : Int32)), .val (.ref a1), .val (.ref a44), .val (.ref a51), .val (.int (0 : Int32)), .val (.int (0 : Int32)), .val (.int (0 : Int32)), .unset, .unset, .unset, .unset, .unset] at_124 rfl ?_
      refine Wl.iload 128 at_126 rfl ?_
      refine Wl.iconst 129 (3 : Int32) at_128 (by decide) ?_
      refine Wl.icmpY 146 at_129 (flt (by decide)).2.2.2 ?_
      refine Wl.iconst 147 (0 : Int32) at_146 (by decide) ?_
      refine Wl.istore 149 #[.val (.int i0), .val (.int i1), .val (.int i2), .val (.int i3), .val (.int i4), .val (.int (2 : Int32)), .val (.ref a1), .val (.ref a44), .val (.ref a51), .val (.int (0 : Int32)), .val (.int (0 : Int32)), .val (.int (0 : Int32)), .val (.int (0 : Int32)), .unset, .unset, .unset, .unset] at_147 rfl ?_
      refine Wl.iload 151 at_149 rfl ?_
      refine Wl.ifY 160 at_151 (teq (by decide)).1 ?_
      refine Wl.iload 162 at_160 rfl ?_
      refine Wl.ifY 171 at_162 (teq (by decide)).1 ?_
      refine Wl.iload 173 at_171 rfl ?_
      refine Wl.ifY 182 at_173 (teq (by decide)).1 ?_
      refine Wl.iload 184 at_182 rfl ?_
      refine Wl.ifY 193 at_184 (teq (by decide)).1 ?_
      refine Wl.iload 195 at_193 rfl ?_
      refine Wl.istore 197 #[.val (.int i0), .val (.int i1), .val (.int i2), .val (.int i3), .val (.int i4), .val (.int (2 : Int32)), .val (.ref a1), .val (.ref a44), .val (.ref a51), .val (.int (0 : Int32)), .val (.int (0 : Int32)), .val (.int (0 : Int32)), .val (.int (0 : Int32)), .val (.int (2 : Int32)), .unset, .unset, .unset] at_195 rfl ?_
      refine Wl.iload 199 at_197 rfl ?_
      refine Wl.iload 201 at_199 rfl ?_
      refine Wl.icmpN 204 at_201 (teq (by decide)).2 ?_
      refine Wl.iload 206 at_204 rfl ?_
      refine Wl.istore 208 #[.val (.int i0), .val (.int i1), .val (.int i2), .val (.int i3), .val (.int i4), .val (.int (2 : Int32)), .val (.ref a1), .val (.ref a44), .val (.ref a51), .val (.int (0 : Int32)), .val (.int (0 : Int32)), .val (.int (0 : Int32)), .val (.int (0 : Int32)), .val (.int (2 : Int32)), .val (.int (2 : Int32)), .unset, .unset] at_206 rfl ?_
      refine Wl.goto 247 at_208 ?_
      refine Wl.iload 249 at_247 rfl ?_
      refine Wl.iload 251 at_249 rfl ?_
      refine Wl.isub 252 at_251 ?_
      show WlO _ _ _ _ _ _ _ _ _ _ _ _ _ _ _ _ _ _ [.int (0 : Int32)]
      refine Wl.istore 254 #[.val (.int i0), .val (.int i1), .val (.int i2), .val (.int i3), .val (.int i4), .val (.int (2 : Int32)), .val (.ref a1), .val (.ref a44), .val (.ref a51), .val (.int (0 : Int32)), .val (.int (0 : Int32)), .val (.int (0 : Int32)), .val (.int (0 : Int32)), .val (.int (2 : Int32)), .val (.int (2 : Int32)), .val (.int (0 : Int32)), .unset] at_252 rfl ?_
      refine Wl.aload 256 at_254 rfl rfl ?_
      have S91 := S53
      rw [show trimL [c0, c1] = [] by simp [trimL, isp, List.dropWhile, c58, c83]] at S91
      refine Wl.virtual 259 (argsL := []) at_256 (w59 hw) (w35 hw) (w37 hw) (w36 hw) (w11 hw) (w38 hw) (nf_sel (w37 hw) rfl) (S53).exa (show parseMethodDescriptor "()I" = some ⟨[], some .int⟩ by decide +kernel) rfl (len_met hw hcs S91) (fun _ q => nomatch q) rfl rfl rfl (by decide) ⟨⟨nle rfl, nle rfl⟩, nle rfl, nle rfl⟩ ?_
      intro v92 h93 hq94 _
      obtain ⟨rfl, rfl⟩ := hq94
      show WlO _ _ _ _ _ _ _ _ _ _ _ _ _ _ _ _ _ _ [.int (0 : Int32)]
      refine Wl.iload 261 at_259 rfl ?_
      refine Wl.icmpN 264 at_261 (teq (by decide)).2 ?_
      refine Wl.iconst 265 (1 : Int32) at_264 (by decide) ?_
      refine Wl.goto 269 at_265 ?_
      refine Wl.istore 271 #[.val (.int i0), .val (.int i1), .val (.int i2), .val (.int i3), .val (.int i4), .val (.int (2 : Int32)), .val (.ref a1), .val (.ref a44), .val (.ref a51), .val (.int (0 : Int32)), .val (.int (0 : Int32)), .val (.int (0 : Int32)), .val (.int (0 : Int32)), .val (.int (2 : Int32)), .val (.int (2 : Int32)), .val (.int (0 : Int32)), .val (.int (1 : Int32))] at_269 rfl ?_
      refine Wl.iload 273 at_271 rfl ?_
      refine Wl.ifN 276 at_273 (feq (by decide)).1 ?_
      refine Wl.iload 278 at_276 rfl ?_
      refine Wl.ifY 302 at_278 (flt (by decide)).2.2.2 ?_
      refine Wl.iload 304 at_302 rfl ?_
      refine Wl.ifN 307 at_304 (feq (by decide)).1 ?_
      refine Wl.iload 309 at_307 rfl ?_
      refine Wl.iconst 310 (1 : Int32) at_309 (by decide) ?_
      refine Wl.icmpY 336 at_310 (flt (by decide)).2.2.2 ?_
      refine Wl.iload 338 at_336 rfl ?_
      refine Wl.ifN 341 at_338 (feq (by decide)).1 ?_
      refine Wl.iload 343 at_341 rfl ?_
      refine Wl.iconst 344 (2 : Int32) at_343 (by decide) ?_
      refine Wl.icmpY 370 at_344 (flt (by decide)).2.2.2 ?_
      refine Wl.iload 372 at_370 rfl ?_
      refine Wl.ifN 375 at_372 (feq (by decide)).1 ?_
      refine Wl.iload 377 at_375 rfl ?_
      refine Wl.iconst 378 (3 : Int32) at_377 (by decide) ?_
      refine Wl.icmpY 404 at_378 (flt (by decide)).2.2.2 ?_
      refine Wl.iload 406 at_404 rfl ?_
      exact Wl.ireturn at_406 rfl rfl (by simp) (nle rfl) (nle rfl) rfl
set_option maxRecDepth 65536 in
set_option maxHeartbeats 40000000 in
theorem law_t3 {l : Launch} {Z : State} {a0 : Array Value} (hw : ∀ d ∈ tables_1, d.before a0 Z = true) (hcs : CSon Z) (hfm : Fmt Z) {as : Array Value} {h : Heap} {i0 i1 i2 i3 i4 : Int32}  :
    Wl l Z a0 consts_1 x code maxLocals ret room_1 as (fun v h' => v = some (.int 1)) [] h 0 0 9 #[.val (.int i0), .val (.int i1), .val (.int i2), .val (.int i3), .val (.int i4), .val (.int (3 : Int32)), .unset, .unset, .unset, .unset, .unset, .unset, .unset, .unset, .unset, .unset, .unset] [] := by
  refine Wl.iconst 10 (4 : Int32) at_9 (by decide) ?_
  refine Wl.newarray 12 4 at_10 (w1 hw) (by decide) (by decide) (by decide) (nle rfl) (nle rfl) ?_
  intro a1 h2 k3 q4 E5 A6
  have A6 : Arv Z h2 a1 k3 .char (4 : Int32) [.int 0, .int 0, .int 0, .int 0] (.int 0) := A6
  have z7 : h.size ≤ a1 := Nat.le_of_eq q4.symm
  have B8 : Ext h h2 := E5
  refine Wl.dup 13 at_12 rfl ?_
  refine Wl.iconst 14 (0 : Int32) at_13 (by decide) ?_
  refine Wl.iload_n 15 at_14 rfl ?_
  refine Wl.static 18 (argsL := [.int i0]) at_15 (w2 hw) (w3 hw) (w4 hw) (w5 hw) (show parseMethodDescriptor "(I)C" = some ⟨[.int], some .char⟩ by decide +kernel) rfl (pick_met hw) (fun _ q => nomatch q) rfl rfl rfl (by decide) ⟨⟨nle rfl, nle rfl⟩, nle rfl, nle rfl⟩ ?_
  intro v9 h10 hq11 _
  obtain ⟨rfl, rfl⟩ := hq11
  have lc0 := pick_lat i0
  generalize pickI i0 = c0 at lc0 ⊢
  show WlO _ _ _ _ _ _ _ _ _ _ _ _ _ _ _ _ _ _ [.int c0, .int (0 : Int32), .ref a1, .ref a1]
  refine Wl.castore 19 0 at_18 A6 (List.mem_of_getElem? (i := 0) rfl) (by decide) (by decide) (by decide) (nle rfl) ?_
  intro h13 W14 A15
  rw [nar_ch (lc0).ch] at A15
  have A15 : Arv Z h13 a1 k3 .char (4 : Int32) [.int c0, .int (0 : Int32), .int (0 : Int32), .int (0 : Int32)] (.int 0) := A15
  have B16 : Ext h h13 := extWr B8 W14 z7
  refine Wl.dup 20 at_19 rfl ?_
  refine Wl.iconst 21 (1 : Int32) at_20 (by decide) ?_
  refine Wl.iload_n 22 at_21 rfl ?_
  refine Wl.static 25 (argsL := [.int i1]) at_22 (w2 hw) (w3 hw) (w4 hw) (w5 hw) (show parseMethodDescriptor "(I)C" = some ⟨[.int], some .char⟩ by decide +kernel) rfl (pick_met hw) (fun _ q => nomatch q) rfl rfl rfl (by decide) ⟨⟨nle rfl, nle rfl⟩, nle rfl, nle rfl⟩ ?_
  intro v17 h18 hq19 _
  obtain ⟨rfl, rfl⟩ := hq19
  have lc1 := pick_lat i1
  generalize pickI i1 = c1 at lc1 ⊢
  show WlO _ _ _ _ _ _ _ _ _ _ _ _ _ _ _ _ _ _ [.int c1, .int (1 : Int32), .ref a1, .ref a1]
  refine Wl.castore 26 1 at_25 A15 (List.mem_of_getElem? (i := 0) rfl) (by decide) (by decide) (by decide) (nle rfl) ?_
  intro h21 W22 A23
  rw [nar_ch (lc1).ch] at A23
  have A23 : Arv Z h21 a1 k3 .char (4 : Int32) [.int c0, .int c1, .int (0 : Int32), .int (0 : Int32)] (.int 0) := A23
  have B24 : Ext h h21 := extWr B16 W22 z7
  refine Wl.dup 27 at_26 rfl ?_
  refine Wl.iconst 28 (2 : Int32) at_27 (by decide) ?_
  refine Wl.iload_n 29 at_28 rfl ?_
  refine Wl.static 32 (argsL := [.int i2]) at_29 (w2 hw) (w3 hw) (w4 hw) (w5 hw) (show parseMethodDescriptor "(I)C" = some ⟨[.int], some .char⟩ by decide +kernel) rfl (pick_met hw) (fun _ q => nomatch q) rfl rfl rfl (by decide) ⟨⟨nle rfl, nle rfl⟩, nle rfl, nle rfl⟩ ?_
  intro v25 h26 hq27 _
  obtain ⟨rfl, rfl⟩ := hq27
  have lc2 := pick_lat i2
  generalize pickI i2 = c2 at lc2 ⊢
  show WlO _ _ _ _ _ _ _ _ _ _ _ _ _ _ _ _ _ _ [.int c2, .int (2 : Int32), .ref a1, .ref a1]
  refine Wl.castore 33 2 at_32 A23 (List.mem_of_getElem? (i := 0) rfl) (by decide) (by decide) (by decide) (nle rfl) ?_
  intro h29 W30 A31
  rw [nar_ch (lc2).ch] at A31
  have A31 : Arv Z h29 a1 k3 .char (4 : Int32) [.int c0, .int c1, .int c2, .int (0 : Int32)] (.int 0) := A31
  have B32 : Ext h h29 := extWr B24 W30 z7
  refine Wl.dup 34 at_33 rfl ?_
  refine Wl.iconst 35 (3 : Int32) at_34 (by decide) ?_
  refine Wl.iload_n 36 at_35 rfl ?_
  refine Wl.static 39 (argsL := [.int i3]) at_36 (w2 hw) (w3 hw) (w4 hw) (w5 hw) (show parseMethodDescriptor "(I)C" = some ⟨[.int], some .char⟩ by decide +kernel) rfl (pick_met hw) (fun _ q => nomatch q) rfl rfl rfl (by decide) ⟨⟨nle rfl, nle rfl⟩, nle rfl, nle rfl⟩ ?_
  intro v33 h34 hq35 _
  obtain ⟨rfl, rfl⟩ := hq35
  have lc3 := pick_lat i3
  generalize pickI i3 = c3 at lc3 ⊢
  show WlO _ _ _ _ _ _ _ _ _ _ _ _ _ _ _ _ _ _ [.int c3, .int (3 : Int32), .ref a1, .ref a1]
  refine Wl.castore 40 3 at_39 A31 (List.mem_of_getElem? (i := 0) rfl) (by decide) (by decide) (by decide) (nle rfl) ?_
  intro h37 W38 A39
  rw [nar_ch (lc3).ch] at A39
  have A39 : Arv Z h37 a1 k3 .char (4 : Int32) [.int c0, .int c1, .int c2, .int c3] (.int 0) := A39
  have B40 : Ext h h37 := extWr B32 W38 z7
  refine Wl.astore 42 #[.val (.int i0), .val (.int i1), .val (.int i2), .val (.int i3), .val (.int i4), .val (.int (3 : Int32)), .val (.ref a1), .unset, .unset, .unset, .unset, .unset, .unset, .unset, .unset, .unset, .unset] at_40 rfl rfl ?_
  refine Wl.iload 44 at_42 rfl ?_
  refine Wl.aload 46 at_44 rfl rfl ?_
  refine Wl.static 49 (argsL := [.int (3 : Int32), .ref a1]) at_46 (w6 hw) (w7 hw) (w4 hw) (w8 hw) (show parseMethodDescriptor "(I[C)Ljava/lang/String;" = some ⟨[.int, (.array .char)], some (.object "java/lang/String")⟩ by decide +kernel) rfl (make3_met hw hcs A39 lc0 lc1 lc2 lc3) (fun _ q => nomatch q) rfl rfl rfl (by decide) ⟨⟨nle rfl, nle rfl⟩, nle rfl, nle rfl⟩ ?_
  intro v41 h42 hq43 _
  obtain ⟨a44, rfl, E45, S46⟩ := hq43
  have B47 : Ext h h42 := extTr B40 E45
  show WlO _ _ _ _ _ _ _ _ _ _ _ _ _ _ _ _ _ _ [.ref a44]
  refine Wl.astore 51 #[.val (.int i0), .val (.int i1), .val (.int i2), .val (.int i3), .val (.int i4), .val (.int (3 : Int32)), .val (.ref a1), .val (.ref a44), .unset, .unset, .unset, .unset, .unset, .unset, .unset, .unset, .unset] at_49 rfl rfl ?_
  refine Wl.aload 53 at_51 rfl rfl ?_
  refine Wl.static 56 (argsL := [.ref a44]) at_53 (w30 hw) (w31 hw) (w32 hw) (w33 hw) (show parseMethodDescriptor "(Ljava/lang/String;)Ljava/lang/String;" = some ⟨[(.object "java/lang/String")], some (.object "java/lang/String")⟩ by decide +kernel) rfl (trim3_met hw hcs hfm (c0 := c0) (c1 := c1) (c2 := c2) (c3 := c3) S46) (fun _ q => nomatch q) rfl rfl rfl (by decide) ⟨⟨nle rfl, nle rfl⟩, nle rfl, nle rfl⟩ ?_
  intro v48 h49 hq50 _
  obtain ⟨a51, rfl, E52, S53⟩ := hq50
  have B54 : Ext h h49 := extTr B47 E52
  show WlO _ _ _ _ _ _ _ _ _ _ _ _ _ _ _ _ _ _ [.ref a51]
  refine Wl.astore 58 #[.val (.int i0), .val (.int i1), .val (.int i2), .val (.int i3), .val (.int i4), .val (.int (3 : Int32)), .val (.ref a1), .val (.ref a44), .val (.ref a51), .unset, .unset, .unset, .unset, .unset, .unset, .unset, .unset] at_56 rfl rfl ?_
  refine Wl.iload 60 at_58 rfl ?_
  refine Wl.ifN 63 at_60 (tlt (by decide)).2.2.2 ?_
  refine Wl.aload 65 at_63 rfl rfl ?_
  refine Wl.iconst 66 (0 : Int32) at_65 (by decide) ?_
  refine Wl.caload 67 0 at_66 ((A39.ext E45).ext E52) (by decide) (by decide) (by decide) rfl ?_
  refine Wl.static 70 (argsL := [.int c0]) at_67 (w118 hw) (w119 hw) (w4 hw) (w120 hw) (show parseMethodDescriptor "(C)Z" = some ⟨[.char], some .boolean⟩ by decide +kernel) rfl (sp_met hw) (fun _ q => nomatch q) rfl rfl rfl (by decide) ⟨⟨nle rfl, nle rfl⟩, nle rfl, nle rfl⟩ ?_
  intro v55 h56 hq57 _
  obtain ⟨rfl, rfl⟩ := hq57
  show WlO _ _ _ _ _ _ _ _ _ _ _ _ _ _ _ _ _ _ [.int (spI c0)]
  by_cases c58 : (spI c0) = (0 : Int32)
  · refine Wl.ifN 73 at_70 (teq c58).2 ?_
    refine Wl.iconst 74 (1 : Int32) at_73 (by decide) ?_
    refine Wl.goto 78 at_74 ?_
    refine Wl.istore 80 #[.val (.int i0), .val (.int i1), .val (.int i2), .val (.int i3), .val (.int i4), .val (.int (3 : Int32)), .val (.ref a1), .val (.ref a44), .val (.ref a51), .val (.int (1 : Int32)), .unset, .unset, .unset, .unset, .unset, .unset, .unset] at_78 rfl ?_
    refine Wl.iload 82 at_80 rfl ?_
    refine Wl.iconst 83 (1 : Int32) at_82 (by decide) ?_
    refine Wl.icmpN 86 at_83 (tlt (by decide)).2.2.2 ?_
    refine Wl.aload 88 at_86 rfl rfl ?_
    refine Wl.iconst 89 (1 : Int32) at_88 (by decide) ?_
    refine Wl.caload 90 1 at_89 ((A39.ext E45).ext E52) (by decide) (by decide) (by decide) rfl ?_
    refine Wl.static 93 (argsL := [.int c1]) at_90 (w118 hw) (w119 hw) (w4 hw) (w120 hw) (show parseMethodDescriptor "(C)Z" = some ⟨[.char], some .boolean⟩ by decide +kernel) rfl (sp_met hw) (fun _ q => nomatch q) rfl rfl rfl (by decide) ⟨⟨nle rfl, nle rfl⟩, nle rfl, nle rfl⟩ ?_
    intro v59 h60 hq61 _
    obtain ⟨rfl, rfl⟩ := hq61
    show WlO _ _ _ _ _ _ _ _ _ _ _ _ _ _ _ _ _ _ [.int (spI c1)]
    by_cases c62 : (spI c1) = (0 : Int32)
    · refine Wl.ifN 96 at_93 (teq c62).2 ?_
      refine Wl.iconst 97 (1 : Int32) at_96 (by decide) ?_
      refine Wl.goto 101 at_97 ?_
      refine Wl.istore 103 #[.val (.int i0), .val (.int i1), .val (.int i2), .val (.int i3), .val (.int i4), .val (.int (3 : Int32)), .val (.ref a1), .val (.ref a44), .val (.ref a51), .val (.int (1 : Int32)), .val (.int (1 : Int32)), .unset, .unset, .unset, .unset, .unset, .unset] at_101 rfl ?_
      refine Wl.iload 105 at_103 rfl ?_
      refine Wl.iconst 106 (2 : Int32) at_105 (by decide) ?_
      refine Wl.icmpN 109 at_106 (tlt (by decide)).2.2.2 ?_
      refine Wl.aload 111 at_109 rfl rfl ?_
      refine Wl.iconst 112 (2 : Int32) at_111 (by decide) ?_
      refine Wl.caload 113 2 at_112 ((A39.ext E45).ext E52) (by decide) (by decide) (by decide) rfl ?_
      refine Wl.static 116 (argsL := [.int c2]) at_113 (w118 hw) (w119 hw) (w4 hw) (w120 hw) (show parseMethodDescriptor "(C)Z" = some ⟨[.char], some .boolean⟩ by decide +kernel) rfl (sp_met hw) (fun _ q => nomatch q) rfl rfl rfl (by decide) ⟨⟨nle rfl, nle rfl⟩, nle rfl, nle rfl⟩ ?_
      intro v63 h64 hq65 _
      obtain ⟨rfl, rfl⟩ := hq65
      show WlO _ _ _ _ _ _ _ _ _ _ _ _ _ _ _ _ _ _ [.int (spI c2)]
      by_cases c66 : (spI c2) = (0 : Int32)
      · refine Wl.ifN 119 at_116 (teq c66).2 ?_
        refine Wl.iconst 120 (1 : Int32) at_119 (by decide) ?_
        refine Wl.goto 124 at_120 ?_
        refine Wl.istore 126 #[.val (.int i0), .val (.int i1), .val (.int i2), .val (.int i3), .val (.int i4), .val (.int (3 : Int32)), .val (.ref a1), .val (.ref a44), .val (.ref a51), .val (.int (1 : Int32)), .val (.int (1 : Int32)), .val (.int (1 : Int32)), .unset, .unset, .unset, .unset, .unset] at_124 rfl ?_
        refine Wl.iload 128 at_126 rfl ?_
        refine Wl.iconst 129 (3 : Int32) at_128 (by decide) ?_
        refine Wl.icmpY 146 at_129 (flt (by decide)).2.2.2 ?_
        refine Wl.iconst 147 (0 : Int32) at_146 (by decide) ?_
        refine Wl.istore 149 #[.val (.int i0), .val (.int i1), .val (.int i2), .val (.int i3), .val (.int i4), .val (.int (3 : Int32)), .val (.ref a1), .val (.ref a44), .val (.ref a51), .val (.int (1 : Int32)), .val (.int (1 : Int32)), .val (.int (1 : Int32)), .val (.int (0 : Int32)), .unset, .unset, .unset, .unset] at_147 rfl ?_
        refine Wl.iload 151 at_149 rfl ?_
        refine Wl.ifN 154 at_151 (feq (by decide)).1 ?_
        refine Wl.iconst 155 (0 : Int32) at_154 (by decide) ?_
        refine Wl.istore 157 #[.val (.int i0), .val (.int i1), .val (.int i2), .val (.int i3), .val (.int i4), .val (.int (3 : Int32)), .val (.ref a1), .val (.ref a44), .val (.ref a51), .val (.int (1 : Int32)), .val (.int (1 : Int32)), .val (.int (1 : Int32)), .val (.int (0 : Int32)), .val (.int (0 : Int32)), .unset, .unset, .unset] at_155 rfl ?_
        refine Wl.goto 197 at_157 ?_
        refine Wl.iload 199 at_197 rfl ?_
        refine Wl.iload 201 at_199 rfl ?_
        refine Wl.icmpY 211 at_201 (feq (by decide)).2 ?_
        refine Wl.iload 213 at_211 rfl ?_
        refine Wl.ifY 222 at_213 (teq (by decide)).1 ?_
        refine Wl.iload 224 at_222 rfl ?_
        refine Wl.ifN 227 at_224 (feq (by decide)).1 ?_
        refine Wl.iconst 228 (3 : Int32) at_227 (by decide) ?_
        refine Wl.istore 230 #[.val (.int i0), .val (.int i1), .val (.int i2), .val (.int i3), .val (.int i4), .val (.int (3 : Int32)), .val (.ref a1), .val (.ref a44), .val (.ref a51), .val (.int (1 : Int32)), .val (.int (1 : Int32)), .val (.int (1 : Int32)), .val (.int (0 : Int32)), .val (.int (0 : Int32)), .val (.int (3 : Int32)), .unset, .unset] at_228 rfl ?_
        refine Wl.goto 247 at_230 ?_
        refine Wl.iload 249 at_247 rfl ?_
        refine Wl.iload 251 at_249 rfl ?_
        refine Wl.isub 252 at_251 ?_
        show WlO _ _ _ _ _ _ _ _ _ _ _ _ _ _ _ _ _ _ [.int (3 : Int32)]
        refine Wl.istore 254 #[.val (.int i0), .val (.int i1), .val (.int i2), .val (.int i3), .val (.int i4), .val (.int (3 : Int32)), .val (.ref a1), .val (.ref a44), .val (.ref a51), .val (.int (1 : Int32)), .val (.int (1 : Int32)), .val (.int (1 : Int32)), .val (.int (0 : Int32)), .val (.int (0 : Int32)), .val (.int (3 : Int32)), .val (.int (3 : Int32)), .unset] at_252 rfl ?_
        refine Wl.aload 256 at_254 rfl rfl ?_
        have S67 := S53
        rw [show trimL [c0, c1, c2] = [c0, c1, c2] by simp [trimL, isp, List.dropWhile, c58, c62, c66]] at S67
        refine Wl.virtual 259 (argsL := []) at_256 (w59 hw) (w35 hw) (w37 hw) (w36 hw) (w11 hw) (w38 hw) (nf_sel (w37 hw) rfl) (S53).exa (show parseMethodDescriptor "()I" = some ⟨[], some .int⟩ by decide +kernel) rfl (len_met hw hcs S67) (fun _ q => nomatch q) rfl rfl rfl (by decide) ⟨⟨nle rfl, nle rfl⟩, nle rfl, nle rfl⟩ ?_
        intro v68 h69 hq70 _
        obtain ⟨rfl, rfl⟩ := hq70
        show WlO _ _ _ _ _ _ _ _ _ _ _ _ _ _ _ _ _ _ [.int (3 : Int32)]
        refine Wl.iload 261 at_259 rfl ?_
        refine Wl.icmpN 264 at_261 (teq (by decide)).2 ?_
        refine Wl.iconst 265 (1 : Int32) at_264 (by decide) ?_
        refine Wl.goto 269 at_265 ?_
        refine Wl.istore 271 #[.val (.int i0), .val (.int i1), .val (.int i2), .val (.int i3), .val (.int i4), .val (.int (3 : Int32)), .val (.ref a1), .val (.ref a44), .val (.ref a51), .val (.int (1 : Int32)), .val (.int (1 : Int32)), .val (.int (1 : Int32)), .val (.int (0 : Int32)), .val (.int (0 : Int32)), .val (.int (3 : Int32)), .val (.int (3 : Int32)), .val (.int (1 : Int32))] at_269 rfl ?_
        refine Wl.iload 273 at_271 rfl ?_
        refine Wl.ifN 276 at_273 (feq (by decide)).1 ?_
        refine Wl.iload 278 at_276 rfl ?_
        refine Wl.ifN 281 at_278 (tlt (by decide)).2.2.2 ?_
        refine Wl.aload 283 at_281 rfl rfl ?_
        refine Wl.iconst 284 (0 : Int32) at_283 (by decide) ?_
        refine Wl.virtual 287 (argsL := [.int (0 : Int32)]) at_284 (w121 hw) (w71 hw) (w73 hw) (w72 hw) (w11 hw) (w74 hw) (nf_sel (w73 hw) rfl) (S53).exa (show parseMethodDescriptor "(I)C" = some ⟨[.int], some .char⟩ by decide +kernel) rfl (charAt_met hw hcs hfm S67 (i := 0) (nle rfl)) (fun _ q => nomatch q) rfl rfl rfl (by decide) ⟨⟨nle rfl, nle rfl⟩, nle rfl, nle rfl⟩ ?_
        intro v71 h72 hq73 _
        obtain ⟨rfl, rfl⟩ := hq73
        show WlO _ _ _ _ _ _ _ _ _ _ _ _ _ _ _ _ _ _ [.int c0]
        refine Wl.aload 289 at_287 rfl rfl ?_
        refine Wl.iload 291 at_289 rfl ?_
        refine Wl.caload 292 0 at_291 ((A39.ext E45).ext E52) (by decide) (by decide) (by decide) rfl ?_
        refine Wl.icmpN 295 at_292 (teq rfl).2 ?_
        refine Wl.iconst 296 (1 : Int32) at_295 (by decide) ?_
        refine Wl.goto 300 at_296 ?_
        refine Wl.istore 302 #[.val (.int i0), .val (.int i1), .val (.int i2), .val (.int i3), .val (.int i4), .val (.int (3 : Int32)), .val (.ref a1), .val (.ref a44), .val (.ref a51), .val (.int (1 : Int32)), .val (.int (1 : Int32)), .val (.int (1 : Int32)), .val (.int (0 : Int32)), .val (.int (0 : Int32)), .val (.int (3 : Int32)), .val (.int (3 : Int32)), .val (.int (1 : Int32))] at_300 rfl ?_
        refine Wl.iload 304 at_302 rfl ?_
        refine Wl.ifN 307 at_304 (feq (by decide)).1 ?_
        refine Wl.iload 309 at_307 rfl ?_
        refine Wl.iconst 310 (1 : Int32) at_309 (by decide) ?_
        refine Wl.icmpN 313 at_310 (tlt (by decide)).2.2.2 ?_
        refine Wl.aload 315 at_313 rfl rfl ?_
        refine Wl.iconst 316 (1 : Int32) at_315 (by decide) ?_
        refine Wl.virtual 319 (argsL := [.int (1 : Int32)]) at_316 (w121 hw) (w71 hw) (w73 hw) (w72 hw) (w11 hw) (w74 hw) (nf_sel (w73 hw) rfl) (S53).exa (show parseMethodDescriptor "(I)C" = some ⟨[.int], some .char⟩ by decide +kernel) rfl (charAt_met hw hcs hfm S67 (i := 1) (nle rfl)) (fun _ q => nomatch q) rfl rfl rfl (by decide) ⟨⟨nle rfl, nle rfl⟩, nle rfl, nle rfl⟩ ?_
        intro v74 h75 hq76 _
        obtain ⟨rfl, rfl⟩ := hq76
        show WlO _ _ _ _ _ _ _ _ _ _ _ _ _ _ _ _ _ _ [.int c1]
        refine Wl.aload 321 at_319 rfl rfl ?_
        refine Wl.iload 323 at_321 rfl ?_
        refine Wl.iconst 324 (1 : Int32) at_323 (by decide) ?_
        refine Wl.iadd 325 at_324 ?_
        show WlO _ _ _ _ _ _ _ _ _ _ _ _ _ _ _ _ _ _ [.int (1 : Int32), .ref a1, .int c1]
        refine Wl.caload 326 1 at_325 ((A39.ext E45).ext E52) (by decide) (by decide) (by decide) rfl ?_
        refine Wl.icmpN 329 at_326 (teq rfl).2 ?_
        refine Wl.iconst 330 (1 : Int32) at_329 (by decide) ?_
        refine Wl.goto 334 at_330 ?_
        refine Wl.istore 336 #[.val (.int i0), .val (.int i1), .val (.int i2), .val (.int i3), .val (.int i4), .val (.int (3 : Int32)), .val (.ref a1), .val (.ref a44), .val (.ref a51), .val (.int (1 : Int32)), .val (.int (1 : Int32)), .val (.int (1 : Int32)), .val (.int (0 : Int32)), .val (.int (0 : Int32)), .val (.int (3 : Int32)), .val (.int (3 : Int32)), .val (.int (1 : Int32))] at_334 rfl ?_
        refine Wl.iload 338 at_336 rfl ?_
        refine Wl.ifN 341 at_338 (feq (by decide)).1 ?_
        refine Wl.iload 343 at_341 rfl ?_
        refine Wl.iconst 344 (2 : Int32) at_343 (by decide) ?_
        refine Wl.icmpN 347 at_344 (tlt (by decide)).2.2.2 ?_
        refine Wl.aload 349 at_347 rfl rfl ?_
        refine Wl.iconst 350 (2 : Int32) at_349 (by decide) ?_
        refine Wl.virtual 353 (argsL := [.int (2 : Int32)]) at_350 (w121 hw) (w71 hw) (w73 hw) (w72 hw) (w11 hw) (w74 hw) (nf_sel (w73 hw) rfl) (S53).exa (show parseMethodDescriptor "(I)C" = some ⟨[.int], some .char⟩ by decide +kernel) rfl (charAt_met hw hcs hfm S67 (i := 2) (nle rfl)) (fun _ q => nomatch q) rfl rfl rfl (by decide) ⟨⟨nle rfl, nle rfl⟩, nle rfl, nle rfl⟩ ?_
        intro v77 h78 hq79 _
        obtain ⟨rfl, rfl⟩ := hq79
        show WlO _ _ _ _ _ _ _ _ _ _ _ _ _ _ _ _ _ _ [.int c2]
        refine Wl.aload 355 at_353 rfl rfl ?_
        refine Wl.iload 357 at_355 rfl ?_
        refine Wl.iconst 358 (2 : Int32) at_357 (by decide) ?_
        refine Wl.iadd 359 at_358 ?_
        show WlO _ _ _ _ _ _ _ _ _ _ _ _ _ _ _ _ _ _ [.int (2 : Int32), .ref a1, .int c2]
        refine Wl.caload 360 2 at_359 ((A39.ext E45).ext E52) (by decide) (by decide) (by decide) rfl ?_
        refine Wl.icmpN 363 at_360 (teq rfl).2 ?_
        refine Wl.iconst 364 (1 : Int32) at_363 (by decide) ?_
        refine Wl.goto 368 at_364 ?_
        refine Wl.istore 370 #[.val (.int i0), .val (.int i1), .val (.int i2), .val (.int i3), .val (.int i4), .val (.int (3 : Int32)), .val (.ref a1), .val (.ref a44), .val (.ref a51), .val (.int (1 : Int32)), .val (.int (1 : Int32)), .val (.int (1 : Int32)), .val (.int (0 : Int32)), .val (.int (0 : Int32)), .val (.int (3 : Int32)), .val (.int (3 : Int32)), .val (.int (1 : Int32))] at_368 rfl ?_
        refine Wl.iload 372 at_370 rfl ?_
        refine Wl.ifN 375 at_372 (feq (by decide)).1 ?_
        refine Wl.iload 377 at_375 rfl ?_
        refine Wl.iconst 378 (3 : Int32) at_377 (by decide) ?_
        refine Wl.icmpY 404 at_378 (flt (by decide)).2.2.2 ?_
        refine Wl.iload 406 at_404 rfl ?_
        exact Wl.ireturn at_406 rfl rfl (by simp) (nle rfl) (nle rfl) rfl
      · refine Wl.ifY 123 at_116 (feq c66).2 ?_
        refine Wl.iconst 124 (0 : Int32) at_123 (by decide) ?_
        refine Wl.istore 126 #[.val (.int i0), .val (.int i1), .val (.int i2), .val (.int i3), .val (.int i4), .val (.int (3 : Int32)), .val (.ref a1), .val (.ref a44), .val (.ref a51), .val (.int (1 : Int32)), .val (.int (1 : Int32)), .val (.int (0 : Int32)), .unset, .unset, .unset, .unset, .unset] at_124 rfl ?_
        refine Wl.iload 128 at_126 rfl ?_
        refine Wl.iconst 129 (3 : Int32) at_128 (by decide) ?_
        refine Wl.icmpY 146 at_129 (flt (by decide)).2.2.2 ?_
        refine Wl.iconst 147 (0 : Int32) at_146 (by decide) ?_
        refine Wl.istore 149 #[.val (.int i0), .val (.int i1), .val (.int i2), .val (.int i3), .val (.int i4), .val (.int (3 : Int32)), .val (.ref a1), .val (.ref a44), .val (.ref a51), .val (.int (1 : Int32)), .val (.int (1 : Int32)), .val (.int (0 : Int32)), .val (.int (0 : Int32)), .unset, .unset, .unset, .unset] at_147 rfl ?_
        refine Wl.iload 151 at_149 rfl ?_
        refine Wl.ifN 154 at_151 (feq (by decide)).1 ?_
        refine Wl.iconst 155 (0 : Int32) at_154 (by decide) ?_
        refine Wl.istore 157 #[.val (.int i0), .val (.int i1), .val (.int i2), .val (.int i3), .val (.int i4), .val (.int (3 : Int32)), .val (.ref a1), .val (.ref a44), .val (.ref a51), .val (.int (1 : Int32)), .val (.int (1 : Int32)), .val (.int (0 : Int32)), .val (.int (0 : Int32)), .val (.int (0 : Int32)), .unset, .unset, .unset] at_155 rfl ?_
        refine Wl.goto 197 at_157 ?_
        refine Wl.iload 199 at_197 rfl ?_
        refine Wl.iload 201 at_199 rfl ?_
        refine Wl.icmpY 211 at_201 (feq (by decide)).2 ?_
        refine Wl.iload 213 at_211 rfl ?_
        refine Wl.ifY 222 at_213 (teq (by decide)).1 ?_
        refine Wl.iload 224 at_222 rfl ?_
        refine Wl.ifY 233 at_224 (teq (by decide)).1 ?_
        refine Wl.iload 235 at_233 rfl ?_
        refine Wl.ifN 238 at_235 (feq (by decide)).1 ?_
        refine Wl.iconst 239 (2 : Int32) at_238 (by decide) ?_
        refine Wl.istore 241 #[.val (.int i0), .val (.int i1), .val (.int i2), .val (.int i3), .val (.int i4), .val (.int (3 : Int32)), .val (.ref a1), .val (.ref a44), .val (.ref a51), .val (.int (1 : Int32)), .val (.int (1 : Int32)), .val (.int (0 : Int32)), .val (.int (0 : Int32)), .val (.int (0 : Int32)), .val (.int (2 : Int32)), .unset, .unset] at_239 rfl ?_
        refine Wl.goto 247 at_241 ?_
        refine Wl.iload 249 at_247 rfl ?_
        refine Wl.iload 251 at_249 rfl ?_
        refine Wl.isub 252 at_251 ?_
        show WlO _ _ _ _ _ _ _ _ _ _ _ _ _ _ _ _ _ _ [.int (2 : Int32)]
        refine Wl.istore 254 #[.val (.int i0), .val (.int i1), .val (.int i2), .val (.int i3), .val (.int i4), .val (.int (3 : Int32)), .val (.ref a1), .val (.ref a44), .val (.ref a51), .val (.int (1 : Int32)), .val (.int (1 : Int32)), .val (.int (0 : Int32)), .val (.int (0 : Int32)), .val (.int (0 : Int32)), .val (.int (2 : Int32)), .val (.int (2 : Int32)), .unset] at_252 rfl ?_
        refine Wl.aload 256 at_254 rfl rfl ?_
        have S80 := S53
        rw [show trimL [c0, c1, c2] = [c0, c1] by simp [trimL, isp, List.dropWhile, c58, c62, c66]] at S80
        refine Wl.virtual 259 (argsL := []) at_256 (w59 hw) (w35 hw) (w37 hw) (w36 hw) (w11 hw) (w38 hw) (nf_sel (w37 hw) rfl) (S53).exa (show parseMethodDescriptor "()I" = some ⟨[], some .int⟩ by decide +kernel) rfl (len_met hw hcs S80) (fun _ q => nomatch q) rfl rfl rfl (by decide) ⟨⟨nle rfl, nle rfl⟩, nle rfl, nle rfl⟩ ?_
        intro v81 h82 hq83 _
        obtain ⟨rfl, rfl⟩ := hq83
        show WlO _ _ _ _ _ _ _ _ _ _ _ _ _ _ _ _ _ _ [.int (2 : Int32)]
        refine Wl.iload 261 at_259 rfl ?_
        refine Wl.icmpN 264 at_261 (teq (by decide)).2 ?_
        refine Wl.iconst 265 (1 : Int32) at_264 (by decide) ?_
        refine Wl.goto 269 at_265 ?_
        refine Wl.istore 271 #[.val (.int i0), .val (.int i1), .val (.int i2), .val (.int i3), .val (.int i4), .val (.int (3 : Int32)), .val (.ref a1), .val (.ref a44), .val (.ref a51), .val (.int (1 : Int32)), .val (.int (1 : Int32)), .val (.int (0 : Int32)), .val (.int (0 : Int32)), .val (.int (0 : Int32)), .val (.int (2 : Int32)), .val (.int (2 : Int32)), .val (.int (1 : Int32))] at_269 rfl ?_
        refine Wl.iload 273 at_271 rfl ?_
        refine Wl.ifN 276 at_273 (feq (by decide)).1 ?_
        refine Wl.iload 278 at_276 rfl ?_
        refine Wl.ifN 281 at_278 (tlt (by decide)).2.2.2 ?_
        refine Wl.aload 283 at_281 rfl rfl ?_
        refine Wl.iconst 284 (0 : Int32) at_283 (by decide) ?_
        refine Wl.virtual 287 (argsL := [.int (0 : Int32)]) at_284 (w121 hw) (w71 hw) (w73 hw) (w72 hw) (w11 hw) (w74 hw) (nf_sel (w73 hw) rfl) (S53).exa (show parseMethodDescriptor "(I)C" = some ⟨[.int], some .char⟩ by decide +kernel) rfl (charAt_met hw hcs hfm S80 (i := 0) (nle rfl)) (fun _ q => nomatch q) rfl rfl rfl (by decide) ⟨⟨nle rfl, nle rfl⟩, nle rfl, nle rfl⟩ ?_
        intro v84 h85 hq86 _
        obtain ⟨rfl, rfl⟩ := hq86
        show WlO _ _ _ _ _ _ _ _ _ _ _ _ _ _ _ _ _ _ [.int c0]
        refine Wl.aload 289 at_287 rfl rfl ?_
        refine Wl.iload 291 at_289 rfl ?_
        refine Wl.caload 292 0 at_291 ((A39.ext E45).ext E52) (by decide) (by decide) (by decide) rfl ?_
        refine Wl.icmpN 295 at_292 (teq rfl).2 ?_
        refine Wl.iconst 296 (1 : Int32) at_295 (by decide) ?_
        refine Wl.goto 300 at_296 ?_
        refine Wl.istore 302 #[.val (.int i0), .val (.int i1), .val (.int i2), .val (.int i3), .val (.int i4), .val (.int (3 : Int32)), .val (.ref a1), .val (.ref a44), .val (.ref a51), .val (.int (1 : Int32)), .val (.int (1 : Int32)), .val (.int (0 : Int32)), .val (.int (0 : Int32)), .val (.int (0 : Int32)), .val (.int (2 : Int32)), .val (.int (2 : Int32)), .val (.int (1 : Int32))] at_300 rfl ?_
        refine Wl.iload 304 at_302 rfl ?_
        refine Wl.ifN 307 at_304 (feq (by decide)).1 ?_
        refine Wl.iload 309 at_307 rfl ?_
        refine Wl.iconst 310 (1 : Int32) at_309 (by decide) ?_
        refine Wl.icmpN 313 at_310 (tlt (by decide)).2.2.2 ?_
        refine Wl.aload 315 at_313 rfl rfl ?_
        refine Wl.iconst 316 (1 : Int32) at_315 (by decide) ?_
        refine Wl.virtual 319 (argsL := [.int (1 : Int32)]) at_316 (w121 hw) (w71 hw) (w73 hw) (w72 hw) (w11 hw) (w74 hw) (nf_sel (w73 hw) rfl) (S53).exa (show parseMethodDescriptor "(I)C" = some ⟨[.int], some .char⟩ by decide +kernel) rfl (charAt_met hw hcs hfm S80 (i := 1) (nle rfl)) (fun _ q => nomatch q) rfl rfl rfl (by decide) ⟨⟨nle rfl, nle rfl⟩, nle rfl, nle rfl⟩ ?_
        intro v87 h88 hq89 _
        obtain ⟨rfl, rfl⟩ := hq89
        show WlO _ _ _ _ _ _ _ _ _ _ _ _ _ _ _ _ _ _ [.int c1]
        refine Wl.aload 321 at_319 rfl rfl ?_
        refine Wl.iload 323 at_321 rfl ?_
        refine Wl.iconst 324 (1 : Int32) at_323 (by decide) ?_
        refine Wl.iadd 325 at_324 ?_
        show WlO _ _ _ _ _ _ _ _ _ _ _ _ _ _ _ _ _ _ [.int (1 : Int32), .ref a1, .int c1]
        refine Wl.caload 326 1 at_325 ((A39.ext E45).ext E52) (by decide) (by decide) (by decide) rfl ?_
        refine Wl.icmpN 329 at_326 (teq rfl).2 ?_
        refine Wl.iconst 330 (1 : Int32) at_329 (by decide) ?_
        refine Wl.goto 334 at_330 ?_
        refine Wl.istore 336 #[.val (.int i0), .val (.int i1), .val (.int i2), .val (.int i3), .val (.int i4), .val (.int (3 : Int32)), .val (.ref a1), .val (.ref a44), .val (.ref a51), .val (.int (1 : Int32)), .val (.int (1 : Int32)), .val (.int (0 : Int32)), .val (.int (0 : Int32)), .val (.int (0 : Int32)), .val (.int (2 : Int32)), .val (.int (2 : Int32)), .val (.int (1 : Int32))] at_334 rfl ?_
        refine Wl.iload 338 at_336 rfl ?_
        refine Wl.ifN 341 at_338 (feq (by decide)).1 ?_
        refine Wl.iload 343 at_341 rfl ?_
        refine Wl.iconst 344 (2 : Int32) at_343 (by decide) ?_
        refine Wl.icmpY 370 at_344 (flt (by decide)).2.2.2 ?_
        refine Wl.iload 372 at_370 rfl ?_
        refine Wl.ifN 375 at_372 (feq (by decide)).1 ?_
        refine Wl.iload 377 at_375 rfl ?_
        refine Wl.iconst 378 (3 : Int32) at_377 (by decide) ?_
        refine Wl.icmpY 404 at_378 (flt (by decide)).2.2.2 ?_
        refine Wl.iload 406 at_404 rfl ?_
        exact Wl.ireturn at_406 rfl rfl (by simp) (nle rfl) (nle rfl) rfl
    · refine Wl.ifY 100 at_93 (feq c62).2 ?_
      refine Wl.iconst 101 (0 : Int32) at_100 (by decide) ?_
      refine Wl.istore 103 #[.val (.int i0), .val (.int i1), .val (.int i2), .val (.int i3), .val (.int i4), .val (.int (3 : Int32)), .val (.ref a1), .val (.ref a44), .val (.ref a51), .val (.int (1 : Int32)), .val (.int (0 : Int32)), .unset, .unset, .unset, .unset, .unset, .unset] at_101 rfl ?_
      refine Wl.iload 105 at_103 rfl ?_
      refine Wl.iconst 106 (2 : Int32) at_105 (by decide) ?_
      refine Wl.icmpN 109 at_106 (tlt (by decide)).2.2.2 ?_
      refine Wl.aload 111 at_109 rfl rfl ?_
      refine Wl.iconst 112 (2 : Int32) at_111 (by decide) ?_
      refine Wl.caload 113 2 at_112 ((A39.ext E45).ext E52) (by decide) (by decide) (by decide) rfl ?_
      refine Wl.static 116 (argsL := [.int c2]) at_113 (w118 hw) (w119 hw) (w4 hw) (w120 hw) (show parseMethodDescriptor "(C)Z" = some ⟨[.char], some .boolean⟩ by decide +kernel) rfl (sp_met hw) (fun _ q => nomatch q) rfl rfl rfl (by decide) ⟨⟨nle rfl, nle rfl⟩, nle rfl, nle rfl⟩ ?_
      intro v90 h91 hq92 _
      obtain ⟨rfl, rfl⟩ := hq92
      show WlO _ _ _ _ _ _ _ _ _ _ _ _ _ _ _ _ _ _ [.int (spI c2)]
      by_cases c93 : (spI c2) = (0 : Int32)
      · refine Wl.ifN 119 at_116 (teq c93).2 ?_
        refine Wl.iconst 120 (1 : Int32) at_119 (by decide) ?_
        refine Wl.goto 124 at_120 ?_
        refine Wl.istore 126 #[.val (.int i0), .val (.int i1), .val (.int i2), .val (.int i3), .val (.int i4), .val (.int (3 : Int32)), .val (.ref a1), .val (.ref a44), .val (.ref a51), .val (.int (1 : Int32)), .val (.int (0 : Int32)), .val (.int (1 : Int32)), .unset, .unset, .unset, .unset, .unset] at_124 rfl ?_
        refine Wl.iload 128 at_126 rfl ?_
        refine Wl.iconst 129 (3 : Int32) at_128 (by decide) ?_
        refine Wl.icmpY 146 at_129 (flt (by decide)).2.2.2 ?_
        refine Wl.iconst 147 (0 : Int32) at_146 (by decide) ?_
        refine Wl.istore 149 #[.val (.int i0), .val (.int i1), .val (.int i2), .val (.int i3), .val (.int i4), .val (.int (3 : Int32)), .val (.ref a1), .val (.ref a44), .val (.ref a51), .val (.int (1 : Int32)), .val (.int (0 : Int32)), .val (.int (1 : Int32)), .val (.int (0 : Int32)), .unset, .unset, .unset, .unset] at_147 rfl ?_
        refine Wl.iload 151 at_149 rfl ?_
        refine Wl.ifN 154 at_151 (feq (by decide)).1 ?_
        refine Wl.iconst 155 (0 : Int32) at_154 (by decide) ?_
        refine Wl.istore 157 #[.val (.int i0), .val (.int i1), .val (.int i2), .val (.int i3), .val (.int i4), .val (.int (3 : Int32)), .val (.ref a1), .val (.ref a44), .val (.ref a51), .val (.int (1 : Int32)), .val (.int (0 : Int32)), .val (.int (1 : Int32)), .val (.int (0 : Int32)), .val (.int (0 : Int32)), .unset, .unset, .unset] at_155 rfl ?_
        refine Wl.goto 197 at_157 ?_
        refine Wl.iload 199 at_197 rfl ?_
        refine Wl.iload 201 at_199 rfl ?_
        refine Wl.icmpY 211 at_201 (feq (by decide)).2 ?_
        refine Wl.iload 213 at_211 rfl ?_
        refine Wl.ifY 222 at_213 (teq (by decide)).1 ?_
        refine Wl.iload 224 at_222 rfl ?_
        refine Wl.ifN 227 at_224 (feq (by decide)).1 ?_
        refine Wl.iconst 228 (3 : Int32) at_227 (by decide) ?_
        refine Wl.istore 230 #[.val (.int i0), .val (.int i1), .val (.int i2), .val (.int i3), .val (.int i4), .val (.int (3 : Int32)), .val (.ref a1), .val (.ref a44), .val (.ref a51), .val (.int (1 : Int32)), .val (.int (0 : Int32)), .val (.int (1 : Int32)), .val (.int (0 : Int32)), .val (.int (0 : Int32)), .val (.int (3 : Int32)), .unset, .unset] at_228 rfl ?_
        refine Wl.goto 247 at_230 ?_
        refine Wl.iload 249 at_247 rfl ?_
        refine Wl.iload 251 at_249 rfl ?_
        refine Wl.isub 252 at_251 ?_
        show WlO _ _ _ _ _ _ _ _ _ _ _ _ _ _ _ _ _ _ [.int (3 : Int32)]
        refine Wl.istore 254 #[.val (.int i0), .val (.int i1), .val (.int i2), .val (.int i3), .val (.int i4), .val (.int (3 : Int32)), .val (.ref a1), .val (.ref a44), .val (.ref a51), .val (.int (1 : Int32)), .val (.int (0 : Int32)), .val (.int (1 : Int32)), .val (.int (0 : Int32)), .val (.int (0 : Int32)), .val (.int (3 : Int32)), .val (.int (3 : Int32)), .unset] at_252 rfl ?_
        refine Wl.aload 256 at_254 rfl rfl ?_
        have S94 := S53
        rw [show trimL [c0, c1, c2] = [c0, c1, c2] by simp [trimL, isp, List.dropWhile, c58, c62, c93]] at S94
        refine Wl.virtual 259 (argsL := []) at_256 (w59 hw) (w35 hw) (w37 hw) (w36 hw) (w11 hw) (w38 hw) (nf_sel (w37 hw) rfl) (S53).exa (show parseMethodDescriptor "()I" = some ⟨[], some .int⟩ by decide +kernel) rfl (len_met hw hcs S94) (fun _ q => nomatch q) rfl rfl rfl (by decide) ⟨⟨nle rfl, nle rfl⟩, nle rfl, nle rfl⟩ ?_
        intro v95 h96 hq97 _
        obtain ⟨rfl, rfl⟩ := hq97
        show WlO _ _ _ _ _ _ _ _ _ _ _ _ _ _ _ _ _ _ [.int (3 : Int32)]
        refine Wl.iload 261 at_259 rfl ?_
        refine Wl.icmpN 264 at_261 (teq (by decide)).2 ?_
        refine Wl.iconst 265 (1 : Int32) at_264 (by decide) ?_
        refine Wl.goto 269 at_265 ?_
        refine Wl.istore 271 #[.val (.int i0), .val (.int i1), .val (.int i2), .val (.int i3), .val (.int i4), .val (.int (3 : Int32)), .val (.ref a1), .val (.ref a44), .val (.ref a51), .val (.int (1 : Int32)), .val (.int (0 : Int32)), .val (.int (1 : Int32)), .val (.int (0 : Int32)), .val (.int (0 : Int32)), .val (.int (3 : Int32)), .val (.int (3 : Int32)), .val (.int (1 : Int32))] at_269 rfl ?_
        refine Wl.iload 273 at_271 rfl ?_
        refine Wl.ifN 276 at_273 (feq (by decide)).1 ?_
        refine Wl.iload 278 at_276 rfl ?_
        refine Wl.ifN 281 at_278 (tlt (by decide)).2.2.2 ?_
        refine Wl.aload 283 at_281 rfl rfl ?_
        refine Wl.iconst 284 (0 : Int32) at_283 (by decide) ?_
        refine Wl.virtual 287 (argsL := [.int (0 : Int32)]) at_284 (w121 hw) (w71 hw) (w73 hw) (w72 hw) (w11 hw) (w74 hw) (nf_sel (w73 hw) rfl) (S53).exa (show parseMethodDescriptor "(I)C" = some ⟨[.int], some .char⟩ by decide +kernel) rfl (charAt_met hw hcs hfm S94 (i := 0) (nle rfl)) (fun _ q => nomatch q) rfl rfl rfl (by decide) ⟨⟨nle rfl, nle rfl⟩, nle rfl, nle rfl⟩ ?_
        intro v98 h99 hq100 _
        obtain ⟨rfl, rfl⟩ := hq100
        show WlO _ _ _ _ _ _ _ _ _ _ _ _ _ _ _ _ _ _ [.int c0]
        refine Wl.aload 289 at_287 rfl rfl ?_
        refine Wl.iload 291 at_289 rfl ?_
        refine Wl.caload 292 0 at_291 ((A39.ext E45).ext E52) (by decide) (by decide) (by decide) rfl ?_
        refine Wl.icmpN 295 at_292 (teq rfl).2 ?_
        refine Wl.iconst 296 (1 : Int32) at_295 (by decide) ?_
        refine Wl.goto 300 at_296 ?_
        refine Wl.istore 302 #[.val (.int i0), .val (.int i1), .val (.int i2), .val (.int i3), .val (.int i4), .val (.int (3 : Int32)), .val (.ref a1), .val (.ref a44), .val (.ref a51), .val (.int (1 : Int32)), .val (.int (0 : Int32)), .val (.int (1 : Int32)), .val (.int (0 : Int32)), .val (.int (0 : Int32)), .val (.int (3 : Int32)), .val (.int (3 : Int32)), .val (.int (1 : Int32))] at_300 rfl ?_
        refine Wl.iload 304 at_302 rfl ?_
        refine Wl.ifN 307 at_304 (feq (by decide)).1 ?_
        refine Wl.iload 309 at_307 rfl ?_
        refine Wl.iconst 310 (1 : Int32) at_309 (by decide) ?_
        refine Wl.icmpN 313 at_310 (tlt (by decide)).2.2.2 ?_
        refine Wl.aload 315 at_313 rfl rfl ?_
        refine Wl.iconst 316 (1 : Int32) at_315 (by decide) ?_
        refine Wl.virtual 319 (argsL := [.int (1 : Int32)]) at_316 (w121 hw) (w71 hw) (w73 hw) (w72 hw) (w11 hw) (w74 hw) (nf_sel (w73 hw) rfl) (S53).exa (show parseMethodDescriptor "(I)C" = some ⟨[.int], some .char⟩ by decide +kernel) rfl (charAt_met hw hcs hfm S94 (i := 1) (nle rfl)) (fun _ q => nomatch q) rfl rfl rfl (by decide) ⟨⟨nle rfl, nle rfl⟩, nle rfl, nle rfl⟩ ?_
        intro v101 h102 hq103 _
        obtain ⟨rfl, rfl⟩ := hq103
        show WlO _ _ _ _ _ _ _ _ _ _ _ _ _ _ _ _ _ _ [.int c1]
        refine Wl.aload 321 at_319 rfl rfl ?_
        refine Wl.iload 323 at_321 rfl ?_
        refine Wl.iconst 324 (1 : Int32) at_323 (by decide) ?_
        refine Wl.iadd 325 at_324 ?_
        show WlO _ _ _ _ _ _ _ _ _ _ _ _ _ _ _ _ _ _ [.int (1 : Int32), .ref a1, .int c1]
        refine Wl.caload 326 1 at_325 ((A39.ext E45).ext E52) (by decide) (by decide) (by decide) rfl ?_
        refine Wl.icmpN 329 at_326 (teq rfl).2 ?_
        refine Wl.iconst 330 (1 : Int32) at_329 (by decide) ?_
        refine Wl.goto 334 at_330 ?_
        refine Wl.istore 336 #[.val (.int i0), .val (.int i1), .val (.int i2), .val (.int i3), .val (.int i4), .val (.int (3 : Int32)), .val (.ref a1), .val (.ref a44), .val (.ref a51), .val (.int (1 : Int32)), .val (.int (0 : Int32)), .val (.int (1 : Int32)), .val (.int (0 : Int32)), .val (.int (0 : Int32)), .val (.int (3 : Int32)), .val (.int (3 : Int32)), .val (.int (1 : Int32))] at_334 rfl ?_
        refine Wl.iload 338 at_336 rfl ?_
        refine Wl.ifN 341 at_338 (feq (by decide)).1 ?_
        refine Wl.iload 343 at_341 rfl ?_
        refine Wl.iconst 344 (2 : Int32) at_343 (by decide) ?_
        refine Wl.icmpN 347 at_344 (tlt (by decide)).2.2.2 ?_
        refine Wl.aload 349 at_347 rfl rfl ?_
        refine Wl.iconst 350 (2 : Int32) at_349 (by decide) ?_
        refine Wl.virtual 353 (argsL := [.int (2 : Int32)]) at_350 (w121 hw) (w71 hw) (w73 hw) (w72 hw) (w11 hw) (w74 hw) (nf_sel (w73 hw) rfl) (S53).exa (show parseMethodDescriptor "(I)C" = some ⟨[.int], some .char⟩ by decide +kernel) rfl (charAt_met hw hcs hfm S94 (i := 2) (nle rfl)) (fun _ q => nomatch q) rfl rfl rfl (by decide) ⟨⟨nle rfl, nle rfl⟩, nle rfl, nle rfl⟩ ?_
        intro v104 h105 hq106 _
        obtain ⟨rfl, rfl⟩ := hq106
        show WlO _ _ _ _ _ _ _ _ _ _ _ _ _ _ _ _ _ _ [.int c2]
        refine Wl.aload 355 at_353 rfl rfl ?_
        refine Wl.iload 357 at_355 rfl ?_
        refine Wl.iconst 358 (2 : Int32) at_357 (by decide) ?_
        refine Wl.iadd 359 at_358 ?_
        show WlO _ _ _ _ _ _ _ _ _ _ _ _ _ _ _ _ _ _ [.int (2 : Int32), .ref a1, .int c2]
        refine Wl.caload 360 2 at_359 ((A39.ext E45).ext E52) (by decide) (by decide) (by decide) rfl ?_
        refine Wl.icmpN 363 at_360 (teq rfl).2 ?_
        refine Wl.iconst 364 (1 : Int32) at_363 (by decide) ?_
        refine Wl.goto 368 at_364 ?_
        refine Wl.istore 370 #[.val (.int i0), .val (.int i1), .val (.int i2), .val (.int i3), .val (.int i4), .val (.int (3 : Int32)), .val (.ref a1), .val (.ref a44), .val (.ref a51), .val (.int (1 : Int32)), .val (.int (0 : Int32)), .val (.int (1 : Int32)), .val (.int (0 : Int32)), .val (.int (0 : Int32)), .val (.int (3 : Int32)), .val (.int (3 : Int32)), .val (.int (1 : Int32))] at_368 rfl ?_
        refine Wl.iload 372 at_370 rfl ?_
        refine Wl.ifN 375 at_372 (feq (by decide)).1 ?_
        refine Wl.iload 377 at_375 rfl ?_
        refine Wl.iconst 378 (3 : Int32) at_377 (by decide) ?_
        refine Wl.icmpY 404 at_378 (flt (by decide)).2.2.2 ?_
        refine Wl.iload 406 at_404 rfl ?_
        exact Wl.ireturn at_406 rfl rfl (by simp) (nle rfl) (nle rfl) rfl
      · refine Wl.ifY 123 at_116 (feq c93).2 ?_
        refine Wl.iconst 124 (0 : Int32) at_123 (by decide) ?_
        refine Wl.istore 126 #[.val (.int i0), .val (.int i1), .val (.int i2), .val (.int i3), .val (.int i4), .val (.int (3 : Int32)), .val (.ref a1), .val (.ref a44), .val (.ref a51), .val (.int (1 : Int32)), .val (.int (0 : Int32)), .val (.int (0 : Int32)), .unset, .unset, .unset, .unset, .unset] at_124 rfl ?_
        refine Wl.iload 128 at_126 rfl ?_
        refine Wl.iconst 129 (3 : Int32) at_128 (by decide) ?_
        refine Wl.icmpY 146 at_129 (flt (by decide)).2.2.2 ?_
        refine Wl.iconst 147 (0 : Int32) at_146 (by decide) ?_
        refine Wl.istore 149 #[.val (.int i0), .val (.int i1), .val (.int i2), .val (.int i3), .val (.int i4), .val (.int (3 : Int32)), .val (.ref a1), .val (.ref a44), .val (.ref a51), .val (.int (1 : Int32)), .val (.int (0 : Int32)), .val (.int (0 : Int32)), .val (.int (0 : Int32)), .unset, .unset, .unset, .unset] at_147 rfl ?_
        refine Wl.iload 151 at_149 rfl ?_
        refine Wl.ifN 154 at_151 (feq (by decide)).1 ?_
        refine Wl.iconst 155 (0 : Int32) at_154 (by decide) ?_
        refine Wl.istore 157 #[.val (.int i0), .val (.int i1), .val (.int i2), .val (.int i3), .val (.int i4), .val (.int (3 : Int32)), .val (.ref a1), .val (.ref a44), .val (.ref a51), .val (.int (1 : Int32)), .val (.int (0 : Int32)), .val (.int (0 : Int32)), .val (.int (0 : Int32)), .val (.int (0 : Int32)), .unset, .unset, .unset] at_155 rfl ?_
        refine Wl.goto 197 at_157 ?_
        refine Wl.iload 199 at_197 rfl ?_
        refine Wl.iload 201 at_199 rfl ?_
        refine Wl.icmpY 211 at_201 (feq (by decide)).2 ?_
        refine Wl.iload 213 at_211 rfl ?_
        refine Wl.ifY 222 at_213 (teq (by decide)).1 ?_
        refine Wl.iload 224 at_222 rfl ?_
        refine Wl.ifY 233 at_224 (teq (by decide)).1 ?_
        refine Wl.iload 235 at_233 rfl ?_
        refine Wl.ifY 244 at_235 (teq (by decide)).1 ?_
        refine Wl.iconst 245 (1 : Int32) at_244 (by decide) ?_
        refine Wl.istore 247 #[.val (.int i0), .val (.int i1), .val (.int i2), .val (.int i3), .val (.int i4), .val (.int (3 : Int32)), .val (.ref a1), .val (.ref a44), .val (.ref a51), .val (.int (1 : Int32)), .val (.int (0 : Int32)), .val (.int (0 : Int32)), .val (.int (0 : Int32)), .val (.int (0 : Int32)), .val (.int (1 : Int32)), .unset, .unset] at_245 rfl ?_
        refine Wl.iload 249 at_247 rfl ?_
        refine Wl.iload 251 at_249 rfl ?_
        refine Wl.isub 252 at_251 ?_
        show WlO _ _ _ _ _ _ _ _ _ _ _ _ _ _ _ _ _ _ [.int (1 : Int32)]
        refine Wl.istore 254 #[.val (.int i0), .val (.int i1), .val (.int i2), .val (.int i3), .val (.int i4), .val (.int (3 : Int32)), .val (.ref a1), .val (.ref a44), .val (.ref a51), .val (.int (1 : Int32)), .val (.int (0 : Int32)), .val (.int (0 : Int32)), .val (.int (0 : Int32)), .val (.int (0 : Int32)), .val (.int (1 : Int32)), .val (.int (1 : Int32)), .unset] at_252 rfl ?_
        refine Wl.aload 256 at_254 rfl rfl ?_
        have S107 := S53
        rw [show trimL [c0, c1, c2] = [c0] by simp [trimL, isp, List.dropWhile, c58, c62, c93]] at S107
        refine Wl.virtual 259 (argsL := []) at_256 (w59 hw) (w35 hw) (w37 hw) (w36 hw) (w11 hw) (w38 hw) (nf_sel (w37 hw) rfl) (S53).exa (show parseMethodDescriptor "()I" = some ⟨[], some .int⟩ by decide +kernel) rfl (len_met hw hcs S107) (fun _ q => nomatch q) rfl rfl rfl (by decide) ⟨⟨nle rfl, nle rfl⟩, nle rfl, nle rfl⟩ ?_
        intro v108 h109 hq110 _
        obtain ⟨rfl, rfl⟩ := hq110
        show WlO _ _ _ _ _ _ _ _ _ _ _ _ _ _ _ _ _ _ [.int (1 : Int32)]
        refine Wl.iload 261 at_259 rfl ?_
        refine Wl.icmpN 264 at_261 (teq (by decide)).2 ?_
        refine Wl.iconst 265 (1 : Int32) at_264 (by decide) ?_
        refine Wl.goto 269 at_265 ?_
        refine Wl.istore 271 #[.val (.int i0), .val (.int i1), .val (.int i2), .val (.int i3), .val (.int i4), .val (.int (3 : Int32)), .val (.ref a1), .val (.ref a44), .val (.ref a51), .val (.int (1 : Int32)), .val (.int (0 : Int32)), .val (.int (0 : Int32)), .val (.int (0 : Int32)), .val (.int (0 : Int32)), .val (.int (1 : Int32)), .val (.int (1 : Int32)), .val (.int (1 : Int32))] at_269 rfl ?_
        refine Wl.iload 273 at_271 rfl ?_
        refine Wl.ifN 276 at_273 (feq (by decide)).1 ?_
        refine Wl.iload 278 at_276 rfl ?_
        refine Wl.ifN 281 at_278 (tlt (by decide)).2.2.2 ?_
        refine Wl.aload 283 at_281 rfl rfl ?_
        refine Wl.iconst 284 (0 : Int32) at_283 (by decide) ?_
        refine Wl.virtual 287 (argsL := [.int (0 : Int32)]) at_284 (w121 hw) (w71 hw) (w73 hw) (w72 hw) (w11 hw) (w74 hw) (nf_sel (w73 hw) rfl) (S53).exa (show parseMethodDescriptor "(I)C" = some ⟨[.int], some .char⟩ by decide +kernel) rfl (charAt_met hw hcs hfm S107 (i := 0) (nle rfl)) (fun _ q => nomatch q) rfl rfl rfl (by decide) ⟨⟨nle rfl, nle rfl⟩, nle rfl, nle rfl⟩ ?_
        intro v111 h112 hq113 _
        obtain ⟨rfl, rfl⟩ := hq113
        show WlO _ _ _ _ _ _ _ _ _ _ _ _ _ _ _ _ _ _ [.int c0]
        refine Wl.aload 289 at_287 rfl rfl ?_
        refine Wl.iload 291 at_289 rfl ?_
        refine Wl.caload 292 0 at_291 ((A39.ext E45).ext E52) (by decide) (by decide) (by decide) rfl ?_
        refine Wl.icmpN 295 at_292 (teq rfl).2 ?_
        refine Wl.iconst 296 (1 : Int32) at_295 (by decide) ?_
        refine Wl.goto 300 at_296 ?_
        refine Wl.istore 302 #[.val (.int i0), .val (.int i1), .val (.int i2), .val (.int i3), .val (.int i4), .val (.int (3 : Int32)), .val (.ref a1), .val (.ref a44), .val (.ref a51), .val (.int (1 : Int32)), .val (.int (0 : Int32)), .val (.int (0 : Int32)), .val (.int (0 : Int32)), .val (.int (0 : Int32)), .val (.int (1 : Int32)), .val (.int (1 : Int32)), .val (.int (1 : Int32))] at_300 rfl ?_
        refine Wl.iload 304 at_302 rfl ?_
        refine Wl.ifN 307 at_304 (feq (by decide)).1 ?_
        refine Wl.iload 309 at_307 rfl ?_
        refine Wl.iconst 310 (1 : Int32) at_309 (by decide) ?_
        refine Wl.icmpY 336 at_310 (flt (by decide)).2.2.2 ?_
        refine Wl.iload 338 at_336 rfl ?_
        refine Wl.ifN 341 at_338 (feq (by decide)).1 ?_
        refine Wl.iload 343 at_341 rfl ?_
        refine Wl.iconst 344 (2 : Int32) at_343 (by decide) ?_
        refine Wl.icmpY 370 at_344 (flt (by decide)).2.2.2 ?_
        refine Wl.iload 372 at_370 rfl ?_
        refine Wl.ifN 375 at_372 (feq (by decide)).1 ?_
        refine Wl.iload 377 at_375 rfl ?_
        refine Wl.iconst 378 (3 : Int32) at_377 (by decide) ?_
        refine Wl.icmpY 404 at_378 (flt (by decide)).2.2.2 ?_
        refine Wl.iload 406 at_404 rfl ?_
        exact Wl.ireturn at_406 rfl rfl (by simp) (nle rfl) (nle rfl) rfl
  · refine Wl.ifY 77 at_70 (feq c58).2 ?_
    refine Wl.iconst 78 (0 : Int32) at_77 (by decide) ?_
    refine Wl.istore 80 #[.val (.int i0), .val (.int i1), .val (.int i2), .val (.int i3), .val (.int i4), .val (.int (3 : Int32)), .val (.ref a1), .val (.ref a44), .val (.ref a51), .val (.int (0 : Int32)), .unset, .unset, .unset, .unset, .unset, .unset, .unset] at_78 rfl ?_
    refine Wl.iload 82 at_80 rfl ?_
    refine Wl.iconst 83 (1 : Int32) at_82 (by decide) ?_
    refine Wl.icmpN 86 at_83 (tlt (by decide)).2.2.2 ?_
    refine Wl.aload 88 at_86 rfl rfl ?_
    refine Wl.iconst 89 (1 : Int32) at_88 (by decide) ?_
    refine Wl.caload 90 1 at_89 ((A39.ext E45).ext E52) (by decide) (by decide) (by decide) rfl ?_
    refine Wl.static 93 (argsL := [.int c1]) at_90 (w118 hw) (w119 hw) (w4 hw) (w120 hw) (show parseMethodDescriptor "(C)Z" = some ⟨[.char], some .boolean⟩ by decide +kernel) rfl (sp_met hw) (fun _ q => nomatch q) rfl rfl rfl (by decide) ⟨⟨nle rfl, nle rfl⟩, nle rfl, nle rfl⟩ ?_
    intro v114 h115 hq116 _
    obtain ⟨rfl, rfl⟩ := hq116
    show WlO _ _ _ _ _ _ _ _ _ _ _ _ _ _ _ _ _ _ [.int (spI c1)]
    by_cases c117 : (spI c1) = (0 : Int32)
    · refine Wl.ifN 96 at_93 (teq c117).2 ?_
      refine Wl.iconst 97 (1 : Int32) at_96 (by decide) ?_
      refine Wl.goto 101 at_97 ?_
      refine Wl.istore 103 #[.val (.int i0), .val (.int i1), .val (.int i2), .val (.int i3), .val (.int i4), .val (.int (3 : Int32)), .val (.ref a1), .val (.ref a44), .val (.ref a51), .val (.int (0 : Int32)), .val (.int (1 : Int32)), .unset, .unset, .unset, .unset, .unset, .unset] at_101 rfl ?_
      refine Wl.iload 105 at_103 rfl ?_
      refine Wl.iconst 106 (2 : Int32) at_105 (by decide) ?_
      refine Wl.icmpN 109 at_106 (tlt (by decide)).2.2.2 ?_
      refine Wl.aload 111 at_109 rfl rfl ?_
      refine Wl.iconst 112 (2 : Int32) at_111 (by decide) ?_
      refine Wl.caload 113 2 at_112 ((A39.ext E45).ext E52) (by decide) (by decide) (by decide) rfl ?_
      refine Wl.static 116 (argsL := [.int c2]) at_113 (w118 hw) (w119 hw) (w4 hw) (w120 hw) (show parseMethodDescriptor "(C)Z" = some ⟨[.char], some .boolean⟩ by decide +kernel) rfl (sp_met hw) (fun _ q => nomatch q) rfl rfl rfl (by decide) ⟨⟨nle rfl, nle rfl⟩, nle rfl, nle rfl⟩ ?_
      intro v118 h119 hq120 _
      obtain ⟨rfl, rfl⟩ := hq120
      show WlO _ _ _ _ _ _ _ _ _ _ _ _ _ _ _ _ _ _ [.int (spI c2)]
      by_cases c121 : (spI c2) = (0 : Int32)
      · refine Wl.ifN 119 at_116 (teq c121).2 ?_
        refine Wl.iconst 120 (1 : Int32) at_119 (by decide) ?_
        refine Wl.goto 124 at_120 ?_
        refine Wl.istore 126 #[.val (.int i0), .val (.int i1), .val (.int i2), .val (.int i3), .val (.int i4), .val (.int (3 : Int32)), .val (.ref a1), .val (.ref a44), .val (.ref a51), .val (.int (0 : Int32)), .val (.int (1 : Int32)), .val (.int (1 : Int32)), .unset, .unset, .unset, .unset, .unset] at_124 rfl ?_
        refine Wl.iload 128 at_126 rfl ?_
        refine Wl.iconst 129 (3 : Int32) at_128 (by decide) ?_
        refine Wl.icmpY 146 at_129 (flt (by decide)).2.2.2 ?_
        refine Wl.iconst 147 (0 : Int32) at_146 (by decide) ?_
        refine Wl.istore 149 #[.val (.int i0), .val (.int i1), .val (.int i2), .val (.int i3), .val (.int i4), .val (.int (3 : Int32)), .val (.ref a1), .val (.ref a44), .val (.ref a51), .val (.int (0 : Int32)), .val (.int (1 : Int32)), .val (.int (1 : Int32)), .val (.int (0 : Int32)), .unset, .unset, .unset, .unset] at_147 rfl ?_
        refine Wl.iload 151 at_149 rfl ?_
        refine Wl.ifY 160 at_151 (teq (by decide)).1 ?_
        refine Wl.iload 162 at_160 rfl ?_
        refine Wl.ifN 165 at_162 (feq (by decide)).1 ?_
        refine Wl.iconst 166 (1 : Int32) at_165 (by decide) ?_
        refine Wl.istore 168 #[.val (.int i0), .val (.int i1), .val (.int i2), .val (.int i3), .val (.int i4), .val (.int (3 : Int32)), .val (.ref a1), .val (.ref a44), .val (.ref a51), .val (.int (0 : Int32)), .val (.int (1 : Int32)), .val (.int (1 : Int32)), .val (.int (0 : Int32)), .val (.int (1 : Int32)), .unset, .unset, .unset] at_166 rfl ?_
        refine Wl.goto 197 at_168 ?_
        refine Wl.iload 199 at_197 rfl ?_
        refine Wl.iload 201 at_199 rfl ?_
        refine Wl.icmpY 211 at_201 (feq (by decide)).2 ?_
        refine Wl.iload 213 at_211 rfl ?_
        refine Wl.ifY 222 at_213 (teq (by decide)).1 ?_
        refine Wl.iload 224 at_222 rfl ?_
        refine Wl.ifN 227 at_224 (feq (by decide)).1 ?_
        refine Wl.iconst 228 (3 : Int32) at_227 (by decide) ?_
        refine Wl.istore 230 #[.val (.int i0), .val (.int i1), .val (.int i2), .val (.int i3), .val (.int i4), .val (.int (3 : Int32)), .val (.ref a1), .val (.ref a44), .val (.ref a51), .val (.int (0 : Int32)), .val (.int (1 : Int32)), .val (.int (1 : Int32)), .val (.int (0 : Int32)), .val (.int (1 : Int32)), .val (.int (3 : Int32)), .unset, .unset] at_228 rfl ?_
        refine Wl.goto 247 at_230 ?_
        refine Wl.iload 249 at_247 rfl ?_
        refine Wl.iload 251 at_249 rfl ?_
        refine Wl.isub 252 at_251 ?_
        show WlO _ _ _ _ _ _ _ _ _ _ _ _ _ _ _ _ _ _ [.int (2 : Int32)]
        refine Wl.istore 254 #[.val (.int i0), .val (.int i1), .val (.int i2), .val (.int i3), .val (.int i4), .val (.int (3 : Int32)), .val (.ref a1), .val (.ref a44), .val (.ref a51), .val (.int (0 : Int32)), .val (.int (1 : Int32)), .val (.int (1 : Int32)), .val (.int (0 : Int32)), .val (.int (1 : Int32)), .val (.int (3 : Int32)), .val (.int (2 : Int32)), .unset] at_252 rfl ?_
        refine Wl.aload 256 at_254 rfl rfl ?_
        have S122 := S53
        rw [show trimL [c0, c1, c2] = [c1, c2] by simp [trimL, isp, List.dropWhile, c58, c117, c121]] at S122
        refine Wl.virtual 259 (argsL := []) at_256 (w59 hw) (w35 hw) (w37 hw) (w36 hw) (w11 hw) (w38 hw) (nf_sel (w37 hw) rfl) (S53).exa (show parseMethodDescriptor "()I" = some ⟨[], some .int⟩ by decide +kernel) rfl (len_met hw hcs S122) (fun _ q => nomatch q) rfl rfl rfl (by decide) ⟨⟨nle rfl, nle rfl⟩, nle rfl, nle rfl⟩ ?_
        intro v123 h124 hq125 _
        obtain ⟨rfl, rfl⟩ := hq125
        show WlO _ _ _ _ _ _ _ _ _ _ _ _ _ _ _ _ _ _ [.int (2 : Int32)]
        refine Wl.iload 261 at_259 rfl ?_
        refine Wl.icmpN 264 at_261 (teq (by decide)).2 ?_
        refine Wl.iconst 265 (1 : Int32) at_264 (by decide) ?_
        refine Wl.goto 269 at_265 ?_
        refine Wl.istore 271 #[.val (.int i0), .val (.int i1), .val (.int i2), .val (.int i3), .val (.int i4), .val (.int (3 : Int32)), .val (.ref a1), .val (.ref a44), .val (.ref a51), .val (.int (0 : Int32)), .val (.int (1 : Int32)), .val (.int (1 : Int32)), .val (.int (0 : Int32)), .val (.int (1 : Int32)), .val (.int (3 : Int32)), .val (.int (2 : Int32)), .val (.int (1 : Int32))] at_269 rfl ?_
        refine Wl.iload 273 at_271 rfl ?_
        refine Wl.ifN 276 at_273 (feq (by decide)).1 ?_
        refine Wl.iload 278 at_276 rfl ?_
        refine Wl.ifN 281 at_278 (tlt (by decide)).2.2.2 ?_
        refine Wl.aload 283 at_281 rfl rfl ?_
        refine Wl.iconst 284 (0 : Int32) at_283 (by decide) ?_
        refine Wl.virtual 287 (argsL := [.int (0 : Int32)]) at_284 (w121 hw) (w71 hw) (w73 hw) (w72 hw) (w11 hw) (w74 hw) (nf_sel (w73 hw) rfl) (S53).exa (show parseMethodDescriptor "(I)C" = some ⟨[.int], some .char⟩ by decide +kernel) rfl (charAt_met hw hcs hfm S122 (i := 0) (nle rfl)) (fun _ q => nomatch q) rfl rfl rfl (by decide) ⟨⟨nle rfl, nle rfl⟩, nle rfl, nle rfl⟩ ?_
        intro v126 h127 hq128 _
        obtain ⟨rfl, rfl⟩ := hq128
        show WlO _ _ _ _ _ _ _ _ _ _ _ _ _ _ _ _ _ _ [.int c1]
        refine Wl.aload 289 at_287 rfl rfl ?_
        refine Wl.iload 291 at_289 rfl ?_
        refine Wl.caload 292 1 at_291 ((A39.ext E45).ext E52) (by decide) (by decide) (by decide) rfl ?_
        refine Wl.icmpN 295 at_292 (teq rfl).2 ?_
        refine Wl.iconst 296 (1 : Int32) at_295 (by decide) ?_
        refine Wl.goto 300 at_296 ?_
        refine Wl.istore 302 #[.val (.int i0), .val (.int i1), .val (.int i2), .val (.int i3), .val (.int i4), .val (.int (3 : Int32)), .val (.ref a1), .val (.ref a44), .val (.ref a51), .val (.int (0 : Int32)), .val (.int (1 : Int32)), .val (.int (1 : Int32)), .val (.int (0 : Int32)), .val (.int (1 : Int32)), .val (.int (3 : Int32)), .val (.int (2 : Int32)), .val (.int (1 : Int32))] at_300 rfl ?_
        refine Wl.iload 304 at_302 rfl ?_
        refine Wl.ifN 307 at_304 (feq (by decide)).1 ?_
        refine Wl.iload 309 at_307 rfl ?_
        refine Wl.iconst 310 (1 : Int32) at_309 (by decide) ?_
        refine Wl.icmpN 313 at_310 (tlt (by decide)).2.2.2 ?_
        refine Wl.aload 315 at_313 rfl rfl ?_
        refine Wl.iconst 316 (1 : Int32) at_315 (by decide) ?_
        refine Wl.virtual 319 (argsL := [.int (1 : Int32)]) at_316 (w121 hw) (w71 hw) (w73 hw) (w72 hw) (w11 hw) (w74 hw) (nf_sel (w73 hw) rfl) (S53).exa (show parseMethodDescriptor "(I)C" = some ⟨[.int], some .char⟩ by decide +kernel) rfl (charAt_met hw hcs hfm S122 (i := 1) (nle rfl)) (fun _ q => nomatch q) rfl rfl rfl (by decide) ⟨⟨nle rfl, nle rfl⟩, nle rfl, nle rfl⟩ ?_
        intro v129 h130 hq131 _
        obtain ⟨rfl, rfl⟩ := hq131
        show WlO _ _ _ _ _ _ _ _ _ _ _ _ _ _ _ _ _ _ [.int c2]
        refine Wl.aload 321 at_319 rfl rfl ?_
        refine Wl.iload 323 at_321 rfl ?_
        refine Wl.iconst 324 (1 : Int32) at_323 (by decide) ?_
        refine Wl.iadd 325 at_324 ?_
        show WlO _ _ _ _ _ _ _ _ _ _ _ _ _ _ _ _ _ _ [.int (2 : Int32), .ref a1, .int c2]
        refine Wl.caload 326 2 at_325 ((A39.ext E45).ext E52) (by decide) (by decide) (by decide) rfl ?_
        refine Wl.icmpN 329 at_326 (teq rfl).2 ?_
        refine Wl.iconst 330 (1 : Int32) at_329 (by decide) ?_
        refine Wl.goto 334 at_330 ?_
        refine Wl.istore 336 #[.val (.int i0), .val (.int i1), .val (.int i2), .val (.int i3), .val (.int i4), .val (.int (3 : Int32)), .val (.ref a1), .val (.ref a44), .val (.ref a51), .val (.int (0 : Int32)), .val (.int (1 : Int32)), .val (.int (1 : Int32)), .val (.int (0 : Int32)), .val (.int (1 : Int32)), .val (.int (3 : Int32)), .val (.int (2 : Int32)), .val (.int (1 : Int32))] at_334 rfl ?_
        refine Wl.iload 338 at_336 rfl ?_
        refine Wl.ifN 341 at_338 (feq (by decide)).1 ?_
        refine Wl.iload 343 at_341 rfl ?_
        refine Wl.iconst 344 (2 : Int32) at_343 (by decide) ?_
        refine Wl.icmpY 370 at_344 (flt (by decide)).2.2.2 ?_
        refine Wl.iload 372 at_370 rfl ?_
        refine Wl.ifN 375 at_372 (feq (by decide)).1 ?_
        refine Wl.iload 377 at_375 rfl ?_
        refine Wl.iconst 378 (3 : Int32) at_377 (by decide) ?_
        refine Wl.icmpY 404 at_378 (flt (by decide)).2.2.2 ?_
        refine Wl.iload 406 at_404 rfl ?_
        exact Wl.ireturn at_406 rfl rfl (by simp) (nle rfl) (nle rfl) rfl
      · refine Wl.ifY 123 at_116 (feq c121).2 ?_
        refine Wl.iconst 124 (0 : Int32) at_123 (by decide) ?_
        refine Wl.istore 126 #[.val (.int i0), .val (.int i1), .val (.int i2), .val (.int i3), .val (.int i4), .val (.int (3 : Int32)), .val (.ref a1), .val (.ref a44), .val (.ref a51), .val (.int (0 : Int32)), .val (.int (1 : Int32)), .val (.int (0 : Int32)), .unset, .unset, .unset, .unset, .unset] at_124 rfl ?_
        refine Wl.iload 128 at_126 rfl ?_
        refine Wl.iconst 129 (3 : Int32) at_128 (by decide) ?_
        refine Wl.icmpY 146 at_129 (flt (by decide)).2.2.2 ?_
        refine Wl.iconst 147 (0 : Int32) at_146 (by decide) ?_
        refine Wl.istore 149 #[.val (.int i0), .val (.int i1), .val (.int i2), .val (.int i3), .val (.int i4), .val (.int (3 : Int32)), .val (.ref a1), .val (.ref a44), .val (.ref a51), .val (.int (0 : Int32)), .val (.int (1 : Int32)), .val (.int (0 : Int32)), .val (.int (0 : Int32)), .unset, .unset, .unset, .unset] at_147 rfl ?_
        refine Wl.iload 151 at_149 rfl ?_
        refine Wl.ifY 160 at_151 (teq (by decide)).1 ?_
        refine Wl.iload 162 at_160 rfl ?_
        refine Wl.ifN 165 at_162 (feq (by decide)).1 ?_
        refine Wl.iconst 166 (1 : Int32) at_165 (by decide) ?_
        refine Wl.istore 168 #[.val (.int i0), .val (.int i1), .val (.int i2), .val (.int i3), .val (.int i4), .val (.int (3 : Int32)), .val (.ref a1), .val (.ref a44), .val (.ref a51), .val (.int (0 : Int32)), .val (.int (1 : Int32)), .val (.int (0 : Int32)), .val (.int (0 : Int32)), .val (.int (1 : Int32)), .unset, .unset, .unset] at_166 rfl ?_
        refine Wl.goto 197 at_168 ?_
        refine Wl.iload 199 at_197 rfl ?_
        refine Wl.iload 201 at_199 rfl ?_
        refine Wl.icmpY 211 at_201 (feq (by decide)).2 ?_
        refine Wl.iload 213 at_211 rfl ?_
        refine Wl.ifY 222 at_213 (teq (by decide)).1 ?_
        refine Wl.iload 224 at_222 rfl ?_
        refine Wl.ifY 233 at_224 (teq (by decide)).1 ?_
        refine Wl.iload 235 at_233 rfl ?_
        refine Wl.ifN 238 at_235 (feq (by decide)).1 ?_
        refine Wl.iconst 239 (2 : Int32) at_238 (by decide) ?_
        refine Wl.istore 241 #[.val (.int i0), .val (.int i1), .val (.int i2), .val (.int i3), .val (.int i4), .val (.int (3 : Int32)), .val (.ref a1), .val (.ref a44), .val (.ref a51), .val (.int (0 : Int32)), .val (.int (1 : Int32)), .val (.int (0 : Int32)), .val (.int (0 : Int32)), .val (.int (1 : Int32)), .val (.int (2 : Int32)), .unset, .unset] at_239 rfl ?_
        refine Wl.goto 247 at_241 ?_
        refine Wl.iload 249 at_247 rfl ?_
        refine Wl.iload 251 at_249 rfl ?_
        refine Wl.isub 252 at_251 ?_
        show WlO _ _ _ _ _ _ _ _ _ _ _ _ _ _ _ _ _ _ [.int (1 : Int32)]
        refine Wl.istore 254 #[.val (.int i0), .val (.int i1), .val (.int i2), .val (.int i3), .val (.int i4), .val (.int (3 : Int32)), .val (.ref a1), .val (.ref a44), .val (.ref a51), .val (.int (0 : Int32)), .val (.int (1 : Int32)), .val (.int (0 : Int32)), .val (.int (0 : Int32)), .val (.int (1 : Int32)), .val (.int (2 : Int32)), .val (.int (1 : Int32)), .unset] at_252 rfl ?_
        refine Wl.aload 256 at_254 rfl rfl ?_
        have S132 := S53
        rw [show trimL [c0, c1, c2] = [c1] by simp [trimL, isp, List.dropWhile, c58, c117, c121]] at S132
        refine Wl.virtual 259 (argsL := []) at_256 (w59 hw) (w35 hw) (w37 hw) (w36 hw) (w11 hw) (w38 hw) (nf_sel (w37 hw) rfl) (S53).exa (show parseMethodDescriptor "()I" = some ⟨[], some .int⟩ by decide +kernel) rfl (len_met hw hcs S132) (fun _ q => nomatch q) rfl rfl rfl (by decide) ⟨⟨nle rfl, nle rfl⟩, nle rfl, nle rfl⟩ ?_
        intro v133 h134 hq135 _
        obtain ⟨rfl, rfl⟩ := hq135
        show WlO _ _ _ _ _ _ _ _ _ _ _ _ _ _ _ _ _ _ [.int (1 : Int32)]
        refine Wl.iload 261 at_259 rfl ?_
        refine Wl.icmpN 264 at_261 (teq (by decide)).2 ?_
        refine Wl.iconst 265 (1 : Int32) at_264 (by decide) ?_
        refine Wl.goto 269 at_265 ?_
        refine Wl.istore 271 #[.val (.int i0), .val (.int i1), .val (.int i2), .val (.int i3), .val (.int i4), .val (.int (3 : Int32)), .val (.ref a1), .val (.ref a44), .val (.ref a51), .val (.int (0 : Int32)), .val (.int (1 : Int32)), .val (.int (0 : Int32)), .val (.int (0 : Int32)), .val (.int (1 : Int32)), .val (.int (2 : Int32)), .val (.int (1 : Int32)), .val (.int (1 : Int32))] at_269 rfl ?_
        refine Wl.iload 273 at_271 rfl ?_
        refine Wl.ifN 276 at_273 (feq (by decide)).1 ?_
        refine Wl.iload 278 at_276 rfl ?_
        refine Wl.ifN 281 at_278 (tlt (by decide)).2.2.2 ?_
        refine Wl.aload 283 at_281 rfl rfl ?_
        refine Wl.iconst 284 (0 : Int32) at_283 (by decide) ?_
        refine Wl.virtual 287 (argsL := [.int (0 : Int32)]) at_284 (w121 hw) (w71 hw) (w73 hw) (w72 hw) (w11 hw) (w74 hw) (nf_sel (w73 hw) rfl) (S53).exa (show parseMethodDescriptor "(I)C" = some ⟨[.int], some .char⟩ by decide +kernel) rfl (charAt_met hw hcs hfm S132 (i := 0) (nle rfl)) (fun _ q => nomatch q) rfl rfl rfl (by decide) ⟨⟨nle rfl, nle rfl⟩, nle rfl, nle rfl⟩ ?_
        intro v136 h137 hq138 _
        obtain ⟨rfl, rfl⟩ := hq138
        show WlO _ _ _ _ _ _ _ _ _ _ _ _ _ _ _ _ _ _ [.int c1]
        refine Wl.aload 289 at_287 rfl rfl ?_
        refine Wl.iload 291 at_289 rfl ?_
        refine Wl.caload 292 1 at_291 ((A39.ext E45).ext E52) (by decide) (by decide) (by decide) rfl ?_
        refine Wl.icmpN 295 at_292 (teq rfl).2 ?_
        refine Wl.iconst 296 (1 : Int32) at_295 (by decide) ?_
        refine Wl.goto 300 at_296 ?_
        refine Wl.istore 302 #[.val (.int i0), .val (.int i1), .val (.int i2), .val (.int i3), .val (.int i4), .val (.int (3 : Int32)), .val (.ref a1), .val (.ref a44), .val (.ref a51), .val (.int (0 : Int32)), .val (.int (1 : Int32)), .val (.int (0 : Int32)), .val (.int (0 : Int32)), .val (.int (1 : Int32)), .val (.int (2 : Int32)), .val (.int (1 : Int32)), .val (.int (1 : Int32))] at_300 rfl ?_
        refine Wl.iload 304 at_302 rfl ?_
        refine Wl.ifN 307 at_304 (feq (by decide)).1 ?_
        refine Wl.iload 309 at_307 rfl ?_
        refine Wl.iconst 310 (1 : Int32) at_309 (by decide) ?_
        refine Wl.icmpY 336 at_310 (flt (by decide)).2.2.2 ?_
        refine Wl.iload 338 at_336 rfl ?_
        refine Wl.ifN 341 at_338 (feq (by decide)).1 ?_
        refine Wl.iload 343 at_341 rfl ?_
        refine Wl.iconst 344 (2 : Int32) at_343 (by decide) ?_
        refine Wl.icmpY 370 at_344 (flt (by decide)).2.2.2 ?_
        refine Wl.iload 372 at_370 rfl ?_
        refine Wl.ifN 375 at_372 (feq (by decide)).1 ?_
        refine Wl.iload 377 at_375 rfl ?_
        refine Wl.iconst 378 (3 : Int32) at_377 (by decide) ?_
        refine Wl.icmpY 404 at_378 (flt (by decide)).2.2.2 ?_
        refine Wl.iload 406 at_404 rfl ?_
        exact Wl.ireturn at_406 rfl rfl (by simp) (nle rfl) (nle rfl) rfl
    · refine Wl.ifY 100 at_93 (feq c117).2 ?_
      refine Wl.iconst 101 (0 : Int32) at_100 (by decide) ?_
      refine Wl.istore 103 #[.val (.int i0), .val (.int i1), .val (.int i2), .val (.int i3), .val (.int i4), .val (.int (3 : Int32)), .val (.ref a1), .val (.ref a44), .val (.ref a51), .val (.int (0 : Int32)), .val (.int (0 : Int32)), .unset, .unset, .unset, .unset, .unset, .unset] at_101 rfl ?_
      refine Wl.iload 105 at_103 rfl ?_
      refine Wl.iconst 106 (2 : Int32) at_105 (by decide) ?_
      refine Wl.icmpN 109 at_106 (tlt (by decide)).2.2.2 ?_
      refine Wl.aload 111 at_109 rfl rfl ?_
      refine Wl.iconst 112 (2 : Int32) at_111 (by decide) ?_
      refine Wl.caload 113 2 at_112 ((A39.ext E45).ext E52) (by decide) (by decide) (by decide) rfl ?_
      refine Wl.static 116 (argsL := [.int c2]) at_113 (w118 hw) (w119 hw) (w4 hw) (w120 hw) (show parseMethodDescriptor "(C)Z" = some ⟨[.char], some .boolean⟩ by decide +kernel) rfl (sp_met hw) (fun _ q => nomatch q) rfl rfl rfl (by decide) ⟨⟨nle rfl, nle rfl⟩, nle rfl, nle rfl⟩ ?_
      intro v139 h140 hq141 _
      obtain ⟨rfl, rfl⟩ := hq141
      show WlO _ _ _ _ _ _ _ _ _ _ _ _ _ _ _ _ _ _ [.int (spI c2)]
      by_cases c142 : (spI c2) = (0 : Int32)
      · refine Wl.ifN 119 at_116 (teq c142).2 ?_
        refine Wl.iconst 120 (1 : Int32) at_119 (by decide) ?_
        refine Wl.goto 124 at_120 ?_
        refine Wl.istore 126 #[.val (.int i0), .val (.int i1), .val (.int i2), .val (.int i3), .val (.int i4), .val (.int (3 : Int32)), .val (.ref a1), .val (.ref a44), .val (.ref a51), .val (.int (0 : Int32)), .val (.int (0 : Int32)), .val (.int (1 : Int32)), .unset, .unset, .unset, .unset, .unset] at_124 rfl ?_
        refine Wl.iload 128 at_126 rfl ?_
        refine Wl.iconst 129 (3 : Int32) at_128 (by decide) ?_
        refine Wl.icmpY 146 at_129 (flt (by decide)).2.2.2 ?_
        refine Wl.iconst 147 (0 : Int32) at_146 (by decide) ?_
        refine Wl.istore 149 #[.val (.int i0), .val (.int i1), .val (.int i2), .val (.int i3), .val (.int i4), .val (.int (3 : Int32)), .val (.ref a1), .val (.ref a44), .val (.ref a51), .val (.int (0 : Int32)), .val (.int (0 : Int32)), .val (.int (1 : Int32)), .val (.int (0 : Int32)), .unset, .unset, .unset, .unset] at_147 rfl ?_
        refine Wl.iload 151 at_149 rfl ?_
        refine Wl.ifY 160 at_151 (teq (by decide)).1 ?_
        refine Wl.iload 162 at_160 rfl ?_
        refine Wl.ifY 171 at_162 (teq (by decide)).1 ?_
        refine Wl.iload 173 at_171 rfl ?_
        refine Wl.ifN 176 at_173 (feq (by decide)).1 ?_
        refine Wl.iconst 177 (2 : Int32) at_176 (by decide) ?_
        refine Wl.istore 179 #[.val (.int i0), .val (.int i1), .val (.int i2), .val (.int i3), .val (.int i4), .val (.int (3 : Int32)), .val (.ref a1), .val (.ref a44), .val (.ref a51), .val (.int (0 : Int32)), .val (.int (0 : Int32)), .val (.int (1 : Int32)), .val (.int (0 : Int32)), .val (.int (2 : Int32)), .unset, .unset, .unset] at_177 rfl ?_
        refine Wl.goto 197 at_179 ?_
        refine Wl.iload 199 at_197 rfl ?_
        refine Wl.iload 201 at_199 rfl ?_
        refine Wl.icmpY 211 at_201 (feq (by decide)).2 ?_
        refine Wl.iload 213 at_211 rfl ?_
        refine Wl.ifY 222 at_213 (teq (by decide)).1 ?_
        refine Wl.iload 224 at_222 rfl ?_
        refine Wl.ifN 227 at_224 (feq (by decide)).1 ?_
        refine Wl.iconst 228 (3 : Int32) at_227 (by decide) ?_
        refine Wl.istore 230 #[.val (.int i0), .val (.int i1), .val (.int i2), .val (.int i3), .val (.int i4), .val (.int (3 : Int32)), .val (.ref a1), .val (.ref a44), .val (.ref a51), .val (.int (0 : Int32)), .val (.int (0 : Int32)), .val (.int (1 : Int32)), .val (.int (0 : Int32)), .val (.int (2 : Int32)), .val (.int (3 : Int32)), .unset, .unset] at_228 rfl ?_
        refine Wl.goto 247 at_230 ?_
        refine Wl.iload 249 at_247 rfl ?_
        refine Wl.iload 251 at_249 rfl ?_
        refine Wl.isub 252 at_251 ?_
        show WlO _ _ _ _ _ _ _ _ _ _ _ _ _ _ _ _ _ _ [.int (1 : Int32)]
        refine Wl.istore 254 #[.val (.int i0), .val (.int i1), .val (.int i2), .val (.int i3), .val (.int i4), .val (.int (3 : Int32)), .val (.ref a1), .val (.ref a44), .val (.ref a51), .val (.int (0 : Int32)), .val (.int (0 : Int32)), .val (.int (1 : Int32)), .val (.int (0 : Int32)), .val (.int (2 : Int32)), .val (.int (3 : Int32)), .val (.int (1 : Int32)), .unset] at_252 rfl ?_
        refine Wl.aload 256 at_254 rfl rfl ?_
        have S143 := S53
        rw [show trimL [c0, c1, c2] = [c2] by simp [trimL, isp, List.dropWhile, c58, c117, c142]] at S143
        refine Wl.virtual 259 (argsL := []) at_256 (w59 hw) (w35 hw) (w37 hw) (w36 hw) (w11 hw) (w38 hw) (nf_sel (w37 hw) rfl) (S53).exa (show parseMethodDescriptor "()I" = some ⟨[], some .int⟩ by decide +kernel) rfl (len_met hw hcs S143) (fun _ q => nomatch q) rfl rfl rfl (by decide) ⟨⟨nle rfl, nle rfl⟩, nle rfl, nle rfl⟩ ?_
        intro v144 h145 hq146 _
        obtain ⟨rfl, rfl⟩ := hq146
        show WlO _ _ _ _ _ _ _ _ _ _ _ _ _ _ _ _ _ _ [.int (1 : Int32)]
        refine Wl.iload 261 at_259 rfl ?_
        refine Wl.icmpN 264 at_261 (teq (by decide)).2 ?_
        refine Wl.iconst 265 (1 : Int32) at_264 (by decide) ?_
        refine Wl.goto 269 at_265 ?_
        refine Wl.istore 271 #[.val (.int i0), .val (.int i1), .val (.int i2), .val (.int i3), .val (.int i4), .val (.int (3 : Int32)), .val (.ref a1), .val (.ref a44), .val (.ref a51), .val (.int (0 : Int32)), .val (.int (0 : Int32)), .val (.int (1 : Int32)), .val (.int (0 : Int32)), .val (.int (2 : Int32)), .val (.int (3 : Int32)), .val (.int (1 : Int32)), .val (.int (1 : Int32))] at_269 rfl ?_
        refine Wl.iload 273 at_271 rfl ?_
        refine Wl.ifN 276 at_273 (feq (by decide)).1 ?_
        refine Wl.iload 278 at_276 rfl ?_
        refine Wl.ifN 281 at_278 (tlt (by decide)).2.2.2 ?_
        refine Wl.aload 283 at_281 rfl rfl ?_
        refine Wl.iconst 284 (0 : Int32) at_283 (by decide) ?_
        refine Wl.virtual 287 (argsL := [.int (0 : Int32)]) at_284 (w121 hw) (w71 hw) (w73 hw) (w72 hw) (w11 hw) (w74 hw) (nf_sel (w73 hw) rfl) (S53).exa (show parseMethodDescriptor "(I)C" = some ⟨[.int], some .char⟩ by decide +kernel) rfl (charAt_met hw hcs hfm S143 (i := 0) (nle rfl)) (fun _ q => nomatch q) rfl rfl rfl (by decide) ⟨⟨nle rfl, nle rfl⟩, nle rfl, nle rfl⟩ ?_
        intro v147 h148 hq149 _
        obtain ⟨rfl, rfl⟩ := hq149
        show WlO _ _ _ _ _ _ _ _ _ _ _ _ _ _ _ _ _ _ [.int c2]
        refine Wl.aload 289 at_287 rfl rfl ?_
        refine Wl.iload 291 at_289 rfl ?_
        refine Wl.caload 292 2 at_291 ((A39.ext E45).ext E52) (by decide) (by decide) (by decide) rfl ?_
        refine Wl.icmpN 295 at_292 (teq rfl).2 ?_
        refine Wl.iconst 296 (1 : Int32) at_295 (by decide) ?_
        refine Wl.goto 300 at_296 ?_
        refine Wl.istore 302 #[.val (.int i0), .val (.int i1), .val (.int i2), .val (.int i3), .val (.int i4), .val (.int (3 : Int32)), .val (.ref a1), .val (.ref a44), .val (.ref a51), .val (.int (0 : Int32)), .val (.int (0 : Int32)), .val (.int (1 : Int32)), .val (.int (0 : Int32)), .val (.int (2 : Int32)), .val (.int (3 : Int32)), .val (.int (1 : Int32)), .val (.int (1 : Int32))] at_300 rfl ?_
        refine Wl.iload 304 at_302 rfl ?_
        refine Wl.ifN 307 at_304 (feq (by decide)).1 ?_
        refine Wl.iload 309 at_307 rfl ?_
        refine Wl.iconst 310 (1 : Int32) at_309 (by decide) ?_
        refine Wl.icmpY 336 at_310 (flt (by decide)).2.2.2 ?_
        refine Wl.iload 338 at_336 rfl ?_
        refine Wl.ifN 341 at_338 (feq (by decide)).1 ?_
        refine Wl.iload 343 at_341 rfl ?_
        refine Wl.iconst 344 (2 : Int32) at_343 (by decide) ?_
        refine Wl.icmpY 370 at_344 (flt (by decide)).2.2.2 ?_
        refine Wl.iload 372 at_370 rfl ?_
        refine Wl.ifN 375 at_372 (feq (by decide)).1 ?_
        refine Wl.iload 377 at_375 rfl ?_
        refine Wl.iconst 378 (3 : Int32) at_377 (by decide) ?_
        refine Wl.icmpY 404 at_378 (flt (by decide)).2.2.2 ?_
        refine Wl.iload 406 at_404 rfl ?_
        exact Wl.ireturn at_406 rfl rfl (by simp) (nle rfl) (nle rfl) rfl
      · refine Wl.ifY 123 at_116 (feq c142).2 ?_
        refine Wl.iconst 124 (0 : Int32) at_123 (by decide) ?_
        refine Wl.istore 126 #[.val (.int i0), .val (.int i1), .val (.int i2), .val (.int i3), .val (.int i4), .val (.int (3 : Int32)), .val (.ref a1), .val (.ref a44), .val (.ref a51), .val (.int (0 : Int32)), .val (.int (0 : Int32)), .val (.int (0 : Int32)), .unset, .unset, .unset, .unset, .unset] at_124 rfl ?_
        refine Wl.iload 128 at_126 rfl ?_
        refine Wl.iconst 129 (3 : Int32) at_128 (by decide) ?_
        refine Wl.icmpY 146 at_129 (flt (by decide)).2.2.2 ?_
        refine Wl.iconst 147 (0 : Int32) at_146 (by decide) ?_
        refine Wl.istore 149 #[.val (.int i0), .val (.int i1), .val (.int i2), .val (.int i3), .val (.int i4), .val (.int (3 : Int32)), .val (.ref a1), .val (.ref a44), .val (.ref a51), .val (.int (0 : Int32)), .val (.int (0 : Int32)), .val (.int (0 : Int32)), .val (.int (0 : Int32)), .unset, .unset, .unset, .unset] at_147 rfl ?_
        refine Wl.iload 151 at_149 rfl ?_
        refine Wl.ifY 160 at_151 (teq (by decide)).1 ?_
        refine Wl.iload 162 at_160 rfl ?_
        refine Wl.ifY 171 at_162 (teq (by decide)).1 ?_
        refine Wl.iload 173 at_171 rfl ?_
        refine Wl.ifY 182 at_173 (teq (by decide)).1 ?_
        refine Wl.iload 184 at_182 rfl ?_
        refine Wl.ifY 193 at_184 (teq (by decide)).1 ?_
        refine Wl.iload 195 at_193 rfl ?_
        refine Wl.istore 197 #[.val (.int i0), .val (.int i1), .val (.int i2), .val (.int i3), .val (.int i4), .val (.int (3 : Int32)), .val (.ref a1), .val (.ref a44), .val (.ref a51), .val (.int (0 : Int32)), .val (.int (0 : Int32)), .val (.int (0 : Int32)), .val (.int (0 : Int32)), .val (.int (3 : Int32)), .unset, .unset, .unset] at_195 rfl ?_
        refine Wl.iload 199 at_197 rfl ?_
        refine Wl.iload 201 at_199 rfl ?_
        refine Wl.icmpN 204 at_201 (teq (by decide)).2 ?_
        refine Wl.iload 206 at_204 rfl ?_
        refine Wl.istore 208 #[.val (.int i0), .val (.int i1), .val (.int i2), .val (.int i3), .val (.int i4), .val (.int (3 : Int32)), .val (.ref a1), .val (.ref a44), .val (.ref a51), .val (.int (0 : Int32)), .val (.int (0 : Int32)), .val (.int (0 : Int32)), .val (.int (0 : Int32)), .val (.int (3 : Int32)), .val (.int (3 : Int32)), .unset, .unset] at_206 rfl ?_
        refine Wl.goto 247 at_208 ?_
        refine Wl.iload 249 at_247 rfl ?_
        refine Wl.iload 251 at_249 rfl ?_
        refine Wl.isub 252 at_251 ?_
        show WlO _ _ _ _ _ _ _ _ _ _ _ _ _ _ _ _ _ _ [.int (0 : Int32)]
        refine Wl.istore 254 #[.val (.int i0), .val (.int i1), .val (.int i2), .val (.int i3), .val (.int i4), .val (.int (3 : Int32)), .val (.ref a1), .val (.ref a44), .val (.ref a51), .val (.int (0 : Int32)), .val (.int (0 : Int32)), .val (.int (0 : Int32)), .val (.int (0 : Int32)), .val (.int (3 : Int32)), .val (.int (3 : Int32)), .val (.int (0 : Int32)), .unset] at_252 rfl ?_
        refine Wl.aload 256 at_254 rfl rfl ?_
        have S150 := S53
        rw [show trimL [c0, c1, c2] = [] by simp [trimL, isp, List.dropWhile, c58, c117, c142]] at S150
        refine Wl.virtual 259 (argsL := []) at_256 (w59 hw) (w35 hw) (w37 hw) (w36 hw) (w11 hw) (w38 hw) (nf_sel (w37 hw) rfl) (S53).exa (show parseMethodDescriptor "()I" = some ⟨[], some .int⟩ by decide +kernel) rfl (len_met hw hcs S150) (fun _ q => nomatch q) rfl rfl rfl (by decide) ⟨⟨nle rfl, nle rfl⟩, nle rfl, nle rfl⟩ ?_
        intro v151 h152 hq153 _
        obtain ⟨rfl, rfl⟩ := hq153
        show WlO _ _ _ _ _ _ _ _ _ _ _ _ _ _ _ _ _ _ [.int (0 : Int32)]
        refine Wl.iload 261 at_259 rfl ?_
        refine Wl.icmpN 264 at_261 (teq (by decide)).2 ?_
        refine Wl.iconst 265 (1 : Int32) at_264 (by decide) ?_
        refine Wl.goto 269 at_265 ?_
        refine Wl.istore 271 #[.val (.int i0), .val (.int i1), .val (.int i2), .val (.int i3), .val (.int i4), .val (.int (3 : Int32)), .val (.ref a1), .val (.ref a44), .val (.ref a51), .val (.int (0 : Int32)), .val (.int (0 : Int32)), .val (.int (0 : Int32)), .val (.int (0 : Int32)), .val (.int (3 : Int32)), .val (.int (3 : Int32)), .val (.int (0 : Int32)), .val (.int (1 : Int32))] at_269 rfl ?_
        refine Wl.iload 273 at_271 rfl ?_
        refine Wl.ifN 276 at_273 (feq (by decide)).1 ?_
        refine Wl.iload 278 at_276 rfl ?_
        refine Wl.ifY 302 at_278 (flt (by decide)).2.2.2 ?_
        refine Wl.iload 304 at_302 rfl ?_
        refine Wl.ifN 307 at_304 (feq (by decide)).1 ?_
        refine Wl.iload 309 at_307 rfl ?_
        refine Wl.iconst 310 (1 : Int32) at_309 (by decide) ?_
        refine Wl.icmpY 336 at_310 (flt (by decide)).2.2.2 ?_
        refine Wl.iload 338 at_336 rfl ?_
        refine Wl.ifN 341 at_338 (feq (by decide)).1 ?_
        refine Wl.iload 343 at_341 rfl ?_
        refine Wl.iconst 344 (2 : Int32) at_343 (by decide) ?_
        refine Wl.icmpY 370 at_344 (flt (by decide)).2.2.2 ?_
        refine Wl.iload 372 at_370 rfl ?_
        refine Wl.ifN 375 at_372 (feq (by decide)).1 ?_
        refine Wl.iload 377 at_375 rfl ?_
        refine Wl.iconst 378 (3 : Int32) at_377 (by decide) ?_
        refine Wl.icmpY 404 at_378 (flt (by decide)).2.2.2 ?_
        refine Wl.iload 406 at_404 rfl ?_
        exact Wl.ireturn at_406 rfl rfl (by simp) (nle rfl) (nle rfl) rfl
set_option maxRecDepth 65536 in
set_option maxHeartbeats 40000000 in
theorem law_t4 {l : Launch} {Z : State} {a0 : Array Value} (hw : ∀ d ∈ tables_1, d.before a0 Z = true) (hcs : CSon Z) (hfm : Fmt Z) {as : Array Value} {h : Heap} {i0 i1 i2 i3 i4 : Int32}  :
    Wl l Z a0 consts_1 x code maxLocals ret room_1 as (fun v h' => v = some (.int 1)) [] h 0 0 9 #[.val (.int i0), .val (.int i1), .val (.int i2), .val (.int i3), .val (.int i4), .val (.int (4 : Int32)), .unset, .unset, .unset, .unset, .unset, .unset, .unset, .unset, .unset, .unset, .unset] [] := by
  refine Wl.iconst 10 (4 : Int32) at_9 (by decide) ?_
  refine Wl.newarray 12 4 at_10 (w1 hw) (by decide) (by decide) (by decide) (nle rfl) (nle rfl) ?_
  intro a1 h2 k3 q4 E5 A6
  have A6 : Arv Z h2 a1 k3 .char (4 : Int32) [.int 0, .int 0, .int 0, .int 0] (.int 0) := A6
  have z7 : h.size ≤ a1 := Nat.le_of_eq q4.symm
  have B8 : Ext h h2 := E5
  refine Wl.dup 13 at_12 rfl ?_
  refine Wl.iconst 14 (0 : Int32) at_13 (by decide) ?_
  refine Wl.iload_n 15 at_14 rfl ?_
  refine Wl.static 18 (argsL := [.int i0]) at_15 (w2 hw) (w3 hw) (w4 hw) (w5 hw) (show parseMethodDescriptor "(I)C" = some ⟨[.int], some .char⟩ by decide +kernel) rfl (pick_met hw) (fun _ q => nomatch q) rfl rfl rfl (by decide) ⟨⟨nle rfl, nle rfl⟩, nle rfl, nle rfl⟩ ?_
  intro v9 h10 hq11 _
  obtain ⟨rfl, rfl⟩ := hq11
  have lc0 := pick_lat i0
  generalize pickI i0 = c0 at lc0 ⊢
  show WlO _ _ _ _ _ _ _ _ _ _ _ _ _ _ _ _ _ _ [.int c0, .int (0 : Int32), .ref a1, .ref a1]
  refine Wl.castore 19 0 at_18 A6 (List.mem_of_getElem? (i := 0) rfl) (by decide) (by decide) (by decide) (nle rfl) ?_
  intro h13 W14 A15
  rw [nar_ch (lc0).ch] at A15
  have A15 : Arv Z h13 a1 k3 .char (4 : Int32) [.int c0, .int (0 : Int32), .int (0 : Int32), .int (0 : Int32)] (.int 0) := A15
  have B16 : Ext h h13 := extWr B8 W14 z7
  refine Wl.dup 20 at_19 rfl ?_
  refine Wl.iconst 21 (1 : Int32) at_20 (by decide) ?_
  refine Wl.iload_n 22 at_21 rfl ?_
  refine Wl.static 25 (argsL := [.int i1]) at_22 (w2 hw) (w3 hw) (w4 hw) (w5 hw) (show parseMethodDescriptor "(I)C" = some ⟨[.int], some .char⟩ by decide +kernel) rfl (pick_met hw) (fun _ q => nomatch q) rfl rfl rfl (by decide) ⟨⟨nle rfl, nle rfl⟩, nle rfl, nle rfl⟩ ?_
  intro v17 h18 hq19 _
  obtain ⟨rfl, rfl⟩ := hq19
  have lc1 := pick_lat i1
  generalize pickI i1 = c1 at lc1 ⊢
  show WlO _ _ _ _ _ _ _ _ _ _ _ _ _ _ _ _ _ _ [.int c1, .int (1 : Int32), .ref a1, .ref a1]
  refine Wl.castore 26 1 at_25 A15 (List.mem_of_getElem? (i := 0) rfl) (by decide) (by decide) (by decide) (nle rfl) ?_
  intro h21 W22 A23
  rw [nar_ch (lc1).ch] at A23
  have A23 : Arv Z h21 a1 k3 .char (4 : Int32) [.int c0, .int c1, .int (0 : Int32), .int (0 : Int32)] (.int 0) := A23
  have B24 : Ext h h21 := extWr B16 W22 z7
  refine Wl.dup 27 at_26 rfl ?_
  refine Wl.iconst 28 (2 : Int32) at_27 (by decide) ?_
  refine Wl.iload_n 29 at_28 rfl ?_
  refine Wl.static 32 (argsL := [.int i2]) at_29 (w2 hw) (w3 hw) (w4 hw) (w5 hw) (show parseMethodDescriptor "(I)C" = some ⟨[.int], some .char⟩ by decide +kernel) rfl (pick_met hw) (fun _ q => nomatch q) rfl rfl rfl (by decide) ⟨⟨nle rfl, nle rfl⟩, nle rfl, nle rfl⟩ ?_
  intro v25 h26 hq27 _
  obtain ⟨rfl, rfl⟩ := hq27
  have lc2 := pick_lat i2
  generalize pickI i2 = c2 at lc2 ⊢
  show WlO _ _ _ _ _ _ _ _ _ _ _ _ _ _ _ _ _ _ [.int c2, .int (2 : Int32), .ref a1, .ref a1]
  refine Wl.castore 33 2 at_32 A23 (List.mem_of_getElem? (i := 0) rfl) (by decide) (by decide) (by decide) (nle rfl) ?_
  intro h29 W30 A31
  rw [nar_ch (lc2).ch] at A31
  have A31 : Arv Z h29 a1 k3 .char (4 : Int32) [.int c0, .int c1, .int c2, .int (0 : Int32)] (.int 0) := A31
  have B32 : Ext h h29 := extWr B24 W30 z7
  refine Wl.dup 34 at_33 rfl ?_
  refine Wl.iconst 35 (3 : Int32) at_34 (by decide) ?_
  refine Wl.iload_n 36 at_35 rfl ?_
  refine Wl.static 39 (argsL := [.int i3]) at_36 (w2 hw) (w3 hw) (w4 hw) (w5 hw) (show parseMethodDescriptor "(I)C" = some ⟨[.int], some .char⟩ by decide +kernel) rfl (pick_met hw) (fun _ q => nomatch q) rfl rfl rfl (by decide) ⟨⟨nle rfl, nle rfl⟩, nle rfl, nle rfl⟩ ?_
  intro v33 h34 hq35 _
  obtain ⟨rfl, rfl⟩ := hq35
  have lc3 := pick_lat i3
  generalize pickI i3 = c3 at lc3 ⊢
  show WlO _ _ _ _ _ _ _ _ _ _ _ _ _ _ _ _ _ _ [.int c3, .int (3 : Int32), .ref a1, .ref a1]
  refine Wl.castore 40 3 at_39 A31 (List.mem_of_getElem? (i := 0) rfl) (by decide) (by decide) (by decide) (nle rfl) ?_
  intro h37 W38 A39
  rw [nar_ch (lc3).ch] at A39
  have A39 : Arv Z h37 a1 k3 .char (4 : Int32) [.int c0, .int c1, .int c2, .int c3] (.int 0) := A39
  have B40 : Ext h h37 := extWr B32 W38 z7
  refine Wl.astore 42 #[.val (.int i0), .val (.int i1), .val (.int i2), .val (.int i3), .val (.int i4), .val (.int (4 : Int32)), .val (.ref a1), .unset, .unset, .unset, .unset, .unset, .unset, .unset, .unset, .unset, .unset] at_40 rfl rfl ?_
  refine Wl.iload 44 at_42 rfl ?_
  refine Wl.aload 46 at_44 rfl rfl ?_
  refine Wl.static 49 (argsL := [.int (4 : Int32), .ref a1]) at_46 (w6 hw) (w7 hw) (w4 hw) (w8 hw) (show parseMethodDescriptor "(I[C)Ljava/lang/String;" = some ⟨[.int, (.array .char)], some (.object "java/lang/String")⟩ by decide +kernel) rfl (make4_met hw hcs A39 lc0 lc1 lc2 lc3) (fun _ q => nomatch q) rfl rfl rfl (by decide) ⟨⟨nle rfl, nle rfl⟩, nle rfl, nle rfl⟩ ?_
  intro v41 h42 hq43 _
  obtain ⟨a44, rfl, E45, S46⟩ := hq43
  have B47 : Ext h h42 := extTr B40 E45
  show WlO _ _ _ _ _ _ _ _ _ _ _ _ _ _ _ _ _ _ [.ref a44]
  refine Wl.astore 51 #[.val (.int i0), .val (.int i1), .val (.int i2), .val (.int i3), .val (.int i4), .val (.int (4 : Int32)), .val (.ref a1), .val (.ref a44), .unset, .unset, .unset, .unset, .unset, .unset, .unset, .unset, .unset] at_49 rfl rfl ?_
  refine Wl.aload 53 at_51 rfl rfl ?_
  refine Wl.static 56 (argsL := [.ref a44]) at_53 (w30 hw) (w31 hw) (w32 hw) (w33 hw) (show parseMethodDescriptor "(Ljava/lang/String;)Ljava/lang/String;" = some ⟨[(.object "java/lang/String")], some (.object "java/lang/String")⟩ by decide +kernel) rfl (trim4_met hw hcs hfm (c0 := c0) (c1 := c1) (c2 := c2) (c3 := c3) S46) (fun _ q => nomatch q) rfl rfl rfl (by decide) ⟨⟨nle rfl, nle rfl⟩, nle rfl, nle rfl⟩ ?_
  intro v48 h49 hq50 _
  obtain ⟨a51, rfl, E52, S53⟩ := hq50
  have B54 : Ext h h49 := extTr B47 E52
  show WlO _ _ _ _ _ _ _ _ _ _ _ _ _ _ _ _ _ _ [.ref a51]
  refine Wl.astore 58 #[.val (.int i0), .val (.int i1), .val (.int i2), .val (.int i3), .val (.int i4), .val (.int (4 : Int32)), .val (.ref a1), .val (.ref a44), .val (.ref a51), .unset, .unset, .unset, .unset, .unset, .unset, .unset, .unset] at_56 rfl rfl ?_
  refine Wl.iload 60 at_58 rfl ?_
  refine Wl.ifN 63 at_60 (tlt (by decide)).2.2.2 ?_
  refine Wl.aload 65 at_63 rfl rfl ?_
  refine Wl.iconst 66 (0 : Int32) at_65 (by decide) ?_
  refine Wl.caload 67 0 at_66 ((A39.ext E45).ext E52) (by decide) (by decide) (by decide) rfl ?_
  refine Wl.static 70 (argsL := [.int c0]) at_67 (w118 hw) (w119 hw) (w4 hw) (w120 hw) (show parseMethodDescriptor "(C)Z" = some ⟨[.char], some .boolean⟩ by decide +kernel) rfl (sp_met hw) (fun _ q => nomatch q) rfl rfl rfl (by decide) ⟨⟨nle rfl, nle rfl⟩, nle rfl, nle rfl⟩ ?_
  intro v55 h56 hq57 _
  obtain ⟨rfl, rfl⟩ := hq57
  show WlO _ _ _ _ _ _ _ _ _ _ _ _ _ _ _ _ _ _ [.int (spI c0)]
  by_cases c58 : (spI c0) = (0 : Int32)
  · refine Wl.ifN 73 at_70 (teq c58).2 ?_
    refine Wl.iconst 74 (1 : Int32) at_73 (by decide) ?_
    refine Wl.goto 78 at_74 ?_
    refine Wl.istore 80 #[.val (.int i0), .val (.int i1), .val (.int i2), .val (.int i3), .val (.int i4), .val (.int (4 : Int32)), .val (.ref a1), .val (.ref a44), .val (.ref a51), .val (.int (1 : Int32)), .unset, .unset, .unset, .unset, .unset, .unset, .unset] at_78 rfl ?_
    refine Wl.iload 82 at_80 rfl ?_
    refine Wl.iconst 83 (1 : Int32) at_82 (by decide) ?_
    refine Wl.icmpN 86 at_83 (tlt (by decide)).2.2.2 ?_
    refine Wl.aload 88 at_86 rfl rfl ?_
    refine Wl.iconst 89 (1 : Int32) at_88 (by decide) ?_
    refine Wl.caload 90 1 at_89 ((A39.ext E45).ext E52) (by decide) (by decide) (by decide) rfl ?_
    refine Wl.static 93 (argsL := [.int c1]) at_90 (w118 hw) (w119 hw) (w4 hw) (w120 hw) (show parseMethodDescriptor "(C)Z" = some ⟨[.char], some .boolean⟩ by decide +kernel) rfl (sp_met hw) (fun _ q => nomatch q) rfl rfl rfl (by decide) ⟨⟨nle rfl, nle rfl⟩, nle rfl, nle rfl⟩ ?_
    intro v59 h60 hq61 _
    obtain ⟨rfl, rfl⟩ := hq61
    show WlO _ _ _ _ _ _ _ _ _ _ _ _ _ _ _ _ _ _ [.int (spI c1)]
    by_cases c62 : (spI c1) = (0 : Int32)
    · refine Wl.ifN 96 at_93 (teq c62).2 ?_
      refine Wl.iconst 97 (1 : Int32) at_96 (by decide) ?_
      refine Wl.goto 101 at_97 ?_
      refine Wl.istore 103 #[.val (.int i0), .val (.int i1), .val (.int i2), .val (.int i3), .val (.int i4), .val (.int (4 : Int32)), .val (.ref a1), .val (.ref a44), .val (.ref a51), .val (.int (1 : Int32)), .val (.int (1 : Int32)), .unset, .unset, .unset, .unset, .unset, .unset] at_101 rfl ?_
      refine Wl.iload 105 at_103 rfl ?_
      refine Wl.iconst 106 (2 : Int32) at_105 (by decide) ?_
      refine Wl.icmpN 109 at_106 (tlt (by decide)).2.2.2 ?_
      refine Wl.aload 111 at_109 rfl rfl ?_
      refine Wl.iconst 112 (2 : Int32) at_111 (by decide) ?_
      refine Wl.caload 113 2 at_112 ((A39.ext E45).ext E52) (by decide) (by decide) (by decide) rfl ?_
      refine Wl.static 116 (argsL := [.int c2]) at_113 (w118 hw) (w119 hw) (w4 hw) (w120 hw) (show parseMethodDescriptor "(C)Z" = some ⟨[.char], some .boolean⟩ by decide +kernel) rfl (sp_met hw) (fun _ q => nomatch q) rfl rfl rfl (by decide) ⟨⟨nle rfl, nle rfl⟩, nle rfl, nle rfl⟩ ?_
      intro v63 h64 hq65 _
      obtain ⟨rfl, rfl⟩ := hq65
      show WlO _ _ _ _ _ _ _ _ _ _ _ _ _ _ _ _ _ _ [.int (spI c2)]
      by_cases c66 : (spI c2) = (0 : Int32)
      · refine Wl.ifN 119 at_116 (teq c66).2 ?_
        refine Wl.iconst 120 (1 : Int32) at_119 (by decide) ?_
        refine Wl.goto 124 at_120 ?_
        refine Wl.istore 126 #[.val (.int i0), .val (.int i1), .val (.int i2), .val (.int i3), .val (.int i4), .val (.int (4 : Int32)), .val (.ref a1), .val (.ref a44), .val (.ref a51), .val (.int (1 : Int32)), .val (.int (1 : Int32)), .val (.int (1 : Int32)), .unset, .unset, .unset, .unset, .unset] at_124 rfl ?_
        refine Wl.iload 128 at_126 rfl ?_
        refine Wl.iconst 129 (3 : Int32) at_128 (by decide) ?_
        refine Wl.icmpN 132 at_129 (tlt (by decide)).2.2.2 ?_
        refine Wl.aload 134 at_132 rfl rfl ?_
        refine Wl.iconst 135 (3 : Int32) at_134 (by decide) ?_
        refine Wl.caload 136 3 at_135 ((A39.ext E45).ext E52) (by decide) (by decide) (by decide) rfl ?_
        refine Wl.static 139 (argsL := [.int c3]) at_136 (w118 hw) (w119 hw) (w4 hw) (w120 hw) (show parseMethodDescriptor "(C)Z" = some ⟨[.char], some .boolean⟩ by decide +kernel) rfl (sp_met hw) (fun _ q => nomatch q) rfl rfl rfl (by decide) ⟨⟨nle rfl, nle rfl⟩, nle rfl, nle rfl⟩ ?_
        intro v67 h68 hq69 _
        obtain ⟨rfl, rfl⟩ := hq69
        show WlO _ _ _ _ _ _ _ _ _ _ _ _ _ _ _ _ _ _ [.int (spI c3)]
        by_cases c70 : (spI c3) = (0 : Int32)
        · refine Wl.ifN 142 at_139 (teq c70).2 ?_
          refine Wl.iconst 143 (1 : Int32) at_142 (by decide) ?_
          refine Wl.goto 147 at_143 ?_
          refine Wl.istore 149 #[.val (.int i0), .val (.int i1), .val (.int i2), .val (.int i3), .val (.int i4), .val (.int (4 : Int32)), .val (.ref a1), .val (.ref a44), .val (.ref a51), .val (.int (1 : Int32)), .val (.int (1 : Int32)), .val (.int (1 : Int32)), .val (.int (1 : Int32)), .unset, .unset, .unset, .unset] at_147 rfl ?_
          refine Wl.iload 151 at_149 rfl ?_
          refine Wl.ifN 154 at_151 (feq (by decide)).1 ?_
          refine Wl.iconst 155 (0 : Int32) at_154 (by decide) ?_
          refine Wl.istore 157 #[.val (.int i0), .val (.int i1), .val (.int i2), .val (.int i3), .val (.int i4), .val (.int (4 : Int32)), .val (.ref a1), .val (.ref a44), .val (.ref a51), .val (.int (1 : Int32)), .val (.int (1 : Int32)), .val (.int (1 : Int32)), .val (.int (1 : Int32)), .val (.int (0 : Int32)), .unset, .unset, .unset] at_155 rfl ?_
          refine Wl.goto 197 at_157 ?_
          refine Wl.iload 199 at_197 rfl ?_
          refine Wl.iload 201 at_199 rfl ?_
          refine Wl.icmpY 211 at_201 (feq (by decide)).2 ?_
          refine Wl.iload 213 at_211 rfl ?_
          refine Wl.ifN 216 at_213 (feq (by decide)).1 ?_
          refine Wl.iconst 217 (4 : Int32) at_216 (by decide) ?_
          refine Wl.istore 219 #[.val (.int i0), .val (.int i1), .val (.int i2), .val (.int i3), .val (.int i4), .val (.int (4 : Int32)), .val (.ref a1), .val (.ref a44), .val (.ref a51), .val (.int (1 : Int32)), .val (.int (1 : Int32)), .val (.int (1 : Int32)), .val (.int (1 : Int32)), .val (.int (0 : Int32)), .val (.int (4 : Int32)), .unset, .unset] at_217 rfl ?_
          refine Wl.goto 247 at_219 ?_
          refine Wl.iload 249 at_247 rfl ?_
          refine Wl.iload 251 at_249 rfl ?_
          refine Wl.isub 252 at_251 ?_
          show WlO _ _ _ _ _ _ _ _ _ _ _ _ _ _ _ _ _ _ [.int (4 : Int32)]
          refine Wl.istore 254 #[.val (.int i0), .val (.int i1), .val (.int i2), .val (.int i3), .val (.int i4), .val (.int (4 : Int32)), .val (.ref a1), .val (.ref a44), .val (.ref a51), .val (.int (1 : Int32)), .val (.int (1 : Int32)), .val (.int (1 : Int32)), .val (.int (1 : Int32)), .val (.int (0 : Int32)), .val (.int (4 : Int32)), .val (.int (4 : Int32)), .unset] at_252 rfl ?_
          refine Wl.aload 256 at_254 rfl rfl ?_
          have S71 := S53
          rw [show trimL [c0, c1, c2, c3] = [c0, c1, c2, c3] by simp [trimL, isp, List.dropWhile, c58, c62, c66, c70]] at S71
          refine Wl.virtual 259 (argsL := []) at_256 (w59 hw) (w35 hw) (w37 hw) (w36 hw) (w11 hw) (w38 hw) (nf_sel (w37 hw) rfl) (S53).exa (show parseMethodDescriptor "()I" = some ⟨[], some .int⟩ by decide +kernel) rfl (len_met hw hcs S71) (fun _ q => nomatch q) rfl rfl rfl (by decide) ⟨⟨nle rfl, nle rfl⟩, nle rfl, nle rfl⟩ ?_
          intro v72 h73 hq74 _
          obtain ⟨rfl, rfl⟩ := hq74
          show WlO _ _ _ _ _ _ _ _ _ _ _ _ _ _ _ _ _ _ [.int (4 : Int32)]
          refine Wl.iload 261 at_259 rfl ?_
          refine Wl.icmpN 264 at_261 (teq (by decide)).2 ?_
          refine Wl.iconst 265 (1 : Int32) at_264 (by decide) ?_
          refine Wl.goto 269 at_265 ?_
          refine Wl.istore 271 #[.val (.int i0), .val (.int i1), .val (.int i2), .val (.int i3), .val (.int i4), .val (.int (4 : Int32)), .val (.ref a1), .val (.ref a44), .val (.ref a51), .val (.int (1 : Int32)), .val (.int (1 : Int32)), .val (.int (1 : Int32)), .val (.int (1 : Int32)), .val (.int (0 : Int32)), .val (.int (4 : Int32)), .val (.int (4 : Int32)), .val (.int (1 : Int32))] at_269 rfl ?_
          refine Wl.iload 273 at_271 rfl ?_
          refine Wl.ifN 276 at_273 (feq (by decide)).1 ?_
          refine Wl.iload 278 at_276 rfl ?_
          refine Wl.ifN 281 at_278 (tlt (by decide)).2.2.2 ?_
          refine Wl.aload 283 at_281 rfl rfl ?_
          refine Wl.iconst 284 (0 : Int32) at_283 (by decide) ?_
          refine Wl.virtual 287 (argsL := [.int (0 : Int32)]) at_284 (w121 hw) (w71 hw) (w73 hw) (w72 hw) (w11 hw) (w74 hw) (nf_sel (w73 hw) rfl) (S53).exa (show parseMethodDescriptor "(I)C" = some ⟨[.int], some .char⟩ by decide +kernel) rfl (charAt_met hw hcs hfm S71 (i := 0) (nle rfl)) (fun _ q => nomatch q) rfl rfl rfl (by decide) ⟨⟨nle rfl, nle rfl⟩, nle rfl, nle rfl⟩ ?_
          intro v75 h76 hq77 _
          obtain ⟨rfl, rfl⟩ := hq77
          show WlO _ _ _ _ _ _ _ _ _ _ _ _ _ _ _ _ _ _ [.int c0]
          refine Wl.aload 289 at_287 rfl rfl ?_
          refine Wl.iload 291 at_289 rfl ?_
          refine Wl.caload 292 0 at_291 ((A39.ext E45).ext E52) (by decide) (by decide) (by decide) rfl ?_
          refine Wl.icmpN 295 at_292 (teq rfl).2 ?_
          refine Wl.iconst 296 (1 : Int32) at_295 (by decide) ?_
          refine Wl.goto 300 at_296 ?_
          refine Wl.istore 302 #[.val (.int i0), .val (.int i1), .val (.int i2), .val (.int i3), .val (.int i4), .val (.int (4 : Int32)), .val (.ref a1), .val (.ref a44), .val (.ref a51), .val (.int (1 : Int32)), .val (.int (1 : Int32)), .val (.int (1 : Int32)), .val (.int (1 : Int32)), .val (.int (0 : Int32)), .val (.int (4 : Int32)), .val (.int (4 : Int32)), .val (.int (1 : Int32))] at_300 rfl ?_
          refine Wl.iload 304 at_302 rfl ?_
          refine Wl.ifN 307 at_304 (feq (by decide)).1 ?_
          refine Wl.iload 309 at_307 rfl ?_
          refine Wl.iconst 310 (1 : Int32) at_309 (by decide) ?_
          refine Wl.icmpN 313 at_310 (tlt (by decide)).2.2.2 ?_
          refine Wl.aload 315 at_313 rfl rfl ?_
          refine Wl.iconst 316 (1 : Int32) at_315 (by decide) ?_
          refine Wl.virtual 319 (argsL := [.int (1 : Int32)]) at_316 (w121 hw) (w71 hw) (w73 hw) (w72 hw) (w11 hw) (w74 hw) (nf_sel (w73 hw) rfl) (S53).exa (show parseMethodDescriptor "(I)C" = some ⟨[.int], some .char⟩ by decide +kernel) rfl (charAt_met hw hcs hfm S71 (i := 1) (nle rfl)) (fun _ q => nomatch q) rfl rfl rfl (by decide) ⟨⟨nle rfl, nle rfl⟩, nle rfl, nle rfl⟩ ?_
          intro v78 h79 hq80 _
          obtain ⟨rfl, rfl⟩ := hq80
          show WlO _ _ _ _ _ _ _ _ _ _ _ _ _ _ _ _ _ _ [.int c1]
          refine Wl.aload 321 at_319 rfl rfl ?_
          refine Wl.iload 323 at_321 rfl ?_
          refine Wl.iconst 324 (1 : Int32) at_323 (by decide) ?_
          refine Wl.iadd 325 at_324 ?_
          show WlO _ _ _ _ _ _ _ _ _ _ _ _ _ _ _ _ _ _ [.int (1 : Int32), .ref a1, .int c1]
          refine Wl.caload 326 1 at_325 ((A39.ext E45).ext E52) (by decide) (by decide) (by decide) rfl ?_
          refine Wl.icmpN 329 at_326 (teq rfl).2 ?_
          refine Wl.iconst 330 (1 : Int32) at_329 (by decide) ?_
          refine Wl.goto 334 at_330 ?_
          refine Wl.istore 336 #[.val (.int i0), .val (.int i1), .val (.int i2), .val (.int i3), .val (.int i4), .val (.int (4 : Int32)), .val (.ref a1), .val (.ref a44), .val (.ref a51), .val (.int (1 : Int32)), .val (.int (1 : Int32)), .val (.int (1 : Int32)), .val (.int (1 : Int32)), .val (.int (0 : Int32)), .val (.int (4 : Int32)), .val (.int (4 : Int32)), .val (.int (1 : Int32))] at_334 rfl ?_
          refine Wl.iload 338 at_336 rfl ?_
          refine Wl.ifN 341 at_338 (feq (by decide)).1 ?_
          refine Wl.iload 343 at_341 rfl ?_
          refine Wl.iconst 344 (2 : Int32) at_343 (by decide) ?_
          refine Wl.icmpN 347 at_344 (tlt (by decide)).2.2.2 ?_
          refine Wl.aload 349 at_347 rfl rfl ?_
          refine Wl.iconst 350 (2 : Int32) at_349 (by decide) ?_
          refine Wl.virtual 353 (argsL := [.int (2 : Int32)]) at_350 (w121 hw) (w71 hw) (w73 hw) (w72 hw) (w11 hw) (w74 hw) (nf_sel (w73 hw) rfl) (S53).exa (show parseMethodDescriptor "(I)C" = some ⟨[.int], some .char⟩ by decide +kernel) rfl (charAt_met hw hcs hfm S71 (i := 2) (nle rfl)) (fun _ q => nomatch q) rfl rfl rfl (by decide) ⟨⟨nle rfl, nle rfl⟩, nle rfl, nle rfl⟩ ?_
          intro v81 h82 hq83 _
          obtain ⟨rfl, rfl⟩ := hq83
          show WlO _ _ _ _ _ _ _ _ _ _ _ _ _ _ _ _ _ _ [.int c2]
          refine Wl.aload 355 at_353 rfl rfl ?_
          refine Wl.iload 357 at_355 rfl ?_
          refine Wl.iconst 358 (2 : Int32) at_357 (by decide) ?_
          refine Wl.iadd 359 at_358 ?_
          show WlO _ _ _ _ _ _ _ _ _ _ _ _ _ _ _ _ _ _ [.int (2 : Int32), .ref a1, .int c2]
          refine Wl.caload 360 2 at_359 ((A39.ext E45).ext E52) (by decide) (by decide) (by decide) rfl ?_
          refine Wl.icmpN 363 at_360 (teq rfl).2 ?_
          refine Wl.iconst 364 (1 : Int32) at_363 (by decide) ?_
          refine Wl.goto 368 at_364 ?_
          refine Wl.istore 370 #[.val (.int i0), .val (.int i1), .val (.int i2), .val (.int i3), .val (.int i4), .val (.int (4 : Int32)), .val (.ref a1), .val (.ref a44), .val (.ref a51), .val (.int (1 : Int32)), .val (.int (1 : Int32)), .val (.int (1 : Int32)), .val (.int (1 : Int32)), .val (.int (0 : Int32)), .val (.int (4 : Int32)), .val (.int (4 : Int32)), .val (.int (1 : Int32))] at_368 rfl ?_
          refine Wl.iload 372 at_370 rfl ?_
          refine Wl.ifN 375 at_372 (feq (by decide)).1 ?_
          refine Wl.iload 377 at_375 rfl ?_
          refine Wl.iconst 378 (3 : Int32) at_377 (by decide) ?_
          refine Wl.icmpN 381 at_378 (tlt (by decide)).2.2.2 ?_
          refine Wl.aload 383 at_381 rfl rfl ?_
          refine Wl.iconst 384 (3 : Int32) at_383 (by decide) ?_
          refine Wl.virtual 387 (argsL := [.int (3 : Int32)]) at_384 (w121 hw) (w71 hw) (w73 hw) (w72 hw) (w11 hw) (w74 hw) (nf_sel (w73 hw) rfl) (S53).exa (show parseMethodDescriptor "(I)C" = some ⟨[.int], some .char⟩ by decide +kernel) rfl (charAt_met hw hcs hfm S71 (i := 3) (nle rfl)) (fun _ q => nomatch q) rfl rfl rfl (by decide) ⟨⟨nle rfl, nle rfl⟩, nle rfl, nle rfl⟩ ?_
          intro v84 h85 hq86 _
          obtain ⟨rfl, rfl⟩ := hq86
          show WlO _ _ _ _ _ _ _ _ _ _ _ _ _ _ _ _ _ _ [.int c3]
          refine Wl.aload 389 at_387 rfl rfl ?_
          refine Wl.iload 391 at_389 rfl ?_
          refine Wl.iconst 392 (3 : Int32) at_391 (by decide) ?_
          refine Wl.iadd 393 at_392 ?_
          show WlO _ _ _ _ _ _ _ _ _ _ _ _ _ _ _ _ _ _ [.int (3 : Int32), .ref a1, .int c3]
          refine Wl.caload 394 3 at_393 ((A39.ext E45).ext E52) (by decide) (by decide) (by decide) rfl ?_
          refine Wl.icmpN 397 at_394 (teq rfl).2 ?_
          refine Wl.iconst 398 (1 : Int32) at_397 (by decide) ?_
          refine Wl.goto 402 at_398 ?_
          refine Wl.istore 404 #[.val (.int i0), .val (.int i1), .val (.int i2), .val (.int i3), .val (.int i4), .val (.int (4 : Int32)), .val (.ref a1), .val (.ref a44), .val (.ref a51), .val (.int (1 : Int32)), .val (.int (1 : Int32)), .val (.int (1 : Int32)), .val (.int (1 : Int32)), .val (.int (0 : Int32)), .val (.int (4 : Int32)), .val (.int (4 : Int32)), .val (.int (1 : Int32))] at_402 rfl ?_
          refine Wl.iload 406 at_404 rfl ?_
          exact Wl.ireturn at_406 rfl rfl (by simp) (nle rfl) (nle rfl) rfl
        · refine Wl.ifY 146 at_139 (feq c70).2 ?_
          refine Wl.iconst 147 (0 : Int32) at_146 (by decide) ?_
          refine Wl.istore 149 #[.val (.int i0), .val (.int i1), .val (.int i2), .val (.int i3), .val (.int i4), .val (.int (4 : Int32)), .val (.ref a1), .val (.ref a44), .val (.ref a51), .val (.int (1 : Int32)), .val (.int (1 : Int32)), .val (.int (1 : Int32)), .val (.int (0 : Int32)), .unset, .unset, .unset, .unset] at_147 rfl ?_
          refine Wl.iload 151 at_149 rfl ?_
          refine Wl.ifN 154 at_151 (feq (by decide)).1 ?_
          refine Wl.iconst 155 (0 : Int32) at_154 (by decide) ?_
          refine Wl.istore 157 #[.val (.int i0), .val (.int i1), .val (.int i2), .val (.int i3), .val (.int i4), .val (.int (4 : Int32)), .val (.ref a1), .val (.ref a44), .val (.ref a51), .val (.int (1 : Int32)), .val (.int (1 : Int32)), .val (.int (1 : Int32)), .val (.int (0 : Int32)), .val (.int (0 : Int32)), .unset, .unset, .unset] at_155 rfl ?_
          refine Wl.goto 197 at_157 ?_
          refine Wl.iload 199 at_197 rfl ?_
          refine Wl.iload 201 at_199 rfl ?_
          refine Wl.icmpY 211 at_201 (feq (by decide)).2 ?_
          refine Wl.iload 213 at_211 rfl ?_
          refine Wl.ifY 222 at_213 (teq (by decide)).1 ?_
          refine Wl.iload 224 at_222 rfl ?_
          refine Wl.ifN 227 at_224 (feq (by decide)).1 ?_
          refine Wl.iconst 228 (3 : Int32) at_227 (by decide) ?_
          refine Wl.istore 230 #[.val (.int i0), .val (.int i1), .val (.int i2), .val (.int i3), .val (.int i4), .val (.int (4 : Int32)), .val (.ref a1), .val (.ref a44), .val (.ref a51), .val (.int (1 : Int32)), .val (.int (1 : Int32)), .val (.int (1 : Int32)), .val (.int (0 : Int32)), .val (.int (0 : Int32)), .val (.int (3 : Int32)), .unset, .unset] at_228 rfl ?_
          refine Wl.goto 247 at_230 ?_
          refine Wl.iload 249 at_247 rfl ?_
          refine Wl.iload 251 at_249 rfl ?_
          refine Wl.isub 252 at_251 ?_
          show WlO _ _ _ _ _ _ _ _ _ _ _ _ _ _ _ _ _ _ [.int (3 : Int32)]
          refine Wl.istore 254 #[.val (.int i0), .val (.int i1), .val (.int i2), .val (.int i3), .val (.int i4), .val (.int (4 : Int32)), .val (.ref a1), .val (.ref a44), .val (.ref a51), .val (.int (1 : Int32)), .val (.int (1 : Int32)), .val (.int (1 : Int32)), .val (.int (0 : Int32)), .val (.int (0 : Int32)), .val (.int (3 : Int32)), .val (.int (3 : Int32)), .unset] at_252 rfl ?_
          refine Wl.aload 256 at_254 rfl rfl ?_
          have S87 := S53
          rw [show trimL [c0, c1, c2, c3] = [c0, c1, c2] by simp [trimL, isp, List.dropWhile, c58, c62, c66, c70]] at S87
          refine Wl.virtual 259 (argsL := []) at_256 (w59 hw) (w35 hw) (w37 hw) (w36 hw) (w11 hw) (w38 hw) (nf_sel (w37 hw) rfl) (S53).exa (show parseMethodDescriptor "()I" = some ⟨[], some .int⟩ by decide +kernel) rfl (len_met hw hcs S87) (fun _ q => nomatch q) rfl rfl rfl (by decide) ⟨⟨nle rfl, nle rfl⟩, nle rfl, nle rfl⟩ ?_
          intro v88 h89 hq90 _
          obtain ⟨rfl, rfl⟩ := hq90
          show WlO _ _ _ _ _ _ _ _ _ _ _ _ _ _ _ _ _ _ [.int (3 : Int32)]
          refine Wl.iload 261 at_259 rfl ?_
          refine Wl.icmpN 264 at_261 (teq (by decide)).2 ?_
          refine Wl.iconst 265 (1 : Int32) at_264 (by decide) ?_
          refine Wl.goto 269 at_265 ?_
          refine Wl.istore 271 #[.val (.int i0), .val (.int i1), .val (.int i2), .val (.int i3), .val (.int i4), .val (.int (4 : Int32)), .val (.ref a1), .val (.ref a44), .val (.ref a51), .val (.int (1 : Int32)), .val (.int (1 : Int32)), .val (.int (1 : Int32)), .val (.int (0 : Int32)), .val (.int (0 : Int32)), .val (.int (3 : Int32)), .val (.int (3 : Int32)), .val (.int (1 : Int32))] at_269 rfl ?_
          refine Wl.iload 273 at_271 rfl ?_
          refine Wl.ifN 276 at_273 (feq (by decide)).1 ?_
          refine Wl.iload 278 at_276 rfl ?_
          refine Wl.ifN 281 at_278 (tlt (by decide)).2.2.2 ?_
          refine Wl.aload 283 at_281 rfl rfl ?_
          refine Wl.iconst 284 (0 : Int32) at_283 (by decide) ?_
          refine Wl.virtual 287 (argsL := [.int (0 : Int32)]) at_284 (w121 hw) (w71 hw) (w73 hw) (w72 hw) (w11 hw) (w74 hw) (nf_sel (w73 hw) rfl) (S53).exa (show parseMethodDescriptor "(I)C" = some ⟨[.int], some .char⟩ by decide +kernel) rfl (charAt_met hw hcs hfm S87 (i := 0) (nle rfl)) (fun _ q => nomatch q) rfl rfl rfl (by decide) ⟨⟨nle rfl, nle rfl⟩, nle rfl, nle rfl⟩ ?_
          intro v91 h92 hq93 _
          obtain ⟨rfl, rfl⟩ := hq93
          show WlO _ _ _ _ _ _ _ _ _ _ _ _ _ _ _ _ _ _ [.int c0]
          refine Wl.aload 289 at_287 rfl rfl ?_
          refine Wl.iload 291 at_289 rfl ?_
          refine Wl.caload 292 0 at_291 ((A39.ext E45).ext E52) (by decide) (by decide) (by decide) rfl ?_
          refine Wl.icmpN 295 at_292 (teq rfl).2 ?_
          refine Wl.iconst 296 (1 : Int32) at_295 (by decide) ?_
          refine Wl.goto 300 at_296 ?_
          refine Wl.istore 302 #[.val (.int i0), .val (.int i1), .val (.int i2), .val (.int i3), .val (.int i4), .val (.int (4 : Int32)), .val (.ref a1), .val (.ref a44), .val (.ref a51), .val (.int (1 : Int32)), .val (.int (1 : Int32)), .val (.int (1 : Int32)), .val (.int (0 : Int32)), .val (.int (0 : Int32)), .val (.int (3 : Int32)), .val (.int (3 : Int32)), .val (.int (1 : Int32))] at_300 rfl ?_
          refine Wl.iload 304 at_302 rfl ?_
          refine Wl.ifN 307 at_304 (feq (by decide)).1 ?_
          refine Wl.iload 309 at_307 rfl ?_
          refine Wl.iconst 310 (1 : Int32) at_309 (by decide) ?_
          refine Wl.icmpN 313 at_310 (tlt (by decide)).2.2.2 ?_
          refine Wl.aload 315 at_313 rfl rfl ?_
          refine Wl.iconst 316 (1 : Int32) at_315 (by decide) ?_
          refine Wl.virtual 319 (argsL := [.int (1 : Int32)]) at_316 (w121 hw) (w71 hw) (w73 hw) (w72 hw) (w11 hw) (w74 hw) (nf_sel (w73 hw) rfl) (S53).exa (show parseMethodDescriptor "(I)C" = some ⟨[.int], some .char⟩ by decide +kernel) rfl (charAt_met hw hcs hfm S87 (i := 1) (nle rfl)) (fun _ q => nomatch q) rfl rfl rfl (by decide) ⟨⟨nle rfl, nle rfl⟩, nle rfl, nle rfl⟩ ?_
          intro v94 h95 hq96 _
          obtain ⟨rfl, rfl⟩ := hq96
          show WlO _ _ _ _ _ _ _ _ _ _ _ _ _ _ _ _ _ _ [.int c1]
          refine Wl.aload 321 at_319 rfl rfl ?_
          refine Wl.iload 323 at_321 rfl ?_
          refine Wl.iconst 324 (1 : Int32) at_323 (by decide) ?_
          refine Wl.iadd 325 at_324 ?_
          show WlO _ _ _ _ _ _ _ _ _ _ _ _ _ _ _ _ _ _ [.int (1 : Int32), .ref a1, .int c1]
          refine Wl.caload 326 1 at_325 ((A39.ext E45).ext E52) (by decide) (by decide) (by decide) rfl ?_
          refine Wl.icmpN 329 at_326 (teq rfl).2 ?_
          refine Wl.iconst 330 (1 : Int32) at_329 (by decide) ?_
          refine Wl.goto 334 at_330 ?_
          refine Wl.istore 336 #[.val (.int i0), .val (.int i1), .val (.int i2), .val (.int i3), .val (.int i4), .val (.int (4 : Int32)), .val (.ref a1), .val (.ref a44), .val (.ref a51), .val (.int (1 : Int32)), .val (.int (1 : Int32)), .val (.int (1 : Int32)), .val (.int (0 : Int32)), .val (.int (0 : Int32)), .val (.int (3 : Int32)), .val (.int (3 : Int32)), .val (.int (1 : Int32))] at_334 rfl ?_
          refine Wl.iload 338 at_336 rfl ?_
          refine Wl.ifN 341 at_338 (feq (by decide)).1 ?_
          refine Wl.iload 343 at_341 rfl ?_
          refine Wl.iconst 344 (2 : Int32) at_343 (by decide) ?_
          refine Wl.icmpN 347 at_344 (tlt (by decide)).2.2.2 ?_
          refine Wl.aload 349 at_347 rfl rfl ?_
          refine Wl.iconst 350 (2 : Int32) at_349 (by decide) ?_
          refine Wl.virtual 353 (argsL := [.int (2 : Int32)]) at_350 (w121 hw) (w71 hw) (w73 hw) (w72 hw) (w11 hw) (w74 hw) (nf_sel (w73 hw) rfl) (S53).exa (show parseMethodDescriptor "(I)C" = some ⟨[.int], some .char⟩ by decide +kernel) rfl (charAt_met hw hcs hfm S87 (i := 2) (nle rfl)) (fun _ q => nomatch q) rfl rfl rfl (by decide) ⟨⟨nle rfl, nle rfl⟩, nle rfl, nle rfl⟩ ?_
          intro v97 h98 hq99 _
          obtain ⟨rfl, rfl⟩ := hq99
          show WlO _ _ _ _ _ _ _ _ _ _ _ _ _ _ _ _ _ _ [.int c2]
          refine Wl.aload 355 at_353 rfl rfl ?_
          refine Wl.iload 357 at_355 rfl ?_
          refine Wl.iconst 358 (2 : Int32) at_357 (by decide) ?_
          refine Wl.iadd 359 at_358 ?_
          show WlO _ _ _ _ _ _ _ _ _ _ _ _ _ _ _ _ _ _ [.int (2 : Int32), .ref a1, .int c2]
          refine Wl.caload 360 2 at_359 ((A39.ext E45).ext E52) (by decide) (by decide) (by decide) rfl ?_
          refine Wl.icmpN 363 at_360 (teq rfl).2 ?_
          refine Wl.iconst 364 (1 : Int32) at_363 (by decide) ?_
          refine Wl.goto 368 at_364 ?_
          refine Wl.istore 370 #[.val (.int i0), .val (.int i1), .val (.int i2), .val (.int i3), .val (.int i4), .val (.int (4 : Int32)), .val (.ref a1), .val (.ref a44), .val (.ref a51), .val (.int (1 : Int32)), .val (.int (1 : Int32)), .val (.int (1 : Int32)), .val (.int (0 : Int32)), .val (.int (0 : Int32)), .val (.int (3 : Int32)), .val (.int (3 : Int32)), .val (.int (1 : Int32))] at_368 rfl ?_
          refine Wl.iload 372 at_370 rfl ?_
          refine Wl.ifN 375 at_372 (feq (by decide)).1 ?_
          refine Wl.iload 377 at_375 rfl ?_
          refine Wl.iconst 378 (3 : Int32) at_377 (by decide) ?_
          refine Wl.icmpY 404 at_378 (flt (by decide)).2.2.2 ?_
          refine Wl.iload 406 at_404 rfl ?_
          exact Wl.ireturn at_406 rfl rfl (by simp) (nle rfl) (nle rfl) rfl
      · refine Wl.ifY 123 at_116 (feq c66).2 ?_
        refine Wl.iconst 124 (0 : Int32) at_123 (by decide) ?_
        refine Wl.istore 126 #[.val (.int i0), .val (.int i1), .val (.int i2), .val (.int i3), .val (.int i4), .val (.int (4 : Int32)), .val (.ref a1), .val (.ref a44), .val (.ref a51), .val (.int (1 : Int32)), .val (.int (1 : Int32)), .val (.int (0 : Int32)), .unset, .unset, .unset, .unset, .unset] at_124 rfl ?_
        refine Wl.iload 128 at_126 rfl ?_
        refine Wl.iconst 129 (3 : Int32) at_128 (by decide) ?_
        refine Wl.icmpN 132 at_129 (tlt (by decide)).2.2.2 ?_
        refine Wl.aload 134 at_132 rfl rfl ?_
        refine Wl.iconst 135 (3 : Int32) at_134 (by decide) ?_
        refine Wl.caload 136 3 at_135 ((A39.ext E45).ext E52) (by decide) (by decide) (by decide) rfl ?_
        refine Wl.static 139 (argsL := [.int c3]) at_136 (w118 hw) (w119 hw) (w4 hw) (w120 hw) (show parseMethodDescriptor "(C)Z" = some ⟨[.char], some .boolean⟩ by decide +kernel) rfl (sp_met hw) (fun _ q => nomatch q) rfl rfl rfl (by decide) ⟨⟨nle rfl, nle rfl⟩, nle rfl, nle rfl⟩ ?_
        intro v100 h101 hq102 _
        obtain ⟨rfl, rfl⟩ := hq102
        show WlO _ _ _ _ _ _ _ _ _ _ _ _ _ _ _ _ _ _ [.int (spI c3)]
        by_cases c103 : (spI c3) = (0 : Int32)
        · refine Wl.ifN 142 at_139 (teq c103).2 ?_
          refine Wl.iconst 143 (1 : Int32) at_142 (by decide) ?_
          refine Wl.goto 147 at_143 ?_
          refine Wl.istore 149 #[.val (.int i0), .val (.int i1), .val (.int i2), .val (.int i3), .val (.int i4), .val (.int (4 : Int32)), .val (.ref a1), .val (.ref a44), .val (.ref a51), .val (.int (1 : Int32)), .val (.int (1 : Int32)), .val (.int (0 : Int32)), .val (.int (1 : Int32)), .unset, .unset, .unset, .unset] at_147 rfl ?_
          refine Wl.iload 151 at_149 rfl ?_
          refine Wl.ifN 154 at_151 (feq (by decide)).1 ?_
          refine Wl.iconst 155 (0 : Int32) at_154 (by decide) ?_
          refine Wl.istore 157 #[.val (.int i0), .val (.int i1), .val (.int i2), .val (.int i3), .val (.int i4), .val (.int (4 : Int32)), .val (.ref a1), .val (.ref a44), .val (.ref a51), .val (.int (1 : Int32)), .val (.int (1 : Int32)), .val (.int (0 : Int32)), .val (.int (1 : Int32)), .val (.int (0 : Int32)), .unset, .unset, .unset] at_155 rfl ?_
          refine Wl.goto 197 at_157 ?_
          refine Wl.iload 199 at_197 rfl ?_
          refine Wl.iload 201 at_199 rfl ?_
          refine Wl.icmpY 211 at_201 (feq (by decide)).2 ?_
          refine Wl.iload 213 at_211 rfl ?_
          refine Wl.ifN 216 at_213 (feq (by decide)).1 ?_
          refine Wl.iconst 217 (4 : Int32) at_216 (by decide) ?_
          refine Wl.istore 219 #[.val (.int i0), .val (.int i1), .val (.int i2), .val (.int i3), .val (.int i4), .val (.int (4 : Int32)), .val (.ref a1), .val (.ref a44), .val (.ref a51), .val (.int (1 : Int32)), .val (.int (1 : Int32)), .val (.int (0 : Int32)), .val (.int (1 : Int32)), .val (.int (0 : Int32)), .val (.int (4 : Int32)), .unset, .unset] at_217 rfl ?_
          refine Wl.goto 247 at_219 ?_
          refine Wl.iload 249 at_247 rfl ?_
          refine Wl.iload 251 at_249 rfl ?_
          refine Wl.isub 252 at_251 ?_
          show WlO _ _ _ _ _ _ _ _ _ _ _ _ _ _ _ _ _ _ [.int (4 : Int32)]
          refine Wl.istore 254 #[.val (.int i0), .val (.int i1), .val (.int i2), .val (.int i3), .val (.int i4), .val (.int (4 : Int32)), .val (.ref a1), .val (.ref a44), .val (.ref a51), .val (.int (1 : Int32)), .val (.int (1 : Int32)), .val (.int (0 : Int32)), .val (.int (1 : Int32)), .val (.int (0 : Int32)), .val (.int (4 : Int32)), .val (.int (4 : Int32)), .unset] at_252 rfl ?_
          refine Wl.aload 256 at_254 rfl rfl ?_
          have S104 := S53
          rw [show trimL [c0, c1, c2, c3] = [c0, c1, c2, c3] by simp [trimL, isp, List.dropWhile, c58, c62, c66, c103]] at S104
          refine Wl.virtual 259 (argsL := []) at_256 (w59 hw) (w35 hw) (w37 hw) (w36 hw) (w11 hw) (w38 hw) (nf_sel (w37 hw) rfl) (S53).exa (show parseMethodDescriptor "()I" = some ⟨[], some .int⟩ by decide +kernel) rfl (len_met hw hcs S104) (fun _ q => nomatch q) rfl rfl rfl (by decide) ⟨⟨nle rfl, nle rfl⟩, nle rfl, nle rfl⟩ ?_
          intro v105 h106 hq107 _
          obtain ⟨rfl, rfl⟩ := hq107
          show WlO _ _ _ _ _ _ _ _ _ _ _ _ _ _ _ _ _ _ [.int (4 : Int32)]
          refine Wl.iload 261 at_259 rfl ?_
          refine Wl.icmpN 264 at_261 (teq (by decide)).2 ?_
          refine Wl.iconst 265 (1 : Int32) at_264 (by decide) ?_
          refine Wl.goto 269 at_265 ?_
          refine Wl.istore 271 #[.val (.int i0), .val (.int i1), .val (.int i2), .val (.int i3), .val (.int i4), .val (.int (4 : Int32)), .val (.ref a1), .val (.ref a44), .val (.ref a51), .val (.int (1 : Int32)), .val (.int (1 : Int32)), .val (.int (0 : Int32)), .val (.int (1 : Int32)), .val (.int (0 : Int32)), .val (.int (4 : Int32)), .val (.int (4 : Int32)), .val (.int (1 : Int32))] at_269 rfl ?_
          refine Wl.iload 273 at_271 rfl ?_
          refine Wl.ifN 276 at_273 (feq (by decide)).1 ?_
          refine Wl.iload 278 at_276 rfl ?_
          refine Wl.ifN 281 at_278 (tlt (by decide)).2.2.2 ?_
          refine Wl.aload 283 at_281 rfl rfl ?_
          refine Wl.iconst 284 (0 : Int32) at_283 (by decide) ?_
          refine Wl.virtual 287 (argsL := [.int (0 : Int32)]) at_284 (w121 hw) (w71 hw) (w73 hw) (w72 hw) (w11 hw) (w74 hw) (nf_sel (w73 hw) rfl) (S53).exa (show parseMethodDescriptor "(I)C" = some ⟨[.int], some .char⟩ by decide +kernel) rfl (charAt_met hw hcs hfm S104 (i := 0) (nle rfl)) (fun _ q => nomatch q) rfl rfl rfl (by decide) ⟨⟨nle rfl, nle rfl⟩, nle rfl, nle rfl⟩ ?_
          intro v108 h109 hq110 _
          obtain ⟨rfl, rfl⟩ := hq110
          show WlO _ _ _ _ _ _ _ _ _ _ _ _ _ _ _ _ _ _ [.int c0]
          refine Wl.aload 289 at_287 rfl rfl ?_
          refine Wl.iload 291 at_289 rfl ?_
          refine Wl.caload 292 0 at_291 ((A39.ext E45).ext E52) (by decide) (by decide) (by decide) rfl ?_
          refine Wl.icmpN 295 at_292 (teq rfl).2 ?_
          refine Wl.iconst 296 (1 : Int32) at_295 (by decide) ?_
          refine Wl.goto 300 at_296 ?_
          refine Wl.istore 302 #[.val (.int i0), .val (.int i1), .val (.int i2), .val (.int i3), .val (.int i4), .val (.int (4 : Int32)), .val (.ref a1), .val (.ref a44), .val (.ref a51), .val (.int (1 : Int32)), .val (.int (1 : Int32)), .val (.int (0 : Int32)), .val (.int (1 : Int32)), .val (.int (0 : Int32)), .val (.int (4 : Int32)), .val (.int (4 : Int32)), .val (.int (1 : Int32))] at_300 rfl ?_
          refine Wl.iload 304 at_302 rfl ?_
          refine Wl.ifN 307 at_304 (feq (by decide)).1 ?_
          refine Wl.iload 309 at_307 rfl ?_
          refine Wl.iconst 310 (1 : Int32) at_309 (by decide) ?_
          refine Wl.icmpN 313 at_310 (tlt (by decide)).2.2.2 ?_
          refine Wl.aload 315 at_313 rfl rfl ?_
          refine Wl.iconst 316 (1 : Int32) at_315 (by decide) ?_
          refine Wl.virtual 319 (argsL := [.int (1 : Int32)]) at_316 (w121 hw) (w71 hw) (w73 hw) (w72 hw) (w11 hw) (w74 hw) (nf_sel (w73 hw) rfl) (S53).exa (show parseMethodDescriptor "(I)C" = some ⟨[.int], some .char⟩ by decide +kernel) rfl (charAt_met hw hcs hfm S104 (i := 1) (nle rfl)) (fun _ q => nomatch q) rfl rfl rfl (by decide) ⟨⟨nle rfl, nle rfl⟩, nle rfl, nle rfl⟩ ?_
          intro v111 h112 hq113 _
          obtain ⟨rfl, rfl⟩ := hq113
          show WlO _ _ _ _ _ _ _ _ _ _ _ _ _ _ _ _ _ _ [.int c1]
          refine Wl.aload 321 at_319 rfl rfl ?_
          refine Wl.iload 323 at_321 rfl ?_
          refine Wl.iconst 324 (1 : Int32) at_323 (by decide) ?_
          refine Wl.iadd 325 at_324 ?_
          show WlO _ _ _ _ _ _ _ _ _ _ _ _ _ _ _ _ _ _ [.int (1 : Int32), .ref a1, .int c1]
          refine Wl.caload 326 1 at_325 ((A39.ext E45).ext E52) (by decide) (by decide) (by decide) rfl ?_
          refine Wl.icmpN 329 at_326 (teq rfl).2 ?_
          refine Wl.iconst 330 (1 : Int32) at_329 (by decide) ?_
          refine Wl.goto 334 at_330 ?_
          refine Wl.istore 336 #[.val (.int i0), .val (.int i1), .val (.int i2), .val (.int i3), .val (.int i4), .val (.int (4 : Int32)), .val (.ref a1), .val (.ref a44), .val (.ref a51), .val (.int (1 : Int32)), .val (.int (1 : Int32)), .val (.int (0 : Int32)), .val (.int (1 : Int32)), .val (.int (0 : Int32)), .val (.int (4 : Int32)), .val (.int (4 : Int32)), .val (.int (1 : Int32))] at_334 rfl ?_
          refine Wl.iload 338 at_336 rfl ?_
          refine Wl.ifN 341 at_338 (feq (by decide)).1 ?_
          refine Wl.iload 343 at_341 rfl ?_
          refine Wl.iconst 344 (2 : Int32) at_343 (by decide) ?_
          refine Wl.icmpN 347 at_344 (tlt (by decide)).2.2.2 ?_
          refine Wl.aload 349 at_347 rfl rfl ?_
          refine Wl.iconst 350 (2 : Int32) at_349 (by decide) ?_
          refine Wl.virtual 353 (argsL := [.int (2 : Int32)]) at_350 (w121 hw) (w71 hw) (w73 hw) (w72 hw) (w11 hw) (w74 hw) (nf_sel (w73 hw) rfl) (S53).exa (show parseMethodDescriptor "(I)C" = some ⟨[.int], some .char⟩ by decide +kernel) rfl (charAt_met hw hcs hfm S104 (i := 2) (nle rfl)) (fun _ q => nomatch q) rfl rfl rfl (by decide) ⟨⟨nle rfl, nle rfl⟩, nle rfl, nle rfl⟩ ?_
          intro v114 h115 hq116 _
          obtain ⟨rfl, rfl⟩ := hq116
          show WlO _ _ _ _ _ _ _ _ _ _ _ _ _ _ _ _ _ _ [.int c2]
          refine Wl.aload 355 at_353 rfl rfl ?_
          refine Wl.iload 357 at_355 rfl ?_
          refine Wl.iconst 358 (2 : Int32) at_357 (by decide) ?_
          refine Wl.iadd 359 at_358 ?_
          show WlO _ _ _ _ _ _ _ _ _ _ _ _ _ _ _ _ _ _ [.int (2 : Int32), .ref a1, .int c2]
          refine Wl.caload 360 2 at_359 ((A39.ext E45).ext E52) (by decide) (by decide) (by decide) rfl ?_
          refine Wl.icmpN 363 at_360 (teq rfl).2 ?_
          refine Wl.iconst 364 (1 : Int32) at_363 (by decide) ?_
          refine Wl.goto 368 at_364 ?_
          refine Wl.istore 370 #[.val (.int i0), .val (.int i1), .val (.int i2), .val (.int i3), .val (.int i4), .val (.int (4 : Int32)), .val (.ref a1), .val (.ref a44), .val (.ref a51), .val (.int (1 : Int32)), .val (.int (1 : Int32)), .val (.int (0 : Int32)), .val (.int (1 : Int32)), .val (.int (0 : Int32)), .val (.int (4 : Int32)), .val (.int (4 : Int32)), .val (.int (1 : Int32))] at_368 rfl ?_
          refine Wl.iload 372 at_370 rfl ?_
          refine Wl.ifN 375 at_372 (feq (by decide)).1 ?_
          refine Wl.iload 377 at_375 rfl ?_
          refine Wl.iconst 378 (3 : Int32) at_377 (by decide) ?_
          refine Wl.icmpN 381 at_378 (tlt (by decide)).2.2.2 ?_
          refine Wl.aload 383 at_381 rfl rfl ?_
          refine Wl.iconst 384 (3 : Int32) at_383 (by decide) ?_
          refine Wl.virtual 387 (argsL := [.int (3 : Int32)]) at_384 (w121 hw) (w71 hw) (w73 hw) (w72 hw) (w11 hw) (w74 hw) (nf_sel (w73 hw) rfl) (S53).exa (show parseMethodDescriptor "(I)C" = some ⟨[.int], some .char⟩ by decide +kernel) rfl (charAt_met hw hcs hfm S104 (i := 3) (nle rfl)) (fun _ q => nomatch q) rfl rfl rfl (by decide) ⟨⟨nle rfl, nle rfl⟩, nle rfl, nle rfl⟩ ?_
          intro v117 h118 hq119 _
          obtain ⟨rfl, rfl⟩ := hq119
          show WlO _ _ _ _ _ _ _ _ _ _ _ _ _ _ _ _ _ _ [.int c3]
          refine Wl.aload 389 at_387 rfl rfl ?_
          refine Wl.iload 391 at_389 rfl ?_
          refine Wl.iconst 392 (3 : Int32) at_391 (by decide) ?_
          refine Wl.iadd 393 at_392 ?_
          show WlO _ _ _ _ _ _ _ _ _ _ _ _ _ _ _ _ _ _ [.int (3 : Int32), .ref a1, .int c3]
          refine Wl.caload 394 3 at_393 ((A39.ext E45).ext E52) (by decide) (by decide) (by decide) rfl ?_
          refine Wl.icmpN 397 at_394 (teq rfl).2 ?_
          refine Wl.iconst 398 (1 : Int32) at_397 (by decide) ?_
          refine Wl.goto 402 at_398 ?_
          refine Wl.istore 404 #[.val (.int i0), .val (.int i1), .val (.int i2), .val (.int i3), .val (.int i4), .val (.int (4 : Int32)), .val (.ref a1), .val (.ref a44), .val (.ref a51), .val (.int (1 : Int32)), .val (.int (1 : Int32)), .val (.int (0 : Int32)), .val (.int (1 : Int32)), .val (.int (0 : Int32)), .val (.int (4 : Int32)), .val (.int (4 : Int32)), .val (.int (1 : Int32))] at_402 rfl ?_
          refine Wl.iload 406 at_404 rfl ?_
          exact Wl.ireturn at_406 rfl rfl (by simp) (nle rfl) (nle rfl) rfl
        · refine Wl.ifY 146 at_139 (feq c103).2 ?_
          refine Wl.iconst 147 (0 : Int32) at_146 (by decide) ?_
          refine Wl.istore 149 #[.val (.int i0), .val (.int i1), .val (.int i2), .val (.int i3), .val (.int i4), .val (.int (4 : Int32)), .val (.ref a1), .val (.ref a44), .val (.ref a51), .val (.int (1 : Int32)), .val (.int (1 : Int32)), .val (.int (0 : Int32)), .val (.int (0 : Int32)), .unset, .unset, .unset, .unset] at_147 rfl ?_
          refine Wl.iload 151 at_149 rfl ?_
          refine Wl.ifN 154 at_151 (feq (by decide)).1 ?_
          refine Wl.iconst 155 (0 : Int32) at_154 (by decide) ?_
          refine Wl.istore 157 #[.val (.int i0), .val (.int i1), .val (.int i2), .val (.int i3), .val (.int i4), .val (.int (4 : Int32)), .val (.ref a1), .val (.ref a44), .val (.ref a51), .val (.int (1 : Int32)), .val (.int (1 : Int32)), .val (.int (0 : Int32)), .val (.int (0 : Int32)), .val (.int (0 : Int32)), .unset, .unset, .unset] at_155 rfl ?_
          refine Wl.goto 197 at_157 ?_
          refine Wl.iload 199 at_197 rfl ?_
          refine Wl.iload 201 at_199 rfl ?_
          refine Wl.icmpY 211 at_201 (feq (by decide)).2 ?_
          refine Wl.iload 213 at_211 rfl ?_
          refine Wl.ifY 222 at_213 (teq (by decide)).1 ?_
          refine Wl.iload 224 at_222 rfl ?_
          refine Wl.ifY 233 at_224 (teq (by decide)).1 ?_
          refine Wl.iload 235 at_233 rfl ?_
          refine Wl.ifN 238 at_235 (feq (by decide)).1 ?_
          refine Wl.iconst 239 (2 : Int32) at_238 (by decide) ?_
          refine Wl.istore 241 #[.val (.int i0), .val (.int i1), .val (.int i2), .val (.int i3), .val (.int i4), .val (.int (4 : Int32)), .val (.ref a1), .val (.ref a44), .val (.ref a51), .val (.int (1 : Int32)), .val (.int (1 : Int32)), .val (.int (0 : Int32)), .val (.int (0 : Int32)), .val (.int (0 : Int32)), .val (.int (2 : Int32)), .unset, .unset] at_239 rfl ?_
          refine Wl.goto 247 at_241 ?_
          refine Wl.iload 249 at_247 rfl ?_
          refine Wl.iload 251 at_249 rfl ?_
          refine Wl.isub 252 at_251 ?_
          show WlO _ _ _ _ _ _ _ _ _ _ _ _ _ _ _ _ _ _ [.int (2 : Int32)]
          refine Wl.istore 254 #[.val (.int i0), .val (.int i1), .val (.int i2), .val (.int i3), .val (.int i4), .val (.int (4 : Int32)), .val (.ref a1), .val (.ref a44), .val (.ref a51), .val (.int (1 : Int32)), .val (.int (1 : Int32)), .val (.int (0 : Int32)), .val (.int (0 : Int32)), .val (.int (0 : Int32)), .val (.int (2 : Int32)), .val (.int (2 : Int32)), .unset] at_252 rfl ?_
          refine Wl.aload 256 at_254 rfl rfl ?_
          have S120 := S53
          rw [show trimL [c0, c1, c2, c3] = [c0, c1] by simp [trimL, isp, List.dropWhile, c58, c62, c66, c103]] at S120
          refine Wl.virtual 259 (argsL := []) at_256 (w59 hw) (w35 hw) (w37 hw) (w36 hw) (w11 hw) (w38 hw) (nf_sel (w37 hw) rfl) (S53).exa (show parseMethodDescriptor "()I" = some ⟨[], some .int⟩ by decide +kernel) rfl (len_met hw hcs S120) (fun _ q => nomatch q) rfl rfl rfl (by decide) ⟨⟨nle rfl, nle rfl⟩, nle rfl, nle rfl⟩ ?_
          intro v121 h122 hq123 _
          obtain ⟨rfl, rfl⟩ := hq123
          show WlO _ _ _ _ _ _ _ _ _ _ _ _ _ _ _ _ _ _ [.int (2 : Int32)]
          refine Wl.iload 261 at_259 rfl ?_
          refine Wl.icmpN 264 at_261 (teq (by decide)).2 ?_
          refine Wl.iconst 265 (1 : Int32) at_264 (by decide) ?_
          refine Wl.goto 269 at_265 ?_
          refine Wl.istore 271 #[.val (.int i0), .val (.int i1), .val (.int i2), .val (.int i3), .val (.int i4), .val (.int (4 : Int32)), .val (.ref a1), .val (.ref a44), .val (.ref a51), .val (.int (1 : Int32)), .val (.int (1 : Int32)), .val (.int (0 : Int32)), .val (.int (0 : Int32)), .val (.int (0 : Int32)), .val (.int (2 : Int32)), .val (.int (2 : Int32)), .val (.int (1 : Int32))] at_269 rfl ?_
          refine Wl.iload 273 at_271 rfl ?_
          refine Wl.ifN 276 at_273 (feq (by decide)).1 ?_
          refine Wl.iload 278 at_276 rfl ?_
          refine Wl.ifN 281 at_278 (tlt (by decide)).2.2.2 ?_
          refine Wl.aload 283 at_281 rfl rfl ?_
          refine Wl.iconst 284 (0 : Int32) at_283 (by decide) ?_
          refine Wl.virtual 287 (argsL := [.int (0 : Int32)]) at_284 (w121 hw) (w71 hw) (w73 hw) (w72 hw) (w11 hw) (w74 hw) (nf_sel (w73 hw) rfl) (S53).exa (show parseMethodDescriptor "(I)C" = some ⟨[.int], some .char⟩ by decide +kernel) rfl (charAt_met hw hcs hfm S120 (i := 0) (nle rfl)) (fun _ q => nomatch q) rfl rfl rfl (by decide) ⟨⟨nle rfl, nle rfl⟩, nle rfl, nle rfl⟩ ?_
          intro v124 h125 hq126 _
          obtain ⟨rfl, rfl⟩ := hq126
          show WlO _ _ _ _ _ _ _ _ _ _ _ _ _ _ _ _ _ _ [.int c0]
          refine Wl.aload 289 at_287 rfl rfl ?_
          refine Wl.iload 291 at_289 rfl ?_
          refine Wl.caload 292 0 at_291 ((A39.ext E45).ext E52) (by decide) (by decide) (by decide) rfl ?_
          refine Wl.icmpN 295 at_292 (teq rfl).2 ?_
          refine Wl.iconst 296 (1 : Int32) at_295 (by decide) ?_
          refine Wl.goto 300 at_296 ?_
          refine Wl.istore 302 #[.val (.int i0), .val (.int i1), .val (.int i2), .val (.int i3), .val (.int i4), .val (.int (4 : Int32)), .val (.ref a1), .val (.ref a44), .val (.ref a51), .val (.int (1 : Int32)), .val (.int (1 : Int32)), .val (.int (0 : Int32)), .val (.int (0 : Int32)), .val (.int (0 : Int32)), .val (.int (2 : Int32)), .val (.int (2 : Int32)), .val (.int (1 : Int32))] at_300 rfl ?_
          refine Wl.iload 304 at_302 rfl ?_
          refine Wl.ifN 307 at_304 (feq (by decide)).1 ?_
          refine Wl.iload 309 at_307 rfl ?_
          refine Wl.iconst 310 (1 : Int32) at_309 (by decide) ?_
          refine Wl.icmpN 313 at_310 (tlt (by decide)).2.2.2 ?_
          refine Wl.aload 315 at_313 rfl rfl ?_
          refine Wl.iconst 316 (1 : Int32) at_315 (by decide) ?_
          refine Wl.virtual 319 (argsL := [.int (1 : Int32)]) at_316 (w121 hw) (w71 hw) (w73 hw) (w72 hw) (w11 hw) (w74 hw) (nf_sel (w73 hw) rfl) (S53).exa (show parseMethodDescriptor "(I)C" = some ⟨[.int], some .char⟩ by decide +kernel) rfl (charAt_met hw hcs hfm S120 (i := 1) (nle rfl)) (fun _ q => nomatch q) rfl rfl rfl (by decide) ⟨⟨nle rfl, nle rfl⟩, nle rfl, nle rfl⟩ ?_
          intro v127 h128 hq129 _
          obtain ⟨rfl, rfl⟩ := hq129
          show WlO _ _ _ _ _ _ _ _ _ _ _ _ _ _ _ _ _ _ [.int c1]
          refine Wl.aload 321 at_319 rfl rfl ?_
          refine Wl.iload 323 at_321 rfl ?_
          refine Wl.iconst 324 (1 : Int32) at_323 (by decide) ?_
          refine Wl.iadd 325 at_324 ?_
          show WlO _ _ _ _ _ _ _ _ _ _ _ _ _ _ _ _ _ _ [.int (1 : Int32), .ref a1, .int c1]
          refine Wl.caload 326 1 at_325 ((A39.ext E45).ext E52) (by decide) (by decide) (by decide) rfl ?_
          refine Wl.icmpN 329 at_326 (teq rfl).2 ?_
          refine Wl.iconst 330 (1 : Int32) at_329 (by decide) ?_
          refine Wl.goto 334 at_330 ?_
          refine Wl.istore 336 #[.val (.int i0), .val (.int i1), .val (.int i2), .val (.int i3), .val (.int i4), .val (.int (4 : Int32)), .val (.ref a1), .val (.ref a44), .val (.ref a51), .val (.int (1 : Int32)), .val (.int (1 : Int32)), .val (.int (0 : Int32)), .val (.int (0 : Int32)), .val (.int (0 : Int32)), .val (.int (2 : Int32)), .val (.int (2 : Int32)), .val (.int (1 : Int32))] at_334 rfl ?_
          refine Wl.iload 338 at_336 rfl ?_
          refine Wl.ifN 341 at_338 (feq (by decide)).1 ?_
          refine Wl.iload 343 at_341 rfl ?_
          refine Wl.iconst 344 (2 : Int32) at_343 (by decide) ?_
          refine Wl.icmpY 370 at_344 (flt (by decide)).2.2.2 ?_
          refine Wl.iload 372 at_370 rfl ?_
          refine Wl.ifN 375 at_372 (feq (by decide)).1 ?_
          refine Wl.iload 377 at_375 rfl ?_
          refine Wl.iconst 378 (3 : Int32) at_377 (by decide) ?_
          refine Wl.icmpY 404 at_378 (flt (by decide)).2.2.2 ?_
          refine Wl.iload 406 at_404 rfl ?_
          exact Wl.ireturn at_406 rfl rfl (by simp) (nle rfl) (nle rfl) rfl
    · refine Wl.ifY 100 at_93 (feq c62).2 ?_
      refine Wl.iconst 101 (0 : Int32) at_100 (by decide) ?_
      refine Wl.istore 103 #[.val (.int i0), .val (.int i1), .val (.int i2), .val (.int i3), .val (.int i4), .val (.int (4 : Int32)), .val (.ref a1), .val (.ref a44), .val (.ref a51), .val (.int (1 : Int32)), .val (.int (0 : Int32)), .unset, .unset, .unset, .unset, .unset, .unset] at_101 rfl ?_
      refine Wl.iload 105 at_103 rfl ?_
      refine Wl.iconst 106 (2 : Int32) at_105 (by decide) ?_
      refine Wl.icmpN 109 at_106 (tlt (by decide)).2.2.2 ?_
      refine Wl.aload 111 at_109 rfl rfl ?_
      refine Wl.iconst 112 (2 : Int32) at_111 (by decide) ?_
      refine Wl.caload 113 2 at_112 ((A39.ext E45).ext E52) (by decide) (by decide) (by decide) rfl ?_
      refine Wl.static 116 (argsL := [.int c2]) at_113 (w118 hw) (w119 hw) (w4 hw) (w120 hw) (show parseMethodDescriptor "(C)Z" = some ⟨[.char], some .boolean⟩ by decide +kernel) rfl (sp_met hw) (fun _ q => nomatch q) rfl rfl rfl (by decide) ⟨⟨nle rfl, nle rfl⟩, nle rfl, nle rfl⟩ ?_
      intro v130 h131 hq132 _
      obtain ⟨rfl, rfl⟩ := hq132
      show WlO _ _ _ _ _ _ _ _ _ _ _ _ _ _ _ _ _ _ [.int (spI c2)]
      by_cases c133 : (spI c2) = (0 : Int32)
      · refine Wl.ifN 119 at_116 (teq c133).2 ?_
        refine Wl.iconst 120 (1 : Int32) at_119 (by decide) ?_
        refine Wl.goto 124 at_120 ?_
        refine Wl.istore 126 #[.val (.int i0), .val (.int i1), .val (.int i2), .val (.int i3), .val (.int i4), .val (.int (4 : Int32)), .val (.ref a1), .val (.ref a44), .val (.ref a51), .val (.int (1 : Int32)), .val (.int (0 : Int32)), .val (.int (1 : Int32)), .unset, .unset, .unset, .unset, .unset] at_124 rfl ?_
        refine Wl.iload 128 at_126 rfl ?_
        refine Wl.iconst 129 (3 : Int32) at_128 (by decide) ?_
        refine Wl.icmpN 132 at_129 (tlt (by decide)).2.2.2 ?_
        refine Wl.aload 134 at_132 rfl rfl ?_
        refine Wl.iconst 135 (3 : Int32) at_134 (by decide) ?_
        refine Wl.caload 136 3 at_135 ((A39.ext E45).ext E52) (by decide) (by decide) (by decide) rfl ?_
        refine Wl.static 139 (argsL := [.int c3]) at_136 (w118 hw) (w119 hw) (w4 hw) (w120 hw) (show parseMethodDescriptor "(C)Z" = some ⟨[.char], some .boolean⟩ by decide +kernel) rfl (sp_met hw) (fun _ q => nomatch q) rfl rfl rfl (by decide) ⟨⟨nle rfl, nle rfl⟩, nle rfl, nle rfl⟩ ?_
        intro v134 h135 hq136 _
        obtain ⟨rfl, rfl⟩ := hq136
        show WlO _ _ _ _ _ _ _ _ _ _ _ _ _ _ _ _ _ _ [.int (spI c3)]
        by_cases c137 : (spI c3) = (0 : Int32)
        · refine Wl.ifN 142 at_139 (teq c137).2 ?_
          refine Wl.iconst 143 (1 : Int32) at_142 (by decide) ?_
          refine Wl.goto 147 at_143 ?_
          refine Wl.istore 149 #[.val (.int i0), .val (.int i1), .val (.int i2), .val (.int i3), .val (.int i4), .val (.int (4 : Int32)), .val (.ref a1), .val (.ref a44), .val (.ref a51), .val (.int (1 : Int32)), .val (.int (0 : Int32)), .val (.int (1 : Int32)), .val (.int (1 : Int32)), .unset, .unset, .unset, .unset] at_147 rfl ?_
          refine Wl.iload 151 at_149 rfl ?_
          refine Wl.ifN 154 at_151 (feq (by decide)).1 ?_
          refine Wl.iconst 155 (0 : Int32) at_154 (by decide) ?_
          refine Wl.istore 157 #[.val (.int i0), .val (.int i1), .val (.int i2), .val (.int i3), .val (.int i4), .val (.int (4 : Int32)), .val (.ref a1), .val (.ref a44), .val (.ref a51), .val (.int (1 : Int32)), .val (.int (0 : Int32)), .val (.int (1 : Int32)), .val (.int (1 : Int32)), .val (.int (0 : Int32)), .unset, .unset, .unset] at_155 rfl ?_
          refine Wl.goto 197 at_157 ?_
          refine Wl.iload 199 at_197 rfl ?_
          refine Wl.iload 201 at_199 rfl ?_
          refine Wl.icmpY 211 at_201 (feq (by decide)).2 ?_
          refine Wl.iload 213 at_211 rfl ?_
          refine Wl.ifN 216 at_213 (feq (by decide)).1 ?_
          refine Wl.iconst 217 (4 : Int32) at_216 (by decide) ?_
          refine Wl.istore 219 #[.val (.int i0), .val (.int i1), .val (.int i2), .val (.int i3), .val (.int i4), .val (.int (4 : Int32)), .val (.ref a1), .val (.ref a44), .val (.ref a51), .val (.int (1 : Int32)), .val (.int (0 : Int32)), .val (.int (1 : Int32)), .val (.int (1 : Int32)), .val (.int (0 : Int32)), .val (.int (4 : Int32)), .unset, .unset] at_217 rfl ?_
          refine Wl.goto 247 at_219 ?_
          refine Wl.iload 249 at_247 rfl ?_
          refine Wl.iload 251 at_249 rfl ?_
          refine Wl.isub 252 at_251 ?_
          show WlO _ _ _ _ _ _ _ _ _ _ _ _ _ _ _ _ _ _ [.int (4 : Int32)]
          refine Wl.istore 254 #[.val (.int i0), .val (.int i1), .val (.int i2), .val (.int i3), .val (.int i4), .val (.int (4 : Int32)), .val (.ref a1), .val (.ref a44), .val (.ref a51), .val (.int (1 : Int32)), .val (.int (0 : Int32)), .val (.int (1 : Int32)), .val (.int (1 : Int32)), .val (.int (0 : Int32)), .val (.int (4 : Int32)), .val (.int (4 : Int32)), .unset] at_252 rfl ?_
          refine Wl.aload 256 at_254 rfl rfl ?_
          have S138 := S53
          rw [show trimL [c0, c1, c2, c3] = [c0, c1, c2, c3] by simp [trimL, isp, List.dropWhile, c58, c62, c133, c137]] at S138
          refine Wl.virtual 259 (argsL := []) at_256 (w59 hw) (w35 hw) (w37 hw) (w36 hw) (w11 hw) (w38 hw) (nf_sel (w37 hw) rfl) (S53).exa (show parseMethodDescriptor "()I" = some ⟨[], some .int⟩ by decide +kernel) rfl (len_met hw hcs S138) (fun _ q => nomatch q) rfl rfl rfl (by decide) ⟨⟨nle rfl, nle rfl⟩, nle rfl, nle rfl⟩ ?_
          intro v139 h140 hq141 _
          obtain ⟨rfl, rfl⟩ := hq141
          show WlO _ _ _ _ _ _ _ _ _ _ _ _ _ _ _ _ _ _ [.int (4 : Int32)]
          refine Wl.iload 261 at_259 rfl ?_
          refine Wl.icmpN 264 at_261 (teq (by decide)).2 ?_
          refine Wl.iconst 265 (1 : Int32) at_264 (by decide) ?_
          refine Wl.goto 269 at_265 ?_
          refine Wl.istore 271 #[.val (.int i0), .val (.int i1), .val (.int i2), .val (.int i3), .val (.int i4), .val (.int (4 : Int32)), .val (.ref a1), .val (.ref a44), .val (.ref a51), .val (.int (1 : Int32)), .val (.int (0 : Int32)), .val (.int (1 : Int32)), .val (.int (1 : Int32)), .val (.int (0 : Int32)), .val (.int (4 : Int32)), .val (.int (4 : Int32)), .val (.int (1 : Int32))] at_269 rfl ?_
          refine Wl.iload 273 at_271 rfl ?_
          refine Wl.ifN 276 at_273 (feq (by decide)).1 ?_
          refine Wl.iload 278 at_276 rfl ?_
          refine Wl.ifN 281 at_278 (tlt (by decide)).2.2.2 ?_
          refine Wl.aload 283 at_281 rfl rfl ?_
          refine Wl.iconst 284 (0 : Int32) at_283 (by decide) ?_
          refine Wl.virtual 287 (argsL := [.int (0 : Int32)]) at_284 (w121 hw) (w71 hw) (w73 hw) (w72 hw) (w11 hw) (w74 hw) (nf_sel (w73 hw) rfl) (S53).exa (show parseMethodDescriptor "(I)C" = some ⟨[.int], some .char⟩ by decide +kernel) rfl (charAt_met hw hcs hfm S138 (i := 0) (nle rfl)) (fun _ q => nomatch q) rfl rfl rfl (by decide) ⟨⟨nle rfl, nle rfl⟩, nle rfl, nle rfl⟩ ?_
          intro v142 h143 hq144 _
          obtain ⟨rfl, rfl⟩ := hq144
          show WlO _ _ _ _ _ _ _ _ _ _ _ _ _ _ _ _ _ _ [.int c0]
          refine Wl.aload 289 at_287 rfl rfl ?_
          refine Wl.iload 291 at_289 rfl ?_
          refine Wl.caload 292 0 at_291 ((A39.ext E45).ext E52) (by decide) (by decide) (by decide) rfl ?_
          refine Wl.icmpN 295 at_292 (teq rfl).2 ?_
          refine Wl.iconst 296 (1 : Int32) at_295 (by decide) ?_
          refine Wl.goto 300 at_296 ?_
          refine Wl.istore 302 #[.val (.int i0), .val (.int i1), .val (.int i2), .val (.int i3), .val (.int i4), .val (.int (4 : Int32)), .val (.ref a1), .val (.ref a44), .val (.ref a51), .val (.int (1 : Int32)), .val (.int (0 : Int32)), .val (.int (1 : Int32)), .val (.int (1 : Int32)), .val (.int (0 : Int32)), .val (.int (4 : Int32)), .val (.int (4 : Int32)), .val (.int (1 : Int32))] at_300 rfl ?_
          refine Wl.iload 304 at_302 rfl ?_
          refine Wl.ifN 307 at_304 (feq (by decide)).1 ?_
          refine Wl.iload 309 at_307 rfl ?_
          refine Wl.iconst 310 (1 : Int32) at_309 (by decide) ?_
          refine Wl.icmpN 313 at_310 (tlt (by decide)).2.2.2 ?_
          refine Wl.aload 315 at_313 rfl rfl ?_
          refine Wl.iconst 316 (1 : Int32) at_315 (by decide) ?_
          refine Wl.virtual 319 (argsL := [.int (1 : Int32)]) at_316 (w121 hw) (w71 hw) (w73 hw) (w72 hw) (w11 hw) (w74 hw) (nf_sel (w73 hw) rfl) (S53).exa (show parseMethodDescriptor "(I)C" = some ⟨[.int], some .char⟩ by decide +kernel) rfl (charAt_met hw hcs hfm S138 (i := 1) (nle rfl)) (fun _ q => nomatch q) rfl rfl rfl (by decide) ⟨⟨nle rfl, nle rfl⟩, nle rfl, nle rfl⟩ ?_
          intro v145 h146 hq147 _
          obtain ⟨rfl, rfl⟩ := hq147
          show WlO _ _ _ _ _ _ _ _ _ _ _ _ _ _ _ _ _ _ [.int c1]
          refine Wl.aload 321 at_319 rfl rfl ?_
          refine Wl.iload 323 at_321 rfl ?_
          refine Wl.iconst 324 (1 : Int32) at_323 (by decide) ?_
          refine Wl.iadd 325 at_324 ?_
          show WlO _ _ _ _ _ _ _ _ _ _ _ _ _ _ _ _ _ _ [.int (1 : Int32), .ref a1, .int c1]
          refine Wl.caload 326 1 at_325 ((A39.ext E45).ext E52) (by decide) (by decide) (by decide) rfl ?_
          refine Wl.icmpN 329 at_326 (teq rfl).2 ?_
          refine Wl.iconst 330 (1 : Int32) at_329 (by decide) ?_
          refine Wl.goto 334 at_330 ?_
          refine Wl.istore 336 #[.val (.int i0), .val (.int i1), .val (.int i2), .val (.int i3), .val (.int i4), .val (.int (4 : Int32)), .val (.ref a1), .val (.ref a44), .val (.ref a51), .val (.int (1 : Int32)), .val (.int (0 : Int32)), .val (.int (1 : Int32)), .val (.int (1 : Int32)), .val (.int (0 : Int32)), .val (.int (4 : Int32)), .val (.int (4 : Int32)), .val (.int (1 : Int32))] at_334 rfl ?_
          refine Wl.iload 338 at_336 rfl ?_
          refine Wl.ifN 341 at_338 (feq (by decide)).1 ?_
          refine Wl.iload 343 at_341 rfl ?_
          refine Wl.iconst 344 (2 : Int32) at_343 (by decide) ?_
          refine Wl.icmpN 347 at_344 (tlt (by decide)).2.2.2 ?_
          refine Wl.aload 349 at_347 rfl rfl ?_
          refine Wl.iconst 350 (2 : Int32) at_349 (by decide) ?_
          refine Wl.virtual 353 (argsL := [.int (2 : Int32)]) at_350 (w121 hw) (w71 hw) (w73 hw) (w72 hw) (w11 hw) (w74 hw) (nf_sel (w73 hw) rfl) (S53).exa (show parseMethodDescriptor "(I)C" = some ⟨[.int], some .char⟩ by decide +kernel) rfl (charAt_met hw hcs hfm S138 (i := 2) (nle rfl)) (fun _ q => nomatch q) rfl rfl rfl (by decide) ⟨⟨nle rfl, nle rfl⟩, nle rfl, nle rfl⟩ ?_
          intro v148 h149 hq150 _
          obtain ⟨rfl, rfl⟩ := hq150
          show WlO _ _ _ _ _ _ _ _ _ _ _ _ _ _ _ _ _ _ [.int c2]
          refine Wl.aload 355 at_353 rfl rfl ?_
          refine Wl.iload 357 at_355 rfl ?_
          refine Wl.iconst 358 (2 : Int32) at_357 (by decide) ?_
          refine Wl.iadd 359 at_358 ?_
          show WlO _ _ _ _ _ _ _ _ _ _ _ _ _ _ _ _ _ _ [.int (2 : Int32), .ref a1, .int c2]
          refine Wl.caload 360 2 at_359 ((A39.ext E45).ext E52) (by decide) (by decide) (by decide) rfl ?_
          refine Wl.icmpN 363 at_360 (teq rfl).2 ?_
          refine Wl.iconst 364 (1 : Int32) at_363 (by decide) ?_
          refine Wl.goto 368 at_364 ?_
          refine Wl.istore 370 #[.val (.int i0), .val (.int i1), .val (.int i2), .val (.int i3), .val (.int i4), .val (.int (4 : Int32)), .val (.ref a1), .val (.ref a44), .val (.ref a51), .val (.int (1 : Int32)), .val (.int (0 : Int32)), .val (.int (1 : Int32)), .val (.int (1 : Int32)), .val (.int (0 : Int32)), .val (.int (4 : Int32)), .val (.int (4 : Int32)), .val (.int (1 : Int32))] at_368 rfl ?_
          refine Wl.iload 372 at_370 rfl ?_
          refine Wl.ifN 375 at_372 (feq (by decide)).1 ?_
          refine Wl.iload 377 at_375 rfl ?_
          refine Wl.iconst 378 (3 : Int32) at_377 (by decide) ?_
          refine Wl.icmpN 381 at_378 (tlt (by decide)).2.2.2 ?_
          refine Wl.aload 383 at_381 rfl rfl ?_
          refine Wl.iconst 384 (3 : Int32) at_383 (by decide) ?_
          refine Wl.virtual 387 (argsL := [.int (3 : Int32)]) at_384 (w121 hw) (w71 hw) (w73 hw) (w72 hw) (w11 hw) (w74 hw) (nf_sel (w73 hw) rfl) (S53).exa (show parseMethodDescriptor "(I)C" = some ⟨[.int], some .char⟩ by decide +kernel) rfl (charAt_met hw hcs hfm S138 (i := 3) (nle rfl)) (fun _ q => nomatch q) rfl rfl rfl (by decide) ⟨⟨nle rfl, nle rfl⟩, nle rfl, nle rfl⟩ ?_
          intro v151 h152 hq153 _
          obtain ⟨rfl, rfl⟩ := hq153
          show WlO _ _ _ _ _ _ _ _ _ _ _ _ _ _ _ _ _ _ [.int c3]
          refine Wl.aload 389 at_387 rfl rfl ?_
          refine Wl.iload 391 at_389 rfl ?_
          refine Wl.iconst 392 (3 : Int32) at_391 (by decide) ?_
          refine Wl.iadd 393 at_392 ?_
          show WlO _ _ _ _ _ _ _ _ _ _ _ _ _ _ _ _ _ _ [.int (3 : Int32), .ref a1, .int c3]
          refine Wl.caload 394 3 at_393 ((A39.ext E45).ext E52) (by decide) (by decide) (by decide) rfl ?_
          refine Wl.icmpN 397 at_394 (teq rfl).2 ?_
          refine Wl.iconst 398 (1 : Int32) at_397 (by decide) ?_
          refine Wl.goto 402 at_398 ?_
          refine Wl.istore 404 #[.val (.int i0), .val (.int i1), .val (.int i2), .val (.int i3), .val (.int i4), .val (.int (4 : Int32)), .val (.ref a1), .val (.ref a44), .val (.ref a51), .val (.int (1 : Int32)), .val (.int (0 : Int32)), .val (.int (1 : Int32)), .val (.int (1 : Int32)), .val (.int (0 : Int32)), .val (.int (4 : Int32)), .val (.int (4 : Int32)), .val (.int (1 : Int32))] at_402 rfl ?_
          refine Wl.iload 406 at_404 rfl ?_
          exact Wl.ireturn at_406 rfl rfl (by simp) (nle rfl) (nle rfl) rfl
        · refine Wl.ifY 146 at_139 (feq c137).2 ?_
          refine Wl.iconst 147 (0 : Int32) at_146 (by decide) ?_
          refine Wl.istore 149 #[.val (.int i0), .val (.int i1), .val (.int i2), .val (.int i3), .val (.int i4), .val (.int (4 : Int32)), .val (.ref a1), .val (.ref a44), .val (.ref a51), .val (.int (1 : Int32)), .val (.int (0 : Int32)), .val (.int (1 : Int32)), .val (.int (0 : Int32)), .unset, .unset, .unset, .unset] at_147 rfl ?_
          refine Wl.iload 151 at_149 rfl ?_
          refine Wl.ifN 154 at_151 (feq (by decide)).1 ?_
          refine Wl.iconst 155 (0 : Int32) at_154 (by decide) ?_
          refine Wl.istore 157 #[.val (.int i0), .val (.int i1), .val (.int i2), .val (.int i3), .val (.int i4), .val (.int (4 : Int32)), .val (.ref a1), .val (.ref a44), .val (.ref a51), .val (.int (1 : Int32)), .val (.int (0 : Int32)), .val (.int (1 : Int32)), .val (.int (0 : Int32)), .val (.int (0 : Int32)), .unset, .unset, .unset] at_155 rfl ?_
          refine Wl.goto 197 at_157 ?_
          refine Wl.iload 199 at_197 rfl ?_
          refine Wl.iload 201 at_199 rfl ?_
          refine Wl.icmpY 211 at_201 (feq (by decide)).2 ?_
          refine Wl.iload 213 at_211 rfl ?_
          refine Wl.ifY 222 at_213 (teq (by decide)).1 ?_
          refine Wl.iload 224 at_222 rfl ?_
          refine Wl.ifN 227 at_224 (feq (by decide)).1 ?_
          refine Wl.iconst 228 (3 : Int32) at_227 (by decide) ?_
          refine Wl.istore 230 #[.val (.int i0), .val (.int i1), .val (.int i2), .val (.int i3), .val (.int i4), .val (.int (4 : Int32)), .val (.ref a1), .val (.ref a44), .val (.ref a51), .val (.int (1 : Int32)), .val (.int (0 : Int32)), .val (.int (1 : Int32)), .val (.int (0 : Int32)), .val (.int (0 : Int32)), .val (.int (3 : Int32)), .unset, .unset] at_228 rfl ?_
          refine Wl.goto 247 at_230 ?_
          refine Wl.iload 249 at_247 rfl ?_
          refine Wl.iload 251 at_249 rfl ?_
          refine Wl.isub 252 at_251 ?_
          show WlO _ _ _ _ _ _ _ _ _ _ _ _ _ _ _ _ _ _ [.int (3 : Int32)]
          refine Wl.istore 254 #[.val (.int i0), .val (.int i1), .val (.int i2), .val (.int i3), .val (.int i4), .val (.int (4 : Int32)), .val (.ref a1), .val (.ref a44), .val (.ref a51), .val (.int (1 : Int32)), .val (.int (0 : Int32)), .val (.int (1 : Int32)), .val (.int (0 : Int32)), .val (.int (0 : Int32)), .val (.int (3 : Int32)), .val (.int (3 : Int32)), .unset] at_252 rfl ?_
          refine Wl.aload 256 at_254 rfl rfl ?_
          have S154 := S53
          rw [show trimL [c0, c1, c2, c3] = [c0, c1, c2] by simp [trimL, isp, List.dropWhile, c58, c62, c133, c137]] at S154
          refine Wl.virtual 259 (argsL := []) at_256 (w59 hw) (w35 hw) (w37 hw) (w36 hw) (w11 hw) (w38 hw) (nf_sel (w37 hw) rfl) (S53).exa (show parseMethodDescriptor "()I" = some ⟨[], some .int⟩ by decide +kernel) rfl (len_met hw hcs S154) (fun _ q => nomatch q) rfl rfl rfl (by decide) ⟨⟨nle rfl, nle rfl⟩, nle rfl, nle rfl⟩ ?_
          intro v155 h156 hq157 _
          obtain ⟨rfl, rfl⟩ := hq157
          show WlO _ _ _ _ _ _ _ _ _ _ _ _ _ _ _ _ _ _ [.int (3 : Int32)]
          refine Wl.iload 261 at_259 rfl ?_
          refine Wl.icmpN 264 at_261 (teq (by decide)).2 ?_
          refine Wl.iconst 265 (1 : Int32) at_264 (by decide) ?_
          refine Wl.goto 269 at_265 ?_
          refine Wl.istore 271 #[.val (.int i0), .val (.int i1), .val (.int i2), .val (.int i3), .val (.int i4), .val (.int (4 : Int32)), .val (.ref a1), .val (.ref a44), .val (.ref a51), .val (.int (1 : Int32)), .val (.int (0 : Int32)), .val (.int (1 : Int32)), .val (.int (0 : Int32)), .val (.int (0 : Int32)), .val (.int (3 : Int32)), .val (.int (3 : Int32)), .val (.int (1 : Int32))] at_269 rfl ?_
          refine Wl.iload 273 at_271 rfl ?_
          refine Wl.ifN 276 at_273 (feq (by decide)).1 ?_
          refine Wl.iload 278 at_276 rfl ?_
          refine Wl.ifN 281 at_278 (tlt (by decide)).2.2.2 ?_
          refine Wl.aload 283 at_281 rfl rfl ?_
          refine Wl.iconst 284 (0 : Int32) at_283 (by decide) ?_
          refine Wl.virtual 287 (argsL := [.int (0 : Int32)]) at_284 (w121 hw) (w71 hw) (w73 hw) (w72 hw) (w11 hw) (w74 hw) (nf_sel (w73 hw) rfl) (S53).exa (show parseMethodDescriptor "(I)C" = some ⟨[.int], some .char⟩ by decide +kernel) rfl (charAt_met hw hcs hfm S154 (i := 0) (nle rfl)) (fun _ q => nomatch q) rfl rfl rfl (by decide) ⟨⟨nle rfl, nle rfl⟩, nle rfl, nle rfl⟩ ?_
          intro v158 h159 hq160 _
          obtain ⟨rfl, rfl⟩ := hq160
          show WlO _ _ _ _ _ _ _ _ _ _ _ _ _ _ _ _ _ _ [.int c0]
          refine Wl.aload 289 at_287 rfl rfl ?_
          refine Wl.iload 291 at_289 rfl ?_
          refine Wl.caload 292 0 at_291 ((A39.ext E45).ext E52) (by decide) (by decide) (by decide) rfl ?_
          refine Wl.icmpN 295 at_292 (teq rfl).2 ?_
          refine Wl.iconst 296 (1 : Int32) at_295 (by decide) ?_
          refine Wl.goto 300 at_296 ?_
          refine Wl.istore 302 #[.val (.int i0), .val (.int i1), .val (.int i2), .val (.int i3), .val (.int i4), .val (.int (4 : Int32)), .val (.ref a1), .val (.ref a44), .val (.ref a51), .val (.int (1 : Int32)), .val (.int (0 : Int32)), .val (.int (1 : Int32)), .val (.int (0 : Int32)), .val (.int (0 : Int32)), .val (.int (3 : Int32)), .val (.int (3 : Int32)), .val (.int (1 : Int32))] at_300 rfl ?_
          refine Wl.iload 304 at_302 rfl ?_
          refine Wl.ifN 307 at_304 (feq (by decide)).1 ?_
          refine Wl.iload 309 at_307 rfl ?_
          refine Wl.iconst 310 (1 : Int32) at_309 (by decide) ?_
          refine Wl.icmpN 313 at_310 (tlt (by decide)).2.2.2 ?_
          refine Wl.aload 315 at_313 rfl rfl ?_
          refine Wl.iconst 316 (1 : Int32) at_315 (by decide) ?_
          refine Wl.virtual 319 (argsL := [.int (1 : Int32)]) at_316 (w121 hw) (w71 hw) (w73 hw) (w72 hw) (w11 hw) (w74 hw) (nf_sel (w73 hw) rfl) (S53).exa (show parseMethodDescriptor "(I)C" = some ⟨[.int], some .char⟩ by decide +kernel) rfl (charAt_met hw hcs hfm S154 (i := 1) (nle rfl)) (fun _ q => nomatch q) rfl rfl rfl (by decide) ⟨⟨nle rfl, nle rfl⟩, nle rfl, nle rfl⟩ ?_
          intro v161 h162 hq163 _
          obtain ⟨rfl, rfl⟩ := hq163
          show WlO _ _ _ _ _ _ _ _ _ _ _ _ _ _ _ _ _ _ [.int c1]
          refine Wl.aload 321 at_319 rfl rfl ?_
          refine Wl.iload 323 at_321 rfl ?_
          refine Wl.iconst 324 (1 : Int32) at_323 (by decide) ?_
          refine Wl.iadd 325 at_324 ?_
          show WlO _ _ _ _ _ _ _ _ _ _ _ _ _ _ _ _ _ _ [.int (1 : Int32), .ref a1, .int c1]
          refine Wl.caload 326 1 at_325 ((A39.ext E45).ext E52) (by decide) (by decide) (by decide) rfl ?_
          refine Wl.icmpN 329 at_326 (teq rfl).2 ?_
          refine Wl.iconst 330 (1 : Int32) at_329 (by decide) ?_
          refine Wl.goto 334 at_330 ?_
          refine Wl.istore 336 #[.val (.int i0), .val (.int i1), .val (.int i2), .val (.int i3), .val (.int i4), .val (.int (4 : Int32)), .val (.ref a1), .val (.ref a44), .val (.ref a51), .val (.int (1 : Int32)), .val (.int (0 : Int32)), .val (.int (1 : Int32)), .val (.int (0 : Int32)), .val (.int (0 : Int32)), .val (.int (3 : Int32)), .val (.int (3 : Int32)), .val (.int (1 : Int32))] at_334 rfl ?_
          refine Wl.iload 338 at_336 rfl ?_
          refine Wl.ifN 341 at_338 (feq (by decide)).1 ?_
          refine Wl.iload 343 at_341 rfl ?_
          refine Wl.iconst 344 (2 : Int32) at_343 (by decide) ?_
          refine Wl.icmpN 347 at_344 (tlt (by decide)).2.2.2 ?_
          refine Wl.aload 349 at_347 rfl rfl ?_
          refine Wl.iconst 350 (2 : Int32) at_349 (by decide) ?_
          refine Wl.virtual 353 (argsL := [.int (2 : Int32)]) at_350 (w121 hw) (w71 hw) (w73 hw) (w72 hw) (w11 hw) (w74 hw) (nf_sel (w73 hw) rfl) (S53).exa (show parseMethodDescriptor "(I)C" = some ⟨[.int], some .char⟩ by decide +kernel) rfl (charAt_met hw hcs hfm S154 (i := 2) (nle rfl)) (fun _ q => nomatch q) rfl rfl rfl (by decide) ⟨⟨nle rfl, nle rfl⟩, nle rfl, nle rfl⟩ ?_
          intro v164 h165 hq166 _
          obtain ⟨rfl, rfl⟩ := hq166
          show WlO _ _ _ _ _ _ _ _ _ _ _ _ _ _ _ _ _ _ [.int c2]
          refine Wl.aload 355 at_353 rfl rfl ?_
          refine Wl.iload 357 at_355 rfl ?_
          refine Wl.iconst 358 (2 : Int32) at_357 (by decide) ?_
          refine Wl.iadd 359 at_358 ?_
          show WlO _ _ _ _ _ _ _ _ _ _ _ _ _ _ _ _ _ _ [.int (2 : Int32), .ref a1, .int c2]
          refine Wl.caload 360 2 at_359 ((A39.ext E45).ext E52) (by decide) (by decide) (by decide) rfl ?_
          refine Wl.icmpN 363 at_360 (teq rfl).2 ?_
          refine Wl.iconst 364 (1 : Int32) at_363 (by decide) ?_
          refine Wl.goto 368 at_364 ?_
          refine Wl.istore 370 #[.val (.int i0), .val (.int i1), .val (.int i2), .val (.int i3), .val (.int i4), .val (.int (4 : Int32)), .val (.ref a1), .val (.ref a44), .val (.ref a51), .val (.int (1 : Int32)), .val (.int (0 : Int32)), .val (.int (1 : Int32)), .val (.int (0 : Int32)), .val (.int (0 : Int32)), .val (.int (3 : Int32)), .val (.int (3 : Int32)), .val (.int (1 : Int32))] at_368 rfl ?_
          refine Wl.iload 372 at_370 rfl ?_
          refine Wl.ifN 375 at_372 (feq (by decide)).1 ?_
          refine Wl.iload 377 at_375 rfl ?_
          refine Wl.iconst 378 (3 : Int32) at_377 (by decide) ?_
          refine Wl.icmpY 404 at_378 (flt (by decide)).2.2.2 ?_
          refine Wl.iload 406 at_404 rfl ?_
          exact Wl.ireturn at_406 rfl rfl (by simp) (nle rfl) (nle rfl) rfl
      · refine Wl.ifY 123 at_116 (feq c133).2 ?_
        refine Wl.iconst 124 (0 : Int32) at_123 (by decide) ?_
        refine Wl.istore 126 #[.val (.int i0), .val (.int i1), .val (.int i2), .val (.int i3), .val (.int i4), .val (.int (4 : Int32)), .val (.ref a1), .val (.ref a44), .val (.ref a51), .val (.int (1 : Int32)), .val (.int (0 : Int32)), .val (.int (0 : Int32)), .unset, .unset, .unset, .unset, .unset] at_124 rfl ?_
        refine Wl.iload 128 at_126 rfl ?_
        refine Wl.iconst 129 (3 : Int32) at_128 (by decide) ?_
        refine Wl.icmpN 132 at_129 (tlt (by decide)).2.2.2 ?_
        refine Wl.aload 134 at_132 rfl rfl ?_
        refine Wl.iconst 135 (3 : Int32) at_134 (by decide) ?_
        refine Wl.caload 136 3 at_135 ((A39.ext E45).ext E52) (by decide) (by decide) (by decide) rfl ?_
        refine Wl.static 139 (argsL := [.int c3]) at_136 (w118 hw) (w119 hw) (w4 hw) (w120 hw) (show parseMethodDescriptor "(C)Z" = some ⟨[.char], some .boolean⟩ by decide +kernel) rfl (sp_met hw) (fun _ q => nomatch q) rfl rfl rfl (by decide) ⟨⟨nle rfl, nle rfl⟩, nle rfl, nle rfl⟩ ?_
        intro v167 h168 hq169 _
        obtain ⟨rfl, rfl⟩ := hq169
        show WlO _ _ _ _ _ _ _ _ _ _ _ _ _ _ _ _ _ _ [.int (spI c3)]
        by_cases c170 : (spI c3) = (0 : Int32)
        · refine Wl.ifN 142 at_139 (teq c170).2 ?_
          refine Wl.iconst 143 (1 : Int32) at_142 (by decide) ?_
          refine Wl.goto 147 at_143 ?_
          refine Wl.istore 149 #[.val (.int i0), .val (.int i1), .val (.int i2), .val (.int i3), .val (.int i4), .val (.int (4 : Int32)), .val (.ref a1), .val (.ref a44), .val (.ref a51), .val (.int (1 : Int32)), .val (.int (0 : Int32)), .val (.int (0 : Int32)), .val (.int (1 : Int32)), .unset, .unset, .unset, .unset] at_147 rfl ?_
          refine Wl.iload 151 at_149 rfl ?_
          refine Wl.ifN 154 at_151 (feq (by decide)).1 ?_
          refine Wl.iconst 155 (0 : Int32) at_154 (by decide) ?_
          refine Wl.istore 157 #[.val (.int i0), .val (.int i1), .val (.int i2), .val (.int i3), .val (.int i4), .val (.int (4 : Int32)), .val (.ref a1), .val (.ref a44), .val (.ref a51), .val (.int (1 : Int32)), .val (.int (0 : Int32)), .val (.int (0 : Int32)), .val (.int (1 : Int32)), .val (.int (0 : Int32)), .unset, .unset, .unset] at_155 rfl ?_
          refine Wl.goto 197 at_157 ?_
          refine Wl.iload 199 at_197 rfl ?_
          refine Wl.iload 201 at_199 rfl ?_
          refine Wl.icmpY 211 at_201 (feq (by decide)).2 ?_
          refine Wl.iload 213 at_211 rfl ?_
          refine Wl.ifN 216 at_213 (feq (by decide)).1 ?_
          refine Wl.iconst 217 (4 : Int32) at_216 (by decide) ?_
          refine Wl.istore 219 #[.val (.int i0), .val (.int i1), .val (.int i2), .val (.int i3), .val (.int i4), .val (.int (4 : Int32)), .val (.ref a1), .val (.ref a44), .val (.ref a51), .val (.int (1 : Int32)), .val (.int (0 : Int32)), .val (.int (0 : Int32)), .val (.int (1 : Int32)), .val (.int (0 : Int32)), .val (.int (4 : Int32)), .unset, .unset] at_217 rfl ?_
          refine Wl.goto 247 at_219 ?_
          refine Wl.iload 249 at_247 rfl ?_
          refine Wl.iload 251 at_249 rfl ?_
          refine Wl.isub 252 at_251 ?_
          show WlO _ _ _ _ _ _ _ _ _ _ _ _ _ _ _ _ _ _ [.int (4 : Int32)]
          refine Wl.istore 254 #[.val (.int i0), .val (.int i1), .val (.int i2), .val (.int i3), .val (.int i4), .val (.int (4 : Int32)), .val (.ref a1), .val (.ref a44), .val (.ref a51), .val (.int (1 : Int32)), .val (.int (0 : Int32)), .val (.int (0 : Int32)), .val (.int (1 : Int32)), .val (.int (0 : Int32)), .val (.int (4 : Int32)), .val (.int (4 : Int32)), .unset] at_252 rfl ?_
          refine Wl.aload 256 at_254 rfl rfl ?_
          have S171 := S53
          rw [show trimL [c0, c1, c2, c3] = [c0, c1, c2, c3] by simp [trimL, isp, List.dropWhile, c58, c62, c133, c170]] at S171
          refine Wl.virtual 259 (argsL := []) at_256 (w59 hw) (w35 hw) (w37 hw) (w36 hw) (w11 hw) (w38 hw) (nf_sel (w37 hw) rfl) (S53).exa (show parseMethodDescriptor "()I" = some ⟨[], some .int⟩ by decide +kernel) rfl (len_met hw hcs S171) (fun _ q => nomatch q) rfl rfl rfl (by decide) ⟨⟨nle rfl, nle rfl⟩, nle rfl, nle rfl⟩ ?_
          intro v172 h173 hq174 _
          obtain ⟨rfl, rfl⟩ := hq174
          show WlO _ _ _ _ _ _ _ _ _ _ _ _ _ _ _ _ _ _ [.int (4 : Int32)]
          refine Wl.iload 261 at_259 rfl ?_
          refine Wl.icmpN 264 at_261 (teq (by decide)).2 ?_
          refine Wl.iconst 265 (1 : Int32) at_264 (by decide) ?_
          refine Wl.goto 269 at_265 ?_
          refine Wl.istore 271 #[.val (.int i0), .val (.int i1), .val (.int i2), .val (.int i3), .val (.int i4), .val (.int (4 : Int32)), .val (.ref a1), .val (.ref a44), .val (.ref a51), .val (.int (1 : Int32)), .val (.int (0 : Int32)), .val (.int (0 : Int32)), .val (.int (1 : Int32)), .val (.int (0 : Int32)), .val (.int (4 : Int32)), .val (.int (4 : Int32)), .val (.int (1 : Int32))] at_269 rfl ?_
          refine Wl.iload 273 at_271 rfl ?_
          refine Wl.ifN 276 at_273 (feq (by decide)).1 ?_
          refine Wl.iload 278 at_276 rfl ?_
          refine Wl.ifN 281 at_278 (tlt (by decide)).2.2.2 ?_
          refine Wl.aload 283 at_281 rfl rfl ?_
          refine Wl.iconst 284 (0 : Int32) at_283 (by decide) ?_
          refine Wl.virtual 287 (argsL := [.int (0 : Int32)]) at_284 (w121 hw) (w71 hw) (w73 hw) (w72 hw) (w11 hw) (w74 hw) (nf_sel (w73 hw) rfl) (S53).exa (show parseMethodDescriptor "(I)C" = some ⟨[.int], some .char⟩ by decide +kernel) rfl (charAt_met hw hcs hfm S171 (i := 0) (nle rfl)) (fun _ q => nomatch q) rfl rfl rfl (by decide) ⟨⟨nle rfl, nle rfl⟩, nle rfl, nle rfl⟩ ?_
          intro v175 h176 hq177 _
          obtain ⟨rfl, rfl⟩ := hq177
          show WlO _ _ _ _ _ _ _ _ _ _ _ _ _ _ _ _ _ _ [.int c0]
          refine Wl.aload 289 at_287 rfl rfl ?_
          refine Wl.iload 291 at_289 rfl ?_
          refine Wl.caload 292 0 at_291 ((A39.ext E45).ext E52) (by decide) (by decide) (by decide) rfl ?_
          refine Wl.icmpN 295 at_292 (teq rfl).2 ?_
          refine Wl.iconst 296 (1 : Int32) at_295 (by decide) ?_
          refine Wl.goto 300 at_296 ?_
          refine Wl.istore 302 #[.val (.int i0), .val (.int i1), .val (.int i2), .val (.int i3), .val (.int i4), .val (.int (4 : Int32)), .val (.ref a1), .val (.ref a44), .val (.ref a51), .val (.int (1 : Int32)), .val (.int (0 : Int32)), .val (.int (0 : Int32)), .val (.int (1 : Int32)), .val (.int (0 : Int32)), .val (.int (4 : Int32)), .val (.int (4 : Int32)), .val (.int (1 : Int32))] at_300 rfl ?_
          refine Wl.iload 304 at_302 rfl ?_
          refine Wl.ifN 307 at_304 (feq (by decide)).1 ?_
          refine Wl.iload 309 at_307 rfl ?_
          refine Wl.iconst 310 (1 : Int32) at_309 (by decide) ?_
          refine Wl.icmpN 313 at_310 (tlt (by decide)).2.2.2 ?_
          refine Wl.aload 315 at_313 rfl rfl ?_
          refine Wl.iconst 316 (1 : Int32) at_315 (by decide) ?_
          refine Wl.virtual 319 (argsL := [.int (1 : Int32)]) at_316 (w121 hw) (w71 hw) (w73 hw) (w72 hw) (w11 hw) (w74 hw) (nf_sel (w73 hw) rfl) (S53).exa (show parseMethodDescriptor "(I)C" = some ⟨[.int], some .char⟩ by decide +kernel) rfl (charAt_met hw hcs hfm S171 (i := 1) (nle rfl)) (fun _ q => nomatch q) rfl rfl rfl (by decide) ⟨⟨nle rfl, nle rfl⟩, nle rfl, nle rfl⟩ ?_
          intro v178 h179 hq180 _
          obtain ⟨rfl, rfl⟩ := hq180
          show WlO _ _ _ _ _ _ _ _ _ _ _ _ _ _ _ _ _ _ [.int c1]
          refine Wl.aload 321 at_319 rfl rfl ?_
          refine Wl.iload 323 at_321 rfl ?_
          refine Wl.iconst 324 (1 : Int32) at_323 (by decide) ?_
          refine Wl.iadd 325 at_324 ?_
          show WlO _ _ _ _ _ _ _ _ _ _ _ _ _ _ _ _ _ _ [.int (1 : Int32), .ref a1, .int c1]
          refine Wl.caload 326 1 at_325 ((A39.ext E45).ext E52) (by decide) (by decide) (by decide) rfl ?_
          refine Wl.icmpN 329 at_326 (teq rfl).2 ?_
          refine Wl.iconst 330 (1 : Int32) at_329 (by decide) ?_
          refine Wl.goto 334 at_330 ?_
          refine Wl.istore 336 #[.val (.int i0), .val (.int i1), .val (.int i2), .val (.int i3), .val (.int i4), .val (.int (4 : Int32)), .val (.ref a1), .val (.ref a44), .val (.ref a51), .val (.int (1 : Int32)), .val (.int (0 : Int32)), .val (.int (0 : Int32)), .val (.int (1 : Int32)), .val (.int (0 : Int32)), .val (.int (4 : Int32)), .val (.int (4 : Int32)), .val (.int (1 : Int32))] at_334 rfl ?_
          refine Wl.iload 338 at_336 rfl ?_
          refine Wl.ifN 341 at_338 (feq (by decide)).1 ?_
          refine Wl.iload 343 at_341 rfl ?_
          refine Wl.iconst 344 (2 : Int32) at_343 (by decide) ?_
          refine Wl.icmpN 347 at_344 (tlt (by decide)).2.2.2 ?_
          refine Wl.aload 349 at_347 rfl rfl ?_
          refine Wl.iconst 350 (2 : Int32) at_349 (by decide) ?_
          refine Wl.virtual 353 (argsL := [.int (2 : Int32)]) at_350 (w121 hw) (w71 hw) (w73 hw) (w72 hw) (w11 hw) (w74 hw) (nf_sel (w73 hw) rfl) (S53).exa (show parseMethodDescriptor "(I)C" = some ⟨[.int], some .char⟩ by decide +kernel) rfl (charAt_met hw hcs hfm S171 (i := 2) (nle rfl)) (fun _ q => nomatch q) rfl rfl rfl (by decide) ⟨⟨nle rfl, nle rfl⟩, nle rfl, nle rfl⟩ ?_
          intro v181 h182 hq183 _
          obtain ⟨rfl, rfl⟩ := hq183
          show WlO _ _ _ _ _ _ _ _ _ _ _ _ _ _ _ _ _ _ [.int c2]
          refine Wl.aload 355 at_353 rfl rfl ?_
          refine Wl.iload 357 at_355 rfl ?_
          refine Wl.iconst 358 (2 : Int32) at_357 (by decide) ?_
          refine Wl.iadd 359 at_358 ?_
          show WlO _ _ _ _ _ _ _ _ _ _ _ _ _ _ _ _ _ _ [.int (2 : Int32), .ref a1, .int c2]
          refine Wl.caload 360 2 at_359 ((A39.ext E45).ext E52) (by decide) (by decide) (by decide) rfl ?_
          refine Wl.icmpN 363 at_360 (teq rfl).2 ?_
          refine Wl.iconst 364 (1 : Int32) at_363 (by decide) ?_
          refine Wl.goto 368 at_364 ?_
          refine Wl.istore 370 #[.val (.int i0), .val (.int i1), .val (.int i2), .val (.int i3), .val (.int i4), .val (.int (4 : Int32)), .val (.ref a1), .val (.ref a44), .val (.ref a51), .val (.int (1 : Int32)), .val (.int (0 : Int32)), .val (.int (0 : Int32)), .val (.int (1 : Int32)), .val (.int (0 : Int32)), .val (.int (4 : Int32)), .val (.int (4 : Int32)), .val (.int (1 : Int32))] at_368 rfl ?_
          refine Wl.iload 372 at_370 rfl ?_
          refine Wl.ifN 375 at_372 (feq (by decide)).1 ?_
          refine Wl.iload 377 at_375 rfl ?_
          refine Wl.iconst 378 (3 : Int32) at_377 (by decide) ?_
          refine Wl.icmpN 381 at_378 (tlt (by decide)).2.2.2 ?_
          refine Wl.aload 383 at_381 rfl rfl ?_
          refine Wl.iconst 384 (3 : Int32) at_383 (by decide) ?_
          refine Wl.virtual 387 (argsL := [.int (3 : Int32)]) at_384 (w121 hw) (w71 hw) (w73 hw) (w72 hw) (w11 hw) (w74 hw) (nf_sel (w73 hw) rfl) (S53).exa (show parseMethodDescriptor "(I)C" = some ⟨[.int], some .char⟩ by decide +kernel) rfl (charAt_met hw hcs hfm S171 (i := 3) (nle rfl)) (fun _ q => nomatch q) rfl rfl rfl (by decide) ⟨⟨nle rfl, nle rfl⟩, nle rfl, nle rfl⟩ ?_
          intro v184 h185 hq186 _
          obtain ⟨rfl, rfl⟩ := hq186
          show WlO _ _ _ _ _ _ _ _ _ _ _ _ _ _ _ _ _ _ [.int c3]
          refine Wl.aload 389 at_387 rfl rfl ?_
          refine Wl.iload 391 at_389 rfl ?_
          refine Wl.iconst 392 (3 : Int32) at_391 (by decide) ?_
          refine Wl.iadd 393 at_392 ?_
          show WlO _ _ _ _ _ _ _ _ _ _ _ _ _ _ _ _ _ _ [.int (3 : Int32), .ref a1, .int c3]
          refine Wl.caload 394 3 at_393 ((A39.ext E45).ext E52) (by decide) (by decide) (by decide) rfl ?_
          refine Wl.icmpN 397 at_394 (teq rfl).2 ?_
          refine Wl.iconst 398 (1 : Int32) at_397 (by decide) ?_
          refine Wl.goto 402 at_398 ?_
          refine Wl.istore 404 #[.val (.int i0), .val (.int i1), .val (.int i2), .val (.int i3), .val (.int i4), .val (.int (4 : Int32)), .val (.ref a1), .val (.ref a44), .val (.ref a51), .val (.int (1 : Int32)), .val (.int (0 : Int32)), .val (.int (0 : Int32)), .val (.int (1 : Int32)), .val (.int (0 : Int32)), .val (.int (4 : Int32)), .val (.int (4 : Int32)), .val (.int (1 : Int32))] at_402 rfl ?_
          refine Wl.iload 406 at_404 rfl ?_
          exact Wl.ireturn at_406 rfl rfl (by simp) (nle rfl) (nle rfl) rfl
        · refine Wl.ifY 146 at_139 (feq c170).2 ?_
          refine Wl.iconst 147 (0 : Int32) at_146 (by decide) ?_
          refine Wl.istore 149 #[.val (.int i0), .val (.int i1), .val (.int i2), .val (.int i3), .val (.int i4), .val (.int (4 : Int32)), .val (.ref a1), .val (.ref a44), .val (.ref a51), .val (.int (1 : Int32)), .val (.int (0 : Int32)), .val (.int (0 : Int32)), .val (.int (0 : Int32)), .unset, .unset, .unset, .unset] at_147 rfl ?_
          refine Wl.iload 151 at_149 rfl ?_
          refine Wl.ifN 154 at_151 (feq (by decide)).1 ?_
          refine Wl.iconst 155 (0 : Int32) at_154 (by decide) ?_
          refine Wl.istore 157 #[.val (.int i0), .val (.int i1), .val (.int i2), .val (.int i3), .val (.int i4), .val (.int (4 : Int32)), .val (.ref a1), .val (.ref a44), .val (.ref a51), .val (.int (1 : Int32)), .val (.int (0 : Int32)), .val (.int (0 : Int32)), .val (.int (0 : Int32)), .val (.int (0 : Int32)), .unset, .unset, .unset] at_155 rfl ?_
          refine Wl.goto 197 at_157 ?_
          refine Wl.iload 199 at_197 rfl ?_
          refine Wl.iload 201 at_199 rfl ?_
          refine Wl.icmpY 211 at_201 (feq (by decide)).2 ?_
          refine Wl.iload 213 at_211 rfl ?_
          refine Wl.ifY 222 at_213 (teq (by decide)).1 ?_
          refine Wl.iload 224 at_222 rfl ?_
          refine Wl.ifY 233 at_224 (teq (by decide)).1 ?_
          refine Wl.iload 235 at_233 rfl ?_
          refine Wl.ifY 244 at_235 (teq (by decide)).1 ?_
          refine Wl.iconst 245 (1 : Int32) at_244 (by decide) ?_
          refine Wl.istore 247 #[.val (.int i0), .val (.int i1), .val (.int i2), .val (.int i3), .val (.int i4), .val (.int (4 : Int32)), .val (.ref a1), .val (.ref a44), .val (.ref a51), .val (.int (1 : Int32)), .val (.int (0 : Int32)), .val (.int (0 : Int32)), .val (.int (0 : Int32)), .val (.int (0 : Int32)), .val (.int (1 : Int32)), .unset, .unset] at_245 rfl ?_
          refine Wl.iload 249 at_247 rfl ?_
          refine Wl.iload 251 at_249 rfl ?_
          refine Wl.isub 252 at_251 ?_
          show WlO _ _ _ _ _ _ _ _ _ _ _ _ _ _ _ _ _ _ [.int (1 : Int32)]
          refine Wl.istore 254 #[.val (.int i0), .val (.int i1), .val (.int i2), .val (.int i3), .val (.int i4), .val (.int (4 : Int32)), .val (.ref a1), .val (.ref a44), .val (.ref a51), .val (.int (1 : Int32)), .val (.int (0 : Int32)), .val (.int (0 : Int32)), .val (.int (0 : Int32)), .val (.int (0 : Int32)), .val (.int (1 : Int32)), .val (.int (1 : Int32)), .unset] at_252 rfl ?_
          refine Wl.aload 256 at_254 rfl rfl ?_
          have S187 := S53
          rw [show trimL [c0, c1, c2, c3] = [c0] by simp [trimL, isp, List.dropWhile, c58, c62, c133, c170]] at S187
          refine Wl.virtual 259 (argsL := []) at_256 (w59 hw) (w35 hw) (w37 hw) (w36 hw) (w11 hw) (w38 hw) (nf_sel (w37 hw) rfl) (S53).exa (show parseMethodDescriptor "()I" = some ⟨[], some .int⟩ by decide +kernel) rfl (len_met hw hcs S187) (fun _ q => nomatch q) rfl rfl rfl (by decide) ⟨⟨nle rfl, nle rfl⟩, nle rfl, nle rfl⟩ ?_
          intro v188 h189 hq190 _
          obtain ⟨rfl, rfl⟩ := hq190
          show WlO _ _ _ _ _ _ _ _ _ _ _ _ _ _ _ _ _ _ [.int (1 : Int32)]
          refine Wl.iload 261 at_259 rfl ?_
          refine Wl.icmpN 264 at_261 (teq (by decide)).2 ?_
          refine Wl.iconst 265 (1 : Int32) at_264 (by decide) ?_
          refine Wl.goto 269 at_265 ?_
          refine Wl.istore 271 #[.val (.int i0), .val (.int i1), .val (.int i2), .val (.int i3), .val (.int i4), .val (.int (4 : Int32)), .val (.ref a1), .val (.ref a44), .val (.ref a51), .val (.int (1 : Int32)), .val (.int (0 : Int32)), .val (.int (0 : Int32)), .val (.int (0 : Int32)), .val (.int (0 : Int32)), .val (.int (1 : Int32)), .val (.int (1 : Int32)), .val (.int (1 : Int32))] at_269 rfl ?_
          refine Wl.iload 273 at_271 rfl ?_
          refine Wl.ifN 276 at_273 (feq (by decide)).1 ?_
          refine Wl.iload 278 at_276 rfl ?_
          refine Wl.ifN 281 at_278 (tlt (by decide)).2.2.2 ?_
          refine Wl.aload 283 at_281 rfl rfl ?_
          refine Wl.iconst 284 (0 : Int32) at_283 (by decide) ?_
          refine Wl.virtual 287 (argsL := [.int (0 : Int32)]) at_284 (w121 hw) (w71 hw) (w73 hw) (w72 hw) (w11 hw) (w74 hw) (nf_sel (w73 hw) rfl) (S53).exa (show parseMethodDescriptor "(I)C" = some ⟨[.int], some .char⟩ by decide +kernel) rfl (charAt_met hw hcs hfm S187 (i := 0) (nle rfl)) (fun _ q => nomatch q) rfl rfl rfl (by decide) ⟨⟨nle rfl, nle rfl⟩, nle rfl, nle rfl⟩ ?_
          intro v191 h192 hq193 _
          obtain ⟨rfl, rfl⟩ := hq193
          show WlO _ _ _ _ _ _ _ _ _ _ _ _ _ _ _ _ _ _ [.int c0]
          refine Wl.aload 289 at_287 rfl rfl ?_
          refine Wl.iload 291 at_289 rfl ?_
          refine Wl.caload 292 0 at_291 ((A39.ext E45).ext E52) (by decide) (by decide) (by decide) rfl ?_
          refine Wl.icmpN 295 at_292 (teq rfl).2 ?_
          refine Wl.iconst 296 (1 : Int32) at_295 (by decide) ?_
          refine Wl.goto 300 at_296 ?_
          refine Wl.istore 302 #[.val (.int i0), .val (.int i1), .val (.int i2), .val (.int i3), .val (.int i4), .val (.int (4 : Int32)), .val (.ref a1), .val (.ref a44), .val (.ref a51), .val (.int (1 : Int32)), .val (.int (0 : Int32)), .val (.int (0 : Int32)), .val (.int (0 : Int32)), .val (.int (0 : Int32)), .val (.int (1 : Int32)), .val (.int (1 : Int32)), .val (.int (1 : Int32))] at_300 rfl ?_
          refine Wl.iload 304 at_302 rfl ?_
          refine Wl.ifN 307 at_304 (feq (by decide)).1 ?_
          refine Wl.iload 309 at_307 rfl ?_
          refine Wl.iconst 310 (1 : Int32) at_309 (by decide) ?_
          refine Wl.icmpY 336 at_310 (flt (by decide)).2.2.2 ?_
          refine Wl.iload 338 at_336 rfl ?_
          refine Wl.ifN 341 at_338 (feq (by decide)).1 ?_
          refine Wl.iload 343 at_341 rfl ?_
          refine Wl.iconst 344 (2 : Int32) at_343 (by decide) ?_
          refine Wl.icmpY 370 at_344 (flt (by decide)).2.2.2 ?_
          refine Wl.iload 372 at_370 rfl ?_
          refine Wl.ifN 375 at_372 (feq (by decide)).1 ?_
          refine Wl.iload 377 at_375 rfl ?_
          refine Wl.iconst 378 (3 : Int32) at_377 (by decide) ?_
          refine Wl.icmpY 404 at_378 (flt (by decide)).2.2.2 ?_
          refine Wl.iload 406 at_404 rfl ?_
          exact Wl.ireturn at_406 rfl rfl (by simp) (nle rfl) (nle rfl) rfl
  · refine Wl.ifY 77 at_70 (feq c58).2 ?_
    refine Wl.iconst 78 (0 : Int32) at_77 (by decide) ?_
    refine Wl.istore 80 #[.val (.int i0), .val (.int i1), .val (.int i2), .val (.int i3), .val (.int i4), .val (.int (4 : Int32)), .val (.ref a1), .val (.ref a44), .val (.ref a51), .val (.int (0 : Int32)), .unset, .unset, .unset, .unset, .unset, .unset, .unset] at_78 rfl ?_
    refine Wl.iload 82 at_80 rfl ?_
    refine Wl.iconst 83 (1 : Int32) at_82 (by decide) ?_
    refine Wl.icmpN 86 at_83 (tlt (by decide)).2.2.2 ?_
    refine Wl.aload 88 at_86 rfl rfl ?_
    refine Wl.iconst 89 (1 : Int32) at_88 (by decide) ?_
    refine Wl.caload 90 1 at_89 ((A39.ext E45).ext E52) (by decide) (by decide) (by decide) rfl ?_
    refine Wl.static 93 (argsL := [.int c1]) at_90 (w118 hw) (w119 hw) (w4 hw) (w120 hw) (show parseMethodDescriptor "(C)Z" = some ⟨[.char], some .boolean⟩ by decide +kernel) rfl (sp_met hw) (fun _ q => nomatch q) rfl rfl rfl (by decide) ⟨⟨nle rfl, nle rfl⟩, nle rfl, nle rfl⟩ ?_
    intro v194 h195 hq196 _
    obtain ⟨rfl, rfl⟩ := hq196
    show WlO _ _ _ _ _ _ _ _ _ _ _ _ _ _ _ _ _ _ [.int (spI c1)]
    by_cases c197 : (spI c1) = (0 : Int32)
    · refine Wl.ifN 96 at_93 (teq c197).2 ?_
      refine Wl.iconst 97 (1 : Int32) at_96 (by decide) ?_
      refine Wl.goto 101 at_97 ?_
      refine Wl.istore 103 #[.val (.int i0), .val (.int i1), .val (.int i2), .val (.int i3), .val (.int i4), .val (.int (4 : Int32)), .val (.ref a1), .val (.ref a44), .val (.ref a51), .val (.int (0 : Int32)), .val (.int (1 : Int32)), .unset, .unset, .unset, .unset, .unset, .unset] at_101 rfl ?_
      refine Wl.iload 105 at_103 rfl ?_
      refine Wl.iconst 106 (2 : Int32) at_105 (by decide) ?_
      refine Wl.icmpN 109 at_106 (tlt (by decide)).2.2.2 ?_
      refine Wl.aload 111 at_109 rfl rfl ?_
      refine Wl.iconst 112 (2 : Int32) at_111 (by decide) ?_
      refine Wl.caload 113 2 at_112 ((A39.ext E45).ext E52) (by decide) (by decide) (by decide) rfl ?_
      refine Wl.static 116 (argsL := [.int c2]) at_113 (w118 hw) (w119 hw) (w4 hw) (w120 hw) (show parseMethodDescriptor "(C)Z" = some ⟨[.char], some .boolean⟩ by decide +kernel) rfl (sp_met hw) (fun _ q => nomatch q) rfl rfl rfl (by decide) ⟨⟨nle rfl, nle rfl⟩, nle rfl, nle rfl⟩ ?_
      intro v198 h199 hq200 _
      obtain ⟨rfl, rfl⟩ := hq200
      show WlO _ _ _ _ _ _ _ _ _ _ _ _ _ _ _ _ _ _ [.int (spI c2)]
      by_cases c201 : (spI c2) = (0 : Int32)
      · refine Wl.ifN 119 at_116 (teq c201).2 ?_
        refine Wl.iconst 120 (1 : Int32) at_119 (by decide) ?_
        refine Wl.goto 124 at_120 ?_
        refine Wl.istore 126 #[.val (.int i0), .val (.int i1), .val (.int i2), .val (.int i3), .val (.int i4), .val (.int (4 : Int32)), .val (.ref a1), .val (.ref a44), .val (.ref a51), .val (.int (0 : Int32)), .val (.int (1 : Int32)), .val (.int (1 : Int32)), .unset, .unset, .unset, .unset, .unset] at_124 rfl ?_
        refine Wl.iload 128 at_126 rfl ?_
        refine Wl.iconst 129 (3 : Int32) at_128 (by decide) ?_
        refine Wl.icmpN 132 at_129 (tlt (by decide)).2.2.2 ?_
        refine Wl.aload 134 at_132 rfl rfl ?_
        refine Wl.iconst 135 (3 : Int32) at_134 (by decide) ?_
        refine Wl.caload 136 3 at_135 ((A39.ext E45).ext E52) (by decide) (by decide) (by decide) rfl ?_
        refine Wl.static 139 (argsL := [.int c3]) at_136 (w118 hw) (w119 hw) (w4 hw) (w120 hw) (show parseMethodDescriptor "(C)Z" = some ⟨[.char], some .boolean⟩ by decide +kernel) rfl (sp_met hw) (fun _ q => nomatch q) rfl rfl rfl (by decide) ⟨⟨nle rfl, nle rfl⟩, nle rfl, nle rfl⟩ ?_
        intro v202 h203 hq204 _
        obtain ⟨rfl, rfl⟩ := hq204
        show WlO _ _ _ _ _ _ _ _ _ _ _ _ _ _ _ _ _ _ [.int (spI c3)]
        by_cases c205 : (spI c3) = (0 : Int32)
        · refine Wl.ifN 142 at_139 (teq c205).2 ?_
          refine Wl.iconst 143 (1 : Int32) at_142 (by decide) ?_
          refine Wl.goto 147 at_143 ?_
          refine Wl.istore 149 #[.val (.int i0), .val (.int i1), .val (.int i2), .val (.int i3), .val (.int i4), .val (.int (4 : Int32)), .val (.ref a1), .val (.ref a44), .val (.ref a51), .val (.int (0 : Int32)), .val (.int (1 : Int32)), .val (.int (1 : Int32)), .val (.int (1 : Int32)), .unset, .unset, .unset, .unset] at_147 rfl ?_
          refine Wl.iload 151 at_149 rfl ?_
          refine Wl.ifY 160 at_151 (teq (by decide)).1 ?_
          refine Wl.iload 162 at_160 rfl ?_
          refine Wl.ifN 165 at_162 (feq (by decide)).1 ?_
          refine Wl.iconst 166 (1 : Int32) at_165 (by decide) ?_
          refine Wl.istore 168 #[.val (.int i0), .val (.int i1), .val (.int i2), .val (.int i3), .val (.int i4), .val (.int (4 : Int32)), .val (.ref a1), .val (.ref a44), .val (.ref a51), .val (.int (0 : Int32)), .val (.int (1 : Int32)), .val (.int (1 : Int32)), .val (.int (1 : Int32)), .val (.int (1 : Int32)), .unset, .unset, .unset] at_166 rfl ?_
          refine Wl.goto 197 at_168 ?_
          refine Wl.iload 199 at_197 rfl ?_
          refine Wl.iload 201 at_199 rfl ?_
          refine Wl.icmpY 211 at_201 (feq (by decide)).2 ?_
          refine Wl.iload 213 at_211 rfl ?_
          refine Wl.ifN 216 at_213 (feq (by decide)).1 ?_
          refine Wl.iconst 217 (4 : Int32) at_216 (by decide) ?_
          refine Wl.istore 219 #[.val (.int i0), .val (.int i1), .val (.int i2), .val (.int i3), .val (.int i4), .val (.int (4 : Int32)), .val (.ref a1), .val (.ref a44), .val (.ref a51), .val (.int (0 : Int32)), .val (.int (1 : Int32)), .val (.int (1 : Int32)), .val (.int (1 : Int32)), .val (.int (1 : Int32)), .val (.int (4 : Int32)), .unset, .unset] at_217 rfl ?_
          refine Wl.goto 247 at_219 ?_
          refine Wl.iload 249 at_247 rfl ?_
          refine Wl.iload 251 at_249 rfl ?_
          refine Wl.isub 252 at_251 ?_
          show WlO _ _ _ _ _ _ _ _ _ _ _ _ _ _ _ _ _ _ [.int (3 : Int32)]
          refine Wl.istore 254 #[.val (.int i0), .val (.int i1), .val (.int i2), .val (.int i3), .val (.int i4), .val (.int (4 : Int32)), .val (.ref a1), .val (.ref a44), .val (.ref a51), .val (.int (0 : Int32)), .val (.int (1 : Int32)), .val (.int (1 : Int32)), .val (.int (1 : Int32)), .val (.int (1 : Int32)), .val (.int (4 : Int32)), .val (.int (3 : Int32)), .unset] at_252 rfl ?_
          refine Wl.aload 256 at_254 rfl rfl ?_
          have S206 := S53
          rw [show trimL [c0, c1, c2, c3] = [c1, c2, c3] by simp [trimL, isp, List.dropWhile, c58, c197, c201, c205]] at S206
          refine Wl.virtual 259 (argsL := []) at_256 (w59 hw) (w35 hw) (w37 hw) (w36 hw) (w11 hw) (w38 hw) (nf_sel (w37 hw) rfl) (S53).exa (show parseMethodDescriptor "()I" = some ⟨[], some .int⟩ by decide +kernel) rfl (len_met hw hcs S206) (fun _ q => nomatch q) rfl rfl rfl (by decide) ⟨⟨nle rfl, nle rfl⟩, nle rfl, nle rfl⟩ ?_
          intro v207 h208 hq209 _
          obtain ⟨rfl, rfl⟩ := hq209
          show WlO _ _ _ _ _ _ _ _ _ _ _ _ _ _ _ _ _ _ [.int (3 : Int32)]
          refine Wl.iload 261 at_259 rfl ?_
          refine Wl.icmpN 264 at_261 (teq (by decide)).2 ?_
          refine Wl.iconst 265 (1 : Int32) at_264 (by decide) ?_
          refine Wl.goto 269 at_265 ?_
          refine Wl.istore 271 #[.val (.int i0), .val (.int i1), .val (.int i2), .val (.int i3), .val (.int i4), .val (.int (4 : Int32)), .val (.ref a1), .val (.ref a44), .val (.ref a51), .val (.int (0 : Int32)), .val (.int (1 : Int32)), .val (.int (1 : Int32)), .val (.int (1 : Int32)), .val (.int (1 : Int32)), .val (.int (4 : Int32)), .val (.int (3 : Int32)), .val (.int (1 : Int32))] at_269 rfl ?_
          refine Wl.iload 273 at_271 rfl ?_
          refine Wl.ifN 276 at_273 (feq (by decide)).1 ?_
          refine Wl.iload 278 at_276 rfl ?_
          refine Wl.ifN 281 at_278 (tlt (by decide)).2.2.2 ?_
          refine Wl.aload 283 at_281 rfl rfl ?_
          refine Wl.iconst 284 (0 : Int32) at_283 (by decide) ?_
          refine Wl.virtual 287 (argsL := [.int (0 : Int32)]) at_284 (w121 hw) (w71 hw) (w73 hw) (w72 hw) (w11 hw) (w74 hw) (nf_sel (w73 hw) rfl) (S53).exa (show parseMethodDescriptor "(I)C" = some ⟨[.int], some .char⟩ by decide +kernel) rfl (charAt_met hw hcs hfm S206 (i := 0) (nle rfl)) (fun _ q => nomatch q) rfl rfl rfl (by decide) ⟨⟨nle rfl, nle rfl⟩, nle rfl, nle rfl⟩ ?_
          intro v210 h211 hq212 _
          obtain ⟨rfl, rfl⟩ := hq212
          show WlO _ _ _ _ _ _ _ _ _ _ _ _ _ _ _ _ _ _ [.int c1]
          refine Wl.aload 289 at_287 rfl rfl ?_
          refine Wl.iload 291 at_289 rfl ?_
          refine Wl.caload 292 1 at_291 ((A39.ext E45).ext E52) (by decide) (by decide) (by decide) rfl ?_
          refine Wl.icmpN 295 at_292 (teq rfl).2 ?_
          refine Wl.iconst 296 (1 : Int32) at_295 (by decide) ?_
          refine Wl.goto 300 at_296 ?_
          refine Wl.istore 302 #[.val (.int i0), .val (.int i1), .val (.int i2), .val (.int i3), .val (.int i4), .val (.int (4 : Int32)), .val (.ref a1), .val (.ref a44), .val (.ref a51), .val (.int (0 : Int32)), .val (.int (1 : Int32)), .val (.int (1 : Int32)), .val (.int (1 : Int32)), .val (.int (1 : Int32)), .val (.int (4 : Int32)), .val (.int (3 : Int32)), .val (.int (1 : Int32))] at_300 rfl ?_
          refine Wl.iload 304 at_302 rfl ?_
          refine Wl.ifN 307 at_304 (feq (by decide)).1 ?_
          refine Wl.iload 309 at_307 rfl ?_
          refine Wl.iconst 310 (1 : Int32) at_309 (by decide) ?_
          refine Wl.icmpN 313 at_310 (tlt (by decide)).2.2.2 ?_
          refine Wl.aload 315 at_313 rfl rfl ?_
          refine Wl.iconst 316 (1 : Int32) at_315 (by decide) ?_
          refine Wl.virtual 319 (argsL := [.int (1 : Int32)]) at_316 (w121 hw) (w71 hw) (w73 hw) (w72 hw) (w11 hw) (w74 hw) (nf_sel (w73 hw) rfl) (S53).exa (show parseMethodDescriptor "(I)C" = some ⟨[.int], some .char⟩ by decide +kernel) rfl (charAt_met hw hcs hfm S206 (i := 1) (nle rfl)) (fun _ q => nomatch q) rfl rfl rfl (by decide) ⟨⟨nle rfl, nle rfl⟩, nle rfl, nle rfl⟩ ?_
          intro v213 h214 hq215 _
          obtain ⟨rfl, rfl⟩ := hq215
          show WlO _ _ _ _ _ _ _ _ _ _ _ _ _ _ _ _ _ _ [.int c2]
          refine Wl.aload 321 at_319 rfl rfl ?_
          refine Wl.iload 323 at_321 rfl ?_
          refine Wl.iconst 324 (1 : Int32) at_323 (by decide) ?_
          refine Wl.iadd 325 at_324 ?_
          show WlO _ _ _ _ _ _ _ _ _ _ _ _ _ _ _ _ _ _ [.int (2 : Int32), .ref a1, .int c2]
          refine Wl.caload 326 2 at_325 ((A39.ext E45).ext E52) (by decide) (by decide) (by decide) rfl ?_
          refine Wl.icmpN 329 at_326 (teq rfl).2 ?_
          refine Wl.iconst 330 (1 : Int32) at_329 (by decide) ?_
          refine Wl.goto 334 at_330 ?_
          refine Wl.istore 336 #[.val (.int i0), .val (.int i1), .val (.int i2), .val (.int i3), .val (.int i4), .val (.int (4 : Int32)), .val (.ref a1), .val (.ref a44), .val (.ref a51), .val (.int (0 : Int32)), .val (.int (1 : Int32)), .val (.int (1 : Int32)), .val (.int (1 : Int32)), .val (.int (1 : Int32)), .val (.int (4 : Int32)), .val (.int (3 : Int32)), .val (.int (1 : Int32))] at_334 rfl ?_
          refine Wl.iload 338 at_336 rfl ?_
          refine Wl.ifN 341 at_338 (feq (by decide)).1 ?_
          refine Wl.iload 343 at_341 rfl ?_
          refine Wl.iconst 344 (2 : Int32) at_343 (by decide) ?_
          refine Wl.icmpN 347 at_344 (tlt (by decide)).2.2.2 ?_
          refine Wl.aload 349 at_347 rfl rfl ?_
          refine Wl.iconst 350 (2 : Int32) at_349 (by decide) ?_
          refine Wl.virtual 353 (argsL := [.int (2 : Int32)]) at_350 (w121 hw) (w71 hw) (w73 hw) (w72 hw) (w11 hw) (w74 hw) (nf_sel (w73 hw) rfl) (S53).exa (show parseMethodDescriptor "(I)C" = some ⟨[.int], some .char⟩ by decide +kernel) rfl (charAt_met hw hcs hfm S206 (i := 2) (nle rfl)) (fun _ q => nomatch q) rfl rfl rfl (by decide) ⟨⟨nle rfl, nle rfl⟩, nle rfl, nle rfl⟩ ?_
          intro v216 h217 hq218 _
          obtain ⟨rfl, rfl⟩ := hq218
          show WlO _ _ _ _ _ _ _ _ _ _ _ _ _ _ _ _ _ _ [.int c3]
          refine Wl.aload 355 at_353 rfl rfl ?_
          refine Wl.iload 357 at_355 rfl ?_
          refine Wl.iconst 358 (2 : Int32) at_357 (by decide) ?_
          refine Wl.iadd 359 at_358 ?_
          show WlO _ _ _ _ _ _ _ _ _ _ _ _ _ _ _ _ _ _ [.int (3 : Int32), .ref a1, .int c3]
          refine Wl.caload 360 3 at_359 ((A39.ext E45).ext E52) (by decide) (by decide) (by decide) rfl ?_
          refine Wl.icmpN 363 at_360 (teq rfl).2 ?_
          refine Wl.iconst 364 (1 : Int32) at_363 (by decide) ?_
          refine Wl.goto 368 at_364 ?_
          refine Wl.istore 370 #[.val (.int i0), .val (.int i1), .val (.int i2), .val (.int i3), .val (.int i4), .val (.int (4 : Int32)), .val (.ref a1), .val (.ref a44), .val (.ref a51), .val (.int (0 : Int32)), .val (.int (1 : Int32)), .val (.int (1 : Int32)), .val (.int (1 : Int32)), .val (.int (1 : Int32)), .val (.int (4 : Int32)), .val (.int (3 : Int32)), .val (.int (1 : Int32))] at_368 rfl ?_
          refine Wl.iload 372 at_370 rfl ?_
          refine Wl.ifN 375 at_372 (feq (by decide)).1 ?_
          refine Wl.iload 377 at_375 rfl ?_
          refine Wl.iconst 378 (3 : Int32) at_377 (by decide) ?_
          refine Wl.icmpY 404 at_378 (flt (by decide)).2.2.2 ?_
          refine Wl.iload 406 at_404 rfl ?_
          exact Wl.ireturn at_406 rfl rfl (by simp) (nle rfl) (nle rfl) rfl
        · refine Wl.ifY 146 at_139 (feq c205).2 ?_
          refine Wl.iconst 147 (0 : Int32) at_146 (by decide) ?_
          refine Wl.istore 149 #[.val (.int i0), .val (.int i1), .val (.int i2), .val (.int i3), .val (.int i4), .val (.int (4 : Int32)), .val (.ref a1), .val (.ref a44), .val (.ref a51), .val (.int (0 : Int32)), .val (.int (1 : Int32)), .val (.int (1 : Int32)), .val (.int (0 : Int32)), .unset, .unset, .unset, .unset] at_147 rfl ?_
          refine Wl.iload 151 at_149 rfl ?_
          refine Wl.ifY 160 at_151 (teq (by decide)).1 ?_
          refine Wl.iload 162 at_160 rfl ?_
          refine Wl.ifN 165 at_162 (feq (by decide)).1 ?_
          refine Wl.iconst 166 (1 : Int32) at_165 (by decide) ?_
          refine Wl.istore 168 #[.val (.int i0), .val (.int i1), .val (.int i2), .val (.int i3), .val (.int i4), .val (.int (4 : Int32)), .val (.ref a1), .val (.ref a44), .val (.ref a51), .val (.int (0 : Int32)), .val (.int (1 : Int32)), .val (.int (1 : Int32)), .val (.int (0 : Int32)), .val (.int (1 : Int32)), .unset, .unset, .unset] at_166 rfl ?_
          refine Wl.goto 197 at_168 ?_
          refine Wl.iload 199 at_197 rfl ?_
          refine Wl.iload 201 at_199 rfl ?_
          refine Wl.icmpY 211 at_201 (feq (by decide)).2 ?_
          refine Wl.iload 213 at_211 rfl ?_
          refine Wl.ifY 222 at_213 (teq (by decide)).1 ?_
          refine Wl.iload 224 at_222 rfl ?_
          refine Wl.ifN 227 at_224 (feq (by decide)).1 ?_
          refine Wl.iconst 228 (3 : Int32) at_227 (by decide) ?_
          refine Wl.istore 230 #[.val (.int i0), .val (.int i1), .val (.int i2), .val (.int i3), .val (.int i4), .val (.int (4 : Int32)), .val (.ref a1), .val (.ref a44), .val (.ref a51), .val (.int (0 : Int32)), .val (.int (1 : Int32)), .val (.int (1 : Int32)), .val (.int (0 : Int32)), .val (.int (1 : Int32)), .val (.int (3 : Int32)), .unset, .unset] at_228 rfl ?_
          refine Wl.goto 247 at_230 ?_
          refine Wl.iload 249 at_247 rfl ?_
          refine Wl.iload 251 at_249 rfl ?_
          refine Wl.isub 252 at_251 ?_
          show WlO _ _ _ _ _ _ _ _ _ _ _ _ _ _ _ _ _ _ [.int (2 : Int32)]
          refine Wl.istore 254 #[.val (.int i0), .val (.int i1), .val (.int i2), .val (.int i3), .val (.int i4), .val (.int (4 : Int32)), .val (.ref a1), .val (.ref a44), .val (.ref a51), .val (.int (0 : Int32)), .val (.int (1 : Int32)), .val (.int (1 : Int32)), .val (.int (0 : Int32)), .val (.int (1 : Int32)), .val (.int (3 : Int32)), .val (.int (2 : Int32)), .unset] at_252 rfl ?_
          refine Wl.aload 256 at_254 rfl rfl ?_
          have S219 := S53
          rw [show trimL [c0, c1, c2, c3] = [c1, c2] by simp [trimL, isp, List.dropWhile, c58, c197, c201, c205]] at S219
          refine Wl.virtual 259 (argsL := []) at_256 (w59 hw) (w35 hw) (w37 hw) (w36 hw) (w11 hw) (w38 hw) (nf_sel (w37 hw) rfl) (S53).exa (show parseMethodDescriptor "()I" = some ⟨[], some .int⟩ by decide +kernel) rfl (len_met hw hcs S219) (fun _ q => nomatch q) rfl rfl rfl (by decide) ⟨⟨nle rfl, nle rfl⟩, nle rfl, nle rfl⟩ ?_
          intro v220 h221 hq222 _
          obtain ⟨rfl, rfl⟩ := hq222
          show WlO _ _ _ _ _ _ _ _ _ _ _ _ _ _ _ _ _ _ [.int (2 : Int32)]
          refine Wl.iload 261 at_259 rfl ?_
          refine Wl.icmpN 264 at_261 (teq (by decide)).2 ?_
          refine Wl.iconst 265 (1 : Int32) at_264 (by decide) ?_
          refine Wl.goto 269 at_265 ?_
          refine Wl.istore 271 #[.val (.int i0), .val (.int i1), .val (.int i2), .val (.int i3), .val (.int i4), .val (.int (4 : Int32)), .val (.ref a1), .val (.ref a44), .val (.ref a51), .val (.int (0 : Int32)), .val (.int (1 : Int32)), .val (.int (1 : Int32)), .val (.int (0 : Int32)), .val (.int (1 : Int32)), .val (.int (3 : Int32)), .val (.int (2 : Int32)), .val (.int (1 : Int32))] at_269 rfl ?_
          refine Wl.iload 273 at_271 rfl ?_
          refine Wl.ifN 276 at_273 (feq (by decide)).1 ?_
          refine Wl.iload 278 at_276 rfl ?_
          refine Wl.ifN 281 at_278 (tlt (by decide)).2.2.2 ?_
          refine Wl.aload 283 at_281 rfl rfl ?_
          refine Wl.iconst 284 (0 : Int32) at_283 (by decide) ?_
          refine Wl.virtual 287 (argsL := [.int (0 : Int32)]) at_284 (w121 hw) (w71 hw) (w73 hw) (w72 hw) (w11 hw) (w74 hw) (nf_sel (w73 hw) rfl) (S53).exa (show parseMethodDescriptor "(I)C" = some ⟨[.int], some .char⟩ by decide +kernel) rfl (charAt_met hw hcs hfm S219 (i := 0) (nle rfl)) (fun _ q => nomatch q) rfl rfl rfl (by decide) ⟨⟨nle rfl, nle rfl⟩, nle rfl, nle rfl⟩ ?_
          intro v223 h224 hq225 _
          obtain ⟨rfl, rfl⟩ := hq225
          show WlO _ _ _ _ _ _ _ _ _ _ _ _ _ _ _ _ _ _ [.int c1]
          refine Wl.aload 289 at_287 rfl rfl ?_
          refine Wl.iload 291 at_289 rfl ?_
          refine Wl.caload 292 1 at_291 ((A39.ext E45).ext E52) (by decide) (by decide) (by decide) rfl ?_
          refine Wl.icmpN 295 at_292 (teq rfl).2 ?_
          refine Wl.iconst 296 (1 : Int32) at_295 (by decide) ?_
          refine Wl.goto 300 at_296 ?_
          refine Wl.istore 302 #[.val (.int i0), .val (.int i1), .val (.int i2), .val (.int i3), .val (.int i4), .val (.int (4 : Int32)), .val (.ref a1), .val (.ref a44), .val (.ref a51), .val (.int (0 : Int32)), .val (.int (1 : Int32)), .val (.int (1 : Int32)), .val (.int (0 : Int32)), .val (.int (1 : Int32)), .val (.int (3 : Int32)), .val (.int (2 : Int32)), .val (.int (1 : Int32))] at_300 rfl ?_
          refine Wl.iload 304 at_302 rfl ?_
          refine Wl.ifN 307 at_304 (feq (by decide)).1 ?_
          refine Wl.iload 309 at_307 rfl ?_
          refine Wl.iconst 310 (1 : Int32) at_309 (by decide) ?_
          refine Wl.icmpN 313 at_310 (tlt (by decide)).2.2.2 ?_
          refine Wl.aload 315 at_313 rfl rfl ?_
          refine Wl.iconst 316 (1 : Int32) at_315 (by decide) ?_
          refine Wl.virtual 319 (argsL := [.int (1 : Int32)]) at_316 (w121 hw) (w71 hw) (w73 hw) (w72 hw) (w11 hw) (w74 hw) (nf_sel (w73 hw) rfl) (S53).exa (show parseMethodDescriptor "(I)C" = some ⟨[.int], some .char⟩ by decide +kernel) rfl (charAt_met hw hcs hfm S219 (i := 1) (nle rfl)) (fun _ q => nomatch q) rfl rfl rfl (by decide) ⟨⟨nle rfl, nle rfl⟩, nle rfl, nle rfl⟩ ?_
          intro v226 h227 hq228 _
          obtain ⟨rfl, rfl⟩ := hq228
          show WlO _ _ _ _ _ _ _ _ _ _ _ _ _ _ _ _ _ _ [.int c2]
          refine Wl.aload 321 at_319 rfl rfl ?_
          refine Wl.iload 323 at_321 rfl ?_
          refine Wl.iconst 324 (1 : Int32) at_323 (by decide) ?_
          refine Wl.iadd 325 at_324 ?_
          show WlO _ _ _ _ _ _ _ _ _ _ _ _ _ _ _ _ _ _ [.int (2 : Int32), .ref a1, .int c2]
          refine Wl.caload 326 2 at_325 ((A39.ext E45).ext E52) (by decide) (by decide) (by decide) rfl ?_
          refine Wl.icmpN 329 at_326 (teq rfl).2 ?_
          refine Wl.iconst 330 (1 : Int32) at_329 (by decide) ?_
          refine Wl.goto 334 at_330 ?_
          refine Wl.istore 336 #[.val (.int i0), .val (.int i1), .val (.int i2), .val (.int i3), .val (.int i4), .val (.int (4 : Int32)), .val (.ref a1), .val (.ref a44), .val (.ref a51), .val (.int (0 : Int32)), .val (.int (1 : Int32)), .val (.int (1 : Int32)), .val (.int (0 : Int32)), .val (.int (1 : Int32)), .val (.int (3 : Int32)), .val (.int (2 : Int32)), .val (.int (1 : Int32))] at_334 rfl ?_
          refine Wl.iload 338 at_336 rfl ?_
          refine Wl.ifN 341 at_338 (feq (by decide)).1 ?_
          refine Wl.iload 343 at_341 rfl ?_
          refine Wl.iconst 344 (2 : Int32) at_343 (by decide) ?_
          refine Wl.icmpY 370 at_344 (flt (by decide)).2.2.2 ?_
          refine Wl.iload 372 at_370 rfl ?_
          refine Wl.ifN 375 at_372 (feq (by decide)).1 ?_
          refine Wl.iload 377 at_375 rfl ?_
          refine Wl.iconst 378 (3 : Int32) at_377 (by decide) ?_
          refine Wl.icmpY 404 at_378 (flt (by decide)).2.2.2 ?_
          refine Wl.iload 406 at_404 rfl ?_
          exact Wl.ireturn at_406 rfl rfl (by simp) (nle rfl) (nle rfl) rfl
      · refine Wl.ifY 123 at_116 (feq c201).2 ?_
        refine Wl.iconst 124 (0 : Int32) at_123 (by decide) ?_
        refine Wl.istore 126 #[.val (.int i0), .val (.int i1), .val (.int i2), .val (.int i3), .val (.int i4), .val (.int (4 : Int32)), .val (.ref a1), .val (.ref a44), .val (.ref a51), .val (.int (0 : Int32)), .val (.int (1 : Int32)), .val (.int (0 : Int32)), .unset, .unset, .unset, .unset, .unset] at_124 rfl ?_
        refine Wl.iload 128 at_126 rfl ?_
        refine Wl.iconst 129 (3 : Int32) at_128 (by decide) ?_
        refine Wl.icmpN 132 at_129 (tlt (by decide)).2.2.2 ?_
        refine Wl.aload 134 at_132 rfl rfl ?_
        refine Wl.iconst 135 (3 : Int32) at_134 (by decide) ?_
        refine Wl.caload 136 3 at_135 ((A39.ext E45).ext E52) (by decide) (by decide) (by decide) rfl ?_
        refine Wl.static 139 (argsL := [.int c3]) at_136 (w118 hw) (w119 hw) (w4 hw) (w120 hw) (show parseMethodDescriptor "(C)Z" = some ⟨[.char], some .boolean⟩ by decide +kernel) rfl (sp_met hw) (fun _ q => nomatch q) rfl rfl rfl (by decide) ⟨⟨nle rfl, nle rfl⟩, nle rfl, nle rfl⟩ ?_
        intro v229 h230 hq231 _
        obtain ⟨rfl, rfl⟩ := hq231
        show WlO _ _ _ _ _ _ _ _ _ _ _ _ _ _ _ _ _ _ [.int (spI c3)]
        by_cases c232 : (spI c3) = (0 : Int32)
        · refine Wl.ifN 142 at_139 (teq c232).2 ?_
          refine Wl.iconst 143 (1 : Int32) at_142 (by decide) ?_
          refine Wl.goto 147 at_143 ?_
          refine Wl.istore 149 #[.val (.int i0), .val (.int i1), .val (.int i2), .val (.int i3), .val (.int i4), .val (.int (4 : Int32)), .val (.ref a1), .val (.ref a44), .val (.ref a51), .val (.int (0 : Int32)), .val (.int (1 : Int32)), .val (.int (0 : Int32)), .val (.int (1 : Int32)), .unset, .unset, .unset, .unset] at_147 rfl ?_
          refine Wl.iload 151 at_149 rfl ?_
          refine Wl.ifY 160 at_151 (teq (by decide)).1 ?_
          refine Wl.iload 162 at_160 rfl ?_
          refine Wl.ifN 165 at_162 (feq (by decide)).1 ?_
          refine Wl.iconst 166 (1 : Int32) at_165 (by decide) ?_
          refine Wl.istore 168 #[.val (.int i0), .val (.int i1), .val (.int i2), .val (.int i3), .val (.int i4), .val (.int (4 : Int32)), .val (.ref a1), .val (.ref a44), .val (.ref a51), .val (.int (0 : Int32)), .val (.int (1 : Int32)), .val (.int (0 : Int32)), .val (.int (1 : Int32)), .val (.int (1 : Int32)), .unset, .unset, .unset] at_166 rfl ?_
          refine Wl.goto 197 at_168 ?_
          refine Wl.iload 199 at_197 rfl ?_
          refine Wl.iload 201 at_199 rfl ?_
          refine Wl.icmpY 211 at_201 (feq (by decide)).2 ?_
          refine Wl.iload 213 at_211 rfl ?_
          refine Wl.ifN 216 at_213 (feq (by decide)).1 ?_
          refine Wl.iconst 217 (4 : Int32) at_216 (by decide) ?_
          refine Wl.istore 219 #[.val (.int i0), .val (.int i1), .val (.int i2), .val (.int i3), .val (.int i4), .val (.int (4 : Int32)), .val (.ref a1), .val (.ref a44), .val (.ref a51), .val (.int (0 : Int32)), .val (.int (1 : Int32)), .val (.int (0 : Int32)), .val (.int (1 : Int32)), .val (.int (1 : Int32)), .val (.int (4 : Int32)), .unset, .unset] at_217 rfl ?_
          refine Wl.goto 247 at_219 ?_
          refine Wl.iload 249 at_247 rfl ?_
          refine Wl.iload 251 at_249 rfl ?_
          refine Wl.isub 252 at_251 ?_
          show WlO _ _ _ _ _ _ _ _ _ _ _ _ _ _ _ _ _ _ [.int (3 : Int32)]
          refine Wl.istore 254 #[.val (.int i0), .val (.int i1), .val (.int i2), .val (.int i3), .val (.int i4), .val (.int (4 : Int32)), .val (.ref a1), .val (.ref a44), .val (.ref a51), .val (.int (0 : Int32)), .val (.int (1 : Int32)), .val (.int (0 : Int32)), .val (.int (1 : Int32)), .val (.int (1 : Int32)), .val (.int (4 : Int32)), .val (.int (3 : Int32)), .unset] at_252 rfl ?_
          refine Wl.aload 256 at_254 rfl rfl ?_
          have S233 := S53
          rw [show trimL [c0, c1, c2, c3] = [c1, c2, c3] by simp [trimL, isp, List.dropWhile, c58, c197, c201, c232]] at S233
          refine Wl.virtual 259 (argsL := []) at_256 (w59 hw) (w35 hw) (w37 hw) (w36 hw) (w11 hw) (w38 hw) (nf_sel (w37 hw) rfl) (S53).exa (show parseMethodDescriptor "()I" = some ⟨[], some .int⟩ by decide +kernel) rfl (len_met hw hcs S233) (fun _ q => nomatch q) rfl rfl rfl (by decide) ⟨⟨nle rfl, nle rfl⟩, nle rfl, nle rfl⟩ ?_
          intro v234 h235 hq236 _
          obtain ⟨rfl, rfl⟩ := hq236
          show WlO _ _ _ _ _ _ _ _ _ _ _ _ _ _ _ _ _ _ [.int (3 : Int32)]
          refine Wl.iload 261 at_259 rfl ?_
          refine Wl.icmpN 264 at_261 (teq (by decide)).2 ?_
          refine Wl.iconst 265 (1 : Int32) at_264 (by decide) ?_
          refine Wl.goto 269 at_265 ?_
          refine Wl.istore 271 #[.val (.int i0), .val (.int i1), .val (.int i2), .val (.int i3), .val (.int i4), .val (.int (4 : Int32)), .val (.ref a1), .val (.ref a44), .val (.ref a51), .val (.int (0 : Int32)), .val (.int (1 : Int32)), .val (.int (0 : Int32)), .val (.int (1 : Int32)), .val (.int (1 : Int32)), .val (.int (4 : Int32)), .val (.int (3 : Int32)), .val (.int (1 : Int32))] at_269 rfl ?_
          refine Wl.iload 273 at_271 rfl ?_
          refine Wl.ifN 276 at_273 (feq (by decide)).1 ?_
          refine Wl.iload 278 at_276 rfl ?_
          refine Wl.ifN 281 at_278 (tlt (by decide)).2.2.2 ?_
          refine Wl.aload 283 at_281 rfl rfl ?_
          refine Wl.iconst 284 (0 : Int32) at_283 (by decide) ?_
          refine Wl.virtual 287 (argsL := [.int (0 : Int32)]) at_284 (w121 hw) (w71 hw) (w73 hw) (w72 hw) (w11 hw) (w74 hw) (nf_sel (w73 hw) rfl) (S53).exa (show parseMethodDescriptor "(I)C" = some ⟨[.int], some .char⟩ by decide +kernel) rfl (charAt_met hw hcs hfm S233 (i := 0) (nle rfl)) (fun _ q => nomatch q) rfl rfl rfl (by decide) ⟨⟨nle rfl, nle rfl⟩, nle rfl, nle rfl⟩ ?_
          intro v237 h238 hq239 _
          obtain ⟨rfl, rfl⟩ := hq239
          show WlO _ _ _ _ _ _ _ _ _ _ _ _ _ _ _ _ _ _ [.int c1]
          refine Wl.aload 289 at_287 rfl rfl ?_
          refine Wl.iload 291 at_289 rfl ?_
          refine Wl.caload 292 1 at_291 ((A39.ext E45).ext E52) (by decide) (by decide) (by decide) rfl ?_
          refine Wl.icmpN 295 at_292 (teq rfl).2 ?_
          refine Wl.iconst 296 (1 : Int32) at_295 (by decide) ?_
          refine Wl.goto 300 at_296 ?_
          refine Wl.istore 302 #[.val (.int i0), .val (.int i1), .val (.int i2), .val (.int i3), .val (.int i4), .val (.int (4 : Int32)), .val (.ref a1), .val (.ref a44), .val (.ref a51), .val (.int (0 : Int32)), .val (.int (1 : Int32)), .val (.int (0 : Int32)), .val (.int (1 : Int32)), .val (.int (1 : Int32)), .val (.int (4 : Int32)), .val (.int (3 : Int32)), .val (.int (1 : Int32))] at_300 rfl ?_
          refine Wl.iload 304 at_302 rfl ?_
          refine Wl.ifN 307 at_304 (feq (by decide)).1 ?_
          refine Wl.iload 309 at_307 rfl ?_
          refine Wl.iconst 310 (1 : Int32) at_309 (by decide) ?_
          refine Wl.icmpN 313 at_310 (tlt (by decide)).2.2.2 ?_
          refine Wl.aload 315 at_313 rfl rfl ?_
          refine Wl.iconst 316 (1 : Int32) at_315 (by decide) ?_
          refine Wl.virtual 319 (argsL := [.int (1 : Int32)]) at_316 (w121 hw) (w71 hw) (w73 hw) (w72 hw) (w11 hw) (w74 hw) (nf_sel (w73 hw) rfl) (S53).exa (show parseMethodDescriptor "(I)C" = some ⟨[.int], some .char⟩ by decide +kernel) rfl (charAt_met hw hcs hfm S233 (i := 1) (nle rfl)) (fun _ q => nomatch q) rfl rfl rfl (by decide) ⟨⟨nle rfl, nle rfl⟩, nle rfl, nle rfl⟩ ?_
          intro v240 h241 hq242 _
          obtain ⟨rfl, rfl⟩ := hq242
          show WlO _ _ _ _ _ _ _ _ _ _ _ _ _ _ _ _ _ _ [.int c2]
          refine Wl.aload 321 at_319 rfl rfl ?_
          refine Wl.iload 323 at_321 rfl ?_
          refine Wl.iconst 324 (1 : Int32) at_323 (by decide) ?_
          refine Wl.iadd 325 at_324 ?_
          show WlO _ _ _ _ _ _ _ _ _ _ _ _ _ _ _ _ _ _ [.int (2 : Int32), .ref a1, .int c2]
          refine Wl.caload 326 2 at_325 ((A39.ext E45).ext E52) (by decide) (by decide) (by decide) rfl ?_
          refine Wl.icmpN 329 at_326 (teq rfl).2 ?_
          refine Wl.iconst 330 (1 : Int32) at_329 (by decide) ?_
          refine Wl.goto 334 at_330 ?_
          refine Wl.istore 336 #[.val (.int i0), .val (.int i1), .val (.int i2), .val (.int i3), .val (.int i4), .val (.int (4 : Int32)), .val (.ref a1), .val (.ref a44), .val (.ref a51), .val (.int (0 : Int32)), .val (.int (1 : Int32)), .val (.int (0 : Int32)), .val (.int (1 : Int32)), .val (.int (1 : Int32)), .val (.int (4 : Int32)), .val (.int (3 : Int32)), .val (.int (1 : Int32))] at_334 rfl ?_
          refine Wl.iload 338 at_336 rfl ?_
          refine Wl.ifN 341 at_338 (feq (by decide)).1 ?_
          refine Wl.iload 343 at_341 rfl ?_
          refine Wl.iconst 344 (2 : Int32) at_343 (by decide) ?_
          refine Wl.icmpN 347 at_344 (tlt (by decide)).2.2.2 ?_
          refine Wl.aload 349 at_347 rfl rfl ?_
          refine Wl.iconst 350 (2 : Int32) at_349 (by decide) ?_
          refine Wl.virtual 353 (argsL := [.int (2 : Int32)]) at_350 (w121 hw) (w71 hw) (w73 hw) (w72 hw) (w11 hw) (w74 hw) (nf_sel (w73 hw) rfl) (S53).exa (show parseMethodDescriptor "(I)C" = some ⟨[.int], some .char⟩ by decide +kernel) rfl (charAt_met hw hcs hfm S233 (i := 2) (nle rfl)) (fun _ q => nomatch q) rfl rfl rfl (by decide) ⟨⟨nle rfl, nle rfl⟩, nle rfl, nle rfl⟩ ?_
          intro v243 h244 hq245 _
          obtain ⟨rfl, rfl⟩ := hq245
          show WlO _ _ _ _ _ _ _ _ _ _ _ _ _ _ _ _ _ _ [.int c3]
          refine Wl.aload 355 at_353 rfl rfl ?_
          refine Wl.iload 357 at_355 rfl ?_
          refine Wl.iconst 358 (2 : Int32) at_357 (by decide) ?_
          refine Wl.iadd 359 at_358 ?_
          show WlO _ _ _ _ _ _ _ _ _ _ _ _ _ _ _ _ _ _ [.int (3 : Int32), .ref a1, .int c3]
          refine Wl.caload 360 3 at_359 ((A39.ext E45).ext E52) (by decide) (by decide) (by decide) rfl ?_
          refine Wl.icmpN 363 at_360 (teq rfl).2 ?_
          refine Wl.iconst 364 (1 : Int32) at_363 (by decide) ?_
          refine Wl.goto 368 at_364 ?_
          refine Wl.istore 370 #[.val (.int i0), .val (.int i1), .val (.int i2), .val (.int i3), .val (.int i4), .val (.int (4 : Int32)), .val (.ref a1), .val (.ref a44), .val (.ref a51), .val (.int (0 : Int32)), .val (.int (1 : Int32)), .val (.int (0 : Int32)), .val (.int (1 : Int32)), .val (.int (1 : Int32)), .val (.int (4 : Int32)), .val (.int (3 : Int32)), .val (.int (1 : Int32))] at_368 rfl ?_
          refine Wl.iload 372 at_370 rfl ?_
          refine Wl.ifN 375 at_372 (feq (by decide)).1 ?_
          refine Wl.iload 377 at_375 rfl ?_
          refine Wl.iconst 378 (3 : Int32) at_377 (by decide) ?_
          refine Wl.icmpY 404 at_378 (flt (by decide)).2.2.2 ?_
          refine Wl.iload 406 at_404 rfl ?_
          exact Wl.ireturn at_406 rfl rfl (by simp) (nle rfl) (nle rfl) rfl
        · refine Wl.ifY 146 at_139 (feq c232).2 ?_
          refine Wl.iconst 147 (0 : Int32) at_146 (by decide) ?_
          refine Wl.istore 149 #[.val (.int i0), .val (.int i1), .val (.int i2), .val (.int i3), .val (.int i4), .val (.int (4 : Int32)), .val (.ref a1), .val (.ref a44), .val (.ref a51), .val (.int (0 : Int32)), .val (.int (1 : Int32)), .val (.int (0 : Int32)), .val (.int (0 : Int32)), .unset, .unset, .unset, .unset] at_147 rfl ?_
          refine Wl.iload 151 at_149 rfl ?_
          refine Wl.ifY 160 at_151 (teq (by decide)).1 ?_
          refine Wl.iload 162 at_160 rfl ?_
          refine Wl.ifN 165 at_162 (feq (by decide)).1 ?_
          refine Wl.iconst 166 (1 : Int32) at_165 (by decide) ?_
          refine Wl.istore 168 #[.val (.int i0), .val (.int i1), .val (.int i2), .val (.int i3), .val (.int i4), .val (.int (4 : Int32)), .val (.ref a1), .val (.ref a44), .val (.ref a51), .val (.int (0 : Int32)), .val (.int (1 : Int32)), .val (.int (0 : Int32)), .val (.int (0 : Int32)), .val (.int (1 : Int32)), .unset, .unset, .unset] at_166 rfl ?_
          refine Wl.goto 197 at_168 ?_
          refine Wl.iload 199 at_197 rfl ?_
          refine Wl.iload 201 at_199 rfl ?_
          refine Wl.icmpY 211 at_201 (feq (by decide)).2 ?_
          refine Wl.iload 213 at_211 rfl ?_
          refine Wl.ifY 222 at_213 (teq (by decide)).1 ?_
          refine Wl.iload 224 at_222 rfl ?_
          refine Wl.ifY 233 at_224 (teq (by decide)).1 ?_
          refine Wl.iload 235 at_233 rfl ?_
          refine Wl.ifN 238 at_235 (feq (by decide)).1 ?_
          refine Wl.iconst 239 (2 : Int32) at_238 (by decide) ?_
          refine Wl.istore 241 #[.val (.int i0), .val (.int i1), .val (.int i2), .val (.int i3), .val (.int i4), .val (.int (4 : Int32)), .val (.ref a1), .val (.ref a44), .val (.ref a51), .val (.int (0 : Int32)), .val (.int (1 : Int32)), .val (.int (0 : Int32)), .val (.int (0 : Int32)), .val (.int (1 : Int32)), .val (.int (2 : Int32)), .unset, .unset] at_239 rfl ?_
          refine Wl.goto 247 at_241 ?_
          refine Wl.iload 249 at_247 rfl ?_
          refine Wl.iload 251 at_249 rfl ?_
          refine Wl.isub 252 at_251 ?_
          show WlO _ _ _ _ _ _ _ _ _ _ _ _ _ _ _ _ _ _ [.int (1 : Int32)]
          refine Wl.istore 254 #[.val (.int i0), .val (.int i1), .val (.int i2), .val (.int i3), .val (.int i4), .val (.int (4 : Int32)), .val (.ref a1), .val (.ref a44), .val (.ref a51), .val (.int (0 : Int32)), .val (.int (1 : Int32)), .val (.int (0 : Int32)), .val (.int (0 : Int32)), .val (.int (1 : Int32)), .val (.int (2 : Int32)), .val (.int (1 : Int32)), .unset] at_252 rfl ?_
          refine Wl.aload 256 at_254 rfl rfl ?_
          have S246 := S53
          rw [show trimL [c0, c1, c2, c3] = [c1] by simp [trimL, isp, List.dropWhile, c58, c197, c201, c232]] at S246
          refine Wl.virtual 259 (argsL := []) at_256 (w59 hw) (w35 hw) (w37 hw) (w36 hw) (w11 hw) (w38 hw) (nf_sel (w37 hw) rfl) (S53).exa (show parseMethodDescriptor "()I" = some ⟨[], some .int⟩ by decide +kernel) rfl (len_met hw hcs S246) (fun _ q => nomatch q) rfl rfl rfl (by decide) ⟨⟨nle rfl, nle rfl⟩, nle rfl, nle rfl⟩ ?_
          intro v247 h248 hq249 _
          obtain ⟨rfl, rfl⟩ := hq249
          show WlO _ _ _ _ _ _ _ _ _ _ _ _ _ _ _ _ _ _ [.int (1 : Int32)]
          refine Wl.iload 261 at_259 rfl ?_
          refine Wl.icmpN 264 at_261 (teq (by decide)).2 ?_
          refine Wl.iconst 265 (1 : Int32) at_264 (by decide) ?_
          refine Wl.goto 269 at_265 ?_
          refine Wl.istore 271 #[.val (.int i0), .val (.int i1), .val (.int i2), .val (.int i3), .val (.int i4), .val (.int (4 : Int32)), .val (.ref a1), .val (.ref a44), .val (.ref a51), .val (.int (0 : Int32)), .val (.int (1 : Int32)), .val (.int (0 : Int32)), .val (.int (0 : Int32)), .val (.int (1 : Int32)), .val (.int (2 : Int32)), .val (.int (1 : Int32)), .val (.int (1 : Int32))] at_269 rfl ?_
          refine Wl.iload 273 at_271 rfl ?_
          refine Wl.ifN 276 at_273 (feq (by decide)).1 ?_
          refine Wl.iload 278 at_276 rfl ?_
          refine Wl.ifN 281 at_278 (tlt (by decide)).2.2.2 ?_
          refine Wl.aload 283 at_281 rfl rfl ?_
          refine Wl.iconst 284 (0 : Int32) at_283 (by decide) ?_
          refine Wl.virtual 287 (argsL := [.int (0 : Int32)]) at_284 (w121 hw) (w71 hw) (w73 hw) (w72 hw) (w11 hw) (w74 hw) (nf_sel (w73 hw) rfl) (S53).exa (show parseMethodDescriptor "(I)C" = some ⟨[.int], some .char⟩ by decide +kernel) rfl (charAt_met hw hcs hfm S246 (i := 0) (nle rfl)) (fun _ q => nomatch q) rfl rfl rfl (by decide) ⟨⟨nle rfl, nle rfl⟩, nle rfl, nle rfl⟩ ?_
          intro v250 h251 hq252 _
          obtain ⟨rfl, rfl⟩ := hq252
          show WlO _ _ _ _ _ _ _ _ _ _ _ _ _ _ _ _ _ _ [.int c1]
          refine Wl.aload 289 at_287 rfl rfl ?_
          refine Wl.iload 291 at_289 rfl ?_
          refine Wl.caload 292 1 at_291 ((A39.ext E45).ext E52) (by decide) (by decide) (by decide) rfl ?_
          refine Wl.icmpN 295 at_292 (teq rfl).2 ?_
          refine Wl.iconst 296 (1 : Int32) at_295 (by decide) ?_
          refine Wl.goto 300 at_296 ?_
          refine Wl.istore 302 #[.val (.int i0), .val (.int i1), .val (.int i2), .val (.int i3), .val (.int i4), .val (.int (4 : Int32)), .val (.ref a1), .val (.ref a44), .val (.ref a51), .val (.int (0 : Int32)), .val (.int (1 : Int32)), .val (.int (0 : Int32)), .val (.int (0 : Int32)), .val (.int (1 : Int32)), .val (.int (2 : Int32)), .val (.int (1 : Int32)), .val (.int (1 : Int32))] at_300 rfl ?_
          refine Wl.iload 304 at_302 rfl ?_
          refine Wl.ifN 307 at_304 (feq (by decide)).1 ?_
          refine Wl.iload 309 at_307 rfl ?_
          refine Wl.iconst 310 (1 : Int32) at_309 (by decide) ?_
          refine Wl.icmpY 336 at_310 (flt (by decide)).2.2.2 ?_
          refine Wl.iload 338 at_336 rfl ?_
          refine Wl.ifN 341 at_338 (feq (by decide)).1 ?_
          refine Wl.iload 343 at_341 rfl ?_
          refine Wl.iconst 344 (2 : Int32) at_343 (by decide) ?_
          refine Wl.icmpY 370 at_344 (flt (by decide)).2.2.2 ?_
          refine Wl.iload 372 at_370 rfl ?_
          refine Wl.ifN 375 at_372 (feq (by decide)).1 ?_
          refine Wl.iload 377 at_375 rfl ?_
          refine Wl.iconst 378 (3 : Int32) at_377 (by decide) ?_
          refine Wl.icmpY 404 at_378 (flt (by decide)).2.2.2 ?_
          refine Wl.iload 406 at_404 rfl ?_
          exact Wl.ireturn at_406 rfl rfl (by simp) (nle rfl) (nle rfl) rfl
    · refine Wl.ifY 100 at_93 (feq c197).2 ?_
      refine Wl.iconst 101 (0 : Int32) at_100 (by decide) ?_
      refine Wl.istore 103 #[.val (.int i0), .val (.int i1), .val (.int i2), .val (.int i3), .val (.int i4), .val (.int (4 : Int32)), .val (.ref a1), .val (.ref a44), .val (.ref a51), .val (.int (0 : Int32)), .val (.int (0 : Int32)), .unset, .unset, .unset, .unset, .unset, .unset] at_101 rfl ?_
      refine Wl.iload 105 at_103 rfl ?_
      refine Wl.iconst 106 (2 : Int32) at_105 (by decide) ?_
      refine Wl.icmpN 109 at_106 (tlt (by decide)).2.2.2 ?_
      refine Wl.aload 111 at_109 rfl rfl ?_
      refine Wl.iconst 112 (2 : Int32) at_111 (by decide) ?_
      refine Wl.caload 113 2 at_112 ((A39.ext E45).ext E52) (by decide) (by decide) (by decide) rfl ?_
      refine Wl.static 116 (argsL := [.int c2]) at_113 (w118 hw) (w119 hw) (w4 hw) (w120 hw) (show parseMethodDescriptor "(C)Z" = some ⟨[.char], some .boolean⟩ by decide +kernel) rfl (sp_met hw) (fun _ q => nomatch q) rfl rfl rfl (by decide) ⟨⟨nle rfl, nle rfl⟩, nle rfl, nle rfl⟩ ?_
      intro v253 h254 hq255 _
      obtain ⟨rfl, rfl⟩ := hq255
      show WlO _ _ _ _ _ _ _ _ _ _ _ _ _ _ _ _ _ _ [.int (spI c2)]
      by_cases c256 : (spI c2) = (0 : Int32)
      · refine Wl.ifN 119 at_116 (teq c256).2 ?_
        refine Wl.iconst 120 (1 : Int32) at_119 (by decide) ?_
        refine Wl.goto 124 at_120 ?_
        refine Wl.istore 126 #[.val (.int i0), .val (.int i1), .val (.int i2), .val (.int i3), .val (.int i4), .val (.int (4 : Int32)), .val (.ref a1), .val (.ref a44), .val (.ref a51), .val (.int (0 : Int32)), .val (.int (0 : Int32)), .val (.int (1 : Int32)), .unset, .unset, .unset, .unset, .unset] at_124 rfl ?_
        refine Wl.iload 128 at_126 rfl ?_
        refine Wl.iconst 129 (3 : Int32) at_128 (by decide) ?_
        refine Wl.icmpN 132 at_129 (tlt (by decide)).2.2.2 ?_
        refine Wl.aload 134 at_132 rfl rfl ?_
        refine Wl.iconst 135 (3 : Int32) at_134 (by decide) ?_
        refine Wl.caload 136 3 at_135 ((A39.ext E45).ext E52) (by decide) (by decide) (by decide) rfl ?_
        refine Wl.static 139 (argsL := [.int c3]) at_136 (w118 hw) (w119 hw) (w4 hw) (w120 hw) (show parseMethodDescriptor "(C)Z" = some ⟨[.char], some .boolean⟩ by decide +kernel) rfl (sp_met hw) (fun _ q => nomatch q) rfl rfl rfl (by decide) ⟨⟨nle rfl, nle rfl⟩, nle rfl, nle rfl⟩ ?_
        intro v257 h258 hq259 _
        obtain ⟨rfl, rfl⟩ := hq259
        show WlO _ _ _ _ _ _ _ _ _ _ _ _ _ _ _ _ _ _ [.int (spI c3)]
        by_cases c260 : (spI c3) = (0 : Int32)
        · refine Wl.ifN 142 at_139 (teq c260).2 ?_
          refine Wl.iconst 143 (1 : Int32) at_142 (by decide) ?_
          refine Wl.goto 147 at_143 ?_
          refine Wl.istore 149 #[.val (.int i0), .val (.int i1), .val (.int i2), .val (.int i3), .val (.int i4), .val (.int (4 : Int32)), .val (.ref a1), .val (.ref a44), .val (.ref a51), .val (.int (0 : Int32)), .val (.int (0 : Int32)), .val (.int (1 : Int32)), .val (.int (1 : Int32)), .unset, .unset, .unset, .unset] at_147 rfl ?_
          refine Wl.iload 151 at_149 rfl ?_
          refine Wl.ifY 160 at_151 (teq (by decide)).1 ?_
          refine Wl.iload 162 at_160 rfl ?_
          refine Wl.ifY 171 at_162 (teq (by decide)).1 ?_
          refine Wl.iload 173 at_171 rfl ?_
          refine Wl.ifN 176 at_173 (feq (by decide)).1 ?_
          refine Wl.iconst 177 (2 : Int32) at_176 (by decide) ?_
          refine Wl.istore 179 #[.val (.int i0), .val (.int i1), .val (.int i2), .val (.int i3), .val (.int i4), .val (.int (4 : Int32)), .val (.ref a1), .val (.ref a44), .val (.ref a51), .val (.int (0 : Int32)), .val (.int (0 : Int32)), .val (.int (1 : Int32)), .val (.int (1 : Int32)), .val (.int (2 : Int32)), .unset, .unset, .unset] at_177 rfl ?_
          refine Wl.goto 197 at_179 ?_
          refine Wl.iload 199 at_197 rfl ?_
          refine Wl.iload 201 at_199 rfl ?_
          refine Wl.icmpY 211 at_201 (feq (by decide)).2 ?_
          refine Wl.iload 213 at_211 rfl ?_
          refine Wl.ifN 216 at_213 (feq (by decide)).1 ?_
          refine Wl.iconst 217 (4 : Int32) at_216 (by decide) ?_
          refine Wl.istore 219 #[.val (.int i0), .val (.int i1), .val (.int i2), .val (.int i3), .val (.int i4), .val (.int (4 : Int32)), .val (.ref a1), .val (.ref a44), .val (.ref a51), .val (.int (0 : Int32)), .val (.int (0 : Int32)), .val (.int (1 : Int32)), .val (.int (1 : Int32)), .val (.int (2 : Int32)), .val (.int (4 : Int32)), .unset, .unset] at_217 rfl ?_
          refine Wl.goto 247 at_219 ?_
          refine Wl.iload 249 at_247 rfl ?_
          refine Wl.iload 251 at_249 rfl ?_
          refine Wl.isub 252 at_251 ?_
          show WlO _ _ _ _ _ _ _ _ _ _ _ _ _ _ _ _ _ _ [.int (2 : Int32)]
          refine Wl.istore 254 #[.val (.int i0), .val (.int i1), .val (.int i2), .val (.int i3), .val (.int i4), .val (.int (4 : Int32)), .val (.ref a1), .val (.ref a44), .val (.ref a51), .val (.int (0 : Int32)), .val (.int (0 : Int32)), .val (.int (1 : Int32)), .val (.int (1 : Int32)), .val (.int (2 : Int32)), .val (.int (4 : Int32)), .val (.int (2 : Int32)), .unset] at_252 rfl ?_
          refine Wl.aload 256 at_254 rfl rfl ?_
          have S261 := S53
          rw [show trimL [c0, c1, c2, c3] = [c2, c3] by simp [trimL, isp, List.dropWhile, c58, c197, c256, c260]] at S261
          refine Wl.virtual 259 (argsL := []) at_256 (w59 hw) (w35 hw) (w37 hw) (w36 hw) (w11 hw) (w38 hw) (nf_sel (w37 hw) rfl) (S53).exa (show parseMethodDescriptor "()I" = some ⟨[], some .int⟩ by decide +kernel) rfl (len_met hw hcs S261) (fun _ q => nomatch q) rfl rfl rfl (by decide) ⟨⟨nle rfl, nle rfl⟩, nle rfl, nle rfl⟩ ?_
          intro v262 h263 hq264 _
          obtain ⟨rfl, rfl⟩ := hq264
          show WlO _ _ _ _ _ _ _ _ _ _ _ _ _ _ _ _ _ _ [.int (2 : Int32)]
          refine Wl.iload 261 at_259 rfl ?_
          refine Wl.icmpN 264 at_261 (teq (by decide)).2 ?_
          refine Wl.iconst 265 (1 : Int32) at_264 (by decide) ?_
          refine Wl.goto 269 at_265 ?_
          refine Wl.istore 271 #[.val (.int i0), .val (.int i1), .val (.int i2), .val (.int i3), .val (.int i4), .val (.int (4 : Int32)), .val (.ref a1), .val (.ref a44), .val (.ref a51), .val (.int (0 : Int32)), .val (.int (0 : Int32)), .val (.int (1 : Int32)), .val (.int (1 : Int32)), .val (.int (2 : Int32)), .val (.int (4 : Int32)), .val (.int (2 : Int32)), .val (.int (1 : Int32))] at_269 rfl ?_
          refine Wl.iload 273 at_271 rfl ?_
          refine Wl.ifN 276 at_273 (feq (by decide)).1 ?_
          refine Wl.iload 278 at_276 rfl ?_
          refine Wl.ifN 281 at_278 (tlt (by decide)).2.2.2 ?_
          refine Wl.aload 283 at_281 rfl rfl ?_
          refine Wl.iconst 284 (0 : Int32) at_283 (by decide) ?_
          refine Wl.virtual 287 (argsL := [.int (0 : Int32)]) at_284 (w121 hw) (w71 hw) (w73 hw) (w72 hw) (w11 hw) (w74 hw) (nf_sel (w73 hw) rfl) (S53).exa (show parseMethodDescriptor "(I)C" = some ⟨[.int], some .char⟩ by decide +kernel) rfl (charAt_met hw hcs hfm S261 (i := 0) (nle rfl)) (fun _ q => nomatch q) rfl rfl rfl (by decide) ⟨⟨nle rfl, nle rfl⟩, nle rfl, nle rfl⟩ ?_
          intro v265 h266 hq267 _
          obtain ⟨rfl, rfl⟩ := hq267
          show WlO _ _ _ _ _ _ _ _ _ _ _ _ _ _ _ _ _ _ [.int c2]
          refine Wl.aload 289 at_287 rfl rfl ?_
          refine Wl.iload 291 at_289 rfl ?_
          refine Wl.caload 292 2 at_291 ((A39.ext E45).ext E52) (by decide) (by decide) (by decide) rfl ?_
          refine Wl.icmpN 295 at_292 (teq rfl).2 ?_
          refine Wl.iconst 296 (1 : Int32) at_295 (by decide) ?_
          refine Wl.goto 300 at_296 ?_
          refine Wl.istore 302 #[.val (.int i0), .val (.int i1), .val (.int i2), .val (.int i3), .val (.int i4), .val (.int (4 : Int32)), .val (.ref a1), .val (.ref a44), .val (.ref a51), .val (.int (0 : Int32)), .val (.int (0 : Int32)), .val (.int (1 : Int32)), .val (.int (1 : Int32)), .val (.int (2 : Int32)), .val (.int (4 : Int32)), .val (.int (2 : Int32)), .val (.int (1 : Int32))] at_300 rfl ?_
          refine Wl.iload 304 at_302 rfl ?_
          refine Wl.ifN 307 at_304 (feq (by decide)).1 ?_
          refine Wl.iload 309 at_307 rfl ?_
          refine Wl.iconst 310 (1 : Int32) at_309 (by decide) ?_
          refine Wl.icmpN 313 at_310 (tlt (by decide)).2.2.2 ?_
          refine Wl.aload 315 at_313 rfl rfl ?_
          refine Wl.iconst 316 (1 : Int32) at_315 (by decide) ?_
          refine Wl.virtual 319 (argsL := [.int (1 : Int32)]) at_316 (w121 hw) (w71 hw) (w73 hw) (w72 hw) (w11 hw) (w74 hw) (nf_sel (w73 hw) rfl) (S53).exa (show parseMethodDescriptor "(I)C" = some ⟨[.int], some .char⟩ by decide +kernel) rfl (charAt_met hw hcs hfm S261 (i := 1) (nle rfl)) (fun _ q => nomatch q) rfl rfl rfl (by decide) ⟨⟨nle rfl, nle rfl⟩, nle rfl, nle rfl⟩ ?_
          intro v268 h269 hq270 _
          obtain ⟨rfl, rfl⟩ := hq270
          show WlO _ _ _ _ _ _ _ _ _ _ _ _ _ _ _ _ _ _ [.int c3]
          refine Wl.aload 321 at_319 rfl rfl ?_
          refine Wl.iload 323 at_321 rfl ?_
          refine Wl.iconst 324 (1 : Int32) at_323 (by decide) ?_
          refine Wl.iadd 325 at_324 ?_
          show WlO _ _ _ _ _ _ _ _ _ _ _ _ _ _ _ _ _ _ [.int (3 : Int32), .ref a1, .int c3]
          refine Wl.caload 326 3 at_325 ((A39.ext E45).ext E52) (by decide) (by decide) (by decide) rfl ?_
          refine Wl.icmpN 329 at_326 (teq rfl).2 ?_
          refine Wl.iconst 330 (1 : Int32) at_329 (by decide) ?_
          refine Wl.goto 334 at_330 ?_
          refine Wl.istore 336 #[.val (.int i0), .val (.int i1), .val (.int i2), .val (.int i3), .val (.int i4), .val (.int (4 : Int32)), .val (.ref a1), .val (.ref a44), .val (.ref a51), .val (.int (0 : Int32)), .val (.int (0 : Int32)), .val (.int (1 : Int32)), .val (.int (1 : Int32)), .val (.int (2 : Int32)), .val (.int (4 : Int32)), .val (.int (2 : Int32)), .val (.int (1 : Int32))] at_334 rfl ?_
          refine Wl.iload 338 at_336 rfl ?_
          refine Wl.ifN 341 at_338 (feq (by decide)).1 ?_
          refine Wl.iload 343 at_341 rfl ?_
          refine Wl.iconst 344 (2 : Int32) at_343 (by decide) ?_
          refine Wl.icmpY 370 at_344 (flt (by decide)).2.2.2 ?_
          refine Wl.iload 372 at_370 rfl ?_
          refine Wl.ifN 375 at_372 (feq (by decide)).1 ?_
          refine Wl.iload 377 at_375 rfl ?_
          refine Wl.iconst 378 (3 : Int32) at_377 (by decide) ?_
          refine Wl.icmpY 404 at_378 (flt (by decide)).2.2.2 ?_
          refine Wl.iload 406 at_404 rfl ?_
          exact Wl.ireturn at_406 rfl rfl (by simp) (nle rfl) (nle rfl) rfl
        · refine Wl.ifY 146 at_139 (feq c260).2 ?_
          refine Wl.iconst 147 (0 : Int32) at_146 (by decide) ?_
          refine Wl.istore 149 #[.val (.int i0), .val (.int i1), .val (.int i2), .val (.int i3), .val (.int i4), .val (.int (4 : Int32)), .val (.ref a1), .val (.ref a44), .val (.ref a51), .val (.int (0 : Int32)), .val (.int (0 : Int32)), .val (.int (1 : Int32)), .val (.int (0 : Int32)), .unset, .unset, .unset, .unset] at_147 rfl ?_
          refine Wl.iload 151 at_149 rfl ?_
          refine Wl.ifY 160 at_151 (teq (by decide)).1 ?_
          refine Wl.iload 162 at_160 rfl ?_
          refine Wl.ifY 171 at_162 (teq (by decide)).1 ?_
          refine Wl.iload 173 at_171 rfl ?_
          refine Wl.ifN 176 at_173 (feq (by decide)).1 ?_
          refine Wl.iconst 177 (2 : Int32) at_176 (by decide) ?_
          refine Wl.istore 179 #[.val (.int i0), .val (.int i1), .val (.int i2), .val (.int i3), .val (.int i4), .val (.int (4 : Int32)), .val (.ref a1), .val (.ref a44), .val (.ref a51), .val (.int (0 : Int32)), .val (.int (0 : Int32)), .val (.int (1 : Int32)), .val (.int (0 : Int32)), .val (.int (2 : Int32)), .unset, .unset, .unset] at_177 rfl ?_
          refine Wl.goto 197 at_179 ?_
          refine Wl.iload 199 at_197 rfl ?_
          refine Wl.iload 201 at_199 rfl ?_
          refine Wl.icmpY 211 at_201 (feq (by decide)).2 ?_
          refine Wl.iload 213 at_211 rfl ?_
          refine Wl.ifY 222 at_213 (teq (by decide)).1 ?_
          refine Wl.iload 224 at_222 rfl ?_
          refine Wl.ifN 227 at_224 (feq (by decide)).1 ?_
          refine Wl.iconst 228 (3 : Int32) at_227 (by decide) ?_
          refine Wl.istore 230 #[.val (.int i0), .val (.int i1), .val (.int i2), .val (.int i3), .val (.int i4), .val (.int (4 : Int32)), .val (.ref a1), .val (.ref a44), .val (.ref a51), .val (.int (0 : Int32)), .val (.int (0 : Int32)), .val (.int (1 : Int32)), .val (.int (0 : Int32)), .val (.int (2 : Int32)), .val (.int (3 : Int32)), .unset, .unset] at_228 rfl ?_
          refine Wl.goto 247 at_230 ?_
          refine Wl.iload 249 at_247 rfl ?_
          refine Wl.iload 251 at_249 rfl ?_
          refine Wl.isub 252 at_251 ?_
          show WlO _ _ _ _ _ _ _ _ _ _ _ _ _ _ _ _ _ _ [.int (1 : Int32)]
          refine Wl.istore 254 #[.val (.int i0), .val (.int i1), .val (.int i2), .val (.int i3), .val (.int i4), .val (.int (4 : Int32)), .val (.ref a1), .val (.ref a44), .val (.ref a51), .val (.int (0 : Int32)), .val (.int (0 : Int32)), .val (.int (1 : Int32)), .val (.int (0 : Int32)), .val (.int (2 : Int32)), .val (.int (3 : Int32)), .val (.int (1 : Int32)), .unset] at_252 rfl ?_
          refine Wl.aload 256 at_254 rfl rfl ?_
          have S271 := S53
          rw [show trimL [c0, c1, c2, c3] = [c2] by simp [trimL, isp, List.dropWhile, c58, c197, c256, c260]] at S271
          refine Wl.virtual 259 (argsL := []) at_256 (w59 hw) (w35 hw) (w37 hw) (w36 hw) (w11 hw) (w38 hw) (nf_sel (w37 hw) rfl) (S53).exa (show parseMethodDescriptor "()I" = some ⟨[], some .int⟩ by decide +kernel) rfl (len_met hw hcs S271) (fun _ q => nomatch q) rfl rfl rfl (by decide) ⟨⟨nle rfl, nle rfl⟩, nle rfl, nle rfl⟩ ?_
          intro v272 h273 hq274 _
          obtain ⟨rfl, rfl⟩ := hq274
          show WlO _ _ _ _ _ _ _ _ _ _ _ _ _ _ _ _ _ _ [.int (1 : Int32)]
          refine Wl.iload 261 at_259 rfl ?_
          refine Wl.icmpN 264 at_261 (teq (by decide)).2 ?_
          refine Wl.iconst 265 (1 : Int32) at_264 (by decide) ?_
          refine Wl.goto 269 at_265 ?_
          refine Wl.istore 271 #[.val (.int i0), .val (.int i1), .val (.int i2), .val (.int i3), .val (.int i4), .val (.int (4 : Int32)), .val (.ref a1), .val (.ref a44), .val (.ref a51), .val (.int (0 : Int32)), .val (.int (0 : Int32)), .val (.int (1 : Int32)), .val (.int (0 : Int32)), .val (.int (2 : Int32)), .val (.int (3 : Int32)), .val (.int (1 : Int32)), .val (.int (1 : Int32))] at_269 rfl ?_
          refine Wl.iload 273 at_271 rfl ?_
          refine Wl.ifN 276 at_273 (feq (by decide)).1 ?_
          refine Wl.iload 278 at_276 rfl ?_
          refine Wl.ifN 281 at_278 (tlt (by decide)).2.2.2 ?_
          refine Wl.aload 283 at_281 rfl rfl ?_
          refine Wl.iconst 284 (0 : Int32) at_283 (by decide) ?_
          refine Wl.virtual 287 (argsL := [.int (0 : Int32)]) at_284 (w121 hw) (w71 hw) (w73 hw) (w72 hw) (w11 hw) (w74 hw) (nf_sel (w73 hw) rfl) (S53).exa (show parseMethodDescriptor "(I)C" = some ⟨[.int], some .char⟩ by decide +kernel) rfl (charAt_met hw hcs hfm S271 (i := 0) (nle rfl)) (fun _ q => nomatch q) rfl rfl rfl (by decide) ⟨⟨nle rfl, nle rfl⟩, nle rfl, nle rfl⟩ ?_
          intro v275 h276 hq277 _
          obtain ⟨rfl, rfl⟩ := hq277
          show WlO _ _ _ _ _ _ _ _ _ _ _ _ _ _ _ _ _ _ [.int c2]
          refine Wl.aload 289 at_287 rfl rfl ?_
          refine Wl.iload 291 at_289 rfl ?_
          refine Wl.caload 292 2 at_291 ((A39.ext E45).ext E52) (by decide) (by decide) (by decide) rfl ?_
          refine Wl.icmpN 295 at_292 (teq rfl).2 ?_
          refine Wl.iconst 296 (1 : Int32) at_295 (by decide) ?_
          refine Wl.goto 300 at_296 ?_
          refine Wl.istore 302 #[.val (.int i0), .val (.int i1), .val (.int i2), .val (.int i3), .val (.int i4), .val (.int (4 : Int32)), .val (.ref a1), .val (.ref a44), .val (.ref a51), .val (.int (0 : Int32)), .val (.int (0 : Int32)), .val (.int (1 : Int32)), .val (.int (0 : Int32)), .val (.int (2 : Int32)), .val (.int (3 : Int32)), .val (.int (1 : Int32)), .val (.int (1 : Int32))] at_300 rfl ?_
          refine Wl.iload 304 at_302 rfl ?_
          refine Wl.ifN 307 at_304 (feq (by decide)).1 ?_
          refine Wl.iload 309 at_307 rfl ?_
          refine Wl.iconst 310 (1 : Int32) at_309 (by decide) ?_
          refine Wl.icmpY 336 at_310 (flt (by decide)).2.2.2 ?_
          refine Wl.iload 338 at_336 rfl ?_
          refine Wl.ifN 341 at_338 (feq (by decide)).1 ?_
          refine Wl.iload 343 at_341 rfl ?_
          refine Wl.iconst 344 (2 : Int32) at_343 (by decide) ?_
          refine Wl.icmpY 370 at_344 (flt (by decide)).2.2.2 ?_
          refine Wl.iload 372 at_370 rfl ?_
          refine Wl.ifN 375 at_372 (feq (by decide)).1 ?_
          refine Wl.iload 377 at_375 rfl ?_
          refine Wl.iconst 378 (3 : Int32) at_377 (by decide) ?_
          refine Wl.icmpY 404 at_378 (flt (by decide)).2.2.2 ?_
          refine Wl.iload 406 at_404 rfl ?_
          exact Wl.ireturn at_406 rfl rfl (by simp) (nle rfl) (nle rfl) rfl
      · refine Wl.ifY 123 at_116 (feq c256).2 ?_
        refine Wl.iconst 124 (0 : Int32) at_123 (by decide) ?_
        refine Wl.istore 126 #[.val (.int i0), .val (.int i1), .val (.int i2), .val (.int i3), .val (.int i4), .val (.int (4 : Int32)), .val (.ref a1), .val (.ref a44), .val (.ref a51), .val (.int (0 : Int32)), .val (.int (0 : Int32)), .val (.int (0 : Int32)), .unset, .unset, .unset, .unset, .unset] at_124 rfl ?_
        refine Wl.iload 128 at_126 rfl ?_
        refine Wl.iconst 129 (3 : Int32) at_128 (by decide) ?_
        refine Wl.icmpN 132 at_129 (tlt (by decide)).2.2.2 ?_
        refine Wl.aload 134 at_132 rfl rfl ?_
        refine Wl.iconst 135 (3 : Int32) at_134 (by decide) ?_
        refine Wl.caload 136 3 at_135 ((A39.ext E45).ext E52) (by decide) (by decide) (by decide) rfl ?_
        refine Wl.static 139 (argsL := [.int c3]) at_136 (w118 hw) (w119 hw) (w4 hw) (w120 hw) (show parseMethodDescriptor "(C)Z" = some ⟨[.char], some .boolean⟩ by decide +kernel) rfl (sp_met hw) (fun _ q => nomatch q) rfl rfl rfl (by decide) ⟨⟨nle rfl, nle rfl⟩, nle rfl, nle rfl⟩ ?_
        intro v278 h279 hq280 _
        obtain ⟨rfl, rfl⟩ := hq280
        show WlO _ _ _ _ _ _ _ _ _ _ _ _ _ _ _ _ _ _ [.int (spI c3)]
        by_cases c281 : (spI c3) = (0 : Int32)
        · refine Wl.ifN 142 at_139 (teq c281).2 ?_
          refine Wl.iconst 143 (1 : Int32) at_142 (by decide) ?_
          refine Wl.goto 147 at_143 ?_
          refine Wl.istore 149 #[.val (.int i0), .val (.int i1), .val (.int i2), .val (.int i3), .val (.int i4), .val (.int (4 : Int32)), .val (.ref a1), .val (.ref a44), .val (.ref a51), .val (.int (0 : Int32)), .val (.int (0 : Int32)), .val (.int (0 : Int32)), .val (.int (1 : Int32)), .unset, .unset, .unset, .unset] at_147 rfl ?_
          refine Wl.iload 151 at_149 rfl ?_
          refine Wl.ifY 160 at_151 (teq (by decide)).1 ?_
          refine Wl.iload 162 at_160 rfl ?_
          refine Wl.ifY 171 at_162 (teq (by decide)).1 ?_
          refine Wl.iload 173 at_171 rfl ?_
          refine Wl.ifY 182 at_173 (teq (by decide)).1 ?_
          refine Wl.iload 184 at_182 rfl ?_
          refine Wl.ifN 187 at_184 (feq (by decide)).1 ?_
          refine Wl.iconst 188 (3 : Int32) at_187 (by decide) ?_
          refine Wl.istore 190 #[.val (.int i0), .val (.int i1), .val (.int i2), .val (.int i3), .val (.int i4), .val (.int (4 : Int32)), .val (.ref a1), .val (.ref a44), .val (.ref a51), .val (.int (0 : Int32)), .val (.int (0 : Int32)), .val (.int (0 : Int32)), .val (.int (1 : Int32)), .val (.int (3 : Int32)), .unset, .unset, .unset] at_188 rfl ?_
          refine Wl.goto 197 at_190 ?_
          refine Wl.iload 199 at_197 rfl ?_
          refine Wl.iload 201 at_199 rfl ?_
          refine Wl.icmpY 211 at_201 (feq (by decide)).2 ?_
          refine Wl.iload 213 at_211 rfl ?_
          refine Wl.ifN 216 at_213 (feq (by decide)).1 ?_
          refine Wl.iconst 217 (4 : Int32) at_216 (by decide) ?_
          refine Wl.istore 219 #[.val (.int i0), .val (.int i1), .val (.int i2), .val (.int i3), .val (.int i4), .val (.int (4 : Int32)), .val (.ref a1), .val (.ref a44), .val (.ref a51), .val (.int (0 : Int32)), .val (.int (0 : Int32)), .val (.int (0 : Int32)), .val (.int (1 : Int32)), .val (.int (3 : Int32)), .val (.int (4 : Int32)), .unset, .unset] at_217 rfl ?_
          refine Wl.goto 247 at_219 ?_
          refine Wl.iload 249 at_247 rfl ?_
          refine Wl.iload 251 at_249 rfl ?_
          refine Wl.isub 252 at_251 ?_
          show WlO _ _ _ _ _ _ _ _ _ _ _ _ _ _ _ _ _ _ [.int (1 : Int32)]
          refine Wl.istore 254 #[.val (.int i0), .val (.int i1), .val (.int i2), .val (.int i3), .val (.int i4), .val (.int (4 : Int32)), .val (.ref a1), .val (.ref a44), .val (.ref a51), .val (.int (0 : Int32)), .val (.int (0 : Int32)), .val (.int (0 : Int32)), .val (.int (1 : Int32)), .val (.int (3 : Int32)), .val (.int (4 : Int32)), .val (.int (1 : Int32)), .unset] at_252 rfl ?_
          refine Wl.aload 256 at_254 rfl rfl ?_
          have S282 := S53
          rw [show trimL [c0, c1, c2, c3] = [c3] by simp [trimL, isp, List.dropWhile, c58, c197, c256, c281]] at S282
          refine Wl.virtual 259 (argsL := []) at_256 (w59 hw) (w35 hw) (w37 hw) (w36 hw) (w11 hw) (w38 hw) (nf_sel (w37 hw) rfl) (S53).exa (show parseMethodDescriptor "()I" = some ⟨[], some .int⟩ by decide +kernel) rfl (len_met hw hcs S282) (fun _ q => nomatch q) rfl rfl rfl (by decide) ⟨⟨nle rfl, nle rfl⟩, nle rfl, nle rfl⟩ ?_
          intro v283 h284 hq285 _
          obtain ⟨rfl, rfl⟩ := hq285
          show WlO _ _ _ _ _ _ _ _ _ _ _ _ _ _ _ _ _ _ [.int (1 : Int32)]
          refine Wl.iload 261 at_259 rfl ?_
          refine Wl.icmpN 264 at_261 (teq (by decide)).2 ?_
          refine Wl.iconst 265 (1 : Int32) at_264 (by decide) ?_
          refine Wl.goto 269 at_265 ?_
          refine Wl.istore 271 #[.val (.int i0), .val (.int i1), .val (.int i2), .val (.int i3), .val (.int i4), .val (.int (4 : Int32)), .val (.ref a1), .val (.ref a44), .val (.ref a51), .val (.int (0 : Int32)), .val (.int (0 : Int32)), .val (.int (0 : Int32)), .val (.int (1 : Int32)), .val (.int (3 : Int32)), .val (.int (4 : Int32)), .val (.int (1 : Int32)), .val (.int (1 : Int32))] at_269 rfl ?_
          refine Wl.iload 273 at_271 rfl ?_
          refine Wl.ifN 276 at_273 (feq (by decide)).1 ?_
          refine Wl.iload 278 at_276 rfl ?_
          refine Wl.ifN 281 at_278 (tlt (by decide)).2.2.2 ?_
          refine Wl.aload 283 at_281 rfl rfl ?_
          refine Wl.iconst 284 (0 : Int32) at_283 (by decide) ?_
          refine Wl.virtual 287 (argsL := [.int (0 : Int32)]) at_284 (w121 hw) (w71 hw) (w73 hw) (w72 hw) (w11 hw) (w74 hw) (nf_sel (w73 hw) rfl) (S53).exa (show parseMethodDescriptor "(I)C" = some ⟨[.int], some .char⟩ by decide +kernel) rfl (charAt_met hw hcs hfm S282 (i := 0) (nle rfl)) (fun _ q => nomatch q) rfl rfl rfl (by decide) ⟨⟨nle rfl, nle rfl⟩, nle rfl, nle rfl⟩ ?_
          intro v286 h287 hq288 _
          obtain ⟨rfl, rfl⟩ := hq288
          show WlO _ _ _ _ _ _ _ _ _ _ _ _ _ _ _ _ _ _ [.int c3]
          refine Wl.aload 289 at_287 rfl rfl ?_
          refine Wl.iload 291 at_289 rfl ?_
          refine Wl.caload 292 3 at_291 ((A39.ext E45).ext E52) (by decide) (by decide) (by decide) rfl ?_
          refine Wl.icmpN 295 at_292 (teq rfl).2 ?_
          refine Wl.iconst 296 (1 : Int32) at_295 (by decide) ?_
          refine Wl.goto 300 at_296 ?_
          refine Wl.istore 302 #[.val (.int i0), .val (.int i1), .val (.int i2), .val (.int i3), .val (.int i4), .val (.int (4 : Int32)), .val (.ref a1), .val (.ref a44), .val (.ref a51), .val (.int (0 : Int32)), .val (.int (0 : Int32)), .val (.int (0 : Int32)), .val (.int (1 : Int32)), .val (.int (3 : Int32)), .val (.int (4 : Int32)), .val (.int (1 : Int32)), .val (.int (1 : Int32))] at_300 rfl ?_
          refine Wl.iload 304 at_302 rfl ?_
          refine Wl.ifN 307 at_304 (feq (by decide)).1 ?_
          refine Wl.iload 309 at_307 rfl ?_
          refine Wl.iconst 310 (1 : Int32) at_309 (by decide) ?_
          refine Wl.icmpY 336 at_310 (flt (by decide)).2.2.2 ?_
          refine Wl.iload 338 at_336 rfl ?_
          refine Wl.ifN 341 at_338 (feq (by decide)).1 ?_
          refine Wl.iload 343 at_341 rfl ?_
          refine Wl.iconst 344 (2 : Int32) at_343 (by decide) ?_
          refine Wl.icmpY 370 at_344 (flt (by decide)).2.2.2 ?_
          refine Wl.iload 372 at_370 rfl ?_
          refine Wl.ifN 375 at_372 (feq (by decide)).1 ?_
          refine Wl.iload 377 at_375 rfl ?_
          refine Wl.iconst 378 (3 : Int32) at_377 (by decide) ?_
          refine Wl.icmpY 404 at_378 (flt (by decide)).2.2.2 ?_
          refine Wl.iload 406 at_404 rfl ?_
          exact Wl.ireturn at_406 rfl rfl (by simp) (nle rfl) (nle rfl) rfl
        · refine Wl.ifY 146 at_139 (feq c281).2 ?_
          refine Wl.iconst 147 (0 : Int32) at_146 (by decide) ?_
          refine Wl.istore 149 #[.val (.int i0), .val (.int i1), .val (.int i2), .val (.int i3), .val (.int i4), .val (.int (4 : Int32)), .val (.ref a1), .val (.ref a44), .val (.ref a51), .val (.int (0 : Int32)), .val (.int (0 : Int32)), .val (.int (0 : Int32)), .val (.int (0 : Int32)), .unset, .unset, .unset, .unset] at_147 rfl ?_
          refine Wl.iload 151 at_149 rfl ?_
          refine Wl.ifY 160 at_151 (teq (by decide)).1 ?_
          refine Wl.iload 162 at_160 rfl ?_
          refine Wl.ifY 171 at_162 (teq (by decide)).1 ?_
          refine Wl.iload 173 at_171 rfl ?_
          refine Wl.ifY 182 at_173 (teq (by decide)).1 ?_
          refine Wl.iload 184 at_182 rfl ?_
          refine Wl.ifY 193 at_184 (teq (by decide)).1 ?_
          refine Wl.iload 195 at_193 rfl ?_
          refine Wl.istore 197 #[.val (.int i0), .val (.int i1), .val (.int i2), .val (.int i3), .val (.int i4), .val (.int (4 : Int32)), .val (.ref a1), .val (.ref a44), .val (.ref a51), .val (.int (0 : Int32)), .val (.int (0 : Int32)), .val (.int (0 : Int32)), .val (.int (0 : Int32)), .val (.int (4 : Int32)), .unset, .unset, .unset] at_195 rfl ?_
          refine Wl.iload 199 at_197 rfl ?_
          refine Wl.iload 201 at_199 rfl ?_
          refine Wl.icmpN 204 at_201 (teq (by decide)).2 ?_
          refine Wl.iload 206 at_204 rfl ?_
          refine Wl.istore 208 #[.val (.int i0), .val (.int i1), .val (.int i2), .val (.int i3), .val (.int i4), .val (.int (4 : Int32)), .val (.ref a1), .val (.ref a44), .val (.ref a51), .val (.int (0 : Int32)), .val (.int (0 : Int32)), .val (.int (0 : Int32)), .val (.int (0 : Int32)), .val (.int (4 : Int32)), .val (.int (4 : Int32)), .unset, .unset] at_206 rfl ?_
          refine Wl.goto 247 at_208 ?_
          refine Wl.iload 249 at_247 rfl ?_
          refine Wl.iload 251 at_249 rfl ?_
          refine Wl.isub 252 at_251 ?_
          show WlO _ _ _ _ _ _ _ _ _ _ _ _ _ _ _ _ _ _ [.int (0 : Int32)]
          refine Wl.istore 254 #[.val (.int i0), .val (.int i1), .val (.int i2), .val (.int i3), .val (.int i4), .val (.int (4 : Int32)), .val (.ref a1), .val (.ref a44), .val (.ref a51), .val (.int (0 : Int32)), .val (.int (0 : Int32)), .val (.int (0 : Int32)), .val (.int (0 : Int32)), .val (.int (4 : Int32)), .val (.int (4 : Int32)), .val (.int (0 : Int32)), .unset] at_252 rfl ?_
          refine Wl.aload 256 at_254 rfl rfl ?_
          have S289 := S53
          rw [show trimL [c0, c1, c2, c3] = [] by simp [trimL, isp, List.dropWhile, c58, c197, c256, c281]] at S289
          refine Wl.virtual 259 (argsL := []) at_256 (w59 hw) (w35 hw) (w37 hw) (w36 hw) (w11 hw) (w38 hw) (nf_sel (w37 hw) rfl) (S53).exa (show parseMethodDescriptor "()I" = some ⟨[], some .int⟩ by decide +kernel) rfl (len_met hw hcs S289) (fun _ q => nomatch q) rfl rfl rfl (by decide) ⟨⟨nle rfl, nle rfl⟩, nle rfl, nle rfl⟩ ?_
          intro v290 h291 hq292 _
          obtain ⟨rfl, rfl⟩ := hq292
          show WlO _ _ _ _ _ _ _ _ _ _ _ _ _ _ _ _ _ _ [.int (0 : Int32)]
          refine Wl.iload 261 at_259 rfl ?_
          refine Wl.icmpN 264 at_261 (teq (by decide)).2 ?_
          refine Wl.iconst 265 (1 : Int32) at_264 (by decide) ?_
          refine Wl.goto 269 at_265 ?_
          refine Wl.istore 271 #[.val (.int i0), .val (.int i1), .val (.int i2), .val (.int i3), .val (.int i4), .val (.int (4 : Int32)), .val (.ref a1), .val (.ref a44), .val (.ref a51), .val (.int (0 : Int32)), .val (.int (0 : Int32)), .val (.int (0 : Int32)), .val (.int (0 : Int32)), .val (.int (4 : Int32)), .val (.int (4 : Int32)), .val (.int (0 : Int32)), .val (.int (1 : Int32))] at_269 rfl ?_
          refine Wl.iload 273 at_271 rfl ?_
          refine Wl.ifN 276 at_273 (feq (by decide)).1 ?_
          refine Wl.iload 278 at_276 rfl ?_
          refine Wl.ifY 302 at_278 (flt (by decide)).2.2.2 ?_
          refine Wl.iload 304 at_302 rfl ?_
          refine Wl.ifN 307 at_304 (feq (by decide)).1 ?_
          refine Wl.iload 309 at_307 rfl ?_
          refine Wl.iconst 310 (1 : Int32) at_309 (by decide) ?_
          refine Wl.icmpY 336 at_310 (flt (by decide)).2.2.2 ?_
          refine Wl.iload 338 at_336 rfl ?_
          refine Wl.ifN 341 at_338 (feq (by decide)).1 ?_
          refine Wl.iload 343 at_341 rfl ?_
          refine Wl.iconst 344 (2 : Int32) at_343 (by decide) ?_
          refine Wl.icmpY 370 at_344 (flt (by decide)).2.2.2 ?_
          refine Wl.iload 372 at_370 rfl ?_
          refine Wl.ifN 375 at_372 (feq (by decide)).1 ?_
          refine Wl.iload 377 at_375 rfl ?_
          refine Wl.iconst 378 (3 : Int32) at_377 (by decide) ?_
          refine Wl.icmpY 404 at_378 (flt (by decide)).2.2.2 ?_
          refine Wl.iload 406 at_404 rfl ?_
          exact Wl.ireturn at_406 rfl rfl (by simp) (nle rfl) (nle rfl) rfl
theorem rem5 (k : Int32) : ((k &&& (2147483647 : Int32)) % (5 : Int32)) = 0 ∨ ((k &&& (2147483647 : Int32)) % (5 : Int32)) = 1 ∨ ((k &&& (2147483647 : Int32)) % (5 : Int32)) = 2 ∨ ((k &&& (2147483647 : Int32)) % (5 : Int32)) = 3 ∨ ((k &&& (2147483647 : Int32)) % (5 : Int32)) = 4 := by
  have h := c_and k 2147483647 (by decide)
  have r := (c_irem (k &&& 2147483647) 5 5 (by decide)).1 h.1
  generalize (k &&& (2147483647 : Int32)) % (5 : Int32) = n at r ⊢
  have q : ∀ k : Int32, n.toInt = k.toInt → n = k := fun k h => Int32.toInt_inj.mp h
  have : n.toInt = 0 ∨ n.toInt = 1 ∨ n.toInt = 2 ∨ n.toInt = 3 ∨ n.toInt = 4 := by omega
  rcases this with h | h | h | h | h
  · exact Or.inl (q 0 h)
  · exact Or.inr (Or.inl (q 1 h))
  · exact Or.inr (Or.inr (Or.inl (q 2 h)))
  · exact Or.inr (Or.inr (Or.inr (Or.inl (q 3 h))))
  · exact Or.inr (Or.inr (Or.inr (Or.inr (q 4 h))))
set_option maxRecDepth 65536 in
set_option maxHeartbeats 40000000 in
theorem law_met {l : Launch} {Z : State} {a0 : Array Value} (hw : ∀ d ∈ tables_1, d.before a0 Z = true) (hcs : CSon Z) (hfm : Fmt Z) (i0 i1 i2 i3 i4 : Int32) :
    Met l Z consts_1 x code maxLocals ret tables_1 room_1 #[.int i0, .int i1, .int i2, .int i3, .int i4] Z.heap [] (fun v h' => v = some (.int 1)) := by
  generalize hh0 : Z.heap = h
  refine Met.of_walk (a0 := a0) (Ls := #[.val (.int i0), .val (.int i1), .val (.int i2), .val (.int i3), .val (.int i4), .unset, .unset, .unset, .unset, .unset, .unset, .unset, .unset, .unset, .unset, .unset, .unset]) (plainFor_of_name pn_2) (own_hEL hw) (Array.toList_inj.mp ((Jvm.Sym.argsToLocals_toList _ _).trans rfl)) ?_
  refine Wl.iload 2 at_0 rfl ?_
  refine Wl.ldcI 4 at_2 (w0 hw) ?_
  refine Wl.iand 5 at_4 ?_
  refine Wl.iconst 6 (5 : Int32) at_5 (by decide) ?_
  refine Wl.irem 7 at_6 (by decide) ?_
  refine Wl.istore 9 #[.val (.int i0), .val (.int i1), .val (.int i2), .val (.int i3), .val (.int i4), .val (.int ((i4 &&& (2147483647 : Int32)) % (5 : Int32))), .unset, .unset, .unset, .unset, .unset, .unset, .unset, .unset, .unset, .unset, .unset] at_7 rfl ?_
  rcases rem5 i4 with e | e | e | e | e <;> rw [e]
  · exact law_t0 hw hcs hfm
  · exact law_t1 hw hcs hfm
  · exact law_t2 hw hcs hfm
  · exact law_t3 hw hcs hfm
  · exact law_t4 hw hcs hfm
/-! from the case's words to the law's walk, and the owed theorems -/
set_option maxRecDepth 65536 in
set_option maxHeartbeats 40000000 in
theorem comes_1 {Post : Tables → Env → Array Value → State → Outcome → State → Prop} (hpost : ∀ tb e args s v u, (limb_1_1.after args s (.returned v) u = true ∧ limb_1_2.after args s (.returned v) u = true ∧ True) → ReturnedEndW s (.returned v) u (Jvm.fieldLocs frame_1_writes args s ++ Jvm.arrayLocs frame_1_arrays args s ++ Jvm.staticLocs frame_1_statics s) 24 2176 → Post tb e args s (.returned v) u) :
    ArmFor flags0 classFile x code maxLocals ret World_1 tables_1 room_1 Calls_1 rest_1 Pre_1 Post := by
  intro l hfl _ _ p e ha hc hk s m args below hf hA hF happ hP
  obtain ⟨hcalls, hrest, hpre⟩ := hP
  obtain ⟨-, -, -, hnamed, -, -, -, hat⟩ := (Spec.applies_iff hf).mp happ
  obtain ⟨hg, hn⟩ := and_e (Cond.before_iff.mp (show (Jvm.Cond.and given_1 narrow_1).before args s = true from hpre))
  obtain ⟨g0, r0⟩ := and_e hg
  obtain ⟨g1, r1⟩ := and_e r0
  obtain ⟨g2, r2⟩ := and_e r1
  obtain ⟨g3, r3⟩ := and_e r2
  obtain ⟨g4, r4⟩ := and_e r3
  obtain ⟨w0_, w1_, w2_, w3_, w4_, rfl⟩ : ∃ w0_ w1_ w2_ w3_ w4_ : Value, args = #[w0_, w1_, w2_, w3_, w4_] := by
    have hs : args.size = 5 := by simpa [Cond.value, given_1] using g0
    obtain ⟨L⟩ := args
    match L, hs with
    | [w0_, w1_, w2_, w3_, w4_], _ => exact ⟨w0_, w1_, w2_, w3_, w4_, rfl⟩
  have hw := fun d (hd : d ∈ tables_1) => atoms_spec (ws := Jvm.Cond.code x code maxLocals ret :: tables_1) hat d (List.mem_cons_of_mem _ hd)
  obtain ⟨hsets, hown0⟩ := atoms_of _ (rest_1_c_eq ▸ (show rest_1_c.before _ s = true from hrest))
  obtain ⟨i0, ei0⟩ := is_v g1
  obtain rfl : w0_ = (.int i0) := Option.some.inj ei0
  obtain ⟨i1, ei1⟩ := is_v g2
  obtain rfl : w1_ = (.int i1) := Option.some.inj ei1
  obtain ⟨i2, ei2⟩ := is_v g3
  obtain rfl : w2_ = (.int i2) := Option.some.inj ei2
  obtain ⟨i3, ei3⟩ := is_v g4
  obtain rfl : w3_ = (.int i3) := Option.some.inj ei3
  obtain ⟨i4, ei4⟩ := is_v r4
  obtain rfl : w4_ = (.int i4) := Option.some.inj ei4
  have hcw : Jvm.Lit.compactW.before _ s = true := hsets _ (List.mem_of_getElem? (i := 2) rfl)
  have hcs : CSon s := by
    obtain ⟨cst, ev⟩ := is_v (Cond.before_iff.mp (hsets _ (List.mem_of_getElem? (i := 1) rfl)))
    refine ⟨cst, Sta.start ev (Or.inl (hsets _ (List.mem_of_getElem? (i := 0) rfl))), fun q => ?_⟩
    have h1 := not_v (Cond.before_iff.mp (hsets _ (List.mem_of_getElem? (i := 2) rfl)))
    rw [eq_i ev (Term.int_eval 0) (by rw [q])] at h1
    cases h1
  have hfm : Fmt s := by
    obtain ⟨f, ef, rf⟩ := isR_v (Cond.before_iff.mp (hsets _ (List.mem_of_getElem? (i := 8) rfl)))
    exact ⟨f, Sta.start ef (Or.inl (hsets _ (List.mem_of_getElem? (i := 7) rfl))), rf⟩
  obtain ⟨n, o, h1, h2, h3, v, L, rfl, ⟨hq, N⟩, -, hE, hH, -⟩ := law_met (l := l) (Z := s) hw hcs hfm i0 i1 i2 i3 i4  p e ha hc hk s m _ below hf ((Spec.applies_iff_loose hf).mp happ).1 ⟨rfl, State.Warmed39.refl s, rfl, CHv.start (own_hEL hw) (fun q hq => hcalls.1 q hq) hcw (w23 hw) (w10 hw), ext_rfl _, Mine.nil⟩ trivial
  subst hq
  exact ⟨n, _, h1, h2, h3, hpost _ _ _ _ _ _ ⟨Cond.after_iff.mpr rfl, Cond.after_iff.mpr (eq_i res_at (Term.int_eval (1)) rfl), trivial⟩ ⟨hE.1, hE.2.1, hE.2.2.1, (hE.2.2.2.sift fun y hy => Or.inr (N y hy)).mono (by decide) (by decide)⟩⟩
theorem main_1_1 : Claimed_1_1 := comes_1 fun _ _ _ _ _ _ h hF => ⟨h.1, hF⟩
theorem main_1_2 : Claimed_1_2 := comes_1 fun _ _ _ _ _ _ h hF => ⟨h.2.1, hF⟩

end Jvm.Pilot.@@N@@
namespace Jvm.Pilot.@@N@@
open Jvm Jvm.ClassFile Sem Op Lib Jvm.Free Jvm.Stand Jvm.Pilot.@@N@@.Jvm.D
/-! MADE BY PROGRAM (witnessworld.py) out of the Statement's table words and the real class files: 23 classes; the members and pool entries that the words name. The judged class is class 1, her method 4. -/
namespace start1
open Jvm.ClassFile
def u (s : String) : CpInfo := .utf8 (stringToUtf16 s)
/-- a pool by its gaps: so many unusable entries, then the entry; so many at the end -/
def gap : Nat → List CpInfo → List CpInfo
  | 0, r => r
  | n + 1, r => .unusable :: gap n r
def poolList (es : List (Nat × CpInfo)) (last : Nat) : List CpInfo := es.foldr (fun e r => gap e.1 (e.2 :: r)) (gap last [])
def pool (es : List (Nat × CpInfo)) (last : Nat) : Array CpInfo := ⟨poolList es last⟩
def fileOf (pool : Array CpInfo) (this : Nat) (attrs : Array Attribute := #[]) (ms : Array MethodInfo := #[]) (fl : Nat := 33) (sup : Nat := 0) (ifs : Array Nat := #[]) (fds : Array FieldInfo := #[]) : ClassFile where
  minorVersion := 0
  majorVersion := 65
  constantPool := pool
  accessFlags := fl
  thisClass := this
  superClass := sup
  interfaces := ifs
  fields := fds
  methods := ms
  attributes := attrs
def plain (name : String) (sup : Option ClassId) : Class where
  name := name
  kind := .ordinary
  loader := none
  accessFlags := 33
  super := sup
  interfaces := #[]
  cf := none
  fields := #[]
  methods := #[]
  instanceTypes := #[]
  staticTypes := #[]
  resolved := #[]
  callSites := []
  init := .initialized
  statics := none
  mirror := none

def pool0 : Array CpInfo := pool [(5, u "<init>"), (0, u "()V"), (1, .class_ 10), (1, u "java/lang/Object")] 113

def k0c0 : Code := { maxStack := 0, maxLocals := 1, code := object_method_1_code, exceptionTable := #[], attributes := #[] }
def k0m0 : Method := { name := "<init>", desc := "()V", sig := { parameters := [], returnType := none }, accessFlags := 1, code := some k0c0 }
/-- java/lang/Object -/
def k0 : Class := { plain "java/lang/Object" none with
  accessFlags := 33
  interfaces := #[]
  cf := some (fileOf pool0 8 #[] #[{ accessFlags := 1, nameIndex := 5, descriptorIndex := 6, attributes := #[] }] 33 0 #[] #[])
  fields := #[]
  methods := #[k0m0]
  instanceTypes := #[]
  staticTypes := #[]
  resolved := Array.replicate 124 none
  statics := none }

def pool1 : Array CpInfo := pool [(2, .class_ 4), (1, u "java/lang/Object"), (0, u "<init>"), (0, u "()V"), (0, .class_ 8), (0, u "java/lang/String"), (0, .methodref 7 10), (0, .nameAndType 5 11), (0, u "([C)V"), (0, .integer 2147483647), (0, .methodref 14 15), (0, .class_ 16), (0, .nameAndType 17 18), (0, u "org/portcullis/HttpSyntaxTrimPinLaw"), (0, u "pick"), (0, u "(I)C"), (0, .methodref 14 20), (0, .nameAndType 21 22), (0, u "make"), (0, u "(I[C)Ljava/lang/String;"), (0, .methodref 24 25), (0, .class_ 26), (0, .nameAndType 27 28), (0, u "org/portcullis/HttpSyntax"), (0, u "trim"), (0, u "(Ljava/lang/String;)Ljava/lang/String;"), (0, .methodref 14 30), (0, .nameAndType 31 32), (0, u "sp"), (0, u "(C)Z"), (0, .methodref 7 34), (0, .nameAndType 35 36), (0, u "length"), (0, u "()I"), (0, .methodref 7 38), (0, .nameAndType 39 18), (0, u "charAt"), (3, u "law"), (0, u "(IIIII)Z")] 4

def k1m0 : Method := { name := "<init>", desc := "()V", sig := { parameters := [], returnType := none }, accessFlags := 1, code := none }
def k1c1 : Code := { maxStack := 2, maxLocals := 2, code := method_2_code, exceptionTable := #[], attributes := #[] }
def k1m1 : Method := { name := "pick", desc := "(I)C", sig := { parameters := [.int], returnType := some .char }, accessFlags := 10, code := some k1c1 }
def k1c2 : Code := { maxStack := 2, maxLocals := 1, code := method_3_code, exceptionTable := #[], attributes := #[] }
def k1m2 : Method := { name := "sp", desc := "(C)Z", sig := { parameters := [.char], returnType := some .boolean }, accessFlags := 10, code := some k1c2 }
def k1c3 : Code := { maxStack := 7, maxLocals := 2, code := method_4_code, exceptionTable := #[], attributes := #[] }
def k1m3 : Method := { name := "make", desc := "(I[C)Ljava/lang/String;", sig := { parameters := [.int, (.array .char)], returnType := some (.object "java/lang/String") }, accessFlags := 10, code := some k1c3 }
def k1c4 : Code := { maxStack := 4, maxLocals := 17, code := code, exceptionTable := #[], attributes := #[] }
def k1m4 : Method := { name := "law", desc := "(IIIII)Z", sig := { parameters := [.int, .int, .int, .int, .int], returnType := some .boolean }, accessFlags := 9, code := some k1c4 }
/-- org/portcullis/HttpSyntaxTrimPinLaw -/
def k1 : Class := { plain "org/portcullis/HttpSyntaxTrimPinLaw" (some 0) with
  accessFlags := 49
  interfaces := #[]
  cf := some (fileOf pool1 14 #[] #[{ accessFlags := 1, nameIndex := 5, descriptorIndex := 6, attributes := #[] }, { accessFlags := 10, nameIndex := 17, descriptorIndex := 18, attributes := #[] }, { accessFlags := 10, nameIndex := 31, descriptorIndex := 32, attributes := #[] }, { accessFlags := 10, nameIndex := 21, descriptorIndex := 22, attributes := #[] }, { accessFlags := 9, nameIndex := 43, descriptorIndex := 44, attributes := #[] }] 49 2 #[] #[])
  fields := #[]
  methods := #[k1m0, k1m1, k1m2, k1m3, k1m4]
  instanceTypes := #[]
  staticTypes := #[]
  resolved := Array.replicate 49 none
  statics := none }

def pool2 : Array CpInfo := pool [(1, .class_ 2), (0, u "java/io/Serializable"), (0, .class_ 4), (0, u "java/lang/Object")] 2

/-- java/io/Serializable -/
def k2 : Class := { plain "java/io/Serializable" (some 0) with
  accessFlags := 1537
  interfaces := #[]
  cf := some (fileOf pool2 1 #[] #[] 1537 3 #[] #[])
  fields := #[]
  methods := #[]
  instanceTypes := #[]
  staticTypes := #[]
  resolved := Array.replicate 7 none
  statics := none }

def pool3 : Array CpInfo := pool [(1, .class_ 2), (0, u "java/lang/Comparable"), (0, .class_ 4), (0, u "java/lang/Object")] 7

/-- java/lang/Comparable -/
def k3 : Class := { plain "java/lang/Comparable" (some 0) with
  accessFlags := 1537
  interfaces := #[]
  cf := some (fileOf pool3 1 #[] #[] 1537 3 #[] #[])
  fields := #[]
  methods := #[]
  instanceTypes := #[]
  staticTypes := #[]
  resolved := Array.replicate 12 none
  statics := none }

def pool4 : Array CpInfo := pool [(2, .class_ 4), (1, u "java/lang/CharSequence"), (42, .class_ 48), (0, u "java/lang/CharSequence$1CodePointIterator"), (10, .class_ 60), (0, u "java/lang/CharSequence$1CharIterator"), (5, .class_ 67), (0, u "java/lang/Object")] 63

/-- java/lang/CharSequence -/
def k4 : Class := { plain "java/lang/CharSequence" (some 0) with
  accessFlags := 1537
  interfaces := #[]
  cf := some (fileOf pool4 2 #[.nestMembers #[47, 59]] #[] 1537 66 #[] #[])
  fields := #[]
  methods := #[]
  instanceTypes := #[]
  staticTypes := #[]
  resolved := Array.replicate 131 none
  statics := none }

def pool5 : Array CpInfo := pool [(1, .class_ 2), (0, u "java/lang/constant/Constable"), (0, .class_ 4), (0, u "java/lang/Object")] 6

/-- java/lang/constant/Constable -/
def k5 : Class := { plain "java/lang/constant/Constable" (some 0) with
  accessFlags := 1537
  interfaces := #[]
  cf := some (fileOf pool5 1 #[] #[] 1537 3 #[] #[])
  fields := #[]
  methods := #[]
  instanceTypes := #[]
  staticTypes := #[]
  resolved := Array.replicate 11 none
  statics := none }

def pool6 : Array CpInfo := pool [(1, .class_ 2), (0, u "java/lang/constant/ConstantDesc"), (0, .class_ 4), (0, u "java/lang/Object")] 32

/-- java/lang/constant/ConstantDesc -/
def k6 : Class := { plain "java/lang/constant/ConstantDesc" (some 0) with
  accessFlags := 1537
  interfaces := #[]
  cf := some (fileOf pool6 1 #[] #[] 1537 3 #[] #[])
  fields := #[]
  methods := #[]
  instanceTypes := #[]
  staticTypes := #[]
  resolved := Array.replicate 37 none
  statics := none }

def pool7 : Array CpInfo := pool [(1, .methodref 2 3), (0, .class_ 4), (0, .nameAndType 5 6), (0, u "java/lang/Object"), (0, u "<init>"), (0, u "()V"), (0, .string 8), (0, u ""), (0, .fieldref 10 11), (0, .class_ 12), (0, .nameAndType 13 14), (0, u "java/lang/String"), (0, u "value"), (0, u "[B"), (0, .fieldref 10 16), (0, .nameAndType 17 18), (0, u "coder"), (0, u "B"), (2, u "hash"), (0, u "I"), (2, u "hashIsZero"), (0, u "Z"), (0, .methodref 10 28), (0, .nameAndType 5 29), (0, u "([CIILjava/lang/Void;)V"), (8, .fieldref 10 39), (0, .nameAndType 40 26), (0, u "COMPACT_STRINGS"), (1, .class_ 44), (1, u "java/lang/StringUTF16"), (0, u "compress"), (1, .methodref 42 48), (0, .nameAndType 49 50), (0, u "coderFromArrayLen"), (0, u "([BI)B"), (56, .class_ 109), (1, u "java/lang/StringLatin1"), (32, u "()Z"), (34, .methodref 42 178), (0, .nameAndType 45 179), (0, u "([CII)[B"), (31, u "([BB)V"), (122, u "()I"), (0, .methodref 10 336), (0, .nameAndType 17 337), (0, u "()B"), (25, u "([BI)C"), (27, u "(II)V"), (35, u "(I)C"), (64, .methodref 10 493), (0, .nameAndType 494 142), (0, u "isLatin1"), (0, .methodref 107 496), (0, .nameAndType 497 363), (0, u "charAt"), (3, u "checkIndex"), (3, .methodref 10 506), (0, .nameAndType 507 334), (0, u "length"), (5, u "checkFromToIndex"), (7, .methodref 10 522), (0, .nameAndType 523 524), (0, u "checkBoundsBeginEnd"), (0, u "(III)V"), (50, .class_ 576), (0, u "java/lang/CharSequence"), (22, u "CASE_INSENSITIVE_ORDER"), (0, u "Ljava/util/Comparator;"), (82, u "substring"), (0, u "(II)Ljava/lang/String;"), (0, .methodref 107 686), (0, .nameAndType 687 688), (0, u "newString"), (0, u "([BII)Ljava/lang/String;"), (321, u "([C)V"), (42, .fieldref 1054 1055), (0, .class_ 1056), (0, .nameAndType 1057 1058), (0, u "jdk/internal/util/Preconditions"), (0, u "SIOOBE_FORMATTER"), (0, u "Ljava/util/function/BiFunction;"), (0, .methodref 1054 1060), (0, .nameAndType 501 1061), (0, u "(IILjava/util/function/BiFunction;)I"), (0, .methodref 1054 1063), (0, .nameAndType 513 1064), (0, u "(IIILjava/util/function/BiFunction;)I"), (36, u "serialPersistentFields"), (0, u "[Ljava/io/ObjectStreamField;"), (0, .class_ 1104), (0, u "java/lang/String$CaseInsensitiveComparator"), (1, .class_ 1107), (0, u "java/io/Serializable"), (0, .class_ 1109), (0, u "java/lang/Comparable"), (0, .class_ 1111), (0, u "java/lang/constant/Constable"), (0, .class_ 1113), (0, u "java/lang/constant/ConstantDesc"), (2, u "serialVersionUID"), (0, u "J"), (3, u "REPL"), (0, u "C"), (2, u "LATIN1"), (1, u "UTF16")] 323

def k7m0 : Method := { name := "<init>", desc := "()V", sig := { parameters := [], returnType := none }, accessFlags := 1, code := none }
def k7c1 : Code := { maxStack := 5, maxLocals := 2, code := jdk_42_method_3_code, exceptionTable := #[], attributes := #[] }
def k7m1 : Method := { name := "<init>", desc := "([C)V", sig := { parameters := [(.array .char)], returnType := none }, accessFlags := 1, code := some k7c1 }
def k7c2 : Code := { maxStack := 2, maxLocals := 1, code := jdk_42_method_54_code, exceptionTable := #[], attributes := #[] }
def k7m2 : Method := { name := "length", desc := "()I", sig := { parameters := [], returnType := some .int }, accessFlags := 1, code := some k7c2 }
def k7c3 : Code := { maxStack := 2, maxLocals := 2, code := jdk_42_method_56_code, exceptionTable := #[], attributes := #[] }
def k7m3 : Method := { name := "charAt", desc := "(I)C", sig := { parameters := [.int], returnType := some .char }, accessFlags := 1, code := some k7c3 }
def k7c4 : Code := { maxStack := 3, maxLocals := 5, code := jdk_42_method_92_code, exceptionTable := #[], attributes := #[] }
def k7m4 : Method := { name := "substring", desc := "(II)Ljava/lang/String;", sig := { parameters := [.int, .int], returnType := some (.object "java/lang/String") }, accessFlags := 1, code := some k7c4 }
def k7c5 : Code := { maxStack := 4, maxLocals := 6, code := jdk_42_method_149_code, exceptionTable := #[], attributes := #[] }
def k7m5 : Method := { name := "<init>", desc := "([CIILjava/lang/Void;)V", sig := { parameters := [(.array .char), .int, .int, (.object "java/lang/Void")], returnType := none }, accessFlags := 2, code := some k7c5 }
def k7c6 : Code := { maxStack := 2, maxLocals := 3, code := jdk_42_method_151_code, exceptionTable := #[], attributes := #[] }
def k7m6 : Method := { name := "<init>", desc := "([BB)V", sig := { parameters := [(.array .byte), .byte], returnType := none }, accessFlags := 0, code := some k7c6 }
def k7c7 : Code := { maxStack := 1, maxLocals := 1, code := jdk_42_method_152_code, exceptionTable := #[], attributes := #[] }
def k7m7 : Method := { name := "coder", desc := "()B", sig := { parameters := [], returnType := some .byte }, accessFlags := 0, code := some k7c7 }
def k7c8 : Code := { maxStack := 1, maxLocals := 1, code := jdk_42_method_154_code, exceptionTable := #[], attributes := #[] }
def k7m8 : Method := { name := "isLatin1", desc := "()Z", sig := { parameters := [], returnType := some .boolean }, accessFlags := 0, code := some k7c8 }
def k7c9 : Code := { maxStack := 3, maxLocals := 2, code := jdk_42_method_155_code, exceptionTable := #[], attributes := #[] }
def k7m9 : Method := { name := "checkIndex", desc := "(II)V", sig := { parameters := [.int, .int], returnType := none }, accessFlags := 8, code := some k7c9 }
def k7c10 : Code := { maxStack := 4, maxLocals := 3, code := jdk_42_method_158_code, exceptionTable := #[], attributes := #[] }
def k7m10 : Method := { name := "checkBoundsBeginEnd", desc := "(III)V", sig := { parameters := [.int, .int, .int], returnType := none }, accessFlags := 8, code := some k7c10 }
/-- java/lang/String -/
def k7 : Class := { plain "java/lang/String" (some 0) with
  accessFlags := 49
  interfaces := #[2, 3, 4, 5, 6]
  cf := some (fileOf pool7 10 #[.nestMembers #[1103]] #[{ accessFlags := 1, nameIndex := 5, descriptorIndex := 6, attributes := #[] }, { accessFlags := 1, nameIndex := 5, descriptorIndex := 1010, attributes := #[] }, { accessFlags := 1, nameIndex := 507, descriptorIndex := 334, attributes := #[] }, { accessFlags := 1, nameIndex := 497, descriptorIndex := 427, attributes := #[] }, { accessFlags := 1, nameIndex := 683, descriptorIndex := 684, attributes := #[] }, { accessFlags := 2, nameIndex := 5, descriptorIndex := 29, attributes := #[] }, { accessFlags := 0, nameIndex := 5, descriptorIndex := 211, attributes := #[] }, { accessFlags := 0, nameIndex := 17, descriptorIndex := 337, attributes := #[] }, { accessFlags := 0, nameIndex := 494, descriptorIndex := 142, attributes := #[] }, { accessFlags := 8, nameIndex := 501, descriptorIndex := 391, attributes := #[] }, { accessFlags := 8, nameIndex := 523, descriptorIndex := 524, attributes := #[] }] 49 2 #[1106, 1108, 575, 1110, 1112] #[{ accessFlags := 18, nameIndex := 13, descriptorIndex := 14, attributes := #[] }, { accessFlags := 18, nameIndex := 17, descriptorIndex := 18, attributes := #[] }, { accessFlags := 2, nameIndex := 21, descriptorIndex := 22, attributes := #[] }, { accessFlags := 2, nameIndex := 25, descriptorIndex := 26, attributes := #[] }, { accessFlags := 26, nameIndex := 1116, descriptorIndex := 1117, attributes := #[] }, { accessFlags := 24, nameIndex := 40, descriptorIndex := 26, attributes := #[] }, { accessFlags := 26, nameIndex := 1101, descriptorIndex := 1102, attributes := #[] }, { accessFlags := 26, nameIndex := 1121, descriptorIndex := 1122, attributes := #[] }, { accessFlags := 25, nameIndex := 599, descriptorIndex := 600, attributes := #[] }, { accessFlags := 24, nameIndex := 1125, descriptorIndex := 18, attributes := #[] }, { accessFlags := 24, nameIndex := 1127, descriptorIndex := 18, attributes := #[] }])
  fields := #[{ name := "value", type := (.array .byte), accessFlags := 18, slot := 0, constantValue := 0 }, { name := "coder", type := .byte, accessFlags := 18, slot := 1, constantValue := 0 }, { name := "hash", type := .int, accessFlags := 2, slot := 2, constantValue := 0 }, { name := "hashIsZero", type := .boolean, accessFlags := 2, slot := 3, constantValue := 0 }, { name := "serialVersionUID", type := .long, accessFlags := 26, slot := 0, constantValue := 0 }, { name := "COMPACT_STRINGS", type := .boolean, accessFlags := 24, slot := 1, constantValue := 0 }, { name := "serialPersistentFields", type := (.array (.object "java/io/ObjectStreamField")), accessFlags := 26, slot := 2, constantValue := 0 }, { name := "REPL", type := .char, accessFlags := 26, slot := 3, constantValue := 0 }, { name := "CASE_INSENSITIVE_ORDER", type := (.object "java/util/Comparator"), accessFlags := 25, slot := 4, constantValue := 0 }, { name := "LATIN1", type := .byte, accessFlags := 24, slot := 5, constantValue := 0 }, { name := "UTF16", type := .byte, accessFlags := 24, slot := 6, constantValue := 0 }]
  methods := #[k7m0, k7m1, k7m2, k7m3, k7m4, k7m5, k7m6, k7m7, k7m8, k7m9, k7m10]
  instanceTypes := #[(.array .byte), .byte, .int, .boolean]
  staticTypes := #[.long, .boolean, (.array (.object "java/io/ObjectStreamField")), .char, (.object "java/util/Comparator"), .byte, .byte]
  resolved := Array.replicate 1451 none
  statics := some 0 }

def pool8 : Array CpInfo := pool [(2, .class_ 4), (1, u "java/lang/Object"), (0, u "<init>"), (0, u "()V"), (1, .class_ 10), (1, u "java/lang/String"), (2, .methodref 8 14), (0, .nameAndType 15 16), (0, u "length"), (0, u "()I"), (0, .methodref 8 18), (0, .nameAndType 19 20), (0, u "charAt"), (0, u "(I)C"), (0, .class_ 22), (0, u "org/portcullis/HttpSyntax"), (32, u "trim"), (0, u "(Ljava/lang/String;)Ljava/lang/String;"), (14, .methodref 21 72), (0, .nameAndType 73 74), (0, u "isSpace"), (0, u "(C)Z"), (0, .methodref 8 76), (0, .nameAndType 77 78), (0, u "substring"), (0, u "(II)Ljava/lang/String;"), (0, u "TOKEN_SYMBOLS"), (0, u "Ljava/lang/String;")] 15

def k8m0 : Method := { name := "<init>", desc := "()V", sig := { parameters := [], returnType := none }, accessFlags := 2, code := none }
def k8c1 : Code := { maxStack := 3, maxLocals := 3, code := prog_24_method_5_code, exceptionTable := #[], attributes := #[] }
def k8m1 : Method := { name := "trim", desc := "(Ljava/lang/String;)Ljava/lang/String;", sig := { parameters := [(.object "java/lang/String")], returnType := some (.object "java/lang/String") }, accessFlags := 8, code := some k8c1 }
def k8c2 : Code := { maxStack := 2, maxLocals := 1, code := prog_24_method_6_code, exceptionTable := #[], attributes := #[] }
def k8m2 : Method := { name := "isSpace", desc := "(C)Z", sig := { parameters := [.char], returnType := some .boolean }, accessFlags := 10, code := some k8c2 }
/-- org/portcullis/HttpSyntax -/
def k8 : Class := { plain "org/portcullis/HttpSyntax" (some 0) with
  accessFlags := 49
  interfaces := #[]
  cf := some (fileOf pool8 21 #[] #[{ accessFlags := 2, nameIndex := 5, descriptorIndex := 6, attributes := #[] }, { accessFlags := 8, nameIndex := 55, descriptorIndex := 56, attributes := #[] }, { accessFlags := 10, nameIndex := 73, descriptorIndex := 74, attributes := #[] }] 49 2 #[] #[{ accessFlags := 26, nameIndex := 79, descriptorIndex := 80, attributes := #[] }])
  fields := #[{ name := "TOKEN_SYMBOLS", type := (.object "java/lang/String"), accessFlags := 26, slot := 0, constantValue := 0 }]
  methods := #[k8m0, k8m1, k8m2]
  instanceTypes := #[]
  staticTypes := #[(.object "java/lang/String")]
  resolved := Array.replicate 96 none
  statics := none }

def pool9 : Array CpInfo := pool [(2, .class_ 4), (1, u "java/lang/Object"), (0, u "<init>"), (0, u "()V"), (17, .class_ 26), (1, u "jdk/internal/util/Preconditions"), (6, u "checkIndex"), (13, u "checkFromToIndex"), (7, .class_ 56), (0, u "jdk/internal/util/Preconditions$4"), (57, .class_ 115), (0, u "jdk/internal/util/Preconditions$1"), (7, u "SIOOBE_FORMATTER"), (0, u "Ljava/util/function/BiFunction;"), (0, .class_ 126), (0, u "jdk/internal/util/Preconditions$2"), (3, u "AIOOBE_FORMATTER"), (0, .class_ 132), (0, u "jdk/internal/util/Preconditions$3"), (3, u "IOOBE_FORMATTER"), (41, u "(IILjava/util/function/BiFunction;)I"), (4, u "(IIILjava/util/function/BiFunction;)I")] 10

def k9m0 : Method := { name := "<init>", desc := "()V", sig := { parameters := [], returnType := none }, accessFlags := 1, code := none }
def k9c1 : Code := { maxStack := 3, maxLocals := 3, code := jdk_41_method_11_code, exceptionTable := #[], attributes := #[] }
def k9m1 : Method := { name := "checkIndex", desc := "(IILjava/util/function/BiFunction;)I", sig := { parameters := [.int, .int, (.object "java/util/function/BiFunction")], returnType := some .int }, accessFlags := 9, code := some k9c1 }
def k9c2 : Code := { maxStack := 4, maxLocals := 4, code := jdk_41_method_12_code, exceptionTable := #[], attributes := #[] }
def k9m2 : Method := { name := "checkFromToIndex", desc := "(IIILjava/util/function/BiFunction;)I", sig := { parameters := [.int, .int, .int, (.object "java/util/function/BiFunction")], returnType := some .int }, accessFlags := 9, code := some k9c2 }
/-- jdk/internal/util/Preconditions -/
def k9 : Class := { plain "jdk/internal/util/Preconditions" (some 0) with
  accessFlags := 33
  interfaces := #[]
  cf := some (fileOf pool9 24 #[.nestMembers #[55, 131, 125, 114]] #[{ accessFlags := 1, nameIndex := 5, descriptorIndex := 6, attributes := #[] }, { accessFlags := 9, nameIndex := 33, descriptorIndex := 178, attributes := #[] }, { accessFlags := 9, nameIndex := 47, descriptorIndex := 183, attributes := #[] }] 33 2 #[] #[{ accessFlags := 25, nameIndex := 123, descriptorIndex := 124, attributes := #[] }, { accessFlags := 25, nameIndex := 130, descriptorIndex := 124, attributes := #[] }, { accessFlags := 25, nameIndex := 136, descriptorIndex := 124, attributes := #[] }])
  fields := #[{ name := "SIOOBE_FORMATTER", type := (.object "java/util/function/BiFunction"), accessFlags := 25, slot := 0, constantValue := 0 }, { name := "AIOOBE_FORMATTER", type := (.object "java/util/function/BiFunction"), accessFlags := 25, slot := 1, constantValue := 0 }, { name := "IOOBE_FORMATTER", type := (.object "java/util/function/BiFunction"), accessFlags := 25, slot := 2, constantValue := 0 }]
  methods := #[k9m0, k9m1, k9m2]
  instanceTypes := #[]
  staticTypes := #[(.object "java/util/function/BiFunction"), (.object "java/util/function/BiFunction"), (.object "java/util/function/BiFunction")]
  resolved := Array.replicate 194 none
  statics := some 1 }

def pool10 : Array CpInfo := pool [(6, .class_ 8), (1, u "java/lang/Object"), (0, u "<init>"), (0, u "()V"), (1, .class_ 14), (1, u "java/lang/StringUTF16"), (31, u "$assertionsDisabled"), (0, u "Z"), (13, u "HI_BYTE_SHIFT"), (0, u "I"), (2, u "LO_BYTE_SHIFT"), (49, .methodref 12 116), (0, .nameAndType 117 118), (0, u "compress"), (0, u "([CI[BII)I"), (3, u "([CII)[B"), (138, u "coderFromArrayLen"), (0, u "([BI)B"), (106, .class_ 371), (1, u "java/lang/StringUTF16$LinesSpliterator"), (58, u "MAX_LENGTH"), (196, .class_ 628), (0, u "java/lang/StringUTF16$CodePointsSpliterator"), (0, .class_ 630), (0, u "java/lang/StringUTF16$CharsSpliterator")] 4

def k10m0 : Method := { name := "<init>", desc := "()V", sig := { parameters := [], returnType := none }, accessFlags := 0, code := none }
def k10c1 : Code := { maxStack := 2, maxLocals := 2, code := jdk_52_method_15_code, exceptionTable := #[], attributes := #[] }
def k10m1 : Method := { name := "coderFromArrayLen", desc := "([BI)B", sig := { parameters := [(.array .byte), .int], returnType := some .byte }, accessFlags := 8, code := some k10c1 }
def k10c2 : Code := { maxStack := 5, maxLocals := 6, code := jdk_52_method_16_code, exceptionTable := #[], attributes := #[] }
def k10m2 : Method := { name := "compress", desc := "([CII)[B", sig := { parameters := [(.array .char), .int, .int], returnType := some (.array .byte) }, accessFlags := 9, code := some k10c2 }
def k10c3 : Code := { maxStack := 3, maxLocals := 7, code := jdk_52_method_21_code, exceptionTable := #[], attributes := #[] }
def k10m3 : Method := { name := "compress", desc := "([CI[BII)I", sig := { parameters := [(.array .char), .int, (.array .byte), .int, .int], returnType := some .int }, accessFlags := 9, code := some k10c3 }
/-- java/lang/StringUTF16 -/
def k10 : Class := { plain "java/lang/StringUTF16" (some 0) with
  accessFlags := 48
  interfaces := #[]
  cf := some (fileOf pool10 12 #[.nestMembers #[627, 629, 369]] #[{ accessFlags := 0, nameIndex := 9, descriptorIndex := 10, attributes := #[] }, { accessFlags := 8, nameIndex := 261, descriptorIndex := 262, attributes := #[] }, { accessFlags := 9, nameIndex := 117, descriptorIndex := 122, attributes := #[] }, { accessFlags := 9, nameIndex := 117, descriptorIndex := 118, attributes := #[] }] 48 6 #[] #[{ accessFlags := 26, nameIndex := 61, descriptorIndex := 62, attributes := #[] }, { accessFlags := 26, nameIndex := 65, descriptorIndex := 62, attributes := #[] }, { accessFlags := 24, nameIndex := 430, descriptorIndex := 62, attributes := #[] }, { accessFlags := 4120, nameIndex := 46, descriptorIndex := 47, attributes := #[] }])
  fields := #[{ name := "HI_BYTE_SHIFT", type := .int, accessFlags := 26, slot := 0, constantValue := 0 }, { name := "LO_BYTE_SHIFT", type := .int, accessFlags := 26, slot := 1, constantValue := 0 }, { name := "MAX_LENGTH", type := .int, accessFlags := 24, slot := 2, constantValue := 0 }, { name := "$assertionsDisabled", type := .boolean, accessFlags := 4120, slot := 3, constantValue := 0 }]
  methods := #[k10m0, k10m1, k10m2, k10m3]
  instanceTypes := #[]
  staticTypes := #[.int, .int, .int, .boolean]
  resolved := Array.replicate 635 none
  statics := none }

def pool11 : Array CpInfo := pool [(1, .class_ 2), (0, u "java/lang/String"), (1, .class_ 6), (1, u "java/lang/Object"), (0, u "<init>"), (0, u "()V"), (0, .methodref 1 10), (0, .nameAndType 11 12), (0, u "checkIndex"), (0, u "(II)V"), (1, .class_ 16), (1, u "java/lang/StringLatin1"), (36, u "([BI)C"), (58, .methodref 1 113), (0, .nameAndType 7 114), (0, u "([BB)V"), (6, u "$assertionsDisabled"), (0, u "Z"), (8, .class_ 133), (1, u "java/util/Arrays"), (17, .string 152), (0, u ""), (43, u "newString"), (0, u "([BII)Ljava/lang/String;"), (23, .class_ 223), (1, u "java/lang/StringLatin1$LinesSpliterator"), (8, .methodref 131 233), (0, .nameAndType 234 235), (0, u "copyOfRange"), (0, u "([BII)[B"), (16, u "charAt"), (137, .class_ 391), (0, u "java/lang/StringLatin1$CharsSpliterator")] 3

def k11m0 : Method := { name := "<init>", desc := "()V", sig := { parameters := [], returnType := none }, accessFlags := 0, code := none }
def k11c1 : Code := { maxStack := 2, maxLocals := 2, code := jdk_43_method_2_code, exceptionTable := #[], attributes := #[] }
def k11m1 : Method := { name := "charAt", desc := "([BI)C", sig := { parameters := [(.array .byte), .int], returnType := some .char }, accessFlags := 9, code := some k11c1 }
def k11c2 : Code := { maxStack := 6, maxLocals := 3, code := jdk_43_method_47_code, exceptionTable := #[], attributes := #[] }
def k11m2 : Method := { name := "newString", desc := "([BII)Ljava/lang/String;", sig := { parameters := [(.array .byte), .int, .int], returnType := some (.object "java/lang/String") }, accessFlags := 9, code := some k11c2 }
/-- java/lang/StringLatin1 -/
def k11 : Class := { plain "java/lang/StringLatin1" (some 0) with
  accessFlags := 48
  interfaces := #[]
  cf := some (fileOf pool11 14 #[.nestMembers #[390, 221]] #[{ accessFlags := 0, nameIndex := 7, descriptorIndex := 8, attributes := #[] }, { accessFlags := 9, nameIndex := 252, descriptorIndex := 53, attributes := #[] }, { accessFlags := 9, nameIndex := 196, descriptorIndex := 197, attributes := #[] }] 48 4 #[] #[{ accessFlags := 4120, nameIndex := 121, descriptorIndex := 122, attributes := #[] }])
  fields := #[{ name := "$assertionsDisabled", type := .boolean, accessFlags := 4120, slot := 0, constantValue := 0 }]
  methods := #[k11m0, k11m1, k11m2]
  instanceTypes := #[]
  staticTypes := #[.boolean]
  resolved := Array.replicate 395 none
  statics := none }

def pool12 : Array CpInfo := pool [(2, .class_ 4), (1, u "java/lang/Object"), (0, u "<init>"), (0, u "()V"), (7, .class_ 16), (1, u "java/util/Arrays"), (57, .class_ 76), (1, u "java/util/Arrays$NaturalOrder"), (36, .class_ 115), (1, u "java/util/Arrays$LegacyMergeSort"), (1, u "Z"), (21, u "copyOfRange"), (10, .methodref 151 152), (0, .class_ 153), (0, .nameAndType 154 155), (0, u "java/lang/System"), (0, u "arraycopy"), (0, u "(Ljava/lang/Object;ILjava/lang/Object;II)V"), (148, .methodref 305 306), (0, .class_ 307), (0, .nameAndType 308 309), (0, u "java/lang/Math"), (0, u "min"), (0, u "(II)I"), (29, .methodref 14 340), (0, .nameAndType 341 342), (0, u "copyOfRangeByte"), (0, u "([BII)[B"), (0, .methodref 14 344), (0, .nameAndType 345 346), (0, u "checkLength"), (0, u "(II)V"), (28, .class_ 376), (0, u "java/util/Arrays$ArrayList"), (68, u "$assertionsDisabled"), (269, u "MIN_ARRAY_SORT_GRAN"), (0, u "I"), (2, u "INSERTIONSORT_THRESHOLD"), (255, .class_ 976), (0, u "java/util/Arrays$ArrayItr")] 52

def k12m0 : Method := { name := "<init>", desc := "()V", sig := { parameters := [], returnType := none }, accessFlags := 2, code := none }
def k12c1 : Code := { maxStack := 4, maxLocals := 2, code := jdk_65_method_131_code, exceptionTable := #[], attributes := #[] }
def k12m1 : Method := { name := "checkLength", desc := "(II)V", sig := { parameters := [.int, .int], returnType := none }, accessFlags := 10, code := some k12c1 }
def k12c2 : Code := { maxStack := 3, maxLocals := 3, code := jdk_65_method_132_code, exceptionTable := #[], attributes := #[] }
def k12m2 : Method := { name := "copyOfRange", desc := "([BII)[B", sig := { parameters := [(.array .byte), .int, .int], returnType := some (.array .byte) }, accessFlags := 9, code := some k12c2 }
def k12c3 : Code := { maxStack := 6, maxLocals := 5, code := jdk_65_method_133_code, exceptionTable := #[], attributes := #[] }
def k12m3 : Method := { name := "copyOfRangeByte", desc := "([BII)[B", sig := { parameters := [(.array .byte), .int, .int], returnType := some (.array .byte) }, accessFlags := 10, code := some k12c3 }
/-- java/util/Arrays -/
def k12 : Class := { plain "java/util/Arrays" (some 0) with
  accessFlags := 49
  interfaces := #[]
  cf := some (fileOf pool12 14 #[.nestMembers #[975, 375, 113, 74]] #[{ accessFlags := 2, nameIndex := 5, descriptorIndex := 6, attributes := #[] }, { accessFlags := 10, nameIndex := 345, descriptorIndex := 346, attributes := #[] }, { accessFlags := 9, nameIndex := 139, descriptorIndex := 342, attributes := #[] }, { accessFlags := 10, nameIndex := 341, descriptorIndex := 342, attributes := #[] }] 49 2 #[] #[{ accessFlags := 26, nameIndex := 715, descriptorIndex := 716, attributes := #[] }, { accessFlags := 26, nameIndex := 719, descriptorIndex := 716, attributes := #[] }, { accessFlags := 4120, nameIndex := 445, descriptorIndex := 117, attributes := #[] }])
  fields := #[{ name := "MIN_ARRAY_SORT_GRAN", type := .int, accessFlags := 26, slot := 0, constantValue := 0 }, { name := "INSERTIONSORT_THRESHOLD", type := .int, accessFlags := 26, slot := 1, constantValue := 0 }, { name := "$assertionsDisabled", type := .boolean, accessFlags := 4120, slot := 2, constantValue := 0 }]
  methods := #[k12m0, k12m1, k12m2, k12m3]
  instanceTypes := #[]
  staticTypes := #[.int, .int, .boolean]
  resolved := Array.replicate 1029 none
  statics := none }

def pool13 : Array CpInfo := pool [(1, .class_ 2), (0, u "java/lang/Math"), (1, .class_ 6), (1, u "java/lang/Object"), (0, u "<init>"), (0, u "()V"), (89, .class_ 100), (1, u "java/lang/Math$RandomNumberGeneratorHolder"), (71, u "negativeZeroFloatBits"), (0, u "J"), (2, u "negativeZeroDoubleBits"), (24, u "min"), (43, u "$assertionsDisabled"), (0, u "Z"), (88, u "(II)I"), (2, u "twoToTheDoubleScaleDown"), (0, u "D"), (4, u "twoToTheDoubleScaleUp"), (9, u "E"), (3, u "PI"), (2, u "TAU"), (2, u "DEGREES_TO_RADIANS"), (0, u "RADIANS_TO_DEGREES")] 94

def k13m0 : Method := { name := "<init>", desc := "()V", sig := { parameters := [], returnType := none }, accessFlags := 2, code := none }
def k13c1 : Code := { maxStack := 2, maxLocals := 2, code := jdk_29_method_69_code, exceptionTable := #[], attributes := #[] }
def k13m1 : Method := { name := "min", desc := "(II)I", sig := { parameters := [.int, .int], returnType := some .int }, accessFlags := 9, code := some k13c1 }
/-- java/lang/Math -/
def k13 : Class := { plain "java/lang/Math" (some 0) with
  accessFlags := 49
  interfaces := #[]
  cf := some (fileOf pool13 1 #[.nestMembers #[98]] #[{ accessFlags := 2, nameIndex := 7, descriptorIndex := 8, attributes := #[] }, { accessFlags := 9, nameIndex := 201, descriptorIndex := 335, attributes := #[] }] 49 4 #[] #[{ accessFlags := 25, nameIndex := 354, descriptorIndex := 339, attributes := #[] }, { accessFlags := 25, nameIndex := 358, descriptorIndex := 339, attributes := #[] }, { accessFlags := 25, nameIndex := 361, descriptorIndex := 339, attributes := #[] }, { accessFlags := 26, nameIndex := 364, descriptorIndex := 339, attributes := #[] }, { accessFlags := 26, nameIndex := 365, descriptorIndex := 339, attributes := #[] }, { accessFlags := 26, nameIndex := 172, descriptorIndex := 173, attributes := #[] }, { accessFlags := 26, nameIndex := 176, descriptorIndex := 173, attributes := #[] }, { accessFlags := 8, nameIndex := 344, descriptorIndex := 339, attributes := #[] }, { accessFlags := 8, nameIndex := 338, descriptorIndex := 339, attributes := #[] }, { accessFlags := 4120, nameIndex := 245, descriptorIndex := 246, attributes := #[] }])
  fields := #[{ name := "E", type := .double, accessFlags := 25, slot := 0, constantValue := 0 }, { name := "PI", type := .double, accessFlags := 25, slot := 1, constantValue := 0 }, { name := "TAU", type := .double, accessFlags := 25, slot := 2, constantValue := 0 }, { name := "DEGREES_TO_RADIANS", type := .double, accessFlags := 26, slot := 3, constantValue := 0 }, { name := "RADIANS_TO_DEGREES", type := .double, accessFlags := 26, slot := 4, constantValue := 0 }, { name := "negativeZeroFloatBits", type := .long, accessFlags := 26, slot := 5, constantValue := 0 }, { name := "negativeZeroDoubleBits", type := .long, accessFlags := 26, slot := 6, constantValue := 0 }, { name := "twoToTheDoubleScaleUp", type := .double, accessFlags := 8, slot := 7, constantValue := 0 }, { name := "twoToTheDoubleScaleDown", type := .double, accessFlags := 8, slot := 8, constantValue := 0 }, { name := "$assertionsDisabled", type := .boolean, accessFlags := 4120, slot := 9, constantValue := 0 }]
  methods := #[k13m0, k13m1]
  instanceTypes := #[]
  staticTypes := #[.double, .double, .double, .double, .double, .long, .long, .double, .double, .boolean]
  resolved := Array.replicate 460 none
  statics := none }

def pool14 : Array CpInfo := pool [(2, .class_ 4), (1, u "java/lang/Object"), (0, u "<init>"), (0, u "()V"), (1, .class_ 10), (1, u "java/lang/System"), (0, u "allowSecurityManager"), (0, u "I"), (16, u "cons"), (0, u "Ljava/io/Console;"), (77, .class_ 110), (1, u "java/lang/System$CallersHolder"), (43, u "initialErrStream"), (0, u "Ljava/io/PrintStream;"), (19, u "security"), (0, u "Ljava/lang/SecurityManager;"), (31, .class_ 209), (0, u "java/lang/System$1"), (7, u "props"), (0, u "Ljava/util/Properties;"), (2, u "lineSeparator"), (0, u "Ljava/lang/String;"), (96, .class_ 321), (1, u "java/lang/System$LoggerFinder"), (5, .class_ 328), (0, u "java/lang/System$Logger"), (67, u "err"), (2, u "out"), (91, u "notSupportedJnuEncoding"), (15, u "in"), (17, u "initialIn"), (0, u "Ljava/io/InputStream;"), (35, u "bootLayer"), (0, u "Ljava/lang/ModuleLayer;"), (99, .class_ 664), (0, u "java/lang/System$2"), (9, u "NEVER"), (2, u "MAYBE"), (49, u "arraycopy"), (0, u "(Ljava/lang/Object;ILjava/lang/Object;II)V"), (72, .class_ 802), (0, u "java/lang/System$Logger$Level")] 31

def k14m0 : Method := { name := "<init>", desc := "()V", sig := { parameters := [], returnType := none }, accessFlags := 2, code := none }
def k14m1 : Method := { name := "arraycopy", desc := "(Ljava/lang/Object;ILjava/lang/Object;II)V", sig := { parameters := [(.object "java/lang/Object"), .int, (.object "java/lang/Object"), .int, .int], returnType := none }, accessFlags := 265, code := none }
/-- java/lang/System -/
def k14 : Class := { plain "java/lang/System" (some 0) with
  accessFlags := 49
  interfaces := #[]
  cf := some (fileOf pool14 8 #[.nestMembers #[319, 327, 801, 108, 663, 208]] #[{ accessFlags := 2, nameIndex := 5, descriptorIndex := 6, attributes := #[] }, { accessFlags := 265, nameIndex := 727, descriptorIndex := 728, attributes := #[] }] 49 2 #[] #[{ accessFlags := 25, nameIndex := 507, descriptorIndex := 526, attributes := #[] }, { accessFlags := 25, nameIndex := 399, descriptorIndex := 155, attributes := #[] }, { accessFlags := 25, nameIndex := 396, descriptorIndex := 155, attributes := #[] }, { accessFlags := 10, nameIndex := 525, descriptorIndex := 526, attributes := #[] }, { accessFlags := 26, nameIndex := 674, descriptorIndex := 12, attributes := #[] }, { accessFlags := 26, nameIndex := 677, descriptorIndex := 12, attributes := #[] }, { accessFlags := 10, nameIndex := 11, descriptorIndex := 12, attributes := #[] }, { accessFlags := 74, nameIndex := 175, descriptorIndex := 176, attributes := #[] }, { accessFlags := 10, nameIndex := 491, descriptorIndex := 222, attributes := #[] }, { accessFlags := 74, nameIndex := 29, descriptorIndex := 30, attributes := #[] }, { accessFlags := 74, nameIndex := 154, descriptorIndex := 155, attributes := #[] }, { accessFlags := 10, nameIndex := 217, descriptorIndex := 218, attributes := #[] }, { accessFlags := 10, nameIndex := 221, descriptorIndex := 222, attributes := #[] }, { accessFlags := 8, nameIndex := 562, descriptorIndex := 563, attributes := #[] }])
  fields := #[{ name := "in", type := (.object "java/io/InputStream"), accessFlags := 25, slot := 0, constantValue := 0 }, { name := "out", type := (.object "java/io/PrintStream"), accessFlags := 25, slot := 1, constantValue := 0 }, { name := "err", type := (.object "java/io/PrintStream"), accessFlags := 25, slot := 2, constantValue := 0 }, { name := "initialIn", type := (.object "java/io/InputStream"), accessFlags := 10, slot := 3, constantValue := 0 }, { name := "NEVER", type := .int, accessFlags := 26, slot := 4, constantValue := 0 }, { name := "MAYBE", type := .int, accessFlags := 26, slot := 5, constantValue := 0 }, { name := "allowSecurityManager", type := .int, accessFlags := 10, slot := 6, constantValue := 0 }, { name := "security", type := (.object "java/lang/SecurityManager"), accessFlags := 74, slot := 7, constantValue := 0 }, { name := "notSupportedJnuEncoding", type := (.object "java/lang/String"), accessFlags := 10, slot := 8, constantValue := 0 }, { name := "cons", type := (.object "java/io/Console"), accessFlags := 74, slot := 9, constantValue := 0 }, { name := "initialErrStream", type := (.object "java/io/PrintStream"), accessFlags := 74, slot := 10, constantValue := 0 }, { name := "props", type := (.object "java/util/Properties"), accessFlags := 10, slot := 11, constantValue := 0 }, { name := "lineSeparator", type := (.object "java/lang/String"), accessFlags := 10, slot := 12, constantValue := 0 }, { name := "bootLayer", type := (.object "java/lang/ModuleLayer"), accessFlags := 8, slot := 13, constantValue := 0 }]
  methods := #[k14m0, k14m1]
  instanceTypes := #[]
  staticTypes := #[(.object "java/io/InputStream"), (.object "java/io/PrintStream"), (.object "java/io/PrintStream"), (.object "java/io/InputStream"), .int, .int, .int, (.object "java/lang/SecurityManager"), (.object "java/lang/String"), (.object "java/io/Console"), (.object "java/io/PrintStream"), (.object "java/util/Properties"), (.object "java/lang/String"), (.object "java/lang/ModuleLayer")]
  resolved := Array.replicate 834 none
  statics := none }

def pool15 : Array CpInfo := pool [(9, u "<init>"), (6, .class_ 18), (1, u "java/lang/Object"), (0, u "()V"), (1, .class_ 23), (1, u "jdk/internal/util/ArraysSupport"), (0, u "LOG2_ARRAY_LONG_INDEX_SCALE"), (0, u "I"), (2, u "U"), (0, u "Ljdk/internal/misc/Unsafe;"), (8, u "BIG_ENDIAN"), (0, u "Z"), (8, u "LOG2_BYTE_BIT_SIZE"), (4, u "LOG2_ARRAY_INT_INDEX_SCALE"), (54, u "JLA"), (0, u "Ljdk/internal/access/JavaLangAccess;"), (11, u "LOG2_ARRAY_BOOLEAN_INDEX_SCALE"), (9, u "LOG2_ARRAY_BYTE_INDEX_SCALE"), (5, u "LOG2_ARRAY_CHAR_INDEX_SCALE"), (5, u "LOG2_ARRAY_SHORT_INDEX_SCALE"), (18, u "LOG2_ARRAY_FLOAT_INDEX_SCALE"), (24, u "LOG2_ARRAY_DOUBLE_INDEX_SCALE"), (89, u "T_BOOLEAN"), (2, u "T_CHAR"), (1, u "T_FLOAT"), (1, u "T_DOUBLE"), (1, u "T_BYTE"), (1, u "T_SHORT"), (1, u "T_INT"), (1, u "T_LONG"), (1, u "SOFT_MAX_ARRAY_LENGTH")] 83

def k15m0 : Method := { name := "<init>", desc := "()V", sig := { parameters := [], returnType := none }, accessFlags := 2, code := none }
/-- jdk/internal/util/ArraysSupport -/
def k15 : Class := { plain "jdk/internal/util/ArraysSupport" (some 0) with
  accessFlags := 33
  interfaces := #[]
  cf := some (fileOf pool15 21 #[] #[{ accessFlags := 2, nameIndex := 9, descriptorIndex := 19, attributes := #[] }] 33 16 #[] #[{ accessFlags := 24, nameIndex := 28, descriptorIndex := 29, attributes := #[] }, { accessFlags := 26, nameIndex := 38, descriptorIndex := 39, attributes := #[] }, { accessFlags := 25, nameIndex := 121, descriptorIndex := 25, attributes := #[] }, { accessFlags := 25, nameIndex := 131, descriptorIndex := 25, attributes := #[] }, { accessFlags := 25, nameIndex := 137, descriptorIndex := 25, attributes := #[] }, { accessFlags := 25, nameIndex := 143, descriptorIndex := 25, attributes := #[] }, { accessFlags := 25, nameIndex := 53, descriptorIndex := 25, attributes := #[] }, { accessFlags := 25, nameIndex := 24, descriptorIndex := 25, attributes := #[] }, { accessFlags := 25, nameIndex := 162, descriptorIndex := 25, attributes := #[] }, { accessFlags := 25, nameIndex := 187, descriptorIndex := 25, attributes := #[] }, { accessFlags := 26, nameIndex := 48, descriptorIndex := 25, attributes := #[] }, { accessFlags := 25, nameIndex := 277, descriptorIndex := 25, attributes := #[] }, { accessFlags := 25, nameIndex := 280, descriptorIndex := 25, attributes := #[] }, { accessFlags := 25, nameIndex := 282, descriptorIndex := 25, attributes := #[] }, { accessFlags := 25, nameIndex := 284, descriptorIndex := 25, attributes := #[] }, { accessFlags := 25, nameIndex := 286, descriptorIndex := 25, attributes := #[] }, { accessFlags := 25, nameIndex := 288, descriptorIndex := 25, attributes := #[] }, { accessFlags := 25, nameIndex := 290, descriptorIndex := 25, attributes := #[] }, { accessFlags := 25, nameIndex := 292, descriptorIndex := 25, attributes := #[] }, { accessFlags := 26, nameIndex := 108, descriptorIndex := 109, attributes := #[] }, { accessFlags := 25, nameIndex := 294, descriptorIndex := 25, attributes := #[] }])
  fields := #[{ name := "U", type := (.object "jdk/internal/misc/Unsafe"), accessFlags := 24, slot := 0, constantValue := 0 }, { name := "BIG_ENDIAN", type := .boolean, accessFlags := 26, slot := 1, constantValue := 0 }, { name := "LOG2_ARRAY_BOOLEAN_INDEX_SCALE", type := .int, accessFlags := 25, slot := 2, constantValue := 0 }, { name := "LOG2_ARRAY_BYTE_INDEX_SCALE", type := .int, accessFlags := 25, slot := 3, constantValue := 0 }, { name := "LOG2_ARRAY_CHAR_INDEX_SCALE", type := .int, accessFlags := 25, slot := 4, constantValue := 0 }, { name := "LOG2_ARRAY_SHORT_INDEX_SCALE", type := .int, accessFlags := 25, slot := 5, constantValue := 0 }, { name := "LOG2_ARRAY_INT_INDEX_SCALE", type := .int, accessFlags := 25, slot := 6, constantValue := 0 }, { name := "LOG2_ARRAY_LONG_INDEX_SCALE", type := .int, accessFlags := 25, slot := 7, constantValue := 0 }, { name := "LOG2_ARRAY_FLOAT_INDEX_SCALE", type := .int, accessFlags := 25, slot := 8, constantValue := 0 }, { name := "LOG2_ARRAY_DOUBLE_INDEX_SCALE", type := .int, accessFlags := 25, slot := 9, constantValue := 0 }, { name := "LOG2_BYTE_BIT_SIZE", type := .int, accessFlags := 26, slot := 10, constantValue := 0 }, { name := "T_BOOLEAN", type := .int, accessFlags := 25, slot := 11, constantValue := 0 }, { name := "T_CHAR", type := .int, accessFlags := 25, slot := 12, constantValue := 0 }, { name := "T_FLOAT", type := .int, accessFlags := 25, slot := 13, constantValue := 0 }, { name := "T_DOUBLE", type := .int, accessFlags := 25, slot := 14, constantValue := 0 }, { name := "T_BYTE", type := .int, accessFlags := 25, slot := 15, constantValue := 0 }, { name := "T_SHORT", type := .int, accessFlags := 25, slot := 16, constantValue := 0 }, { name := "T_INT", type := .int, accessFlags := 25, slot := 17, constantValue := 0 }, { name := "T_LONG", type := .int, accessFlags := 25, slot := 18, constantValue := 0 }, { name := "JLA", type := (.object "jdk/internal/access/JavaLangAccess"), accessFlags := 26, slot := 19, constantValue := 0 }, { name := "SOFT_MAX_ARRAY_LENGTH", type := .int, accessFlags := 25, slot := 20, constantValue := 0 }]
  methods := #[k15m0]
  instanceTypes := #[]
  staticTypes := #[(.object "jdk/internal/misc/Unsafe"), .boolean, .int, .int, .int, .int, .int, .int, .int, .int, .int, .int, .int, .int, .int, .int, .int, .int, .int, (.object "jdk/internal/access/JavaLangAccess"), .int]
  resolved := Array.replicate 378 none
  statics := none }

def pool16 : Array CpInfo := pool [(1, u "java/lang/Cloneable"), (0, .class_ 1), (0, u "java/lang/Object"), (0, .class_ 3)] 3

/-- java/lang/Cloneable -/
def k16 : Class := { plain "java/lang/Cloneable" (some 0) with
  accessFlags := 1537
  interfaces := #[]
  cf := some (fileOf pool16 2 #[] #[] 1537 4 #[] #[])
  fields := #[]
  methods := #[]
  instanceTypes := #[]
  staticTypes := #[]
  resolved := Array.replicate 8 none
  statics := none }

/-- the primitive byte -/
def k17 : Class := { plain "byte" none with kind := .primitive 'B', accessFlags := 0x411 }
/-- [B -/
def k18 : Class := { plain "[B" (some 0) with kind := .array 17 .byte, interfaces := #[16, 2], accessFlags := 1041 }

/-- the primitive char -/
def k19 : Class := { plain "char" none with kind := .primitive 'C', accessFlags := 0x411 }
/-- [C -/
def k20 : Class := { plain "[C" (some 0) with kind := .array 19 .char, interfaces := #[16, 2], accessFlags := 1041 }

/-- the primitive int -/
def k21 : Class := { plain "int" none with kind := .primitive 'I', accessFlags := 0x411 }
/-- [I -/
def k22 : Class := { plain "[I" (some 0) with kind := .array 21 .int, interfaces := #[16, 2], accessFlags := 1041 }

def heap : Heap := #[{ cls := 7, slots := #[.long 0, .int 1, .null, .int 0, .null, .int 0, .int 0], vm := .statics 7 },
  { cls := 9, slots := #[.null, .null, .null], vm := .statics 9 }]
def classes : Array Class := #[k0, k1, k2, k3, k4, k5, k6, k7, k8, k9, k10, k11, k12, k13, k14, k15, k16, k17, k18, k19, k20, k21, k22]
def interned : List (Array UInt16 × Addr) := []
def slotsUsed : Nat := 10
def theMethod : MethodId := ⟨1, 4⟩
def args0 : Array Value := #[.int 5, .int 5, .int 5, .int 5, .int 5]
def aboutOver (below : List Frame) : State where
  vm := { classes := classes, interned := interned.toArray }
  heap := heap
  slotsUsed := slotsUsed
  threads := #[{ frames := .invoking theMethod args0 :: below }]
def below0 : List Frame := [.native { method := ⟨0, 0⟩, args := #[] }]
def about1 : State := aboutOver below0
def p0 : Program := .bare "" "" ""
def e0 : Env := launch0.env 0 0 0
theorem w_frames : about1.frames = Frame.invoking theMethod args0 :: below0 := rfl
set_option maxRecDepth 65536 in
theorem w_args : argsFit about1.vm theMethod args0 = true := by decide +kernel
set_option maxRecDepth 65536 in
theorem w_heap : heapFits about1 = true := by decide +kernel
set_option maxRecDepth 65536 in
theorem w_runnable : about1.curStatus? = some .runnable := by decide +kernel
set_option maxRecDepth 65536 in
theorem w_alone : about1.alone = true := by decide +kernel
set_option maxRecDepth 65536 in
theorem w_named : about1.methodNamed? x = some theMethod := by decide +kernel
set_option maxRecDepth 65536 in
theorem w_hears : about1.hears theMethod below0 = true := by decide +kernel
set_option maxRecDepth 65536 in
theorem w_ripe : about1.ripe theMethod args0 below0 = true := by decide +kernel
theorem w_running : about1.status = .running := rfl
set_option maxRecDepth 65536 in
theorem w_room : about1.hasRoom e0.platform room_1 = true :=
  launch0.hasRoom_least _ room_1 (by decide +kernel) (by decide +kernel) (by decide +kernel) (by decide +kernel) (by decide +kernel) (by decide +kernel)
theorem allAtoms_all (ts : List Jvm.Cond) (a : Array Jvm.Value) (st : Jvm.State) : (allAtoms ts).before a st = ts.all (fun c => c.before a st) := by
  induction ts with
  | nil => rfl
  | cons c t ih =>
    show (Jvm.Cond.and c (allAtoms t)).before a st = _
    rw [Jvm.Cond.before_and, ih, List.all_cons]
def words1 : List Jvm.Cond := Jvm.Cond.code x code maxLocals ret :: tables_1
/-- a 'code' word, met by the world's own term for the bytes: nothing is compared byte by byte -/
theorem code_word {y : MethodName} {bytes : ByteArray} {mx : Nat} {rt : Option FieldType} {a : Array Value} {s : State} {m : MethodId} {meth : Method} {c : Code} (h1 : s.methodNamed? y = some m) (h2 : s.vm.method? m = some meth) (h3 : meth.code = some c) (h4 : c.code = bytes)
    (h5 : (c.maxLocals == mx && c.exceptionTable.isEmpty && decide (c.maxStack ≤ mostOperands) && decide (meth.sig.returnType = rt) && !meth.locks && decide (parseMethodDescriptor y.desc = some meth.sig)) = true) : (Jvm.Cond.code y bytes mx rt).before a s = true := by
  simp only [Bool.and_eq_true, beq_iff_eq, Bool.not_eq_true', decide_eq_true_eq] at h5
  obtain ⟨⟨⟨⟨⟨g1, g2⟩, g3⟩, g4⟩, g5⟩, g6⟩ := h5
  simp [Cond.before, Cond.holds, Cond.value, h1, h2, h3, h4, g1, g2, g3, g4, g5, g6]
def isCode : Jvm.Cond → Bool
  | .code _ _ _ _ => true
  | _ => false
theorem all_split {L : List Jvm.Cond} {P : Jvm.Cond → Bool} (h1 : L.all (fun c => isCode c || P c) = true) (h2 : ∀ c ∈ L.filter isCode, P c = true) : L.all P = true := by
  refine List.all_eq_true.mpr fun c hc => ?_
  have h := List.all_eq_true.mp h1 c hc
  rcases Bool.eq_false_or_eq_true (isCode c) with hi | hi
  · exact h2 c (List.mem_filter.mpr ⟨hc, hi⟩)
  · simpa [hi] using h
set_option maxRecDepth 65536 in
theorem w_c0 : (Jvm.Cond.code x code maxLocals ret).before args0 about1 = true := code_word (m := ⟨1, 4⟩) (meth := k1m4) (c := k1c4) (by decide +kernel) rfl rfl rfl (by decide +kernel)
set_option maxRecDepth 65536 in
theorem w_c1 : (Jvm.Cond.code ({ cls := "org/portcullis/HttpSyntaxTrimPinLaw", name := "pick", desc := "(I)C" } : Jvm.MethodName) method_2_code (2 : Nat) (Option.some Jvm.ClassFile.FieldType.char)).before args0 about1 = true := code_word (m := ⟨1, 1⟩) (meth := k1m1) (c := k1c1) (by decide +kernel) rfl rfl rfl (by decide +kernel)
set_option maxRecDepth 65536 in
theorem w_c2 : (Jvm.Cond.code ({ cls := "org/portcullis/HttpSyntaxTrimPinLaw", name := "make", desc := "(I[C)Ljava/lang/String;" } : Jvm.MethodName) method_4_code (2 : Nat) (Option.some (Jvm.ClassFile.FieldType.object "java/lang/String"))).before args0 about1 = true := code_word (m := ⟨1, 3⟩) (meth := k1m3) (c := k1c3) (by decide +kernel) rfl rfl rfl (by decide +kernel)
set_option maxRecDepth 65536 in
theorem w_c3 : (Jvm.Cond.code ({ cls := "java/lang/String", name := "<init>", desc := "([C)V" } : Jvm.MethodName) jdk_42_method_3_code (2 : Nat) (Option.none : Option Jvm.ClassFile.FieldType)).before args0 about1 = true := code_word (m := ⟨7, 1⟩) (meth := k7m1) (c := k7c1) (by decide +kernel) rfl rfl rfl (by decide +kernel)
set_option maxRecDepth 65536 in
theorem w_c4 : (Jvm.Cond.code ({ cls := "java/lang/String", name := "<init>", desc := "([CIILjava/lang/Void;)V" } : Jvm.MethodName) jdk_42_method_149_code (6 : Nat) (Option.none : Option Jvm.ClassFile.FieldType)).before args0 about1 = true := code_word (m := ⟨7, 5⟩) (meth := k7m5) (c := k7c5) (by decide +kernel) rfl rfl rfl (by decide +kernel)
set_option maxRecDepth 65536 in
theorem w_c5 : (Jvm.Cond.code ({ cls := "java/lang/Object", name := "<init>", desc := "()V" } : Jvm.MethodName) object_method_1_code (1 : Nat) (Option.none : Option Jvm.ClassFile.FieldType)).before args0 about1 = true := code_word (m := ⟨0, 0⟩) (meth := k0m0) (c := k0c0) (by decide +kernel) rfl rfl rfl (by decide +kernel)
set_option maxRecDepth 65536 in
theorem w_c6 : (Jvm.Cond.code ({ cls := "org/portcullis/HttpSyntax", name := "trim", desc := "(Ljava/lang/String;)Ljava/lang/String;" } : Jvm.MethodName) prog_24_method_5_code (3 : Nat) (Option.some (Jvm.ClassFile.FieldType.object "java/lang/String"))).before args0 about1 = true := code_word (m := ⟨8, 1⟩) (meth := k8m1) (c := k8c1) (by decide +kernel) rfl rfl rfl (by decide +kernel)
set_option maxRecDepth 65536 in
theorem w_c7 : (Jvm.Cond.code ({ cls := "java/lang/String", name := "length", desc := "()I" } : Jvm.MethodName) jdk_42_method_54_code (1 : Nat) (Option.some Jvm.ClassFile.FieldType.int)).before args0 about1 = true := code_word (m := ⟨7, 2⟩) (meth := k7m2) (c := k7c2) (by decide +kernel) rfl rfl rfl (by decide +kernel)
set_option maxRecDepth 65536 in
theorem w_c8 : (Jvm.Cond.code ({ cls := "java/lang/String", name := "coder", desc := "()B" } : Jvm.MethodName) jdk_42_method_152_code (1 : Nat) (Option.some Jvm.ClassFile.FieldType.byte)).before args0 about1 = true := code_word (m := ⟨7, 7⟩) (meth := k7m7) (c := k7c7) (by decide +kernel) rfl rfl rfl (by decide +kernel)
set_option maxRecDepth 65536 in
theorem w_c9 : (Jvm.Cond.code ({ cls := "java/lang/String", name := "substring", desc := "(II)Ljava/lang/String;" } : Jvm.MethodName) jdk_42_method_92_code (5 : Nat) (Option.some (Jvm.ClassFile.FieldType.object "java/lang/String"))).before args0 about1 = true := code_word (m := ⟨7, 4⟩) (meth := k7m4) (c := k7c4) (by decide +kernel) rfl rfl rfl (by decide +kernel)
set_option maxRecDepth 65536 in
theorem w_c10 : (Jvm.Cond.code ({ cls := "java/lang/String", name := "checkBoundsBeginEnd", desc := "(III)V" } : Jvm.MethodName) jdk_42_method_158_code (3 : Nat) (Option.none : Option Jvm.ClassFile.FieldType)).before args0 about1 = true := code_word (m := ⟨7, 10⟩) (meth := k7m10) (c := k7c10) (by decide +kernel) rfl rfl rfl (by decide +kernel)
set_option maxRecDepth 65536 in
theorem w_c11 : (Jvm.Cond.code ({ cls := "jdk/internal/util/Preconditions", name := "checkFromToIndex", desc := "(IIILjava/util/function/BiFunction;)I" } : Jvm.MethodName) jdk_41_method_12_code (4 : Nat) (Option.some Jvm.ClassFile.FieldType.int)).before args0 about1 = true := code_word (m := ⟨9, 2⟩) (meth := k9m2) (c := k9c2) (by decide +kernel) rfl rfl rfl (by decide +kernel)
set_option maxRecDepth 65536 in
theorem w_c12 : (Jvm.Cond.code ({ cls := "java/lang/StringUTF16", name := "compress", desc := "([CII)[B" } : Jvm.MethodName) jdk_52_method_16_code (6 : Nat) (Option.some (Jvm.ClassFile.FieldType.array Jvm.ClassFile.FieldType.byte))).before args0 about1 = true := code_word (m := ⟨10, 2⟩) (meth := k10m2) (c := k10c2) (by decide +kernel) rfl rfl rfl (by decide +kernel)
set_option maxRecDepth 65536 in
theorem w_c13 : (Jvm.Cond.code ({ cls := "java/lang/StringUTF16", name := "compress", desc := "([CI[BII)I" } : Jvm.MethodName) jdk_52_method_21_code (7 : Nat) (Option.some Jvm.ClassFile.FieldType.int)).before args0 about1 = true := code_word (m := ⟨10, 3⟩) (meth := k10m3) (c := k10c3) (by decide +kernel) rfl rfl rfl (by decide +kernel)
set_option maxRecDepth 65536 in
theorem w_c14 : (Jvm.Cond.code ({ cls := "java/lang/StringUTF16", name := "coderFromArrayLen", desc := "([BI)B" } : Jvm.MethodName) jdk_52_method_15_code (2 : Nat) (Option.some Jvm.ClassFile.FieldType.byte)).before args0 about1 = true := code_word (m := ⟨10, 1⟩) (meth := k10m1) (c := k10c1) (by decide +kernel) rfl rfl rfl (by decide +kernel)
set_option maxRecDepth 65536 in
theorem w_c15 : (Jvm.Cond.code ({ cls := "java/lang/String", name := "charAt", desc := "(I)C" } : Jvm.MethodName) jdk_42_method_56_code (2 : Nat) (Option.some Jvm.ClassFile.FieldType.char)).before args0 about1 = true := code_word (m := ⟨7, 3⟩) (meth := k7m3) (c := k7c3) (by decide +kernel) rfl rfl rfl (by decide +kernel)
set_option maxRecDepth 65536 in
theorem w_c16 : (Jvm.Cond.code ({ cls := "java/lang/String", name := "isLatin1", desc := "()Z" } : Jvm.MethodName) jdk_42_method_154_code (1 : Nat) (Option.some Jvm.ClassFile.FieldType.boolean)).before args0 about1 = true := code_word (m := ⟨7, 8⟩) (meth := k7m8) (c := k7c8) (by decide +kernel) rfl rfl rfl (by decide +kernel)
set_option maxRecDepth 65536 in
theorem w_c17 : (Jvm.Cond.code ({ cls := "java/lang/StringLatin1", name := "charAt", desc := "([BI)C" } : Jvm.MethodName) jdk_43_method_2_code (2 : Nat) (Option.some Jvm.ClassFile.FieldType.char)).before args0 about1 = true := code_word (m := ⟨11, 1⟩) (meth := k11m1) (c := k11c1) (by decide +kernel) rfl rfl rfl (by decide +kernel)
set_option maxRecDepth 65536 in
theorem w_c18 : (Jvm.Cond.code ({ cls := "java/lang/String", name := "checkIndex", desc := "(II)V" } : Jvm.MethodName) jdk_42_method_155_code (2 : Nat) (Option.none : Option Jvm.ClassFile.FieldType)).before args0 about1 = true := code_word (m := ⟨7, 9⟩) (meth := k7m9) (c := k7c9) (by decide +kernel) rfl rfl rfl (by decide +kernel)
set_option maxRecDepth 65536 in
theorem w_c19 : (Jvm.Cond.code ({ cls := "jdk/internal/util/Preconditions", name := "checkIndex", desc := "(IILjava/util/function/BiFunction;)I" } : Jvm.MethodName) jdk_41_method_11_code (3 : Nat) (Option.some Jvm.ClassFile.FieldType.int)).before args0 about1 = true := code_word (m := ⟨9, 1⟩) (meth := k9m1) (c := k9c1) (by decide +kernel) rfl rfl rfl (by decide +kernel)
set_option maxRecDepth 65536 in
theorem w_c20 : (Jvm.Cond.code ({ cls := "org/portcullis/HttpSyntax", name := "isSpace", desc := "(C)Z" } : Jvm.MethodName) prog_24_method_6_code (1 : Nat) (Option.some Jvm.ClassFile.FieldType.boolean)).before args0 about1 = true := code_word (m := ⟨8, 2⟩) (meth := k8m2) (c := k8c2) (by decide +kernel) rfl rfl rfl (by decide +kernel)
set_option maxRecDepth 65536 in
theorem w_c21 : (Jvm.Cond.code ({ cls := "java/lang/StringLatin1", name := "newString", desc := "([BII)Ljava/lang/String;" } : Jvm.MethodName) jdk_43_method_47_code (3 : Nat) (Option.some (Jvm.ClassFile.FieldType.object "java/lang/String"))).before args0 about1 = true := code_word (m := ⟨11, 2⟩) (meth := k11m2) (c := k11c2) (by decide +kernel) rfl rfl rfl (by decide +kernel)
set_option maxRecDepth 65536 in
theorem w_c22 : (Jvm.Cond.code ({ cls := "java/util/Arrays", name := "copyOfRange", desc := "([BII)[B" } : Jvm.MethodName) jdk_65_method_132_code (3 : Nat) (Option.some (Jvm.ClassFile.FieldType.array Jvm.ClassFile.FieldType.byte))).before args0 about1 = true := code_word (m := ⟨12, 2⟩) (meth := k12m2) (c := k12c2) (by decide +kernel) rfl rfl rfl (by decide +kernel)
set_option maxRecDepth 65536 in
theorem w_c23 : (Jvm.Cond.code ({ cls := "java/util/Arrays", name := "copyOfRangeByte", desc := "([BII)[B" } : Jvm.MethodName) jdk_65_method_133_code (5 : Nat) (Option.some (Jvm.ClassFile.FieldType.array Jvm.ClassFile.FieldType.byte))).before args0 about1 = true := code_word (m := ⟨12, 3⟩) (meth := k12m3) (c := k12c3) (by decide +kernel) rfl rfl rfl (by decide +kernel)
set_option maxRecDepth 65536 in
theorem w_c24 : (Jvm.Cond.code ({ cls := "java/util/Arrays", name := "checkLength", desc := "(II)V" } : Jvm.MethodName) jdk_65_method_131_code (2 : Nat) (Option.none : Option Jvm.ClassFile.FieldType)).before args0 about1 = true := code_word (m := ⟨12, 1⟩) (meth := k12m1) (c := k12c1) (by decide +kernel) rfl rfl rfl (by decide +kernel)
set_option maxRecDepth 65536 in
theorem w_c25 : (Jvm.Cond.code ({ cls := "java/lang/Math", name := "min", desc := "(II)I" } : Jvm.MethodName) jdk_29_method_69_code (2 : Nat) (Option.some Jvm.ClassFile.FieldType.int)).before args0 about1 = true := code_word (m := ⟨13, 1⟩) (meth := k13m1) (c := k13c1) (by decide +kernel) rfl rfl rfl (by decide +kernel)
set_option maxRecDepth 65536 in
theorem w_c26 : (Jvm.Cond.code ({ cls := "java/lang/String", name := "<init>", desc := "([BB)V" } : Jvm.MethodName) jdk_42_method_151_code (3 : Nat) (Option.none : Option Jvm.ClassFile.FieldType)).before args0 about1 = true := code_word (m := ⟨7, 6⟩) (meth := k7m6) (c := k7c6) (by decide +kernel) rfl rfl rfl (by decide +kernel)
set_option maxRecDepth 65536 in
theorem w_c27 : (Jvm.Cond.code ({ cls := "org/portcullis/HttpSyntaxTrimPinLaw", name := "sp", desc := "(C)Z" } : Jvm.MethodName) method_3_code (1 : Nat) (Option.some Jvm.ClassFile.FieldType.boolean)).before args0 about1 = true := code_word (m := ⟨1, 2⟩) (meth := k1m2) (c := k1c2) (by decide +kernel) rfl rfl rfl (by decide +kernel)
def codes1 : List Jvm.Cond := [Jvm.Cond.code x code maxLocals ret, Jvm.Cond.code ({ cls := "org/portcullis/HttpSyntaxTrimPinLaw", name := "pick", desc := "(I)C" } : Jvm.MethodName) method_2_code (2 : Nat) (Option.some Jvm.ClassFile.FieldType.char), Jvm.Cond.code ({ cls := "org/portcullis/HttpSyntaxTrimPinLaw", name := "make", desc := "(I[C)Ljava/lang/String;" } : Jvm.MethodName) method_4_code (2 : Nat) (Option.some (Jvm.ClassFile.FieldType.object "java/lang/String")), Jvm.Cond.code ({ cls := "java/lang/String", name := "<init>", desc := "([C)V" } : Jvm.MethodName) jdk_42_method_3_code (2 : Nat) (Option.none : Option Jvm.ClassFile.FieldType), Jvm.Cond.code ({ cls := "java/lang/String", name := "<init>", desc := "([CIILjava/lang/Void;)V" } : Jvm.MethodName) jdk_42_method_149_code (6 : Nat) (Option.none : Option Jvm.ClassFile.FieldType), Jvm.Cond.code ({ cls := "java/lang/Object", name := "<init>", desc := "()V" } : Jvm.MethodName) object_method_1_code (1 : Nat) (Option.none : Option Jvm.ClassFile.FieldType), Jvm.Cond.code ({ cls := "org/portcullis/HttpSyntax", name := "trim", desc := "(Ljava/lang/String;)Ljava/lang/String;" } : Jvm.MethodName) prog_24_method_5_code (3 : Nat) (Option.some (Jvm.ClassFile.FieldType.object "java/lang/String")), Jvm.Cond.code ({ cls := "java/lang/String", name := "length", desc := "()I" } : Jvm.MethodName) jdk_42_method_54_code (1 : Nat) (Option.some Jvm.ClassFile.FieldType.int), Jvm.Cond.code ({ cls := "java/lang/String", name := "coder", desc := "()B" } : Jvm.MethodName) jdk_42_method_152_code (1 : Nat) (Option.some Jvm.ClassFile.FieldType.byte), Jvm.Cond.code ({ cls := "java/lang/String", name := "substring", desc := "(II)Ljava/lang/String;" } : Jvm.MethodName) jdk_42_method_92_code (5 : Nat) (Option.some (Jvm.ClassFile.FieldType.object "java/lang/String")), Jvm.Cond.code ({ cls := "java/lang/String", name := "checkBoundsBeginEnd", desc := "(III)V" } : Jvm.MethodName) jdk_42_method_158_code (3 : Nat) (Option.none : Option Jvm.ClassFile.FieldType), Jvm.Cond.code ({ cls := "jdk/internal/util/Preconditions", name := "checkFromToIndex", desc := "(IIILjava/util/function/BiFunction;)I" } : Jvm.MethodName) jdk_41_method_12_code (4 : Nat) (Option.some Jvm.ClassFile.FieldType.int), Jvm.Cond.code ({ cls := "java/lang/StringUTF16", name := "compress", desc := "([CII)[B" } : Jvm.MethodName) jdk_52_method_16_code (6 : Nat) (Option.some (Jvm.ClassFile.FieldType.array Jvm.ClassFile.FieldType.byte)), Jvm.Cond.code ({ cls := "java/lang/StringUTF16", name := "compress", desc := "([CI[BII)I" } : Jvm.MethodName) jdk_52_method_21_code (7 : Nat) (Option.some Jvm.ClassFile.FieldType.int), Jvm.Cond.code ({ cls := "java/lang/StringUTF16", name := "coderFromArrayLen", desc := "([BI)B" } : Jvm.MethodName) jdk_52_method_15_code (2 : Nat) (Option.some Jvm.ClassFile.FieldType.byte), Jvm.Cond.code ({ cls := "java/lang/String", name := "charAt", desc := "(I)C" } : Jvm.MethodName) jdk_42_method_56_code (2 : Nat) (Option.some Jvm.ClassFile.FieldType.char), Jvm.Cond.code ({ cls := "java/lang/String", name := "isLatin1", desc := "()Z" } : Jvm.MethodName) jdk_42_method_154_code (1 : Nat) (Option.some Jvm.ClassFile.FieldType.boolean), Jvm.Cond.code ({ cls := "java/lang/StringLatin1", name := "charAt", desc := "([BI)C" } : Jvm.MethodName) jdk_43_method_2_code (2 : Nat) (Option.some Jvm.ClassFile.FieldType.char), Jvm.Cond.code ({ cls := "java/lang/String", name := "checkIndex", desc := "(II)V" } : Jvm.MethodName) jdk_42_method_155_code (2 : Nat) (Option.none : Option Jvm.ClassFile.FieldType), Jvm.Cond.code ({ cls := "jdk/internal/util/Preconditions", name := "checkIndex", desc := "(IILjava/util/function/BiFunction;)I" } : Jvm.MethodName) jdk_41_method_11_code (3 : Nat) (Option.some Jvm.ClassFile.FieldType.int), Jvm.Cond.code ({ cls := "org/portcullis/HttpSyntax", name := "isSpace", desc := "(C)Z" } : Jvm.MethodName) prog_24_method_6_code (1 : Nat) (Option.some Jvm.ClassFile.FieldType.boolean), Jvm.Cond.code ({ cls := "java/lang/StringLatin1", name := "newString", desc := "([BII)Ljava/lang/String;" } : Jvm.MethodName) jdk_43_method_47_code (3 : Nat) (Option.some (Jvm.ClassFile.FieldType.object "java/lang/String")), Jvm.Cond.code ({ cls := "java/util/Arrays", name := "copyOfRange", desc := "([BII)[B" } : Jvm.MethodName) jdk_65_method_132_code (3 : Nat) (Option.some (Jvm.ClassFile.FieldType.array Jvm.ClassFile.FieldType.byte)), Jvm.Cond.code ({ cls := "java/util/Arrays", name := "copyOfRangeByte", desc := "([BII)[B" } : Jvm.MethodName) jdk_65_method_133_code (5 : Nat) (Option.some (Jvm.ClassFile.FieldType.array Jvm.ClassFile.FieldType.byte)), Jvm.Cond.code ({ cls := "java/util/Arrays", name := "checkLength", desc := "(II)V" } : Jvm.MethodName) jdk_65_method_131_code (2 : Nat) (Option.none : Option Jvm.ClassFile.FieldType), Jvm.Cond.code ({ cls := "java/lang/Math", name := "min", desc := "(II)I" } : Jvm.MethodName) jdk_29_method_69_code (2 : Nat) (Option.some Jvm.ClassFile.FieldType.int), Jvm.Cond.code ({ cls := "java/lang/String", name := "<init>", desc := "([BB)V" } : Jvm.MethodName) jdk_42_method_151_code (3 : Nat) (Option.none : Option Jvm.ClassFile.FieldType), Jvm.Cond.code ({ cls := "org/portcullis/HttpSyntaxTrimPinLaw", name := "sp", desc := "(C)Z" } : Jvm.MethodName) method_3_code (1 : Nat) (Option.some Jvm.ClassFile.FieldType.boolean)]
set_option maxRecDepth 65536 in
theorem codes_eq : words1.filter isCode = codes1 := rfl
theorem w_codes : ∀ c ∈ words1.filter isCode, c.before args0 about1 = true := by
  rw [codes_eq]
  intro c hc
  simp only [codes1, List.mem_cons, List.not_mem_nil, or_false] at hc
  rcases hc with rfl | rfl | rfl | rfl | rfl | rfl | rfl | rfl | rfl | rfl | rfl | rfl | rfl | rfl | rfl | rfl | rfl | rfl | rfl | rfl | rfl | rfl | rfl | rfl | rfl | rfl | rfl | rfl
  · exact w_c0
  · exact w_c1
  · exact w_c2
  · exact w_c3
  · exact w_c4
  · exact w_c5
  · exact w_c6
  · exact w_c7
  · exact w_c8
  · exact w_c9
  · exact w_c10
  · exact w_c11
  · exact w_c12
  · exact w_c13
  · exact w_c14
  · exact w_c15
  · exact w_c16
  · exact w_c17
  · exact w_c18
  · exact w_c19
  · exact w_c20
  · exact w_c21
  · exact w_c22
  · exact w_c23
  · exact w_c24
  · exact w_c25
  · exact w_c26
  · exact w_c27
set_option maxRecDepth 65536 in
theorem w_t1 : (words1.take 24).all (fun c => isCode c || c.before args0 about1) = true := by decide +kernel
set_option maxRecDepth 65536 in
theorem w_t2 : ((words1.drop 24).take 24).all (fun c => isCode c || c.before args0 about1) = true := by decide +kernel
set_option maxRecDepth 65536 in
theorem w_t3 : (((words1.drop 24).drop 24).take 24).all (fun c => isCode c || c.before args0 about1) = true := by decide +kernel
set_option maxRecDepth 65536 in
theorem w_t4 : ((((words1.drop 24).drop 24).drop 24).take 24).all (fun c => isCode c || c.before args0 about1) = true := by decide +kernel
set_option maxRecDepth 65536 in
theorem w_t5 : (((((words1.drop 24).drop 24).drop 24).drop 24).take 24).all (fun c => isCode c || c.before args0 about1) = true := by decide +kernel
set_option maxRecDepth 65536 in
theorem w_t6 : (((((words1.drop 24).drop 24).drop 24).drop 24).drop 24).all (fun c => isCode c || c.before args0 about1) = true := by decide +kernel
theorem w_tables : (allAtoms (Jvm.Cond.code x code maxLocals ret :: tables_1)).before args0 about1 = true := by
  rw [allAtoms_all]
  show words1.all (fun c => c.before args0 about1) = true
  refine all_split ?_ w_codes
  rw [← List.take_append_drop 24 words1, List.all_append, w_t1, ← List.take_append_drop 24 (words1.drop 24), List.all_append, w_t2, ← List.take_append_drop 24 ((words1.drop 24).drop 24), List.all_append, w_t3, ← List.take_append_drop 24 (((words1.drop 24).drop 24).drop 24), List.all_append, w_t4, ← List.take_append_drop 24 ((((words1.drop 24).drop 24).drop 24).drop 24), List.all_append, w_t5, w_t6]
  rfl
set_option maxRecDepth 65536 in
theorem w_rest : rest_1_c.before args0 about1 = true := by decide +kernel
set_option maxRecDepth 65536 in
theorem w_case : (Jvm.Cond.and given_1 narrow_1).before args0 about1 = true := by decide +kernel
set_option maxRecDepth 65536 in
theorem w_consts : constsHeld consts_1 about1 := Jvm.Lit.constsHeldB_iff.mp (by decide +kernel)
theorem w_applies : (headSpec (Jvm.Cond.code x code maxLocals ret :: tables_1) room_1).applies x e0.platform about1 = true :=
  (Spec.applies_iff w_frames).mpr ⟨w_running, w_runnable, w_alone, w_named, w_hears, w_ripe, w_room, w_tables⟩
theorem atStart : AtStart classFile x code maxLocals ret World_1 tables_1 room_1 Calls_1 rest_1 Pre_1 launch0 p0 e0 about1 theMethod args0 below0 :=
  ⟨lists_1, trivial, launch0.admits_env _ _ _, launch0.least_env, fairChoices_fair.cas, fairChoices_fair.clock, w_frames, w_args, w_heap, w_applies, ⟨w_consts, trivial⟩, w_rest, w_case⟩
end start1
theorem witness_1 : WitnessClaimed_1 := ⟨start1.p0, start1.e0, start1.about1, start1.theMethod, start1.args0, start1.below0, start1.atStart⟩
end Jvm.Pilot.@@N@@
