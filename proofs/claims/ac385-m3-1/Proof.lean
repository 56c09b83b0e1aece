import JvmDerived
import JvmDerived.Pilot.@@N@@Statement
import JvmDerived.Pilot.@@N@@Code
set_option linter.unusedVariables false
set_option linter.unusedSimpArgs false
namespace Jvm.Pilot.@@N@@
open Jvm Jvm.ClassFile Sem Op Lib Jvm.Free Jvm.Stand Jvm.LawKit Jvm.RoadKit Bundle Jvm.Pilot.@@N@@.Jvm.D
section Own
variable {p : Program} {l : Launch} {e : Env} {R : Room} {s : State} {m : MethodId} {args : Array Value} {below : List Frame} {meth : Method} {c : Code} {bytes : ByteArray} {mx : Nat} {rt : Option FieldType} {own nm : String} {Z : State} {Q : Option Value → Heap → Prop} {Ts Tq : List String} {Ax : List (String × Nat × Addr)} {fl : Bool} {pc : Nat} {ls : Array Slot} {st : List Value} {h : Heap} {cs sl : Nat} {a0 : Array Value}
/-- the tables at hand: no text but Ts has been interned since the start; the entries A are loaded -/
def own_S (Z s : State) (Ts : List String) (A : List (String × Nat × Addr)) (vm0 : Vm) (k0 : Nat) : Prop := s.Since vm0 k0 ∧ IB Z vm0 Ts ∧ (∀ q ∈ A, Jvm.RoadKit.Lit (s.setVm vm0) q.1 q.2.1 q.2.2) ∧ Ext Z.heap s.heap
/-- what is written lies in cells made since the case's start; and, while fl is true, since this body's start -/
def own_N (Z s : State) (fl : Bool) (L : List Loc) : Prop := Fr Z.heap.size L ∧ (fl = true → Fr s.heap.size L)
theorem own_ibEq {vm1 vm2 : Vm} (I : IB Z vm1 Ts) (e : vm2.interned = vm1.interned) : IB Z vm2 Ts := by
  obtain ⟨more, q, r⟩ := I
  exact ⟨more, e.trans q, r⟩
theorem own_ibMore {vm1 : Vm} {Ts' : List String} (I : IB Z vm1 Ts) (f : ∀ t ∈ Ts, t ∈ Ts') : IB Z vm1 Ts' := by
  obtain ⟨more, q, r⟩ := I
  exact ⟨more, q, fun x hx => by obtain ⟨t, ht, hd⟩ := r x hx; exact ⟨t, f t ht, hd⟩⟩
/-- from A the invocation comes back, and what it leaves is as Q says; nothing old is written -/
def own_G (p : Program) (e : Env) (s : State) (below : List Frame) (Z : State) (Q : Option Value → Heap → Prop) (Tq : List String) (cs sl : Nat) (A : State) : Prop :=
  ∃ s₂ o, Steps p.tables e below A s₂ ∧ s₂.status = .running ∧ Ended s₂ below o ∧ ∃ v L, o = .returned v ∧ (Q v s₂.heap ∧ Fr Z.heap.size L ∧ Old Z Z.heap.size s₂.heap ∧ IB Z s₂.vm Tq) ∧ ReturnedEndW s o s₂ L cs sl
theorem own_go {A B : State} (f : ∀ t, Steps p.tables e below B t → Steps p.tables e below A t) (k : own_G p e s below Z Q Tq cs sl B) : own_G p e s below Z Q Tq cs sl A := by
  obtain ⟨t, o, h1, h2⟩ := k
  exact ⟨t, o, f t h1, h2⟩
/-- the run, wherever it stands in this body with this pc, these locals, this stack and this heap, comes back as Q says -/
def own_K (p : Program) (l : Launch) (e : Env) (R : Room) (s : State) (m : MethodId) (args : Array Value) (below : List Frame) (meth : Method) (c : Code) (bytes : ByteArray) (mx : Nat) (rt : Option FieldType) (own nm : String) (Z : State) (Q : Option Value → Heap → Prop) (Tq : List String)
    (pc : Nat) (ls : Array Slot) (st : List Value) (h : Heap) (cs sl : Nat) (Ts : List String) (Ax : List (String × Nat × Addr)) (fl : Bool) : Prop :=
  ∀ (vm0 : Vm) (k0 : Nat) (_ : own_S Z s Ts Ax vm0 k0) (_ : k0 ≤ h.size) (T : State) (L : List Loc), p.tables.exec = Jvm.exec → c.code = bytes → c.maxLocals = mx → meth.sig.returnType = rt → meth.locks = false → (s.setVm vm0).vm.findClass own = some m.cls → meth.name = nm → Z.Warmed39 (s.setVm vm0).vm →
    Stand p l e R (s.setVm vm0) m args below meth c T L cs sl → T.heap = h → own_N Z s fl L → Old Z Z.heap.size h → own_G p e s below Z Q Tq R.cells R.slots (T.setTop (mkF m pc ls st))
/-- a body's contract, asked at the heap h0 -/
def own_Met (l : Launch) (Z : State) (y : MethodName) (bytes : ByteArray) (mx : Nat) (rt : Option FieldType) (ws : List Jvm.Cond) (rm : Room) (as : Array Value) (h0 : Heap) (Q : Option Value → Heap → Prop) (Ts Tq : List String) : Prop :=
  Old Z Z.heap.size h0 → MetFree l y (head1 (Jvm.Cond.code y bytes mx rt :: ws) rm) (fun a U => a = as ∧ Z.Warmed39 U.vm ∧ U.heap = h0 ∧ IB Z U.vm Ts) (fun _ _ _ _ _ => True)
    (fun _ U o U' => ∃ v L, o = .returned v ∧ (Q v U'.heap ∧ Fr Z.heap.size L ∧ Old Z Z.heap.size U'.heap ∧ IB Z U'.vm Tq) ∧ ReturnedEndW U o U' L rm.cells rm.slots)
theorem own_hkW {h h' : Heap} {a : Addr} {i k : Nat} {v : Value} (hk : k ≤ h.size) (W : Wr h h' a i v) : k ≤ h'.size := by
  obtain ⟨c, -, -, -, rfl⟩ := W
  rw [Array.size_setIfInBounds]; exact hk
def own_some (Qv : Value → Heap → Prop) : Option Value → Heap → Prop := fun v h => ∃ x, v = some x ∧ Qv x h
def own_none (Qn : Heap → Prop) : Option Value → Heap → Prop := fun v h => v = none ∧ Qn h
theorem own_met {y : MethodName} {ws : List Jvm.Cond} {rm : Room} {as : Array Value} {h0 : Heap} {ls0 : Array Slot} (pn : plainFor y = true) (hef : ∀ m, entryFrame m as mx = mkF m 0 ls0 [])
    (body : ∀ p e s m below meth c, own_K p l e rm s m as below meth c bytes mx rt y.cls y.name Z Q Tq 0 ls0 [] h0 0 0 Ts [] true) : own_Met l Z y bytes mx rt ws rm as h0 Q Ts Tq := by
  intro O
  refine MetFree.of_bodySF pn hisR ?_
  intro p e s m args below meth c s₁ Bd hml0 hP hK
  obtain ⟨rfl, hZ, hh, hI⟩ := hP
  have X0 : Stand p l e rm s m _ below meth c s₁ [] 0 0 := Stand.of_body Bd
  have e0 : s₁.heap = h0 := by rw [← hh, Bd.state]; rfl
  obtain ⟨t, o, h1, h2⟩ := body p e s m below meth c s₁.vm h0.size ⟨X0.warmed.since _, own_ibEq hI X0.warmed.interned_eq, fun q hq => absurd hq List.not_mem_nil, hh.symm ▸ O.2⟩ (Nat.le_refl _) s₁ [] Bd.exec Bd.bytes hml0 Bd.returns Bd.notSynchronized (by rw [show (s.setVm s₁.vm).vm = s₁.vm from rfl, X0.warmed.alike.findClass]; exact findClass_of_methodNamed Bd.named) (name_of_methodNamed Bd.named Bd.method).1 (wtrans hZ X0.warmed) (X0.retabled X0.warmed.wide) e0 ⟨Fr.nil _, fun _ => Fr.nil _⟩ O
  exact ⟨t, o, castTop (hef m) h1, h2⟩
theorem own_old (k : Old Z Z.heap.size h → own_K p l e R s m args below meth c bytes mx rt own nm Z Q Tq pc ls st h cs sl Ts Ax fl) : own_K p l e R s m args below meth c bytes mx rt own nm Z Q Tq pc ls st h cs sl Ts Ax fl := fun vm0 k0 hS hk T L a b c d e' f g i j n o q => k q vm0 k0 hS hk T L a b c d e' f g i j n o q
theorem own_more {cs' sl' : Nat} (h1 : cs ≤ cs') (h2 : sl ≤ sl') (k : own_K p l e R s m args below meth c bytes mx rt own nm Z Q Tq pc ls st h cs' sl' Ts Ax fl) : own_K p l e R s m args below meth c bytes mx rt own nm Z Q Tq pc ls st h cs sl Ts Ax fl := fun vm0 k0 hS hk T L a b c d e' f g i X n o q =>
  k vm0 k0 hS hk T L a b c d e' f g i ⟨X.admits, X.cas, X.clock, X.frames, X.room, X.hears, X.method, X.code, X.here, X.tail, X.warmed, X.limits, X.bytes, X.same.mono h1 h2⟩ n o q
/-- roads that come together: what holds from there on is shown once -/
theorem own_join {α : Type} {Ax' : List (String × Nat × Addr)} {fl' : Bool} (P : α → Prop) (pc' : Nat) (ls' : α → Array Slot) (st' : α → List Value) (hh : α → Heap) (cs' sl' : Nat) (Ts' : List String) (j : ∀ x, P x → own_K p l e R s m args below meth c bytes mx rt own nm Z Q Tq pc' (ls' x) (st' x) (hh x) cs' sl' Ts' Ax' fl') (k : (∀ x, P x → own_K p l e R s m args below meth c bytes mx rt own nm Z Q Tq pc' (ls' x) (st' x) (hh x) cs' sl' Ts' Ax' fl') → own_K p l e R s m args below meth c bytes mx rt own nm Z Q Tq pc ls st h cs sl Ts Ax fl) : own_K p l e R s m args below meth c bytes mx rt own nm Z Q Tq pc ls st h cs sl Ts Ax fl := k j
/-- a loop's head: by induction over the turns left -/
theorem own_loop {α : Type} {Ax' : List (String × Nat × Addr)} {fl' : Bool} (P : Nat → α → Prop) (pc' : Nat) (ls' : α → Array Slot) (st' : α → List Value) (hh : α → Heap) (cs' sl' : Nat) (Ts' : List String)
    (step : ∀ d x, P d x → (∀ d' x', d' < d → P d' x' → own_K p l e R s m args below meth c bytes mx rt own nm Z Q Tq pc' (ls' x') (st' x') (hh x') cs' sl' Ts' Ax' fl') → own_K p l e R s m args below meth c bytes mx rt own nm Z Q Tq pc' (ls' x) (st' x) (hh x) cs' sl' Ts' Ax' fl')
    (k : (∀ d x, P d x → own_K p l e R s m args below meth c bytes mx rt own nm Z Q Tq pc' (ls' x) (st' x) (hh x) cs' sl' Ts' Ax' fl') → own_K p l e R s m args below meth c bytes mx rt own nm Z Q Tq pc ls st h cs sl Ts Ax fl) : own_K p l e R s m args below meth c bytes mx rt own nm Z Q Tq pc ls st h cs sl Ts Ax fl :=
  k fun d => Nat.strongRecOn d fun d ih x hx => step d x hx fun d' x' hd hx' => ih d' hd x' hx'
/-- one plain step -/
theorem own_xs {r : Except ClassFile.DecodeError (ClassFile.Instr × Nat)} {pc' : Nat} {ls' : Array Slot} {st' : List Value} (hd : decode bytes pc = r)
    (k : own_K p l e R s m args below meth c bytes mx rt own nm Z Q Tq pc' ls' st' h cs sl Ts Ax fl)
    (f : ∀ (T t : State), At T m c below → p.tables.exec = Jvm.exec → decode c.code pc = r → Steps p.tables e below (T.setTop (mkF m pc' ls' st')) t → Steps p.tables e below (T.setTop (mkF m pc ls st)) t) : own_K p l e R s m args below meth c bytes mx rt own nm Z Q Tq pc ls st h cs sl Ts Ax fl := fun vm0 k0 hS hk T L hx hby hml hrt hlk hown hnm hZ X eT N O =>
  own_go (fun t q => f T t X.here hx (hb hby hd) q) (k vm0 k0 hS hk T L hx hby hml hrt hlk hown hnm hZ X eT N O)
theorem own_nop {A : Prop} (h : A) : A := h
-- loads and stores
theorem own_iloadN (pc' : Nat) (hp : pc + 1 = pc') {k : Fin 4} {v : Int32} (hd : decode bytes pc = .ok (.iload_n k, 1)) (hl : ls[k.val]? = some (.val (.int v))) (q : own_K p l e R s m args below meth c bytes mx rt own nm Z Q Tq pc' ls (.int v :: st) h cs sl Ts Ax fl) : own_K p l e R s m args below meth c bytes mx rt own nm Z Q Tq pc ls st h cs sl Ts Ax fl := by subst hp; exact own_xs hd q (fun T t ha hx hd => XS.iloadN (g := mkF m pc ls st) ha hx rfl hd hl)
theorem own_iload (pc' : Nat) (hp : pc + 2 = pc') {k : Nat} {v : Int32} (hd : decode bytes pc = .ok (.iload k, 2)) (hl : ls[k]? = some (.val (.int v))) (q : own_K p l e R s m args below meth c bytes mx rt own nm Z Q Tq pc' ls (.int v :: st) h cs sl Ts Ax fl) : own_K p l e R s m args below meth c bytes mx rt own nm Z Q Tq pc ls st h cs sl Ts Ax fl := by subst hp; exact own_xs hd q (fun T t ha hx hd => XS.iload (g := mkF m pc ls st) ha hx rfl hd hl)
theorem own_lloadN (pc' : Nat) (hp : pc + 1 = pc') {k : Fin 4} {v : Int64} (hd : decode bytes pc = .ok (.lload_n k, 1)) (hl : ls[k.val]? = some (.val (.long v))) (q : own_K p l e R s m args below meth c bytes mx rt own nm Z Q Tq pc' ls (.long v :: st) h cs sl Ts Ax fl) : own_K p l e R s m args below meth c bytes mx rt own nm Z Q Tq pc ls st h cs sl Ts Ax fl := by subst hp; exact own_xs hd q (fun T t ha hx hd => XS.lloadN (g := mkF m pc ls st) ha hx rfl hd hl)
theorem own_lload (pc' : Nat) (hp : pc + 2 = pc') {k : Nat} {v : Int64} (hd : decode bytes pc = .ok (.lload k, 2)) (hl : ls[k]? = some (.val (.long v))) (q : own_K p l e R s m args below meth c bytes mx rt own nm Z Q Tq pc' ls (.long v :: st) h cs sl Ts Ax fl) : own_K p l e R s m args below meth c bytes mx rt own nm Z Q Tq pc ls st h cs sl Ts Ax fl := by subst hp; exact own_xs hd q (fun T t ha hx hd => XS.lload (g := mkF m pc ls st) ha hx rfl hd hl)
theorem own_aloadN (pc' : Nat) (hp : pc + 1 = pc') {k : Fin 4} {v : Value} (hd : decode bytes pc = .ok (.aload_n k, 1)) (hl : ls[k.val]? = some (.val v)) (hv : v.isRef = true) (q : own_K p l e R s m args below meth c bytes mx rt own nm Z Q Tq pc' ls (v :: st) h cs sl Ts Ax fl) : own_K p l e R s m args below meth c bytes mx rt own nm Z Q Tq pc ls st h cs sl Ts Ax fl := by subst hp; exact own_xs hd q (fun T t ha hx hd => XS.aloadN (g := mkF m pc ls st) ha hx rfl hd hl hv)
theorem own_aload (pc' : Nat) (hp : pc + 2 = pc') {k : Nat} {v : Value} (hd : decode bytes pc = .ok (.aload k, 2)) (hl : ls[k]? = some (.val v)) (hv : v.isRef = true) (q : own_K p l e R s m args below meth c bytes mx rt own nm Z Q Tq pc' ls (v :: st) h cs sl Ts Ax fl) : own_K p l e R s m args below meth c bytes mx rt own nm Z Q Tq pc ls st h cs sl Ts Ax fl := by subst hp; exact own_xs hd q (fun T t ha hx hd => XS.aload (g := mkF m pc ls st) ha hx rfl hd hl hv)
theorem own_istoreN (pc' : Nat) (hp : pc + 1 = pc') (ls' : Array Slot) {k : Fin 4} {v : Int32} (hd : decode bytes pc = .ok (.istore_n k, 1)) (hl : storeLocals ls k.val (.int v) = some ls') (q : own_K p l e R s m args below meth c bytes mx rt own nm Z Q Tq pc' ls' st h cs sl Ts Ax fl) : own_K p l e R s m args below meth c bytes mx rt own nm Z Q Tq pc ls (.int v :: st) h cs sl Ts Ax fl := by subst hp; exact own_xs hd q (fun T t ha hx hd => XS.istoreN (g := mkF m pc ls (.int v :: st)) ha hx rfl hd rfl hl)
theorem own_istore (pc' : Nat) (hp : pc + 2 = pc') (ls' : Array Slot) {k : Nat} {v : Int32} (hd : decode bytes pc = .ok (.istore k, 2)) (hl : storeLocals ls k (.int v) = some ls') (q : own_K p l e R s m args below meth c bytes mx rt own nm Z Q Tq pc' ls' st h cs sl Ts Ax fl) : own_K p l e R s m args below meth c bytes mx rt own nm Z Q Tq pc ls (.int v :: st) h cs sl Ts Ax fl := by subst hp; exact own_xs hd q (fun T t ha hx hd => XS.istore (g := mkF m pc ls (.int v :: st)) ha hx rfl hd rfl hl)
theorem own_lstoreN (pc' : Nat) (hp : pc + 1 = pc') (ls' : Array Slot) {k : Fin 4} {v : Int64} (hd : decode bytes pc = .ok (.lstore_n k, 1)) (hl : storeLocals ls k.val (.long v) = some ls') (q : own_K p l e R s m args below meth c bytes mx rt own nm Z Q Tq pc' ls' st h cs sl Ts Ax fl) : own_K p l e R s m args below meth c bytes mx rt own nm Z Q Tq pc ls (.long v :: st) h cs sl Ts Ax fl := by subst hp; exact own_xs hd q (fun T t ha hx hd => XS.lstoreN (g := mkF m pc ls (.long v :: st)) ha hx rfl hd rfl hl)
theorem own_lstore (pc' : Nat) (hp : pc + 2 = pc') (ls' : Array Slot) {k : Nat} {v : Int64} (hd : decode bytes pc = .ok (.lstore k, 2)) (hl : storeLocals ls k (.long v) = some ls') (q : own_K p l e R s m args below meth c bytes mx rt own nm Z Q Tq pc' ls' st h cs sl Ts Ax fl) : own_K p l e R s m args below meth c bytes mx rt own nm Z Q Tq pc ls (.long v :: st) h cs sl Ts Ax fl := by subst hp; exact own_xs hd q (fun T t ha hx hd => XS.lstore (g := mkF m pc ls (.long v :: st)) ha hx rfl hd rfl hl)
theorem own_astoreN (pc' : Nat) (hp : pc + 1 = pc') (ls' : Array Slot) {k : Fin 4} {v : Value} (hd : decode bytes pc = .ok (.astore_n k, 1)) (hv : v.isRef = true) (hl : storeLocals ls k.val v = some ls') (q : own_K p l e R s m args below meth c bytes mx rt own nm Z Q Tq pc' ls' st h cs sl Ts Ax fl) : own_K p l e R s m args below meth c bytes mx rt own nm Z Q Tq pc ls (v :: st) h cs sl Ts Ax fl := by subst hp; exact own_xs hd q (fun T t ha hx hd => XS.astoreN (g := mkF m pc ls (v :: st)) ha hx rfl hd rfl hv hl)
theorem own_astore (pc' : Nat) (hp : pc + 2 = pc') (ls' : Array Slot) {k : Nat} {v : Value} (hd : decode bytes pc = .ok (.astore k, 2)) (hv : v.isRef = true) (hl : storeLocals ls k v = some ls') (q : own_K p l e R s m args below meth c bytes mx rt own nm Z Q Tq pc' ls' st h cs sl Ts Ax fl) : own_K p l e R s m args below meth c bytes mx rt own nm Z Q Tq pc ls (v :: st) h cs sl Ts Ax fl := by subst hp; exact own_xs hd q (fun T t ha hx hd => XS.astore (g := mkF m pc ls (v :: st)) ha hx rfl hd rfl hv hl)
theorem own_iinc (pc' : Nat) (hp : pc + 3 = pc') (ls' : Array Slot) {k : Nat} {i : Int} {x : Int32} (v : Int32) (hd : decode bytes pc = .ok (.iinc k i, 3)) (hv : Int32.ofInt i = v) (hl : ls[k]? = some (.val (.int x))) (hl' : storeLocals ls k (.int (x + v)) = some ls') (q : own_K p l e R s m args below meth c bytes mx rt own nm Z Q Tq pc' ls' st h cs sl Ts Ax fl) : own_K p l e R s m args below meth c bytes mx rt own nm Z Q Tq pc ls st h cs sl Ts Ax fl := by subst hp; subst hv; exact own_xs hd q (fun T t ha hx hd => XS.iinc (g := mkF m pc ls st) ha hx rfl hd hl hl')
-- constants
theorem own_iconst (pc' : Nat) (hp : pc + 1 = pc') (v : Int32) {i : Int} (hd : decode bytes pc = .ok (.iconst i, 1)) (hv : Int32.ofInt i = v) (q : own_K p l e R s m args below meth c bytes mx rt own nm Z Q Tq pc' ls (.int v :: st) h cs sl Ts Ax fl) : own_K p l e R s m args below meth c bytes mx rt own nm Z Q Tq pc ls st h cs sl Ts Ax fl := by subst hp; subst hv; exact own_xs hd q (fun T t ha hx hd => XS.iconst (g := mkF m pc ls st) ha hx rfl hd)
theorem own_bipush (pc' : Nat) (hp : pc + 2 = pc') (v : Int32) {i : Int} (hd : decode bytes pc = .ok (.bipush i, 2)) (hv : (Int8.ofInt i).toInt32 = v) (q : own_K p l e R s m args below meth c bytes mx rt own nm Z Q Tq pc' ls (.int v :: st) h cs sl Ts Ax fl) : own_K p l e R s m args below meth c bytes mx rt own nm Z Q Tq pc ls st h cs sl Ts Ax fl := by subst hp; subst hv; exact own_xs hd q (fun T t ha hx hd => XS.bipush (g := mkF m pc ls st) ha hx rfl hd)
theorem own_sipush (pc' : Nat) (hp : pc + 3 = pc') (v : Int32) {i : Int} (hd : decode bytes pc = .ok (.sipush i, 3)) (hv : (Int16.ofInt i).toInt32 = v) (q : own_K p l e R s m args below meth c bytes mx rt own nm Z Q Tq pc' ls (.int v :: st) h cs sl Ts Ax fl) : own_K p l e R s m args below meth c bytes mx rt own nm Z Q Tq pc ls st h cs sl Ts Ax fl := by subst hp; subst hv; exact own_xs hd q (fun T t ha hx hd => XS.sipush (g := mkF m pc ls st) ha hx rfl hd)
theorem own_lconst (pc' : Nat) (hp : pc + 1 = pc') (v : Int64) {i : Fin 2} (hd : decode bytes pc = .ok (.lconst i, 1)) (hv : Int64.ofNat i = v) (q : own_K p l e R s m args below meth c bytes mx rt own nm Z Q Tq pc' ls (.long v :: st) h cs sl Ts Ax fl) : own_K p l e R s m args below meth c bytes mx rt own nm Z Q Tq pc ls st h cs sl Ts Ax fl := by subst hp; subst hv; exact own_xs hd q (fun T t ha hx hd => XT.lconst (g := mkF m pc ls st) ha hx rfl hd)
theorem own_aconstNull (pc' : Nat) (hp : pc + 1 = pc') (hd : decode bytes pc = .ok (.aconst_null, 1)) (q : own_K p l e R s m args below meth c bytes mx rt own nm Z Q Tq pc' ls (.null :: st) h cs sl Ts Ax fl) : own_K p l e R s m args below meth c bytes mx rt own nm Z Q Tq pc ls st h cs sl Ts Ax fl := by subst hp; exact own_xs hd q (fun T t ha hx hd => XS.aconstNull (g := mkF m pc ls st) ha hx rfl hd)
theorem own_ldcInt (pc' : Nat) (hp : pc + 2 = pc') {v : Int32} {index : Nat} (w : (Jvm.Cond.constant own index v).before a0 Z = true) (hd : decode bytes pc = .ok (.ldc index, 2)) (q : own_K p l e R s m args below meth c bytes mx rt own nm Z Q Tq pc' ls (.int v :: st) h cs sl Ts Ax fl) : own_K p l e R s m args below meth c bytes mx rt own nm Z Q Tq pc ls st h cs sl Ts Ax fl := fun vm0 k0 hS hk T L hx hby hml hrt hlk hown hnm hZ X eT N O => by
  subst hp; exact own_go (X.ldcInt hx hown (mvT hZ w) (g := mkF m pc ls st) rfl (hb hby hd)) (q vm0 k0 hS hk T L hx hby hml hrt hlk hown hnm hZ X eT N O)
theorem own_ldc2Long (pc' : Nat) (hp : pc + 3 = pc') {v : Int64} {index : Nat} (w : (Jvm.Cond.constantLong own index v).before a0 Z = true) (hd : decode bytes pc = .ok (.ldc2_w index, 3)) (q : own_K p l e R s m args below meth c bytes mx rt own nm Z Q Tq pc' ls (.long v :: st) h cs sl Ts Ax fl) : own_K p l e R s m args below meth c bytes mx rt own nm Z Q Tq pc ls st h cs sl Ts Ax fl := fun vm0 k0 hS hk T L hx hby hml hrt hlk hown hnm hZ X eT N O => by
  subst hp; exact own_go (X.ldc2Long hx hown (mvT hZ w) (g := mkF m pc ls st) rfl (hb hby hd)) (q vm0 k0 hS hk T L hx hby hml hrt hlk hown hnm hZ X eT N O)
theorem own_ldcFloat (pc' : Nat) (hp : pc + 2 = pc') {b : UInt32} {index : Nat} (w : (Jvm.Cond.constantFloat own index b).before a0 Z = true) (hd : decode bytes pc = .ok (.ldc index, 2)) (q : own_K p l e R s m args below meth c bytes mx rt own nm Z Q Tq pc' ls (.float b :: st) h cs sl Ts Ax fl) : own_K p l e R s m args below meth c bytes mx rt own nm Z Q Tq pc ls st h cs sl Ts Ax fl := fun vm0 k0 hS hk T L hx hby hml hrt hlk hown hnm hZ X eT N O => by
  subst hp; exact own_go (X.ldcFloatC hx hown (mvT hZ w) (g := mkF m pc ls st) rfl (hb hby hd)) (q vm0 k0 hS hk T L hx hby hml hrt hlk hown hnm hZ X eT N O)
-- arithmetic
theorem own_iadd (pc' : Nat) (hp : pc + 1 = pc') {x y : Int32} (hd : decode bytes pc = .ok (.iadd, 1)) (q : own_K p l e R s m args below meth c bytes mx rt own nm Z Q Tq pc' ls (.int (x + y) :: st) h cs sl Ts Ax fl) : own_K p l e R s m args below meth c bytes mx rt own nm Z Q Tq pc ls (.int y :: .int x :: st) h cs sl Ts Ax fl := by subst hp; exact own_xs hd q (fun T t ha hx hd => XS.iadd (g := mkF m pc ls (.int y :: .int x :: st)) ha hx rfl hd rfl)
theorem own_isub (pc' : Nat) (hp : pc + 1 = pc') {x y : Int32} (hd : decode bytes pc = .ok (.isub, 1)) (q : own_K p l e R s m args below meth c bytes mx rt own nm Z Q Tq pc' ls (.int (x - y) :: st) h cs sl Ts Ax fl) : own_K p l e R s m args below meth c bytes mx rt own nm Z Q Tq pc ls (.int y :: .int x :: st) h cs sl Ts Ax fl := by subst hp; exact own_xs hd q (fun T t ha hx hd => XS.isub (g := mkF m pc ls (.int y :: .int x :: st)) ha hx rfl hd rfl)
theorem own_imul (pc' : Nat) (hp : pc + 1 = pc') {x y : Int32} (hd : decode bytes pc = .ok (.imul, 1)) (q : own_K p l e R s m args below meth c bytes mx rt own nm Z Q Tq pc' ls (.int (x * y) :: st) h cs sl Ts Ax fl) : own_K p l e R s m args below meth c bytes mx rt own nm Z Q Tq pc ls (.int y :: .int x :: st) h cs sl Ts Ax fl := by subst hp; exact own_xs hd q (fun T t ha hx hd => XS.imul (g := mkF m pc ls (.int y :: .int x :: st)) ha hx rfl hd rfl)
theorem own_iand (pc' : Nat) (hp : pc + 1 = pc') {x y : Int32} (hd : decode bytes pc = .ok (.iand, 1)) (q : own_K p l e R s m args below meth c bytes mx rt own nm Z Q Tq pc' ls (.int (x &&& y) :: st) h cs sl Ts Ax fl) : own_K p l e R s m args below meth c bytes mx rt own nm Z Q Tq pc ls (.int y :: .int x :: st) h cs sl Ts Ax fl := by subst hp; exact own_xs hd q (fun T t ha hx hd => XS.iand (g := mkF m pc ls (.int y :: .int x :: st)) ha hx rfl hd rfl)
theorem own_ior (pc' : Nat) (hp : pc + 1 = pc') {x y : Int32} (hd : decode bytes pc = .ok (.ior, 1)) (q : own_K p l e R s m args below meth c bytes mx rt own nm Z Q Tq pc' ls (.int (x ||| y) :: st) h cs sl Ts Ax fl) : own_K p l e R s m args below meth c bytes mx rt own nm Z Q Tq pc ls (.int y :: .int x :: st) h cs sl Ts Ax fl := by subst hp; exact own_xs hd q (fun T t ha hx hd => XS.ior (g := mkF m pc ls (.int y :: .int x :: st)) ha hx rfl hd rfl)
theorem own_ixor (pc' : Nat) (hp : pc + 1 = pc') {x y : Int32} (hd : decode bytes pc = .ok (.ixor, 1)) (q : own_K p l e R s m args below meth c bytes mx rt own nm Z Q Tq pc' ls (.int (x ^^^ y) :: st) h cs sl Ts Ax fl) : own_K p l e R s m args below meth c bytes mx rt own nm Z Q Tq pc ls (.int y :: .int x :: st) h cs sl Ts Ax fl := by subst hp; exact own_xs hd q (fun T t ha hx hd => XS.ixor (g := mkF m pc ls (.int y :: .int x :: st)) ha hx rfl hd rfl)
theorem own_idiv (pc' : Nat) (hp : pc + 1 = pc') {x y : Int32} (hd : decode bytes pc = .ok (.idiv, 1)) (hy : y ≠ 0) (q : own_K p l e R s m args below meth c bytes mx rt own nm Z Q Tq pc' ls (.int (x / y) :: st) h cs sl Ts Ax fl) : own_K p l e R s m args below meth c bytes mx rt own nm Z Q Tq pc ls (.int y :: .int x :: st) h cs sl Ts Ax fl := by subst hp; exact own_xs hd q (fun T t ha hx hd => XS.idiv (g := mkF m pc ls (.int y :: .int x :: st)) ha hx rfl hd rfl hy)
theorem own_irem (pc' : Nat) (hp : pc + 1 = pc') {x y : Int32} (hd : decode bytes pc = .ok (.irem, 1)) (hy : y ≠ 0) (q : own_K p l e R s m args below meth c bytes mx rt own nm Z Q Tq pc' ls (.int (x % y) :: st) h cs sl Ts Ax fl) : own_K p l e R s m args below meth c bytes mx rt own nm Z Q Tq pc ls (.int y :: .int x :: st) h cs sl Ts Ax fl := fun vm0 k0 hS hk T L hx hby hml hrt hlk hown hnm hZ X eT N O => by
  subst hp; exact own_go (fun t k => iremM (g := mkF m pc ls (.int y :: .int x :: st)) X hx rfl (hb hby hd) rfl hy k) (q vm0 k0 hS hk T L hx hby hml hrt hlk hown hnm hZ X eT N O)
theorem own_ineg (pc' : Nat) (hp : pc + 1 = pc') {x : Int32} (hd : decode bytes pc = .ok (.ineg, 1)) (q : own_K p l e R s m args below meth c bytes mx rt own nm Z Q Tq pc' ls (.int (-x) :: st) h cs sl Ts Ax fl) : own_K p l e R s m args below meth c bytes mx rt own nm Z Q Tq pc ls (.int x :: st) h cs sl Ts Ax fl := by subst hp; exact own_xs hd q (fun T t ha hx hd => XS.ineg (g := mkF m pc ls (.int x :: st)) ha hx rfl hd rfl)
theorem own_ishl (pc' : Nat) (hp : pc + 1 = pc') {x y : Int32} (hd : decode bytes pc = .ok (.ishl, 1)) (q : own_K p l e R s m args below meth c bytes mx rt own nm Z Q Tq pc' ls (.int (x <<< (y &&& 31)) :: st) h cs sl Ts Ax fl) : own_K p l e R s m args below meth c bytes mx rt own nm Z Q Tq pc ls (.int y :: .int x :: st) h cs sl Ts Ax fl := by subst hp; exact own_xs hd q (fun T t ha hx hd => XS.ishl (g := mkF m pc ls (.int y :: .int x :: st)) ha hx rfl hd rfl)
theorem own_ishr (pc' : Nat) (hp : pc + 1 = pc') {x y : Int32} (hd : decode bytes pc = .ok (.ishr, 1)) (q : own_K p l e R s m args below meth c bytes mx rt own nm Z Q Tq pc' ls (.int (x >>> (y &&& 31)) :: st) h cs sl Ts Ax fl) : own_K p l e R s m args below meth c bytes mx rt own nm Z Q Tq pc ls (.int y :: .int x :: st) h cs sl Ts Ax fl := by subst hp; exact own_xs hd q (fun T t ha hx hd => XS.ishr (g := mkF m pc ls (.int y :: .int x :: st)) ha hx rfl hd rfl)
theorem own_iushr (pc' : Nat) (hp : pc + 1 = pc') {x y : Int32} (hd : decode bytes pc = .ok (.iushr, 1)) (q : own_K p l e R s m args below meth c bytes mx rt own nm Z Q Tq pc' ls (.int ((x.toUInt32 >>> (y &&& 31).toUInt32).toInt32) :: st) h cs sl Ts Ax fl) : own_K p l e R s m args below meth c bytes mx rt own nm Z Q Tq pc ls (.int y :: .int x :: st) h cs sl Ts Ax fl := by subst hp; exact own_xs hd q (fun T t ha hx hd => XS.iushr (g := mkF m pc ls (.int y :: .int x :: st)) ha hx rfl hd rfl)
theorem own_i2l (pc' : Nat) (hp : pc + 1 = pc') {x : Int32} (hd : decode bytes pc = .ok (.i2l, 1)) (q : own_K p l e R s m args below meth c bytes mx rt own nm Z Q Tq pc' ls (.long x.toInt64 :: st) h cs sl Ts Ax fl) : own_K p l e R s m args below meth c bytes mx rt own nm Z Q Tq pc ls (.int x :: st) h cs sl Ts Ax fl := by subst hp; exact own_xs hd q (fun T t ha hx hd => XS.i2l (g := mkF m pc ls (.int x :: st)) ha hx rfl hd rfl)
theorem own_l2i (pc' : Nat) (hp : pc + 1 = pc') {x : Int64} (hd : decode bytes pc = .ok (.l2i, 1)) (q : own_K p l e R s m args below meth c bytes mx rt own nm Z Q Tq pc' ls (.int x.toInt32 :: st) h cs sl Ts Ax fl) : own_K p l e R s m args below meth c bytes mx rt own nm Z Q Tq pc ls (.long x :: st) h cs sl Ts Ax fl := by subst hp; exact own_xs hd q (fun T t ha hx hd => XS.l2i (g := mkF m pc ls (.long x :: st)) ha hx rfl hd rfl)
theorem own_i2b (pc' : Nat) (hp : pc + 1 = pc') {x : Int32} (hd : decode bytes pc = .ok (.i2b, 1)) (q : own_K p l e R s m args below meth c bytes mx rt own nm Z Q Tq pc' ls (.int x.toInt8.toInt32 :: st) h cs sl Ts Ax fl) : own_K p l e R s m args below meth c bytes mx rt own nm Z Q Tq pc ls (.int x :: st) h cs sl Ts Ax fl := by subst hp; exact own_xs hd q (fun T t ha hx hd => XS.i2b (g := mkF m pc ls (.int x :: st)) ha hx rfl hd rfl)
theorem own_i2c (pc' : Nat) (hp : pc + 1 = pc') {x : Int32} (hd : decode bytes pc = .ok (.i2c, 1)) (q : own_K p l e R s m args below meth c bytes mx rt own nm Z Q Tq pc' ls (.int x.toUInt32.toUInt16.toUInt32.toInt32 :: st) h cs sl Ts Ax fl) : own_K p l e R s m args below meth c bytes mx rt own nm Z Q Tq pc ls (.int x :: st) h cs sl Ts Ax fl := by subst hp; exact own_xs hd q (fun T t ha hx hd => XS.i2c (g := mkF m pc ls (.int x :: st)) ha hx rfl hd rfl)
theorem own_ladd (pc' : Nat) (hp : pc + 1 = pc') {x y : Int64} (hd : decode bytes pc = .ok (.ladd, 1)) (q : own_K p l e R s m args below meth c bytes mx rt own nm Z Q Tq pc' ls (.long (x + y) :: st) h cs sl Ts Ax fl) : own_K p l e R s m args below meth c bytes mx rt own nm Z Q Tq pc ls (.long y :: .long x :: st) h cs sl Ts Ax fl := by subst hp; exact own_xs hd q (fun T t ha hx hd => XS.ladd (g := mkF m pc ls (.long y :: .long x :: st)) ha hx rfl hd rfl)
theorem own_lsub (pc' : Nat) (hp : pc + 1 = pc') {x y : Int64} (hd : decode bytes pc = .ok (.lsub, 1)) (q : own_K p l e R s m args below meth c bytes mx rt own nm Z Q Tq pc' ls (.long (x - y) :: st) h cs sl Ts Ax fl) : own_K p l e R s m args below meth c bytes mx rt own nm Z Q Tq pc ls (.long y :: .long x :: st) h cs sl Ts Ax fl := by subst hp; exact own_xs hd q (fun T t ha hx hd => XS.lsub (g := mkF m pc ls (.long y :: .long x :: st)) ha hx rfl hd rfl)
theorem own_lmul (pc' : Nat) (hp : pc + 1 = pc') {x y : Int64} (hd : decode bytes pc = .ok (.lmul, 1)) (q : own_K p l e R s m args below meth c bytes mx rt own nm Z Q Tq pc' ls (.long (x * y) :: st) h cs sl Ts Ax fl) : own_K p l e R s m args below meth c bytes mx rt own nm Z Q Tq pc ls (.long y :: .long x :: st) h cs sl Ts Ax fl := by subst hp; exact own_xs hd q (fun T t ha hx hd => XS.lmul (g := mkF m pc ls (.long y :: .long x :: st)) ha hx rfl hd rfl)
theorem own_land (pc' : Nat) (hp : pc + 1 = pc') {x y : Int64} (hd : decode bytes pc = .ok (.land, 1)) (q : own_K p l e R s m args below meth c bytes mx rt own nm Z Q Tq pc' ls (.long (x &&& y) :: st) h cs sl Ts Ax fl) : own_K p l e R s m args below meth c bytes mx rt own nm Z Q Tq pc ls (.long y :: .long x :: st) h cs sl Ts Ax fl := by subst hp; exact own_xs hd q (fun T t ha hx hd => XS.land (g := mkF m pc ls (.long y :: .long x :: st)) ha hx rfl hd rfl)
theorem own_lxor (pc' : Nat) (hp : pc + 1 = pc') {x y : Int64} (hd : decode bytes pc = .ok (.lxor, 1)) (q : own_K p l e R s m args below meth c bytes mx rt own nm Z Q Tq pc' ls (.long (x ^^^ y) :: st) h cs sl Ts Ax fl) : own_K p l e R s m args below meth c bytes mx rt own nm Z Q Tq pc ls (.long y :: .long x :: st) h cs sl Ts Ax fl := by subst hp; exact own_xs hd q (fun T t ha hx hd => XS.lxor (g := mkF m pc ls (.long y :: .long x :: st)) ha hx rfl hd rfl)
theorem own_ldiv (pc' : Nat) (hp : pc + 1 = pc') {x y : Int64} (hd : decode bytes pc = .ok (.ldiv, 1)) (hy : y ≠ 0) (q : own_K p l e R s m args below meth c bytes mx rt own nm Z Q Tq pc' ls (.long (x / y) :: st) h cs sl Ts Ax fl) : own_K p l e R s m args below meth c bytes mx rt own nm Z Q Tq pc ls (.long y :: .long x :: st) h cs sl Ts Ax fl := by subst hp; exact own_xs hd q (fun T t ha hx hd => XS.ldiv (g := mkF m pc ls (.long y :: .long x :: st)) ha hx rfl hd rfl hy)
theorem own_lrem (pc' : Nat) (hp : pc + 1 = pc') {x y : Int64} (hd : decode bytes pc = .ok (.lrem, 1)) (hy : y ≠ 0) (q : own_K p l e R s m args below meth c bytes mx rt own nm Z Q Tq pc' ls (.long (x % y) :: st) h cs sl Ts Ax fl) : own_K p l e R s m args below meth c bytes mx rt own nm Z Q Tq pc ls (.long y :: .long x :: st) h cs sl Ts Ax fl := by subst hp; rw [← lrem_mod] at q; exact own_xs hd q (fun T t ha hx hd => XT.lrem (g := mkF m pc ls (.long y :: .long x :: st)) ha hx rfl hd rfl hy)
theorem own_lneg (pc' : Nat) (hp : pc + 1 = pc') {x : Int64} (hd : decode bytes pc = .ok (.lneg, 1)) (q : own_K p l e R s m args below meth c bytes mx rt own nm Z Q Tq pc' ls (.long (-x) :: st) h cs sl Ts Ax fl) : own_K p l e R s m args below meth c bytes mx rt own nm Z Q Tq pc ls (.long x :: st) h cs sl Ts Ax fl := by subst hp; exact own_xs hd q (fun T t ha hx hd => XS.lneg (g := mkF m pc ls (.long x :: st)) ha hx rfl hd rfl)
theorem own_lcmp (pc' : Nat) (hp : pc + 1 = pc') {x y : Int64} (hd : decode bytes pc = .ok (.lcmp, 1)) (q : own_K p l e R s m args below meth c bytes mx rt own nm Z Q Tq pc' ls (.int (lcmpW x y) :: st) h cs sl Ts Ax fl) : own_K p l e R s m args below meth c bytes mx rt own nm Z Q Tq pc ls (.long y :: .long x :: st) h cs sl Ts Ax fl := by subst hp; exact own_xs hd q (fun T t ha hx hd => XS.lcmp (g := mkF m pc ls (.long y :: .long x :: st)) ha hx rfl hd rfl)
-- the stack
theorem own_dup (pc' : Nat) (hp : pc + 1 = pc') {x : Value} (hd : decode bytes pc = .ok (.dup, 1)) (hc : x.category = 1) (q : own_K p l e R s m args below meth c bytes mx rt own nm Z Q Tq pc' ls (x :: x :: st) h cs sl Ts Ax fl) : own_K p l e R s m args below meth c bytes mx rt own nm Z Q Tq pc ls (x :: st) h cs sl Ts Ax fl := by subst hp; exact own_xs hd q (fun T t ha hx hd => XS.dup (g := mkF m pc ls (x :: st)) ha hx rfl hd rfl hc)
theorem own_pop (pc' : Nat) (hp : pc + 1 = pc') {x : Value} (hd : decode bytes pc = .ok (.pop, 1)) (hc : x.category = 1) (q : own_K p l e R s m args below meth c bytes mx rt own nm Z Q Tq pc' ls st h cs sl Ts Ax fl) : own_K p l e R s m args below meth c bytes mx rt own nm Z Q Tq pc ls (x :: st) h cs sl Ts Ax fl := by subst hp; exact own_xs hd q (fun T t ha hx hd => XS.pop (g := mkF m pc ls (x :: st)) ha hx rfl hd rfl hc)
theorem own_dupX1 (pc' : Nat) (hp : pc + 1 = pc') {x y : Value} (hd : decode bytes pc = .ok (.dup_x1, 1)) (hc : x.category = 1) (hc' : y.category = 1) (q : own_K p l e R s m args below meth c bytes mx rt own nm Z Q Tq pc' ls (x :: y :: x :: st) h cs sl Ts Ax fl) : own_K p l e R s m args below meth c bytes mx rt own nm Z Q Tq pc ls (x :: y :: st) h cs sl Ts Ax fl := by subst hp; exact own_xs hd q (fun T t ha hx hd => XT.dupX1 (g := mkF m pc ls (x :: y :: st)) ha hx rfl hd rfl hc hc')
theorem own_dup2 (pc' : Nat) (hp : pc + 1 = pc') {x y : Value} (hd : decode bytes pc = .ok (.dup2, 1)) (hc : x.category = 1) (hc' : y.category = 1) (q : own_K p l e R s m args below meth c bytes mx rt own nm Z Q Tq pc' ls (x :: y :: x :: y :: st) h cs sl Ts Ax fl) : own_K p l e R s m args below meth c bytes mx rt own nm Z Q Tq pc ls (x :: y :: st) h cs sl Ts Ax fl := by subst hp; exact own_xs hd q (fun T t ha hx hd => XT.dup2 (g := mkF m pc ls (x :: y :: st)) ha hx rfl hd rfl hc hc')
-- branches
theorem own_goto (pc' : Nat) {o : Int} (hd : decode bytes pc = .ok (.goto o, 3)) (ho : 0 ≤ (pc : Int) + o) (hp : ((pc : Int) + o).toNat = pc') (q : own_K p l e R s m args below meth c bytes mx rt own nm Z Q Tq pc' ls st h cs sl Ts Ax fl) : own_K p l e R s m args below meth c bytes mx rt own nm Z Q Tq pc ls st h cs sl Ts Ax fl := own_xs hd q (fun T t ha hx hd => XS.goto (g := mkF m pc ls st) ha hx rfl rfl hd ho hp)
theorem own_ifYes (pc' : Nat) {cd : ClassFile.Cond} {x : Int32} {o : Int} (hd : decode bytes pc = .ok (.ifCond cd o, 3)) (hc : if_icmp.holds cd x 0 = true) (ho : 0 ≤ (pc : Int) + o) (hp : ((pc : Int) + o).toNat = pc') (q : own_K p l e R s m args below meth c bytes mx rt own nm Z Q Tq pc' ls st h cs sl Ts Ax fl) : own_K p l e R s m args below meth c bytes mx rt own nm Z Q Tq pc ls (.int x :: st) h cs sl Ts Ax fl := own_xs hd q (fun T t ha hx hd => XS.ifYes (g := mkF m pc ls (.int x :: st)) ha hx rfl rfl hd rfl ((if0 _ _).trans hc) ho hp)
theorem own_ifNo (pc' : Nat) (hp : pc + 3 = pc') {cd : ClassFile.Cond} {x : Int32} {o : Int} (hd : decode bytes pc = .ok (.ifCond cd o, 3)) (hc : if_icmp.holds cd x 0 = false) (q : own_K p l e R s m args below meth c bytes mx rt own nm Z Q Tq pc' ls st h cs sl Ts Ax fl) : own_K p l e R s m args below meth c bytes mx rt own nm Z Q Tq pc ls (.int x :: st) h cs sl Ts Ax fl := by subst hp; exact own_xs hd q (fun T t ha hx hd => XS.ifNo (g := mkF m pc ls (.int x :: st)) ha hx rfl hd rfl ((if0 _ _).trans hc))
theorem own_icmpYes (pc' : Nat) {cd : ClassFile.Cond} {x y : Int32} {o : Int} (hd : decode bytes pc = .ok (.if_icmp cd o, 3)) (hc : if_icmp.holds cd x y = true) (ho : 0 ≤ (pc : Int) + o) (hp : ((pc : Int) + o).toNat = pc') (q : own_K p l e R s m args below meth c bytes mx rt own nm Z Q Tq pc' ls st h cs sl Ts Ax fl) : own_K p l e R s m args below meth c bytes mx rt own nm Z Q Tq pc ls (.int y :: .int x :: st) h cs sl Ts Ax fl := own_xs hd q (fun T t ha hx hd => XS.icmpYes (g := mkF m pc ls (.int y :: .int x :: st)) ha hx rfl rfl hd rfl hc ho hp)
theorem own_icmpNo (pc' : Nat) (hp : pc + 3 = pc') {cd : ClassFile.Cond} {x y : Int32} {o : Int} (hd : decode bytes pc = .ok (.if_icmp cd o, 3)) (hc : if_icmp.holds cd x y = false) (q : own_K p l e R s m args below meth c bytes mx rt own nm Z Q Tq pc' ls st h cs sl Ts Ax fl) : own_K p l e R s m args below meth c bytes mx rt own nm Z Q Tq pc ls (.int y :: .int x :: st) h cs sl Ts Ax fl := by subst hp; exact own_xs hd q (fun T t ha hx hd => XS.icmpNo (g := mkF m pc ls (.int y :: .int x :: st)) ha hx rfl hd rfl hc)
theorem own_acmpYes (pc' : Nat) {cd : ClassFile.ACond} {x y : Value} {o : Int} (hd : decode bytes pc = .ok (.if_acmp cd o, 3)) (hx' : x.isRef = true) (hy' : y.isRef = true) (hc : XT.acmp cd x y = true) (ho : 0 ≤ (pc : Int) + o) (hp : ((pc : Int) + o).toNat = pc') (q : own_K p l e R s m args below meth c bytes mx rt own nm Z Q Tq pc' ls st h cs sl Ts Ax fl) : own_K p l e R s m args below meth c bytes mx rt own nm Z Q Tq pc ls (y :: x :: st) h cs sl Ts Ax fl := own_xs hd q (fun T t ha hx hd => XT.acmpYes (g := mkF m pc ls (y :: x :: st)) ha hx rfl rfl hd rfl hx' hy' hc ho hp)
theorem own_acmpNo (pc' : Nat) (hp : pc + 3 = pc') {cd : ClassFile.ACond} {x y : Value} {o : Int} (hd : decode bytes pc = .ok (.if_acmp cd o, 3)) (hx' : x.isRef = true) (hy' : y.isRef = true) (hc : XT.acmp cd x y = false) (q : own_K p l e R s m args below meth c bytes mx rt own nm Z Q Tq pc' ls st h cs sl Ts Ax fl) : own_K p l e R s m args below meth c bytes mx rt own nm Z Q Tq pc ls (y :: x :: st) h cs sl Ts Ax fl := by subst hp; exact own_xs hd q (fun T t ha hx hd => XT.acmpNo (g := mkF m pc ls (y :: x :: st)) ha hx rfl hd rfl hx' hy' hc)
theorem own_teq {x y : Value} (q : x = y) : XT.acmp .eq x y = true ∧ XT.acmp .ne x y = false := ⟨decide_eq_true q, decide_eq_false fun f => f q⟩
theorem own_feq {x y : Value} (q : ¬ x = y) : XT.acmp .eq x y = false ∧ XT.acmp .ne x y = true := ⟨decide_eq_false q, decide_eq_true q⟩
theorem own_ifnullYes (pc' : Nat) {o : Int} (hd : decode bytes pc = .ok (.ifnull o, 3)) (ho : 0 ≤ (pc : Int) + o) (hp : ((pc : Int) + o).toNat = pc') (q : own_K p l e R s m args below meth c bytes mx rt own nm Z Q Tq pc' ls st h cs sl Ts Ax fl) : own_K p l e R s m args below meth c bytes mx rt own nm Z Q Tq pc ls (.null :: st) h cs sl Ts Ax fl := own_xs hd q (fun T t ha hx hd => XS.ifnullYes (g := mkF m pc ls (.null :: st)) ha hx rfl rfl hd rfl ho hp)
theorem own_ifnullNo (pc' : Nat) (hp : pc + 3 = pc') {b : Addr} {o : Int} (hd : decode bytes pc = .ok (.ifnull o, 3)) (q : own_K p l e R s m args below meth c bytes mx rt own nm Z Q Tq pc' ls st h cs sl Ts Ax fl) : own_K p l e R s m args below meth c bytes mx rt own nm Z Q Tq pc ls (.ref b :: st) h cs sl Ts Ax fl := by subst hp; exact own_xs hd q (fun T t ha hx hd => XS.ifnullNo (g := mkF m pc ls (.ref b :: st)) ha hx rfl hd rfl)
theorem own_ifnonnullYes (pc' : Nat) {b : Addr} {o : Int} (hd : decode bytes pc = .ok (.ifnonnull o, 3)) (ho : 0 ≤ (pc : Int) + o) (hp : ((pc : Int) + o).toNat = pc') (q : own_K p l e R s m args below meth c bytes mx rt own nm Z Q Tq pc' ls st h cs sl Ts Ax fl) : own_K p l e R s m args below meth c bytes mx rt own nm Z Q Tq pc ls (.ref b :: st) h cs sl Ts Ax fl := own_xs hd q (fun T t ha hx hd => XT.ifnonnullYes (g := mkF m pc ls (.ref b :: st)) ha hx rfl rfl hd rfl ho hp)
theorem own_ifnonnullNo (pc' : Nat) (hp : pc + 3 = pc') {o : Int} (hd : decode bytes pc = .ok (.ifnonnull o, 3)) (q : own_K p l e R s m args below meth c bytes mx rt own nm Z Q Tq pc' ls st h cs sl Ts Ax fl) : own_K p l e R s m args below meth c bytes mx rt own nm Z Q Tq pc ls (.null :: st) h cs sl Ts Ax fl := by subst hp; exact own_xs hd q (fun T t ha hx hd => XT.ifnonnullNo (g := mkF m pc ls (.null :: st)) ha hx rfl hd rfl)
-- fields
theorem own_getF (pc' : Nat) (hp : pc + 3 = pc') {R0 O n d host : String} {index : Nat} (w : (Jvm.Cond.fieldLink own index R0 n d).before a0 Z = true ∨ (Jvm.Cond.fieldLinkNest own index R0 n d host).before a0 Z = true) (via : Via Z R0 O n d) {a : Addr} {v : Value} (F : Fld Z h a O n d v) (hd : decode bytes pc = .ok (.getfield index, 3))
    (q : own_K p l e R s m args below meth c bytes mx rt own nm Z Q Tq pc' ls (v :: st) h cs sl Ts Ax fl) : own_K p l e R s m args below meth c bytes mx rt own nm Z Q Tq pc ls (.ref a :: st) h cs sl Ts Ax fl := fun vm0 k0 hS hk T L hx hby hml hrt hlk hown hnm hZ X eT N O' => by
  subst hp
  obtain ⟨T', X', e', s'⟩ := getF X hx hZ hown w via eT F (g := mkF m pc ls (.ref a :: st)) rfl rfl (hb hby hd)
  exact own_go s' (q vm0 k0 hS hk T' L hx hby hml hrt hlk hown hnm hZ X' e' N O')
theorem own_getS (pc' : Nat) (hp : pc + 3 = pc') {R0 O n d host : String} {index : Nat} (w : (Jvm.Cond.fieldLink own index R0 n d).before a0 Z = true ∨ (Jvm.Cond.fieldLinkNest own index R0 n d host).before a0 Z = true) (via : Via Z R0 O n d) {v : Value} (F : Sta Z Z.heap O n d v) (hd : decode bytes pc = .ok (.getstatic index, 3))
    (q : own_K p l e R s m args below meth c bytes mx rt own nm Z Q Tq pc' ls (v :: st) h cs sl Ts Ax fl) : own_K p l e R s m args below meth c bytes mx rt own nm Z Q Tq pc ls st h cs sl Ts Ax fl := fun vm0 k0 hS hk T L hx hby hml hrt hlk hown hnm hZ X eT N O' => by
  subst hp
  obtain ⟨T', X', e', s'⟩ := getS2 X hx hZ hown w via eT (F.ext O'.2) (g := mkF m pc ls st) rfl (hb hby hd)
  exact own_go s' (q vm0 k0 hS hk T' L hx hby hml hrt hlk hown hnm hZ X' e' N O')
theorem own_putF (pc' : Nat) (hp : pc + 3 = pc') {R0 O n d host C : String} {index kk : Nat} {ty : FieldType} (w : (Jvm.Cond.fieldLink own index R0 n d).before a0 Z = true ∨ (Jvm.Cond.fieldLinkNest own index R0 n d host).before a0 Z = true) (via : Via Z R0 O n d) {a : Addr} {v old : Value} (ga : Z.heap.size ≤ a) (F : Fld Z h a O n d old) (E : Exa Z h a C)
    (L0 : (Jvm.Cond.lays C O n d).before a0 Z = true ∨ ((Jvm.Cond.laysFinal C O n d).before a0 Z = true ∧ own = O ∧ nm = "<init>")) (wi : (Jvm.Cond.instantiable C kk).before a0 Z = true) (hty : parseFieldDescriptor d = some ty) (hn : narrow ty v = v) (hf : fits ty v = true) (hd : decode bytes pc = .ok (.putfield index, 3))
    (q : ∀ h', Wr h h' a (Jvm.RoadKit.slotOf Z O n d) v → own_K p l e R s m args below meth c bytes mx rt own nm Z Q Tq pc' ls st h' cs sl Ts Ax false) : own_K p l e R s m args below meth c bytes mx rt own nm Z Q Tq pc ls (v :: .ref a :: st) h cs sl Ts Ax fl := fun vm0 k0 hS hk T L hx hby hml hrt hlk hown hnm hZ X eT N O' => by
  subst hp
  obtain ⟨T', h', X', e', W', s'⟩ := putF X hx hZ hown w via eT F E (L0.imp id fun u => ⟨u.1, u.2.1, hnm.trans u.2.2⟩) wi hty hn hf (g := mkF m pc ls (v :: .ref a :: st)) rfl rfl (hb hby hd)
  exact own_go s' (q h' W' vm0 k0 hS (own_hkW hk W') T' _ hx hby hml hrt hlk hown hnm hZ X' e' ⟨Fr.snoc X' N.1 ga, nofun⟩ (O'.wr W' ga))
-- objects and arrays
theorem own_newO (pc' : Nat) (hp : pc + 3 = pc') (cs' sl' : Nat) {C : String} {index n : Nat} (w : (Jvm.Cond.classLink own index C).before a0 Z = true) (wi : (Jvm.Cond.instantiable C n).before a0 Z = true) (wz : (Jvm.Cond.initialized C).before a0 Z = true) (hd : decode bytes pc = .ok (.new index, 3)) (hcs : cs + 1 = cs') (hsl : sl + n = sl') (hc : cs' ≤ R.cells) (hl : sl' ≤ R.slots)
    (q : ∀ h' (a : Addr), a = h.size → Z.heap.size ≤ a → Ext h h' → Exa Z h' a C → (∀ {O nm d : String} {ty : FieldType}, Laid Z a0 C O nm d → parseFieldDescriptor d = some ty → Fld Z h' a O nm d (defaultValue ty)) → own_K p l e R s m args below meth c bytes mx rt own nm Z Q Tq pc' ls (.ref a :: st) h' cs' sl' Ts Ax fl) : own_K p l e R s m args below meth c bytes mx rt own nm Z Q Tq pc ls st h cs sl Ts Ax fl := fun vm0 k0 hS hk T L hx hby hml hrt hlk hown hnm hZ X eT N O' => by
  subst hp; subst hcs; subst hsl
  obtain ⟨T', h', X', e', E', A', D', -, s'⟩ := newO X hx hZ hown w wi wz eT (g := mkF m pc ls st) rfl (hb hby hd) hc hl
  exact own_go s' (q h' _ rfl O'.2.1 E' A' D' vm0 k0 hS (Nat.le_trans hk E'.1) T' _ hx hby hml hrt hlk hown hnm hZ X' e' N (O'.ext E'))
theorem own_newP (pc' : Nat) (hp : pc + 2 = pc') (cs' sl' cap : Nat) (ad : String) {aty : ArrayType} (had : "[" ++ (newarray.typeOf aty).toString = ad) (w : (Jvm.Cond.arrayClass (newarray.typeOf aty)).before a0 Z = true) (hd : decode bytes pc = .ok (.newarray aty, 2)) {n : Int32} (hn : ¬ n < 0) (hcap : n.toNatClampNeg ≤ cap) (hb' : cap * 8 ≤ 536870912) (hcs : cs + 1 = cs') (hsl : sl + cap = sl') (hc : cs' ≤ R.cells) (hl : sl' ≤ R.slots)
    (q : ∀ h' (a : Addr) k, a = h.size → Z.heap.size ≤ a → Ext h h' → Arv Z h' a k (newarray.typeOf aty) n [] (defaultValue (newarray.typeOf aty)) → Exa Z h' a ad → own_K p l e R s m args below meth c bytes mx rt own nm Z Q Tq pc' ls (.ref a :: st) h' cs' sl' Ts Ax fl) : own_K p l e R s m args below meth c bytes mx rt own nm Z Q Tq pc ls (.int n :: st) h cs sl Ts Ax fl := fun vm0 k0 hS hk T L hx hby hml hrt hlk hown hnm hZ X eT N O' => by
  subst hp; subst hcs; subst hsl
  obtain ⟨T', h', cA, X', e', E', A', C', s'⟩ := newPE X hx hZ w eT (g := mkF m pc ls (.int n :: st)) rfl (hb hby hd) rfl hn hcap hb' hc hl had
  exact own_go s' (q h' _ cA rfl O'.2.1 E' (Arv.new A' hn) C' vm0 k0 hS (Nat.le_trans hk E'.1) T' _ hx hby hml hrt hlk hown hnm hZ X' e' N (O'.ext E'))
theorem own_newR (pc' : Nat) (hp : pc + 3 = pc') (cs' sl' cap : Nat) {C : String} {index : Nat} (w1 : (Jvm.Cond.classLink own index C).before a0 Z = true) (w2 : (Jvm.Cond.arrayOver (.object C)).before a0 Z = true) (hd : decode bytes pc = .ok (.anewarray index, 3)) {n : Int32} (hn : ¬ n < 0) (hcap : n.toNatClampNeg ≤ cap) (hb' : cap * 8 ≤ 536870912) (hcs : cs + 1 = cs') (hsl : sl + cap = sl') (hc : cs' ≤ R.cells) (hl : sl' ≤ R.slots)
    (q : ∀ h' (a : Addr) k, a = h.size → Z.heap.size ≤ a → Ext h h' → Arv Z h' a k (.object C) n [] .null → Ovr Z k C → own_K p l e R s m args below meth c bytes mx rt own nm Z Q Tq pc' ls (.ref a :: st) h' cs' sl' Ts Ax fl) : own_K p l e R s m args below meth c bytes mx rt own nm Z Q Tq pc ls (.int n :: st) h cs sl Ts Ax fl := fun vm0 k0 hS hk T L hx hby hml hrt hlk hown hnm hZ X eT N O' => by
  subst hp; subst hcs; subst hsl
  obtain ⟨T', h', cA, X', e', E', A', V', s'⟩ := newR X hx hZ hown w1 w2 eT (g := mkF m pc ls (.int n :: st)) rfl (hb hby hd) rfl hn hcap hb' hc hl
  exact own_go s' (q h' _ cA rfl O'.2.1 E' (Arv.new A' hn) V' vm0 k0 hS (Nat.le_trans hk E'.1) T' _ hx hby hml hrt hlk hown hnm hZ X' e' N (O'.ext E'))
theorem own_initO (pc' : Nat) (hp : pc + 3 = pc') {index : Nat} (w1 : (Jvm.Cond.methodLink own index Lib.objectInit).before a0 Z = true) (w2 : (Jvm.Cond.instanceMethod Lib.objectInit).before a0 Z = true) (w3 : (Jvm.Cond.code Lib.objectInit ⟨#[0xb1]⟩ 1 none).before a0 Z = true) {a : Addr} (hd : decode bytes pc = .ok (.invokespecial index, 3)) (hls : ls.size = mx) (hf : 1 ≤ R.frames) (W : Nat) (hW : (st.map fun v => v.category).sum ≤ W) (hl : W + 12 ≤ R.locals)
    (q : own_K p l e R s m args below meth c bytes mx rt own nm Z Q Tq pc' ls st h cs sl Ts Ax fl) : own_K p l e R s m args below meth c bytes mx rt own nm Z Q Tq pc ls (.ref a :: st) h cs sl Ts Ax fl := fun vm0 k0 hS hk T L hx hby hml hrt hlk hown hnm hZ X eT N O' => by
  subst hp
  obtain ⟨T', X', e', s'⟩ := initO X hx hZ hown w1 w2 w3 eT (g := mkF m pc ls (.ref a :: st)) rfl (hls.trans hml.symm) rfl (hb hby hd) hf (W := W) (by simpa using hW) hl
  exact own_go s' (q vm0 k0 hS hk T' L hx hby hml hrt hlk hown hnm hZ X' e' N O')
theorem own_alen (pc' : Nat) (hp : pc + 1 = pc') {a : Addr} {cl : Cell} {ty : FieldType} (A : Arr Z h a cl ty) (n : Int32) (hn : cl.slots.size.toInt32 = n) (hd : decode bytes pc = .ok (.arraylength, 1))
    (q : own_K p l e R s m args below meth c bytes mx rt own nm Z Q Tq pc' ls (.int n :: st) h cs sl Ts Ax fl) : own_K p l e R s m args below meth c bytes mx rt own nm Z Q Tq pc ls (.ref a :: st) h cs sl Ts Ax fl := fun vm0 k0 hS hk T L hx hby hml hrt hlk hown hnm hZ X eT N O' => by
  subst hp; subst hn
  exact own_go (X.arraylength hx (by rw [eT]; exact A.1) (State.isArrayOf_alike hZ.alike A.2.1) (g := mkF m pc ls (.ref a :: st)) rfl rfl (hb hby hd)) (q vm0 k0 hS hk T L hx hby hml hrt hlk hown hnm hZ X eT N O')
theorem own_iaload (pc' : Nat) (hp : pc + 1 = pc') {a : Addr} {cl : Cell} {j : Int32} {v : Value} (A : Arr Z h a cl .int) (hin : ¬ (j < 0 ∨ cl.slots.size ≤ j.toNatClampNeg)) (hv : cl.slots[j.toNatClampNeg]? = some v) (hd : decode bytes pc = .ok (.iaload, 1))
    (q : own_K p l e R s m args below meth c bytes mx rt own nm Z Q Tq pc' ls (v :: st) h cs sl Ts Ax fl) : own_K p l e R s m args below meth c bytes mx rt own nm Z Q Tq pc ls (.int j :: .ref a :: st) h cs sl Ts Ax fl := fun vm0 k0 hS hk T L hx hby hml hrt hlk hown hnm hZ X eT N O' => by
  subst hp
  exact own_go (X.iaload hx (by rw [eT]; exact A.1) (State.isArrayOf_alike hZ.alike A.2.1) A.2.2 hin hv (g := mkF m pc ls (.int j :: .ref a :: st)) rfl rfl (hb hby hd)) (q vm0 k0 hS hk T L hx hby hml hrt hlk hown hnm hZ X eT N O')
theorem own_laload (pc' : Nat) (hp : pc + 1 = pc') {a : Addr} {cl : Cell} {j : Int32} {v : Value} (A : Arr Z h a cl .long) (hin : ¬ (j < 0 ∨ cl.slots.size ≤ j.toNatClampNeg)) (hv : cl.slots[j.toNatClampNeg]? = some v) (hd : decode bytes pc = .ok (.laload, 1))
    (q : own_K p l e R s m args below meth c bytes mx rt own nm Z Q Tq pc' ls (v :: st) h cs sl Ts Ax fl) : own_K p l e R s m args below meth c bytes mx rt own nm Z Q Tq pc ls (.int j :: .ref a :: st) h cs sl Ts Ax fl := fun vm0 k0 hS hk T L hx hby hml hrt hlk hown hnm hZ X eT N O' => by
  subst hp
  exact own_go (X.laload hx (by rw [eT]; exact A.1) (State.isArrayOf_alike hZ.alike A.2.1) A.2.2 hin hv (g := mkF m pc ls (.int j :: .ref a :: st)) rfl rfl (hb hby hd)) (q vm0 k0 hS hk T L hx hby hml hrt hlk hown hnm hZ X eT N O')
theorem own_baload (pc' : Nat) (hp : pc + 1 = pc') {a : Addr} {cl : Cell} {j : Int32} {v : Value} (A : Arr Z h a cl .byte) (hin : ¬ (j < 0 ∨ cl.slots.size ≤ j.toNatClampNeg)) (hv : cl.slots[j.toNatClampNeg]? = some v) (hd : decode bytes pc = .ok (.baload, 1))
    (q : own_K p l e R s m args below meth c bytes mx rt own nm Z Q Tq pc' ls (v :: st) h cs sl Ts Ax fl) : own_K p l e R s m args below meth c bytes mx rt own nm Z Q Tq pc ls (.int j :: .ref a :: st) h cs sl Ts Ax fl := fun vm0 k0 hS hk T L hx hby hml hrt hlk hown hnm hZ X eT N O' => by
  subst hp
  exact own_go (X.baloadBytes hx (by rw [eT]; exact A.1) (State.isArrayOf_alike hZ.alike A.2.1) A.2.2 hin hv (g := mkF m pc ls (.int j :: .ref a :: st)) rfl rfl (hb hby hd)) (q vm0 k0 hS hk T L hx hby hml hrt hlk hown hnm hZ X eT N O')
theorem own_zaload (pc' : Nat) (hp : pc + 1 = pc') {a : Addr} {cl : Cell} {j : Int32} {v : Value} (A : Arr Z h a cl .boolean) (hin : ¬ (j < 0 ∨ cl.slots.size ≤ j.toNatClampNeg)) (hv : cl.slots[j.toNatClampNeg]? = some v) (hd : decode bytes pc = .ok (.baload, 1))
    (q : own_K p l e R s m args below meth c bytes mx rt own nm Z Q Tq pc' ls (v :: st) h cs sl Ts Ax fl) : own_K p l e R s m args below meth c bytes mx rt own nm Z Q Tq pc ls (.int j :: .ref a :: st) h cs sl Ts Ax fl := fun vm0 k0 hS hk T L hx hby hml hrt hlk hown hnm hZ X eT N O' => by
  subst hp
  exact own_go (X.baloadBooleans hx (by rw [eT]; exact A.1) (State.isArrayOf_alike hZ.alike A.2.1) A.2.2 hin hv (g := mkF m pc ls (.int j :: .ref a :: st)) rfl rfl (hb hby hd)) (q vm0 k0 hS hk T L hx hby hml hrt hlk hown hnm hZ X eT N O')
theorem own_aaload (pc' : Nat) (hp : pc + 1 = pc') {a : Addr} {cl : Cell} {j : Int32} {v : Value} {ty : FieldType} (A : Arr Z h a cl ty) (hty : ty.isReference = true) (hin : ¬ (j < 0 ∨ cl.slots.size ≤ j.toNatClampNeg)) (hv : cl.slots[j.toNatClampNeg]? = some v) (hd : decode bytes pc = .ok (.aaload, 1))
    (q : own_K p l e R s m args below meth c bytes mx rt own nm Z Q Tq pc' ls (v :: st) h cs sl Ts Ax fl) : own_K p l e R s m args below meth c bytes mx rt own nm Z Q Tq pc ls (.int j :: .ref a :: st) h cs sl Ts Ax fl := fun vm0 k0 hS hk T L hx hby hml hrt hlk hown hnm hZ X eT N O' => by
  subst hp
  exact own_go (X.aaload hx (by rw [eT]; exact A.1) (State.isArrayOf_alike hZ.alike A.2.1) hty A.2.2 hin hv (g := mkF m pc ls (.int j :: .ref a :: st)) rfl rfl (hb hby hd)) (q vm0 k0 hS hk T L hx hby hml hrt hlk hown hnm hZ X eT N O')
theorem own_iastore (pc' : Nat) (hp : pc + 1 = pc') {a : Addr} {cl : Cell} {j x : Int32} (ga : Z.heap.size ≤ a) (A : Arr Z h a cl .int) (hin : ¬ (j < 0 ∨ cl.slots.size ≤ j.toNatClampNeg)) (hd : decode bytes pc = .ok (.iastore, 1))
    (q : ∀ h', Wr h h' a j.toNatClampNeg (.int x) → own_K p l e R s m args below meth c bytes mx rt own nm Z Q Tq pc' ls st h' cs sl Ts Ax false) : own_K p l e R s m args below meth c bytes mx rt own nm Z Q Tq pc ls (.int x :: .int j :: .ref a :: st) h cs sl Ts Ax fl := fun vm0 k0 hS hk T L hx hby hml hrt hlk hown hnm hZ X eT N O' => by
  subst hp
  obtain ⟨T', h', X', e', W', s'⟩ := stI X hx hZ eT A hin (g := mkF m pc ls (.int x :: .int j :: .ref a :: st)) rfl rfl (hb hby hd)
  exact own_go s' (q h' W' vm0 k0 hS (own_hkW hk W') T' _ hx hby hml hrt hlk hown hnm hZ X' e' ⟨Fr.snoc X' N.1 ga, nofun⟩ (O'.wr W' ga))
theorem own_lastore (pc' : Nat) (hp : pc + 1 = pc') {a : Addr} {cl : Cell} {j : Int32} {x : Int64} (ga : Z.heap.size ≤ a) (A : Arr Z h a cl .long) (hin : ¬ (j < 0 ∨ cl.slots.size ≤ j.toNatClampNeg)) (hd : decode bytes pc = .ok (.lastore, 1))
    (q : ∀ h', Wr h h' a j.toNatClampNeg (.long x) → own_K p l e R s m args below meth c bytes mx rt own nm Z Q Tq pc' ls st h' cs sl Ts Ax false) : own_K p l e R s m args below meth c bytes mx rt own nm Z Q Tq pc ls (.long x :: .int j :: .ref a :: st) h cs sl Ts Ax fl := fun vm0 k0 hS hk T L hx hby hml hrt hlk hown hnm hZ X eT N O' => by
  subst hp
  obtain ⟨T', h', X', e', W', s'⟩ := stJ X hx hZ eT A hin (g := mkF m pc ls (.long x :: .int j :: .ref a :: st)) rfl rfl (hb hby hd)
  exact own_go s' (q h' W' vm0 k0 hS (own_hkW hk W') T' _ hx hby hml hrt hlk hown hnm hZ X' e' ⟨Fr.snoc X' N.1 ga, nofun⟩ (O'.wr W' ga))
theorem own_bastore (pc' : Nat) (hp : pc + 1 = pc') {a : Addr} {cl : Cell} {j x : Int32} (ga : Z.heap.size ≤ a) (A : Arr Z h a cl .byte) (hin : ¬ (j < 0 ∨ cl.slots.size ≤ j.toNatClampNeg)) (hd : decode bytes pc = .ok (.bastore, 1))
    (q : ∀ h', Wr h h' a j.toNatClampNeg (.int (nar .byte x)) → own_K p l e R s m args below meth c bytes mx rt own nm Z Q Tq pc' ls st h' cs sl Ts Ax false) : own_K p l e R s m args below meth c bytes mx rt own nm Z Q Tq pc ls (.int x :: .int j :: .ref a :: st) h cs sl Ts Ax fl := fun vm0 k0 hS hk T L hx hby hml hrt hlk hown hnm hZ X eT N O' => by
  subst hp
  obtain ⟨T', h', X', e', W', s'⟩ := stB X hx hZ eT A hin (g := mkF m pc ls (.int x :: .int j :: .ref a :: st)) rfl rfl (hb hby hd)
  exact own_go s' (q h' W' vm0 k0 hS (own_hkW hk W') T' _ hx hby hml hrt hlk hown hnm hZ X' e' ⟨Fr.snoc X' N.1 ga, nofun⟩ (O'.wr W' ga))
theorem own_aastore (pc' : Nat) (hp : pc + 1 = pc') {a : Addr} {cl : Cell} {j : Int32} {v : Value} {ty : FieldType} (ga : Z.heap.size ≤ a) (A : Arr Z h a cl ty) (hty : ty.isReference = true) (F : Sto Z h a v) (hin : ¬ (j < 0 ∨ cl.slots.size ≤ j.toNatClampNeg)) (hd : decode bytes pc = .ok (.aastore, 1))
    (q : ∀ h', Wr h h' a j.toNatClampNeg v → own_K p l e R s m args below meth c bytes mx rt own nm Z Q Tq pc' ls st h' cs sl Ts Ax false) : own_K p l e R s m args below meth c bytes mx rt own nm Z Q Tq pc ls (v :: .int j :: .ref a :: st) h cs sl Ts Ax fl := fun vm0 k0 hS hk T L hx hby hml hrt hlk hown hnm hZ X eT N O' => by
  subst hp
  obtain ⟨T', h', X', e', W', s'⟩ := stR X hx hZ eT A hin hty F (g := mkF m pc ls (v :: .int j :: .ref a :: st)) rfl rfl (hb hby hd)
  exact own_go s' (q h' W' vm0 k0 hS (own_hkW hk W') T' _ hx hby hml hrt hlk hown hnm hZ X' e' ⟨Fr.snoc X' N.1 ga, nofun⟩ (O'.wr W' ga))
theorem own_cast (pc' : Nat) (hp : pc + 3 = pc') {C : String} {index : Nat} (w : (Jvm.Cond.classLink own index C).before a0 Z = true) {a : Addr} (F : Ins Z h a C true) (hd : decode bytes pc = .ok (.checkcast index, 3))
    (q : own_K p l e R s m args below meth c bytes mx rt own nm Z Q Tq pc' ls (.ref a :: st) h cs sl Ts Ax fl) : own_K p l e R s m args below meth c bytes mx rt own nm Z Q Tq pc ls (.ref a :: st) h cs sl Ts Ax fl := fun vm0 k0 hS hk T L hx hby hml hrt hlk hown hnm hZ X eT N O' => by
  subst hp
  obtain ⟨T', X', e', s'⟩ := castY X hx hZ hown w eT F (g := mkF m pc ls (.ref a :: st)) rfl rfl (hb hby hd)
  exact own_go s' (q vm0 k0 hS hk T' L hx hby hml hrt hlk hown hnm hZ X' e' N O')
theorem own_castNull (pc' : Nat) (hp : pc + 3 = pc') {index : Nat} (hd : decode bytes pc = .ok (.checkcast index, 3))
    (q : own_K p l e R s m args below meth c bytes mx rt own nm Z Q Tq pc' ls (.null :: st) h cs sl Ts Ax fl) : own_K p l e R s m args below meth c bytes mx rt own nm Z Q Tq pc ls (.null :: st) h cs sl Ts Ax fl := fun vm0 k0 hS hk T L hx hby hml hrt hlk hown hnm hZ X eT N O' => by
  subst hp
  exact own_go (X.checkcastNull hx (g := mkF m pc ls (.null :: st)) rfl rfl (hb hby hd)) (q vm0 k0 hS hk T L hx hby hml hrt hlk hown hnm hZ X eT N O')
theorem own_clone (pc' : Nat) (hp : pc + 3 = pc') (cs' sl' cap W : Nat) {ad : String} {index : Nat} {k : ClassId} {ty : FieldType} {z : Int32} {vs : List Value} {dv : Value} {a : Addr}
    (w1 : (Jvm.Cond.methodLink own index ⟨ad, "clone", "()Ljava/lang/Object;"⟩).before a0 Z = true) (w2 : (Jvm.Cond.sameMethod ad "java/lang/Object" "clone" "()Ljava/lang/Object;").before a0 Z = true) (w3 : (Jvm.Cond.native ⟨"java/lang/Object", "clone", "()Ljava/lang/Object;"⟩).before a0 Z = true)
    (w4 : (Jvm.Cond.instanceMethod ⟨"java/lang/Object", "clone", "()Ljava/lang/Object;"⟩).before a0 Z = true) (w5 : (Jvm.Cond.selects ad ⟨ad, "clone", "()Ljava/lang/Object;"⟩ ⟨"java/lang/Object", "clone", "()Ljava/lang/Object;"⟩).before a0 Z = true) (w6 : (Jvm.Cond.castable ad "java/lang/Cloneable").before a0 Z = true)
    (F : Arv Z h a k ty z vs dv) (E : Exa Z h a ad) (hcap : z.toNatClampNeg ≤ cap) (hd : decode bytes pc = .ok (.invokevirtual index, 3)) (hls : ls.size = mx) (hf : 1 ≤ R.frames) (hW : (st.map fun v => v.category).sum = W) (hl : W + 14 ≤ R.locals) (hcs : cs + 1 = cs') (hsl : sl + cap = sl') (hc : cs' ≤ R.cells) (hs : sl' ≤ R.slots)
    (q : ∀ h' (b : Addr), b = h.size → Z.heap.size ≤ b → Ext h h' → Arv Z h' b k ty z vs dv → Exa Z h' b ad → own_K p l e R s m args below meth c bytes mx rt own nm Z Q Tq pc' ls (.ref b :: st) h' cs' sl' Ts Ax fl) : own_K p l e R s m args below meth c bytes mx rt own nm Z Q Tq pc ls (.ref a :: st) h cs sl Ts Ax fl := fun vm0 k0 hS hk T L hx hby hml hrt hlk hown hnm hZ X eT N O' => by
  subst hp; subst hcs; subst hsl
  obtain ⟨T', h', X', e', E', A', C', s'⟩ := cloneH X hx hZ hown w1 w2 w3 w4 w5 w6 eT F.arh E (g := mkF m pc ls (.ref a :: st)) rfl (hls.trans hml.symm) rfl (hb hby hd) hf (W := W) (by show 2 * 0 + _ ≤ _; omega) hl hcap hc hs
  exact own_go s' (q h' _ rfl O'.2.1 E' A' C' vm0 k0 hS (Nat.le_trans hk E'.1) T' _ hx hby hml hrt hlk hown hnm hZ X' e' N (O'.ext E'))
theorem own_caload (pc' : Nat) (hp : pc + 1 = pc') {a : Addr} {cl : Cell} {j : Int32} {v : Value} (A : Arr Z h a cl .char) (hin : ¬ (j < 0 ∨ cl.slots.size ≤ j.toNatClampNeg)) (hv : cl.slots[j.toNatClampNeg]? = some v) (hd : decode bytes pc = .ok (.caload, 1))
    (q : own_K p l e R s m args below meth c bytes mx rt own nm Z Q Tq pc' ls (v :: st) h cs sl Ts Ax fl) : own_K p l e R s m args below meth c bytes mx rt own nm Z Q Tq pc ls (.int j :: .ref a :: st) h cs sl Ts Ax fl := fun vm0 k0 hS hk T L hx hby hml hrt hlk hown hnm hZ X eT N O' => by
  subst hp
  exact own_go (X.caload hx (by rw [eT]; exact A.1) (State.isArrayOf_alike hZ.alike A.2.1) A.2.2 hin hv (g := mkF m pc ls (.int j :: .ref a :: st)) rfl rfl (hb hby hd)) (q vm0 k0 hS hk T L hx hby hml hrt hlk hown hnm hZ X eT N O')
theorem own_castore (pc' : Nat) (hp : pc + 1 = pc') {a : Addr} {cl : Cell} {j x : Int32} (ga : Z.heap.size ≤ a) (A : Arr Z h a cl .char) (hin : ¬ (j < 0 ∨ cl.slots.size ≤ j.toNatClampNeg)) (hd : decode bytes pc = .ok (.castore, 1))
    (q : ∀ h', Wr h h' a j.toNatClampNeg (.int (nar .char x)) → own_K p l e R s m args below meth c bytes mx rt own nm Z Q Tq pc' ls st h' cs sl Ts Ax false) : own_K p l e R s m args below meth c bytes mx rt own nm Z Q Tq pc ls (.int x :: .int j :: .ref a :: st) h cs sl Ts Ax fl := fun vm0 k0 hS hk T L hx hby hml hrt hlk hown hnm hZ X eT N O' => by
  subst hp
  obtain ⟨T', h', X', e', W', s'⟩ := stC X hx hZ eT A hin (g := mkF m pc ls (.int x :: .int j :: .ref a :: st)) rfl rfl (hb hby hd)
  exact own_go s' (q h' W' vm0 k0 hS (own_hkW hk W') T' _ hx hby hml hrt hlk hown hnm hZ X' e' ⟨Fr.snoc X' N.1 ga, nofun⟩ (O'.wr W' ga))
theorem own_instY (pc' : Nat) (hp : pc + 3 = pc') {C : String} {index : Nat} (w : (Jvm.Cond.classLink own index C).before a0 Z = true) {a : Addr} (F : Ins Z h a C true) (hd : decode bytes pc = .ok (.instanceof index, 3))
    (q : own_K p l e R s m args below meth c bytes mx rt own nm Z Q Tq pc' ls (.int 1 :: st) h cs sl Ts Ax fl) : own_K p l e R s m args below meth c bytes mx rt own nm Z Q Tq pc ls (.ref a :: st) h cs sl Ts Ax fl := fun vm0 k0 hS hk T L hx hby hml hrt hlk hown hnm hZ X eT N O' => by
  subst hp
  obtain ⟨T', X', e', s'⟩ := instY X hx hZ hown w eT F (g := mkF m pc ls (.ref a :: st)) rfl rfl (hb hby hd)
  exact own_go s' (q vm0 k0 hS hk T' L hx hby hml hrt hlk hown hnm hZ X' e' N O')
theorem own_instNull (pc' : Nat) (hp : pc + 3 = pc') {index : Nat} (hd : decode bytes pc = .ok (.instanceof index, 3))
    (q : own_K p l e R s m args below meth c bytes mx rt own nm Z Q Tq pc' ls (.int 0 :: st) h cs sl Ts Ax fl) : own_K p l e R s m args below meth c bytes mx rt own nm Z Q Tq pc ls (.null :: st) h cs sl Ts Ax fl := fun vm0 k0 hS hk T L hx hby hml hrt hlk hown hnm hZ X eT N O' => by
  subst hp
  exact own_go (instanceofNull X hx (g := mkF m pc ls (.null :: st)) rfl rfl (hb hby hd)) (q vm0 k0 hS hk T L hx hby hml hrt hlk hown hnm hZ X eT N O')
-- leaving
theorem own_monoW {s t : State} {o : Outcome} {L : List Loc} {k n k' n' : Nat} (h : ReturnedEndW s o t L k n) (h1 : k ≤ k') (h2 : n ≤ n') : ReturnedEndW s o t L k' n' := ⟨h.1, h.2.1, h.2.2.1, h.2.2.2.mono h1 h2⟩
theorem own_out {t : FieldType} {v : Value} {pc : Nat} {T : State} {L : List Loc} {vm0 : Vm} {k0 : Nat} (hS : own_S Z s Tq Ax vm0 k0) (hk : k0 ≤ T.heap.size) (X : Stand p l e R (s.setVm vm0) m args below meth c T L cs sl) (hrt : meth.sig.returnType = some t) (hlk : meth.locks = false)
    (f : ∀ fs, (∀ (f : JFrame) (acts : List Action), f.method = m → f.locked = none → f.entered = [] → (doReturn e (T.setTop f) acts (some v)).1 = T.setFrames fs) → Steps p.tables e below (T.setTop (mkF m pc ls st)) (T.setFrames fs)) (hc : cs ≤ R.cells) (hs : sl ≤ R.slots) (N : Fr Z.heap.size L) (O : Old Z Z.heap.size T.heap) (q : Q (some v) T.heap) :
    own_G p e s below Z Q Tq R.cells R.slots (T.setTop (mkF m pc ls st)) := by
  obtain ⟨fs, hr, hrun, hended, hW⟩ := X.leaveW hS.1 hk (v := some v) (fun h => by rw [hrt] at h; cases h) hlk
  exact ⟨_, _, f fs hr, hrun, hended, _, _, rfl, ⟨q, N, O, own_ibEq hS.2.1 X.warmed.interned_eq⟩, own_monoW hW hc hs⟩
theorem own_retI {v : Int32} (hr : rt = some .int) (hd : decode bytes pc = .ok (.ireturn, 1)) (hc : cs ≤ R.cells) (hs : sl ≤ R.slots) (q : Q (some (.int v)) h) : own_K p l e R s m args below meth c bytes mx rt own nm Z Q Tq pc ls (.int v :: st) h cs sl Tq Ax fl := fun vm0 k0 hS hk T L hx hby hml hrt hlk hown hnm hZ X eT N O' => by
  subst eT
  exact own_out hS hk X (hrt.trans hr) hlk (fun fs k => retOut X hx (hrt.trans hr) rfl (Or.inl ⟨rfl, Or.inl rfl, _, rfl⟩) (hb hby hd) k) hc hs N.1 O' q
theorem own_retN {v : Int32} {t : FieldType} (hr : rt = some t) (ht : t = .boolean ∨ t = .byte ∨ t = .char ∨ t = .short) (hd : decode bytes pc = .ok (.ireturn, 1)) (hc : cs ≤ R.cells) (hs : sl ≤ R.slots) (q : Q (some (.int (nar t v))) h) : own_K p l e R s m args below meth c bytes mx rt own nm Z Q Tq pc ls (.int v :: st) h cs sl Tq Ax fl := fun vm0 k0 hS hk T L hx hby hml hrt hlk hown hnm hZ X eT N O' => by
  subst eT
  exact own_out hS hk X (hrt.trans hr) hlk (fun fs k => retN X hx (hrt.trans hr) ht (hb hby hd) k) hc hs N.1 O' q
theorem own_retJ {v : Int64} (hr : rt = some .long) (hd : decode bytes pc = .ok (.lreturn, 1)) (hc : cs ≤ R.cells) (hs : sl ≤ R.slots) (q : Q (some (.long v)) h) : own_K p l e R s m args below meth c bytes mx rt own nm Z Q Tq pc ls (.long v :: st) h cs sl Tq Ax fl := fun vm0 k0 hS hk T L hx hby hml hrt hlk hown hnm hZ X eT N O' => by
  subst eT
  exact own_out hS hk X (hrt.trans hr) hlk (fun fs k => retOut X hx (hrt.trans hr) rfl (Or.inr (Or.inl ⟨rfl, rfl, _, rfl⟩)) (hb hby hd) k) hc hs N.1 O' q
theorem own_narR {t : FieldType} {v : Value} (ht : t.isReference = true) (hv : v.isRef = true) : narrow t v = v := by
  rcases ref_cases hv with rfl | ⟨_, rfl⟩ <;> cases t <;> first | rfl | cases ht
theorem own_retA {v : Value} {t : FieldType} (hr : rt = some t) (ht : t.isReference = true) (hv : v.isRef = true) (hd : decode bytes pc = .ok (.areturn, 1)) (hc : cs ≤ R.cells) (hs : sl ≤ R.slots) (q : Q (some v) h) : own_K p l e R s m args below meth c bytes mx rt own nm Z Q Tq pc ls (v :: st) h cs sl Tq Ax fl := fun vm0 k0 hS hk T L hx hby hml hrt hlk hown hnm hZ X eT N O' => by
  subst eT
  exact own_out hS hk X (hrt.trans hr) hlk (fun fs k => retOut X hx (hrt.trans hr) (own_narR ht hv) (Or.inr (Or.inr (Or.inr (Or.inr ⟨rfl, ht, hv⟩)))) (hb hby hd) k) hc hs N.1 O' q
theorem own_ret (hr : rt = none) (hd : decode bytes pc = .ok (.return_, 1)) (hc : cs ≤ R.cells) (hs : sl ≤ R.slots) (q : Q none h) : own_K p l e R s m args below meth c bytes mx rt own nm Z Q Tq pc ls [] h cs sl Tq Ax fl := fun vm0 k0 hS hk T L hx hby hml hrt hlk hown hnm hZ X eT N O' => by
  subst eT
  obtain ⟨fs, hr', hrun, hended, hW⟩ := X.leaveW hS.1 hk (v := none) (fun _ => rfl) hlk
  exact ⟨_, _, X.returnOut hx (hrt.trans hr) (hb hby hd) hr', hrun, hended, _, _, rfl, ⟨q, N.1, O', own_ibEq hS.2.1 X.warmed.interned_eq⟩, own_monoW hW hc hs⟩
-- calls
theorem own_ownS {s : State} {vm0 vm1 : Vm} {k : Nat} {own : String} {i : ClassId} (h : (s.setVm vm0).Since vm1 k) (q : (s.setVm vm0).vm.findClass own = some i) : (s.setVm vm1).vm.findClass own = some i := by
  rw [show (s.setVm vm1).vm = vm1 from rfl, h.1.alike.findClass]; exact q
theorem own_back {y : MethodName} {b' : ByteArray} {mx' : Nat} {rt' : Option FieldType} {rm' : Room} {as' : Array Value} {Q' : Option Value → Heap → Prop} {Tq' : List String} {W : Nat} (hZ : Z.Warmed39 s.vm) (hI : IB Z s.vm Ts) (O : Old Z Z.heap.size h) (hM : own_Met l Z y b' mx' rt' [] rm' as' h Q' Ts Tq') (w4 : (Jvm.Cond.code y b' mx' rt').before a0 Z = true) (w3 : (Jvm.Cond.initialized y.cls).before a0 Z = true)
    (hf : rm'.frames + 1 ≤ R.frames) (hl : W + (mx' + 11) + rm'.locals ≤ R.locals) {len : Nat} :
    BackS l R p e below s args y len W (fun A a => a = as' ∧ A.U.heap = h ∧ A.cells + rm'.cells ≤ R.cells ∧ A.slots + rm'.slots ≤ R.slots)
      (fun A _ v B => ∃ L, (Q' v B.U.heap ∧ Fr Z.heap.size L ∧ Old Z Z.heap.size B.U.heap ∧ IB Z B.U.vm Tq') ∧ B.locs = A.locs ++ L ∧ B.cells = A.cells + rm'.cells ∧ B.slots = A.slots + rm'.slots) :=
  by
  refine BackS.of_freeW (bytes := b') (maxL := mx') (ret := rt') (E := fun _ _ o t L k n => (∃ v, o = .returned v ∧ Q' v t.heap ∧ Fr Z.heap.size L ∧ Old Z Z.heap.size t.heap ∧ IB Z t.vm Tq') ∧ k = rm'.cells ∧ n = rm'.slots) (hM O) hf hl ?_ ?_ (fun _ _ _ _ _ _ _ _ _ => trivial) ?_ ?_
  · intro m meth c A a Y hp
    have hU := wtrans hZ Y.warmed
    refine ⟨?_, mv hU w4, mv hU w3, hp.2.2⟩
    show (Jvm.Cond.and _ .tt).before a A.U = true
    rw [Cond.before_and, mv hU w4]; rfl
  · intro m meth c A a g mk Y hp
    exact ⟨hp.1, wtrans hZ Y.warmed, hp.2.1, own_ibEq hI Y.warmed.interned_eq⟩
  · intro a U o U' q
    obtain ⟨v, L, e, hq, hE⟩ := q
    exact ⟨L, _, _, hE, ⟨v, e, hq⟩, rfl, rfl⟩
  · intro m meth c A a g mk v t L k n Y hp _ _ q
    obtain ⟨⟨v', e, hq⟩, rfl, rfl⟩ := q
    cases e
    exact ⟨L, hq, rfl, rfl, rfl⟩
theorem own_callS (pc' : Nat) (hp : pc + 3 = pc') (cs' sl' W : Nat) (argsL rest : List Value) {index : Nat} {y : MethodName} {b' : ByteArray} {mx' : Nat} {rt' : Option FieldType} {rm' : Room} {as' : Array Value} {Q' : Option Value → Heap → Prop} {Tq' : List String}
    (w1 : (Jvm.Cond.methodLink own index y).before a0 Z = true) (w2 : (Jvm.Cond.static y).before a0 Z = true) (w3 : (Jvm.Cond.initialized y.cls).before a0 Z = true) (w4 : (Jvm.Cond.code y b' mx' rt').before a0 Z = true) (hy : y.cls ≠ "java/lang/invoke/MethodHandle" ∧ y.cls ≠ "java/lang/invoke/VarHandle")
    (hM : own_Met l Z y b' mx' rt' [] rm' as' h Q' Ts Tq') (hd : decode bytes pc = .ok (.invokestatic index, 3)) (hls : ls.size = mx) (hlen : ∀ sig, parseMethodDescriptor y.desc = some sig → argsL.length = sig.parameters.length) (has : argsL.toArray = as') (hst : st = argsL.reverse ++ rest) (hW : (rest.map fun v => v.category).sum = W)
    (hf : rm'.frames + 1 ≤ R.frames) (hl : W + (mx' + 11) + rm'.locals ≤ R.locals) (hcs : cs + rm'.cells = cs') (hsl : sl + rm'.slots = sl') (hc : cs' ≤ R.cells) (hs : sl' ≤ R.slots)
    (k : ∀ v h', Q' v h' → own_K p l e R s m args below meth c bytes mx rt own nm Z Q Tq pc' ls (v.toList ++ rest) h' cs' sl' Tq' Ax false) : own_K p l e R s m args below meth c bytes mx rt own nm Z Q Tq pc ls st h cs sl Ts Ax fl := fun vm0 k0 hS hk T L hx hby hml hrt hlk hown hnm hZ X eT N O' => by
  subst hp; subst hcs; subst hsl; subst hst; subst has; subst eT
  obtain ⟨v, _, ⟨T2, L2, k2, n2⟩, -, X2, hS2, g2, ⟨Lc2, ⟨hQ2, N2, O2, I2⟩, l2, y2, z2⟩, st2⟩ := Jvm.RoadKit.callSS X hx (y := y) hown (mvT hZ w1) (mvT hZ w2) (mvT hZ w3) (mvT hZ w4) hy (own_back (W := W) hZ hS.2.1 O' hM w4 w3 hf hl) (g := mkF m pc ls (argsL.reverse ++ rest)) rfl (hls.trans hml.symm) (argsL := argsL) (rest := rest) hlen rfl (by show 2 * 0 + _ ≤ _; omega) (hb hby hd) (fun _ _ => ⟨rfl, rfl, hc, hs⟩)
  dsimp only [Pt.U, Pt.locs, Pt.cells, Pt.slots] at X2 l2 y2 z2 st2 hQ2 O2 hS2 g2 I2
  subst l2 y2 z2
  exact own_go (fun t q => st2.trans q) (k v _ hQ2 T2.vm T2.heap.size ⟨foldS hS.1 hk hS2 g2, I2, fun q hq => (hS.2.2.1 q hq).stays hS2.1, hS.2.2.2⟩ (Nat.le_refl _) T2 _ hx hby hml hrt hlk (own_ownS hS2 hown) hnm (State.Warmed39.trans (t := s.setVm vm0) hZ hS2.1) X2 rfl ⟨N.1.app N2, nofun⟩ O2)
theorem own_callV (pc' : Nat) (hp : pc + 3 = pc') (cs' sl' W : Nat) (argsL rest : List Value) {index : Nat} {C : String} {y z : MethodName} {b' : ByteArray} {mx' : Nat} {rt' : Option FieldType} {rm' : Room} {as' : Array Value} {Q' : Option Value → Heap → Prop} {Tq' : List String} {a : Addr}
    (w1 : (Jvm.Cond.methodLink own index y).before a0 Z = true) (w2 : (Jvm.Cond.declares y).before a0 Z = true) (hnf : ∀ {u : State}, Z.Warmed39 u.vm → NotFace u y) (w5 : (Jvm.Cond.selects C y z).before a0 Z = true) (w6 : (Jvm.Cond.instanceMethod z).before a0 Z = true) (w3 : (Jvm.Cond.initialized z.cls).before a0 Z = true) (w4 : (Jvm.Cond.code z b' mx' rt').before a0 Z = true) (hy : y.cls ≠ "java/lang/invoke/MethodHandle" ∧ y.cls ≠ "java/lang/invoke/VarHandle")
    (E : Exa Z h a C) (hM : own_Met l Z z b' mx' rt' [] rm' as' h Q' Ts Tq') (hd : decode bytes pc = .ok (.invokevirtual index, 3)) (hls : ls.size = mx) (hlen : ∀ sig, parseMethodDescriptor y.desc = some sig → argsL.length = sig.parameters.length) (has : (.ref a :: argsL).toArray = as') (hst : st = argsL.reverse ++ .ref a :: rest) (hW : (rest.map fun v => v.category).sum = W)
    (hf : rm'.frames + 1 ≤ R.frames) (hl : W + (mx' + 11) + rm'.locals ≤ R.locals) (hcs : cs + rm'.cells = cs') (hsl : sl + rm'.slots = sl') (hc : cs' ≤ R.cells) (hs : sl' ≤ R.slots)
    (k : ∀ v h', Q' v h' → own_K p l e R s m args below meth c bytes mx rt own nm Z Q Tq pc' ls (v.toList ++ rest) h' cs' sl' Tq' Ax false) : own_K p l e R s m args below meth c bytes mx rt own nm Z Q Tq pc ls st h cs sl Ts Ax fl := fun vm0 k0 hS hk T L hx hby hml hrt hlk hown hnm hZ X eT N O' => by
  subst hp; subst hcs; subst hsl; subst hst; subst has; subst eT
  obtain ⟨cq, kq, qa, qb, qc⟩ := isOf hZ rfl E
  obtain ⟨v, _, ⟨T2, L2, k2, n2⟩, -, X2, hS2, g2, ⟨Lc2, ⟨hQ2, N2, O2, I2⟩, l2, y2, z2⟩, st2⟩ := X.virtualBackS hx (y := y) (z := z) hown (mvT hZ w1) (mvT hZ w2) (hnf hZ) (mvT hZ w5) (mvT hZ w6) hy (own_back (W := W) hZ hS.2.1 O' hM w4 w3 hf hl) qa qc (g := mkF m pc ls (argsL.reverse ++ .ref a :: rest)) rfl (hls.trans hml.symm) (Steps.refl _) (argsL := argsL) (rest := rest) hlen rfl (by show 2 * 0 + _ ≤ _; omega) (hb hby hd) (fun _ _ => ⟨rfl, rfl, hc, hs⟩)
  dsimp only [Pt.U, Pt.locs, Pt.cells, Pt.slots] at X2 l2 y2 z2 st2 hQ2 O2 hS2 g2 I2
  subst l2 y2 z2
  exact own_go (fun t q => st2.trans q) (k v _ hQ2 T2.vm T2.heap.size ⟨foldS hS.1 hk hS2 g2, I2, fun q hq => (hS.2.2.1 q hq).stays hS2.1, hS.2.2.2⟩ (Nat.le_refl _) T2 _ hx hby hml hrt hlk (own_ownS hS2 hown) hnm (State.Warmed39.trans (t := s.setVm vm0) hZ hS2.1) X2 rfl ⟨N.1.app N2, nofun⟩ O2)
theorem own_callU (pc' : Nat) (hp : pc + 3 = pc') (cs' sl' W : Nat) (argsL rest : List Value) {index : Nat} {C owner : String} {y z : MethodName} {b' : ByteArray} {mx' : Nat} {rt' : Option FieldType} {rm' : Room} {as' : Array Value} {Q' : Option Value → Heap → Prop} {Tq' : List String} {a : Addr}
    (w1 : (Jvm.Cond.methodLink own index y).before a0 Z = true) (wsm : (Jvm.Cond.sameMethod y.cls owner y.name y.desc).before a0 Z = true) (w2 : (Jvm.Cond.declares ⟨owner, y.name, y.desc⟩).before a0 Z = true) (w5 : (Jvm.Cond.selects C y z).before a0 Z = true) (w6 : (Jvm.Cond.instanceMethod z).before a0 Z = true) (w3 : (Jvm.Cond.initialized z.cls).before a0 Z = true) (w4 : (Jvm.Cond.code z b' mx' rt').before a0 Z = true) (hy : owner ≠ "java/lang/invoke/MethodHandle" ∧ owner ≠ "java/lang/invoke/VarHandle")
    (E : Exa Z h a C) (hM : own_Met l Z z b' mx' rt' [] rm' as' h Q' Ts Tq') (hd : decode bytes pc = .ok (.invokevirtual index, 3)) (hls : ls.size = mx) (hlen : ∀ sig, parseMethodDescriptor y.desc = some sig → argsL.length = sig.parameters.length) (has : (.ref a :: argsL).toArray = as') (hst : st = argsL.reverse ++ .ref a :: rest) (hW : (rest.map fun v => v.category).sum = W)
    (hf : rm'.frames + 1 ≤ R.frames) (hl : W + (mx' + 11) + rm'.locals ≤ R.locals) (hcs : cs + rm'.cells = cs') (hsl : sl + rm'.slots = sl') (hc : cs' ≤ R.cells) (hs : sl' ≤ R.slots)
    (k : ∀ v h', Q' v h' → own_K p l e R s m args below meth c bytes mx rt own nm Z Q Tq pc' ls (v.toList ++ rest) h' cs' sl' Tq' Ax false) : own_K p l e R s m args below meth c bytes mx rt own nm Z Q Tq pc ls st h cs sl Ts Ax fl := fun vm0 k0 hS hk T L hx hby hml hrt hlk hown hnm hZ X eT N O' => by
  subst hp; subst hcs; subst hsl; subst hst; subst has; subst eT
  obtain ⟨cq, kq, qa, qb, qc⟩ := isOf hZ rfl E
  obtain ⟨v, _, ⟨T2, L2, k2, n2⟩, -, X2, hS2, g2, ⟨Lc2, ⟨hQ2, N2, O2, I2⟩, l2, y2, z2⟩, st2⟩ := X.virtualBackUpS hx (x := y) (y := z) (owner := owner) hown (mvT hZ w1) (mvT hZ wsm) (mvT hZ w2) hy (mvT hZ w5) (mvT hZ w6) (own_back (W := W) hZ hS.2.1 O' hM w4 w3 hf hl) qa qc (g := mkF m pc ls (argsL.reverse ++ .ref a :: rest)) rfl (hls.trans hml.symm) (Steps.refl _) (argsL := argsL) (rest := rest) hlen rfl (by show 2 * 0 + _ ≤ _; omega) (hb hby hd) (fun _ _ => ⟨rfl, rfl, hc, hs⟩)
  dsimp only [Pt.U, Pt.locs, Pt.cells, Pt.slots] at X2 l2 y2 z2 st2 hQ2 O2 hS2 g2 I2
  subst l2 y2 z2
  exact own_go (fun t q => st2.trans q) (k v _ hQ2 T2.vm T2.heap.size ⟨foldS hS.1 hk hS2 g2, I2, fun q hq => (hS.2.2.1 q hq).stays hS2.1, hS.2.2.2⟩ (Nat.le_refl _) T2 _ hx hby hml hrt hlk (own_ownS hS2 hown) hnm (State.Warmed39.trans (t := s.setVm vm0) hZ hS2.1) X2 rfl ⟨N.1.app N2, nofun⟩ O2)
theorem own_callF (pc' : Nat) (hp : pc + 5 = pc') (cs' sl' W : Nat) (argsL rest : List Value) {index count : Nat} {C : String} {y z : MethodName} {b' : ByteArray} {mx' : Nat} {rt' : Option FieldType} {rm' : Room} {as' : Array Value} {Q' : Option Value → Heap → Prop} {Tq' : List String} {a : Addr}
    (w1 : (Jvm.Cond.methodLink own index y).before a0 Z = true) (w2 : (Jvm.Cond.declares y).before a0 Z = true) (w7 : (Jvm.Cond.interfaceMethod y.cls y.cls y.name y.desc).before a0 Z = true) (w7k : ((Jvm.Cond.interfaceMethod y.cls y.cls y.name y.desc).onTables && (Jvm.Cond.interfaceMethod y.cls y.cls y.name y.desc).keepsFace) = true) (w5 : (Jvm.Cond.selects C y z).before a0 Z = true) (w6 : (Jvm.Cond.instanceMethod z).before a0 Z = true) (w8 : (Jvm.Cond.publicMethod z).before a0 Z = true) (w9 : (Jvm.Cond.unhidden C y.name y.desc).before a0 Z = true) (w10 : (Jvm.Cond.castable C y.cls).before a0 Z = true) (w3 : (Jvm.Cond.initialized z.cls).before a0 Z = true) (w4 : (Jvm.Cond.code z b' mx' rt').before a0 Z = true) (hy : y.cls ≠ "java/lang/invoke/MethodHandle" ∧ y.cls ≠ "java/lang/invoke/VarHandle")
    (E : Exa Z h a C) (hM : own_Met l Z z b' mx' rt' [] rm' as' h Q' Ts Tq') (hd : decode bytes pc = .ok (.invokeinterface index count, 5)) (hls : ls.size = mx) (hlen : ∀ sig, parseMethodDescriptor y.desc = some sig → argsL.length = sig.parameters.length) (has : (.ref a :: argsL).toArray = as') (hst : st = argsL.reverse ++ .ref a :: rest) (hW : (rest.map fun v => v.category).sum = W)
    (hf : rm'.frames + 1 ≤ R.frames) (hl : W + (mx' + 11) + rm'.locals ≤ R.locals) (hcs : cs + rm'.cells = cs') (hsl : sl + rm'.slots = sl') (hc : cs' ≤ R.cells) (hs : sl' ≤ R.slots)
    (k : ∀ v h', Q' v h' → own_K p l e R s m args below meth c bytes mx rt own nm Z Q Tq pc' ls (v.toList ++ rest) h' cs' sl' Tq' Ax false) : own_K p l e R s m args below meth c bytes mx rt own nm Z Q Tq pc ls st h cs sl Ts Ax fl := fun vm0 k0 hS hk T L hx hby hml hrt hlk hown hnm hZ X eT N O' => by
  subst hp; subst hcs; subst hsl; subst hst; subst has; subst eT
  obtain ⟨cq, kq, qa, qb, qc⟩ := isOf hZ rfl E
  obtain ⟨v, _, ⟨T2, L2, k2, n2⟩, -, X2, hS2, g2, ⟨Lc2, ⟨hQ2, N2, O2, I2⟩, l2, y2, z2⟩, st2⟩ := X.interfaceBackS hx (xi := y) (y := z) hown (mvT hZ w1) (mvT hZ w2) (mvT hZ w7 w7k) (mvT hZ w5) (mvT hZ w6) (mvT hZ w8) (mvT hZ w9) (mvT hZ w10) hy (own_back (W := W) hZ hS.2.1 O' hM w4 w3 hf hl) qa qb qc (g := mkF m pc ls (argsL.reverse ++ .ref a :: rest)) rfl (hls.trans hml.symm) (Steps.refl _) (argsL := argsL) (rest := rest) hlen rfl (by show 2 * 0 + _ ≤ _; omega) (hb hby hd) (fun _ _ => ⟨rfl, rfl, hc, hs⟩)
  dsimp only [Pt.U, Pt.locs, Pt.cells, Pt.slots] at X2 l2 y2 z2 st2 hQ2 O2 hS2 g2 I2
  subst l2 y2 z2
  exact own_go (fun t q => st2.trans q) (k v _ hQ2 T2.vm T2.heap.size ⟨foldS hS.1 hk hS2 g2, I2, fun q hq => (hS.2.2.1 q hq).stays hS2.1, hS.2.2.2⟩ (Nat.le_refl _) T2 _ hx hby hml hrt hlk (own_ownS hS2 hown) hnm (State.Warmed39.trans (t := s.setVm vm0) hZ hS2.1) X2 rfl ⟨N.1.app N2, nofun⟩ O2)
theorem own_callI (pc' : Nat) (hp : pc + 3 = pc') (cs' sl' W : Nat) (argsL rest : List Value) {index : Nat} {y : MethodName} {b' : ByteArray} {mx' : Nat} {rm' : Room} {as' : Array Value} {Q' : Option Value → Heap → Prop} {Tq' : List String} {a : Addr} (hy1 : y.name = "<init>")
    (w1 : (Jvm.Cond.methodLink own index y).before a0 Z = true) (w6 : (Jvm.Cond.instanceMethod y).before a0 Z = true) (w3 : (Jvm.Cond.initialized y.cls).before a0 Z = true) (w4 : (Jvm.Cond.code y b' mx' none).before a0 Z = true) (hy : y.cls ≠ "java/lang/invoke/MethodHandle" ∧ y.cls ≠ "java/lang/invoke/VarHandle")
    (hM : own_Met l Z y b' mx' none [] rm' as' h Q' Ts Tq') (hd : decode bytes pc = .ok (.invokespecial index, 3)) (hls : ls.size = mx) (hlen : ∀ sig, parseMethodDescriptor y.desc = some sig → argsL.length = sig.parameters.length) (has : (.ref a :: argsL).toArray = as') (hst : st = argsL.reverse ++ .ref a :: rest) (hW : (rest.map fun v => v.category).sum = W)
    (hf : rm'.frames + 1 ≤ R.frames) (hl : W + (mx' + 11) + rm'.locals ≤ R.locals) (hcs : cs + rm'.cells = cs') (hsl : sl + rm'.slots = sl') (hc : cs' ≤ R.cells) (hs : sl' ≤ R.slots)
    (k : ∀ v h', Q' v h' → own_K p l e R s m args below meth c bytes mx rt own nm Z Q Tq pc' ls (v.toList ++ rest) h' cs' sl' Tq' Ax false) : own_K p l e R s m args below meth c bytes mx rt own nm Z Q Tq pc ls st h cs sl Ts Ax fl := fun vm0 k0 hS hk T L hx hby hml hrt hlk hown hnm hZ X eT N O' => by
  subst hp; subst hcs; subst hsl; subst hst; subst has; subst eT
  obtain ⟨v, _, ⟨T2, L2, k2, n2⟩, -, X2, hS2, g2, ⟨Lc2, ⟨hQ2, N2, O2, I2⟩, l2, y2, z2⟩, st2⟩ := X.specialBackS hx (y := y) hy1 hown (mvT hZ w1) (mvT hZ w6) (mvT hZ w4) hy (own_back (W := W) hZ hS.2.1 O' hM w4 w3 hf hl) (g := mkF m pc ls (argsL.reverse ++ .ref a :: rest)) rfl (hls.trans hml.symm) (Steps.refl _) (a := a) (argsL := argsL) (rest := rest) hlen rfl (by show 2 * 0 + _ ≤ _; omega) (hb hby hd) (fun _ _ => ⟨rfl, rfl, hc, hs⟩)
  dsimp only [Pt.U, Pt.locs, Pt.cells, Pt.slots] at X2 l2 y2 z2 st2 hQ2 O2 hS2 g2 I2
  subst l2 y2 z2
  exact own_go (fun t q => st2.trans q) (k v _ hQ2 T2.vm T2.heap.size ⟨foldS hS.1 hk hS2 g2, I2, fun q hq => (hS.2.2.1 q hq).stays hS2.1, hS.2.2.2⟩ (Nat.le_refl _) T2 _ hx hby hml hrt hlk (own_ownS hS2 hown) hnm (State.Warmed39.trans (t := s.setVm vm0) hZ hS2.1) X2 rfl ⟨N.1.app N2, nofun⟩ O2)
theorem own_callP (pc' : Nat) (hp : pc + 3 = pc') (cs' sl' W : Nat) (argsL rest : List Value) {index : Nat} {C : String} {y : MethodName} {b' : ByteArray} {mx' : Nat} {rt' : Option FieldType} {rm' : Room} {as' : Array Value} {Q' : Option Value → Heap → Prop} {Tq' : List String} {a : Addr}
    (w1 : (Jvm.Cond.methodLink own index y).before a0 Z = true) (w6 : (Jvm.Cond.instanceMethod y).before a0 Z = true) (w5 : (Jvm.Cond.selects y.cls y y).before a0 Z = true) (w7 : (Jvm.Cond.privateMethod y).before a0 Z = true) (w3 : (Jvm.Cond.initialized y.cls).before a0 Z = true) (w4 : (Jvm.Cond.code y b' mx' rt').before a0 Z = true) (hy : y.cls ≠ "java/lang/invoke/MethodHandle" ∧ y.cls ≠ "java/lang/invoke/VarHandle")
    (E : Exa Z h a C) (hM : own_Met l Z y b' mx' rt' [] rm' as' h Q' Ts Tq') (hd : decode bytes pc = .ok (.invokevirtual index, 3)) (hls : ls.size = mx) (hlen : ∀ sig, parseMethodDescriptor y.desc = some sig → argsL.length = sig.parameters.length) (has : (.ref a :: argsL).toArray = as') (hst : st = argsL.reverse ++ .ref a :: rest) (hW : (rest.map fun v => v.category).sum = W)
    (hf : rm'.frames + 1 ≤ R.frames) (hl : W + (mx' + 11) + rm'.locals ≤ R.locals) (hcs : cs + rm'.cells = cs') (hsl : sl + rm'.slots = sl') (hc : cs' ≤ R.cells) (hs : sl' ≤ R.slots)
    (k : ∀ v h', Q' v h' → own_K p l e R s m args below meth c bytes mx rt own nm Z Q Tq pc' ls (v.toList ++ rest) h' cs' sl' Tq' Ax false) : own_K p l e R s m args below meth c bytes mx rt own nm Z Q Tq pc ls st h cs sl Ts Ax fl := fun vm0 k0 hS hk T L hx hby hml hrt hlk hown hnm hZ X eT N O' => by
  subst hp; subst hcs; subst hsl; subst hst; subst has; subst eT
  obtain ⟨cq, qa, qb⟩ := E.cell
  obtain ⟨v, _, ⟨T2, L2, k2, n2⟩, -, X2, hS2, g2, ⟨Lc2, ⟨hQ2, N2, O2, I2⟩, l2, y2, z2⟩, st2⟩ := X.privateBackS hx (y := y) hown (mvT hZ w1) (mvT hZ w6) (mvT hZ w5) (Cond.privateMethod_at (mvP hZ w7 (args := #[]))) (mvT hZ w4) hy (own_back (W := W) hZ hS.2.1 O' hM w4 w3 hf hl) (g := mkF m pc ls (argsL.reverse ++ .ref a :: rest)) rfl (hls.trans hml.symm) (Steps.refl _) (a := a) qa qb (argsL := argsL) (rest := rest) hlen rfl (by show 2 * 0 + _ ≤ _; omega) (hb hby hd) (fun _ _ => ⟨rfl, rfl, hc, hs⟩)
  dsimp only [Pt.U, Pt.locs, Pt.cells, Pt.slots] at X2 l2 y2 z2 st2 hQ2 O2 hS2 g2 I2
  subst l2 y2 z2
  exact own_go (fun t q => st2.trans q) (k v _ hQ2 T2.vm T2.heap.size ⟨foldS hS.1 hk hS2 g2, I2, fun q hq => (hS.2.2.1 q hq).stays hS2.1, hS.2.2.2⟩ (Nat.le_refl _) T2 _ hx hby hml hrt hlk (own_ownS hS2 hown) hnm (State.Warmed39.trans (t := s.setVm vm0) hZ hS2.1) X2 rfl ⟨N.1.app N2, nofun⟩ O2)
theorem own_kv {rest : List Value} {Qv : Value → Heap → Prop} (k : ∀ x h', Qv x h' → own_K p l e R s m args below meth c bytes mx rt own nm Z Q Tq pc ls (x :: rest) h' cs sl Ts Ax fl) : ∀ v h', own_some Qv v h' → own_K p l e R s m args below meth c bytes mx rt own nm Z Q Tq pc ls (v.toList ++ rest) h' cs sl Ts Ax fl := by
  intro v h' hq
  obtain ⟨x, rfl, hq⟩ := hq
  exact k x h' hq
theorem own_k0 {rest : List Value} {Qn : Heap → Prop} (k : ∀ h', Qn h' → own_K p l e R s m args below meth c bytes mx rt own nm Z Q Tq pc ls rest h' cs sl Ts Ax fl) : ∀ v h', own_none Qn v h' → own_K p l e R s m args below meth c bytes mx rt own nm Z Q Tq pc ls (v.toList ++ rest) h' cs sl Ts Ax fl := by
  intro v h' hq
  obtain ⟨rfl, hq⟩ := hq
  exact k h' hq
theorem own_getFR (pc' : Nat) (hp : pc + 3 = pc') {O n d : String} {index : Nat} (w : (Jvm.Cond.fieldRef own index O n d).before a0 Z = true) {a : Addr} {v : Value} (F : Fld Z h a O n d v) (hd : decode bytes pc = .ok (.getfield index, 3))
    (q : own_K p l e R s m args below meth c bytes mx rt own nm Z Q Tq pc' ls (v :: st) h cs sl Ts Ax fl) : own_K p l e R s m args below meth c bytes mx rt own nm Z Q Tq pc ls (.ref a :: st) h cs sl Ts Ax fl := fun vm0 k0 hS hk T L hx hby hml hrt hlk hown hnm hZ X eT N O' => by
  subst hp
  have hT : Z.Warmed39 T.vm := wtrans hZ X.warmed
  have hcur : (Z.setVm T.vm).vm.findClass own = some m.cls := by
    show T.vm.findClass own = _
    rw [X.warmed.alike.findClass]; exact hown
  obtain ⟨c1, k1, i1, f1, e1, rdy⟩ := Cond.fieldRef_spec hcur (Cond.fieldRef_warmed39 hT w)
  obtain ⟨cell, cf, k, i, f, g1, g2, g3, g4, g5, g6, g7⟩ := F
  obtain ⟨k', q1, q2⟩ := State.fieldFound?_setVm (s := Z) hT.alike g2
  cases e1.symm.trans q1
  exact own_go (fun t k => (X.getfieldR hx (g := mkF m pc ls (.ref a :: st)) rfl rdy g3 rfl (by rw [eT]; exact g1) g4 g7 (hb hby hd) (Steps.refl _)).trans k) (q vm0 k0 hS hk T L hx hby hml hrt hlk hown hnm hZ X eT N O')
theorem own_callQ (pc' : Nat) (hp : pc + 3 = pc') (cs' sl' W : Nat) (argsL rest : List Value) {index : Nat} {C C2 : String} {y y2 : MethodName} {b' : ByteArray} {mx' : Nat} {rt' : Option FieldType} {rm' : Room} {as' : Array Value} {Q' : Option Value → Heap → Prop} {Tq' : List String} {a : Addr}
    (w1 : (Jvm.Cond.methodLink own index y).before a0 Z = true) (w6 : (Jvm.Cond.instanceMethod y).before a0 Z = true) (w5 : (Jvm.Cond.selects C2 y2 y2).before a0 Z = true) (w8 : (Jvm.Cond.instanceMethod y2).before a0 Z = true) (hc2 : y2.cls = y.cls) (w7 : (Jvm.Cond.privateMethod y).before a0 Z = true) (w3 : (Jvm.Cond.initialized y.cls).before a0 Z = true) (w4 : (Jvm.Cond.code y b' mx' rt').before a0 Z = true) (hy : y.cls ≠ "java/lang/invoke/MethodHandle" ∧ y.cls ≠ "java/lang/invoke/VarHandle")
    (E : Exa Z h a C) (hM : own_Met l Z y b' mx' rt' [] rm' as' h Q' Ts Tq') (hd : decode bytes pc = .ok (.invokevirtual index, 3)) (hls : ls.size = mx) (hlen : ∀ sig, parseMethodDescriptor y.desc = some sig → argsL.length = sig.parameters.length) (has : (.ref a :: argsL).toArray = as') (hst : st = argsL.reverse ++ .ref a :: rest) (hW : (rest.map fun v => v.category).sum = W)
    (hf : rm'.frames + 1 ≤ R.frames) (hl : W + (mx' + 11) + rm'.locals ≤ R.locals) (hcs : cs + rm'.cells = cs') (hsl : sl + rm'.slots = sl') (hc : cs' ≤ R.cells) (hs : sl' ≤ R.slots)
    (k : ∀ v h', Q' v h' → own_K p l e R s m args below meth c bytes mx rt own nm Z Q Tq pc' ls (v.toList ++ rest) h' cs' sl' Tq' Ax false) : own_K p l e R s m args below meth c bytes mx rt own nm Z Q Tq pc ls st h cs sl Ts Ax fl := fun vm0 k0 hS hk T L hx hby hml hrt hlk hown hnm hZ X eT N O' => by
  subst hp; subst hcs; subst hsl; subst hst; subst has; subst eT
  obtain ⟨cq, qa, qb⟩ := E.cell
  have hpr := Cond.privateMethod_at (mvP hZ w7 (args := args))
  obtain ⟨r0, mt, hn2, -⟩ := Cond.instanceMethod_spec (mvT (args := args) hZ w8)
  obtain ⟨kk, hk1, hk2⟩ := notFace_of_selects (args := args) (mvT hZ w5) r0 hn2
  have hse : (Jvm.Cond.selects y.cls y y).before args (s.setVm vm0) = true := selects_self_of_private (hc2 ▸ findClass_of_methodNamed hn2) hk1 hk2 hpr (mvT hZ w6) hy
  obtain ⟨v, _, ⟨T2, L2, k2, n2⟩, -, X2, hS2, g2, ⟨Lc2, ⟨hQ2, N2, O2, I2⟩, l2, y2, z2⟩, st2⟩ := X.privateBackS hx (y := y) hown (mvT hZ w1) (mvT hZ w6) hse hpr (mvT hZ w4) hy (own_back (W := W) hZ hS.2.1 O' hM w4 w3 hf hl) (g := mkF m pc ls (argsL.reverse ++ .ref a :: rest)) rfl (hls.trans hml.symm) (Steps.refl _) (a := a) qa qb (argsL := argsL) (rest := rest) hlen rfl (by show 2 * 0 + _ ≤ _; omega) (hb hby hd) (fun _ _ => ⟨rfl, rfl, hc, hs⟩)
  dsimp only [Pt.U, Pt.locs, Pt.cells, Pt.slots] at X2 l2 y2 z2 st2 hQ2 O2 hS2 g2 I2
  subst l2 y2 z2
  exact own_go (fun t q => st2.trans q) (k v _ hQ2 T2.vm T2.heap.size ⟨foldS hS.1 hk hS2 g2, I2, fun q hq => (hS.2.2.1 q hq).stays hS2.1, hS.2.2.2⟩ (Nat.le_refl _) T2 _ hx hby hml hrt hlk (own_ownS hS2 hown) hnm (State.Warmed39.trans (t := s.setVm vm0) hZ hS2.1) X2 rfl ⟨N.1.app N2, nofun⟩ O2)
theorem own_weak (Ts' : List String) (f : ∀ t ∈ Ts, t ∈ Ts') (k : own_K p l e R s m args below meth c bytes mx rt own nm Z Q Tq pc ls st h cs sl Ts' [] false) : own_K p l e R s m args below meth c bytes mx rt own nm Z Q Tq pc ls st h cs sl Ts Ax fl := fun vm0 k0 hS hk T L hx hby hml hrt hlk hown hnm hZ X eT N O' =>
  k vm0 k0 ⟨hS.1, own_ibMore hS.2.1 f, fun q hq => absurd hq List.not_mem_nil, hS.2.2.2⟩ hk T L hx hby hml hrt hlk hown hnm hZ X eT ⟨N.1, nofun⟩ O'
/-- ldc of a String constant, read: while nothing older than this body's start has been written -/
theorem own_ldcT (pc' : Nat) (hp : pc + 2 = pc') (cs' sl' n : Nat) (vs : List Value) (z : Int32) {text : String} {index : Nat} (w : (Jvm.Cond.stringLink own index text).before a0 Z = true) (wS : ∀ a ∈ Bundle.stringAtoms, a.before a0 Z = true) (hh : Jvm.Lit.constHeld Z own index) {a1 : Array Value} (hcw1 : Jvm.Lit.compactW.before a1 Z = true) (hnot : text ∉ Ts)
    (ht : (∀ c ∈ text.toList, c.toNat < 256) ∧ text.toList.map (fun c => Value.int (Jvm.Lit.byteI c.toNat.toUInt16)) = vs) (hz : ¬ z < 0) (hl0 : z.toNatClampNeg = vs.length)
    (hd : decode bytes pc = .ok (.ldc index, 2)) (hn : 4 * text.toList.length ≤ n) (hbig : n ≤ 536870912) (hcs : cs + 2 = cs') (hsl : sl + (n + 4) = sl') (hc : cs' ≤ R.cells) (hl : sl' ≤ R.slots)
    (q : ∀ h' (a b : Addr) (k : ClassId), Ext h h' → Exa Z h' a "java/lang/String" → Fld Z h' a "java/lang/String" "coder" "B" (.int 0) → Fld Z h' a "java/lang/String" "value" "[B" (.ref b) → Arv Z h' b k .byte z vs (.int 0) → own_K p l e R s m args below meth c bytes mx rt own nm Z Q Tq pc' ls (.ref a :: st) h' cs' sl' (text :: Ts) [(own, index, a)] true) : own_K p l e R s m args below meth c bytes mx rt own nm Z Q Tq pc ls st h cs sl Ts Ax true := fun vm0 k0 hS hk T L hx hby hml hrt hlk hown hnm hZ X eT N O' => by
  subst hp; subst hcs; subst hsl
  have hcw : Jvm.Lit.compactW.before a0 Z = true := by simpa [Jvm.Lit.compactW, Cond.before, Cond.holds, Cond.value, Term.eval] using hcw1
  obtain ⟨a, T', h', k1, b, k, X', e', E, hS', hk', hZ', hown', r1, r2, r3, r4, -, -, hI, hL, s'⟩ := ldcSVL X hx hZ hown w wS eT hS.1 hk (N.2 rfl) hS.2.2.2.2 hS.2.1 hnot hh hcw ht hz hl0 (g := mkF m pc ls st) rfl (hb hby hd) hn hbig hc hl
  exact own_go s' (q h' a b k E r1 r2 r3 r4 T'.vm k1 ⟨hS', hI, fun x hx => by rw [List.mem_singleton.mp hx]; exact hL, hS.2.2.2⟩ hk' T' _ hx hby hml hrt hlk hown' hnm hZ' X' e' N (O'.ext E))
theorem own_ldcA (pc' : Nat) (hp : pc + 2 = pc') {text : String} {index : Nat} {a : Addr} (w : (Jvm.Cond.stringLink own index text).before a0 Z = true) (hA : (own, index, a) ∈ Ax) (hd : decode bytes pc = .ok (.ldc index, 2))
    (q : own_K p l e R s m args below meth c bytes mx rt own nm Z Q Tq pc' ls (.ref a :: st) h cs sl Ts Ax fl) : own_K p l e R s m args below meth c bytes mx rt own nm Z Q Tq pc ls st h cs sl Ts Ax fl := fun vm0 k0 hS hk T L hx hby hml hrt hlk hown hnm hZ X eT N O' => by
  subst hp
  exact own_go (ldcAgain X hx hZ hown w (hS.2.2.1 _ hA) (g := mkF m pc ls st) rfl (hb hby hd)) (q vm0 k0 hS hk T L hx hby hml hrt hlk hown hnm hZ X eT N O')
-- a case's words
theorem own_eqI {t : Term} {k : Int32} {o : Option Outcome} {idx : List Nat} {first : State} (hq : (Jvm.Cond.eq t (.int k)).value args first o s idx = some true) : t.eval args first o idx s = some (.int k) := by
  simp only [Jvm.Cond.value, Term.eval] at hq
  cases ht : t.eval args first o idx s with
  | none => simp [ht] at hq
  | some x => cases x <;> simp [ht] at hq ⊢; exact hq
theorem own_eqR {t u : Term} {a : Addr} {o : Option Outcome} {idx : List Nat} {first : State} (hq : (Jvm.Cond.eq t u).value args first o s idx = some true) (hu : u.eval args first o idx s = some (.ref a)) : t.eval args first o idx s = some (.ref a) := by
  simp only [Jvm.Cond.value, hu] at hq
  cases ht : t.eval args first o idx s with
  | none => simp [ht] at hq
  | some x => cases x <;> simp [ht] at hq ⊢; exact hq
theorem own_fold {f : Nat → Option Bool} : ∀ (L : List Nat) (acc : Option Bool), L.foldl (fun acc i => match acc with | some true => f i | x => x) acc = some true → acc = some true ∧ ∀ i ∈ L, f i = some true
  | [], acc, hq => ⟨hq, fun _ q => nomatch q⟩
  | a :: L, acc, hq => by
    obtain ⟨h1, h2⟩ := own_fold L _ hq
    rcases acc with _ | _ | _
    · cases h1
    · cases h1
    · exact ⟨rfl, fun i hi => (List.mem_cons.mp hi).elim (fun q => q ▸ h1) (h2 i)⟩
theorem own_all {t : Term} {cd : Jvm.Cond} {o : Option Outcome} {idx : List Nat} {first : State} {a : Addr} {cell : Cell} (hq : (Jvm.Cond.all t cd).value args first o s idx = some true) (ht : t.eval args first o idx s = some (.ref a)) (ha : s.arrayAt? a = some cell) : ∀ i, i < cell.slots.size → cd.value args first o s (i :: idx) = some true := by
  simp only [Jvm.Cond.value, ht, ha] at hq
  exact fun i hi => (own_fold _ _ hq).2 i (List.mem_range.mpr hi)
theorem own_len {t : Term} {n : Int32} {o : Option Outcome} {idx : List Nat} {first : State} {a : Addr} {cell : Cell} (hq : (Term.length t).eval args first o idx s = some (.int n)) (ht : t.eval args first o idx s = some (.ref a)) (ha : s.arrayAt? a = some cell) : cell.slots.size.toInt32 = n ∧ cell.slots.size < 2 ^ 31 := by
  simp only [Term.eval, ht, ha, Option.bind_eq_bind, Option.bind_some] at hq
  split at hq
  · rename_i hl
    exact ⟨by simpa using hq, hl⟩
  · cases hq
theorem own_elem {t : Term} {j : Int32} {v : Value} {o : Option Outcome} {idx : List Nat} {first : State} {a : Addr} {cell : Cell} (hq : (Term.elem t (.int j)).eval args first o idx s = some v) (ht : t.eval args first o idx s = some (.ref a)) (ha : s.heap[a]? = some cell) : cell.slots[j.toNatClampNeg]? = some v :=
  (elem_in hq ht rfl ha).2
-- ints as integers
theorem own_lt {x y : Int32} (h : x < y) : x.toInt < y.toInt := Int32.lt_iff_toInt_lt.mp h
theorem own_nlt {x y : Int32} (h : ¬ x < y) : y.toInt ≤ x.toInt := Int.not_lt.mp fun q => h (Int32.lt_iff_toInt_lt.mpr q)
theorem own_eq {x y : Int32} (h : x = y) : x.toInt = y.toInt := congrArg _ h
theorem own_neq {x y : Int32} (h : ¬ x = y) : ¬ x.toInt = y.toInt := fun q => h (Int32.toInt_inj.mp q)
theorem own_lt' {x y : Int32} (h : x.toInt < y.toInt) : x < y := Int32.lt_iff_toInt_lt.mpr h
theorem own_nlt' {x y : Int32} (h : y.toInt ≤ x.toInt) : ¬ x < y := fun q => Int.not_lt.mpr h (Int32.lt_iff_toInt_lt.mp q)
theorem own_eq' {x y : Int32} (h : x.toInt = y.toInt) : x = y := Int32.toInt_inj.mp h
theorem own_neq' {x y : Int32} (h : ¬ x.toInt = y.toInt) : ¬ x = y := fun q => h (congrArg _ q)
theorem own_ltL {x y : Int64} (h : x < y) : x.toInt < y.toInt := Int64.lt_iff_toInt_lt.mp h
theorem own_nltL {x y : Int64} (h : ¬ x < y) : y.toInt ≤ x.toInt := Int.not_lt.mp fun q => h (Int64.lt_iff_toInt_lt.mpr q)
theorem own_eqL {x y : Int64} (h : x = y) : x.toInt = y.toInt := congrArg _ h
theorem own_neqL {x y : Int64} (h : ¬ x = y) : ¬ x.toInt = y.toInt := fun q => h (Int64.toInt_inj.mp q)
theorem own_ltL' {x y : Int64} (h : x.toInt < y.toInt) : x < y := Int64.lt_iff_toInt_lt.mpr h
theorem own_nltL' {x y : Int64} (h : y.toInt ≤ x.toInt) : ¬ x < y := fun q => Int.not_lt.mpr h (Int64.lt_iff_toInt_lt.mp q)
theorem own_eqL' {x y : Int64} (h : x.toInt = y.toInt) : x = y := Int64.toInt_inj.mp h
theorem own_neqL' {x y : Int64} (h : ¬ x.toInt = y.toInt) : ¬ x = y := fun q => h (congrArg _ q)
end Own
section OwnStrs
theorem own_small {c : Int32} (h : 0 ≤ c.toInt ∧ c.toInt ≤ 255) : ∃ n : Fin 256, c = Int32.ofNat n.val := by
  refine ⟨⟨c.toInt.toNat, by omega⟩, Int32.toInt_inj.mp ?_⟩
  show c.toInt = (Int32.ofNat c.toInt.toNat).toInt
  rw [Int32.toInt_ofNat_small (by omega)]; omega
theorem own_cm (x : Int32) : 0 ≤ ((x &&& (255 : Int32)).toUInt32.toUInt16.toUInt32.toInt32).toInt ∧ ((x &&& (255 : Int32)).toUInt32.toUInt16.toUInt32.toInt32).toInt ≤ 255 := by
  have q := c_mask x (255 : Int32) 8 (by decide) (by decide)
  rw [i2c_mask, q]; omega
theorem own_nc {c : Int32} (h : 0 ≤ c.toInt ∧ c.toInt ≤ 255) : nar .char c = c := by
  obtain ⟨n, rfl⟩ := own_small h
  clear h; revert n; decide +kernel
theorem own_nb {c : Int32} (h : 0 ≤ c.toInt ∧ c.toInt ≤ 255) : nar .byte c.toInt8.toInt32 = c.toInt8.toInt32 := by
  obtain ⟨n, rfl⟩ := own_small h
  clear h; revert n; decide +kernel
theorem own_cc {c : Int32} (h : 0 ≤ c.toInt ∧ c.toInt ≤ 255) : nar .char (nar .char (c.toInt8.toInt32 &&& (255 : Int32)).toUInt32.toUInt16.toUInt32.toInt32) = c := by
  obtain ⟨n, rfl⟩ := own_small h
  clear h; revert n; decide +kernel
theorem own_is {c : Int32} (h : 0 ≤ c.toInt ∧ c.toInt ≤ 255) : (c.toInt8.toInt32.toInt = 120 → c.toInt = 120) ∧ (c.toInt8.toInt32.toInt = 97 → c.toInt = 97) := by
  obtain ⟨n, rfl⟩ := own_small h
  clear h; revert n; decide +kernel
theorem own_neI {args : Array Value} {s : State} {t : Term} {k v : Int32} {o : Option Outcome} {idx : List Nat} {first : State} (hq : (Jvm.Cond.not (Jvm.Cond.eq t (.int k))).value args first o s idx = some true) (ht : t.eval args first o idx s = some (.int v)) : ¬ v = k := by
  have q := not_v hq
  simp only [Jvm.Cond.value, Term.eval, ht] at q
  simpa using q
variable {Z : State} {h : Heap} {b1 b2 : Addr} {k1 k2 : ClassId} {z1 z2 : Int32} {vs1 vs2 : List Value} {ty : FieldType} {d : Value}
theorem own_arvLen (V1 : Arv Z h b1 k1 ty z1 vs1 d) (V2 : Arv Z h b2 k2 ty z2 vs2 d) (hz : ¬ z1.toInt = z2.toInt) : b1 ≠ b2 := fun e => by
  subst e
  obtain ⟨c, A, -, S, N, -⟩ := V1
  obtain ⟨c', A', -, S', N', -⟩ := V2
  cases A.1.symm.trans A'.1
  have q1 : z1.toNatClampNeg = z1.toInt.toNat := rfl
  have q2 : z2.toNatClampNeg = z2.toInt.toNat := rfl
  have n1 := own_nlt N
  have n2 := own_nlt N'
  have o0 : (0 : Int32).toInt = 0 := rfl
  omega
theorem own_arvEl (V1 : Arv Z h b1 k1 ty z1 vs1 d) (V2 : Arv Z h b2 k2 ty z2 vs2 d) (i : Nat) (hi : i < z1.toNatClampNeg) (hz : ¬ vs1.getD i d = vs2.getD i d) : b1 ≠ b2 := fun e => by
  subst e
  obtain ⟨c, A, -, S, N, H, -⟩ := V1
  obtain ⟨c', A', -, S', N', H', -⟩ := V2
  cases A.1.symm.trans A'.1
  exact hz (Option.some.inj ((H i (by omega)).symm.trans (H' i (by omega))))
end OwnStrs

def own_Ini (Z : State) (cs : Int32) (fm : Value) : Prop := (Sta Z Z.heap "java/lang/String" "COMPACT_STRINGS" "Z" (.int cs)) ∧ (¬ cs.toInt = 0) ∧ (Jvm.Lit.compactW.before #[] Z = true) ∧ (fm.isRef = true) ∧ (Sta Z Z.heap "jdk/internal/util/Preconditions" "SIOOBE_FORMATTER" "Ljava/util/function/BiFunction;" fm) ∧ (∀ p ∈ consts_1, Jvm.Lit.constHeld Z p.1 p.2)
theorem own_wS {Z : State} {a0 : Array Value} (hw : ∀ d ∈ tables_1, d.before a0 Z = true) : ∀ a ∈ Bundle.stringAtoms, a.before a0 Z = true := by
  intro d hd
  simp only [Bundle.stringAtoms, List.mem_cons, List.not_mem_nil, or_false] at hd
  rcases hd with rfl | rfl | rfl | rfl | rfl | rfl | rfl
  · exact hw _ (List.mem_of_getElem? (i := 3) rfl)
  · exact hw _ (List.mem_of_getElem? (i := 2) rfl)
  · exact hw _ (List.mem_of_getElem? (i := 16) rfl)
  · exact hw _ (List.mem_of_getElem? (i := 17) rfl)
  · exact hw _ (List.mem_of_getElem? (i := 18) rfl)
  · exact hw _ (List.mem_of_getElem? (i := 19) rfl)
  · exact hw _ (List.mem_of_getElem? (i := 20) rfl)
theorem d5_0 : decode jdk_42_method_152_code 0 = .ok (.getstatic 38, 3) := by decide +kernel
theorem d5_3 : decode jdk_42_method_152_code 3 = .ok (.ifCond .eq 10, 3) := by decide +kernel
theorem d5_6 : decode jdk_42_method_152_code 6 = .ok (.aload_n 0, 1) := by decide +kernel
theorem d5_7 : decode jdk_42_method_152_code 7 = .ok (.getfield 15, 3) := by decide +kernel
theorem d5_10 : decode jdk_42_method_152_code 10 = .ok (.goto 4, 3) := by decide +kernel
theorem d5_14 : decode jdk_42_method_152_code 14 = .ok (.ireturn, 1) := by decide +kernel
theorem own_pf0 : plainFor (⟨"java/lang/String", "coder", "()B"⟩ : MethodName) = true := by first | exact plainFor_of_name (by first | (simp [plainName, overriddenIn]; done) | decide +kernel) | decide +kernel
set_option maxRecDepth 65536 in
set_option maxHeartbeats 40000000 in
theorem rmCoder (l : Launch) (Z : State) (a0 : Array Value) (hw : ∀ d ∈ tables_1, d.before a0 Z = true) (ws : List Jvm.Cond) {Ts : List String} (p1 : Addr) (cs : Int32) (fm : Value) (h0 : Heap) (I : own_Ini Z cs fm) (Es_p1 : Exa Z h0 p1 "java/lang/String") (Fc_p1 : Fld Z h0 p1 "java/lang/String" "coder" "B" (.int (0 : Int32))) :
    own_Met l Z (⟨"java/lang/String", "coder", "()B"⟩ : MethodName) jdk_42_method_152_code 1 (some .byte) ws ({ frames := 0, cells := 0, slots := 0, locals := 0 } : Room) #[(.ref p1)] h0 (own_some (fun v h => v = .int (0 : Int32) ∧ h = h0)) Ts Ts := by
  have I' := I
  obtain ⟨S_cs, N_cs, HW, R_fm, S_fm, HC⟩ := I'
  refine own_met (ls0 := #[.val (.ref p1)]) own_pf0 (fun m => by first | rfl | (simp [entryFrame, mkF, argsToLocals, Value.category, maxLocals]; done)) ?_
  intro p e s m below meth c
  refine own_old (fun O0 => ?_)
  refine own_getS 3 rfl (host := "") (Or.inl (hw _ (List.mem_of_getElem? (i := 33) rfl))) Via.refl S_cs d5_0 ?_
  have ihc3 : ¬ cs.toInt = (0 : Int) := by omega
  have hc3 : ¬ (cs = (0 : Int32)) := own_neq' ihc3
  refine own_ifNo 6 rfl d5_3 (feq hc3).1 ?_
  refine own_aloadN 7 rfl d5_6 rfl rfl ?_
  refine own_getF 10 rfl (host := "") (Or.inl (hw _ (List.mem_of_getElem? (i := 22) rfl))) Via.refl Fc_p1 d5_7 ?_
  refine own_goto 14 d5_10 (by decide) (by decide) ?_
  refine own_retN rfl (by simp) d5_14 (by decide) (by decide) ?_
  exact ⟨_, rfl, congrArg Value.int (by decide), rfl⟩
theorem d13_0 : decode jdk_42_method_154_code 0 = .ok (.getstatic 38, 3) := by decide +kernel
theorem d13_3 : decode jdk_42_method_154_code 3 = .ok (.ifCond .eq 14, 3) := by decide +kernel
theorem d13_6 : decode jdk_42_method_154_code 6 = .ok (.aload_n 0, 1) := by decide +kernel
theorem d13_7 : decode jdk_42_method_154_code 7 = .ok (.getfield 15, 3) := by decide +kernel
theorem d13_10 : decode jdk_42_method_154_code 10 = .ok (.ifCond .ne 7, 3) := by decide +kernel
theorem d13_13 : decode jdk_42_method_154_code 13 = .ok (.iconst 1, 1) := by decide +kernel
theorem d13_14 : decode jdk_42_method_154_code 14 = .ok (.goto 4, 3) := by decide +kernel
theorem d13_18 : decode jdk_42_method_154_code 18 = .ok (.ireturn, 1) := by decide +kernel
theorem own_pf1 : plainFor (⟨"java/lang/String", "isLatin1", "()Z"⟩ : MethodName) = true := by first | exact plainFor_of_name (by first | (simp [plainName, overriddenIn]; done) | decide +kernel) | decide +kernel
set_option maxRecDepth 65536 in
set_option maxHeartbeats 40000000 in
theorem rmLat (l : Launch) (Z : State) (a0 : Array Value) (hw : ∀ d ∈ tables_1, d.before a0 Z = true) (ws : List Jvm.Cond) {Ts : List String} (p1 : Addr) (cs : Int32) (fm : Value) (h0 : Heap) (I : own_Ini Z cs fm) (Es_p1 : Exa Z h0 p1 "java/lang/String") (Fc_p1 : Fld Z h0 p1 "java/lang/String" "coder" "B" (.int (0 : Int32))) :
    own_Met l Z (⟨"java/lang/String", "isLatin1", "()Z"⟩ : MethodName) jdk_42_method_154_code 1 (some .boolean) ws ({ frames := 0, cells := 0, slots := 0, locals := 0 } : Room) #[(.ref p1)] h0 (own_some (fun v h => v = .int (1 : Int32) ∧ h = h0)) Ts Ts := by
  have I' := I
  obtain ⟨S_cs, N_cs, HW, R_fm, S_fm, HC⟩ := I'
  refine own_met (ls0 := #[.val (.ref p1)]) own_pf1 (fun m => by first | rfl | (simp [entryFrame, mkF, argsToLocals, Value.category, maxLocals]; done)) ?_
  intro p e s m below meth c
  refine own_old (fun O0 => ?_)
  refine own_getS 3 rfl (host := "") (Or.inl (hw _ (List.mem_of_getElem? (i := 33) rfl))) Via.refl S_cs d13_0 ?_
  have ihc3 : ¬ cs.toInt = (0 : Int) := by omega
  have hc3 : ¬ (cs = (0 : Int32)) := own_neq' ihc3
  refine own_ifNo 6 rfl d13_3 (feq hc3).1 ?_
  refine own_aloadN 7 rfl d13_6 rfl rfl ?_
  refine own_getF 10 rfl (host := "") (Or.inl (hw _ (List.mem_of_getElem? (i := 22) rfl))) Via.refl Fc_p1 d13_7 ?_
  refine own_ifNo 13 rfl d13_10 (teq (rfl : (0 : Int32) = (0 : Int32))).2 ?_
  refine own_iconst 14 rfl (1 : Int32) d13_13 rfl ?_
  refine own_goto 18 d13_14 (by decide) (by decide) ?_
  refine own_retN rfl (by simp) d13_18 (by decide) (by decide) ?_
  exact ⟨_, rfl, rfl, rfl⟩
theorem d4_0 : decode jdk_42_method_54_code 0 = .ok (.aload_n 0, 1) := by decide +kernel
theorem d4_1 : decode jdk_42_method_54_code 1 = .ok (.getfield 9, 3) := by decide +kernel
theorem d4_4 : decode jdk_42_method_54_code 4 = .ok (.arraylength, 1) := by decide +kernel
theorem d4_5 : decode jdk_42_method_54_code 5 = .ok (.aload_n 0, 1) := by decide +kernel
theorem d4_6 : decode jdk_42_method_54_code 6 = .ok (.invokevirtual 335, 3) := by decide +kernel
theorem own_pd0 : parseMethodDescriptor "()B" = some ⟨[], some .byte⟩ := by decide +kernel
theorem d4_9 : decode jdk_42_method_54_code 9 = .ok (.ishr, 1) := by decide +kernel
theorem d4_10 : decode jdk_42_method_54_code 10 = .ok (.ireturn, 1) := by decide +kernel
theorem own_pf2 : plainFor (⟨"java/lang/String", "length", "()I"⟩ : MethodName) = true := by first | exact plainFor_of_name (by first | (simp [plainName, overriddenIn]; done) | decide +kernel) | decide +kernel
set_option maxRecDepth 65536 in
set_option maxHeartbeats 40000000 in
theorem rmLen0 (l : Launch) (Z : State) (a0 : Array Value) (hw : ∀ d ∈ tables_1, d.before a0 Z = true) (ws : List Jvm.Cond) {Ts : List String} (p1 qa : Addr) (ka : ClassId) (cs : Int32) (fm : Value) (h0 : Heap) (I : own_Ini Z cs fm) (Es_p1 : Exa Z h0 p1 "java/lang/String") (Fc_p1 : Fld Z h0 p1 "java/lang/String" "coder" "B" (.int (0 : Int32))) (Fv_p1 : Fld Z h0 p1 "java/lang/String" "value" "[B" (.ref qa)) (Va_qa : Arv Z h0 qa ka .byte (0 : Int32) [] (.int (0 : Int32))) :
    own_Met l Z (⟨"java/lang/String", "length", "()I"⟩ : MethodName) jdk_42_method_54_code 1 (some .int) ws ({ frames := 1, cells := 0, slots := 0, locals := 13 } : Room) #[(.ref p1)] h0 (own_some (fun v h => v = .int (0 : Int32) ∧ h = h0)) Ts Ts := by
  have I' := I
  obtain ⟨S_cs, N_cs, HW, R_fm, S_fm, HC⟩ := I'
  refine own_met (ls0 := #[.val (.ref p1)]) own_pf2 (fun m => by first | rfl | (simp [entryFrame, mkF, argsToLocals, Value.category, maxLocals]; done)) ?_
  intro p e s m below meth c
  refine own_old (fun O0 => ?_)
  refine own_aloadN 1 rfl d4_0 rfl rfl ?_
  refine own_getF 4 rfl (host := "") (Or.inl (hw _ (List.mem_of_getElem? (i := 21) rfl))) Via.refl Fv_p1 d4_1 ?_
  obtain ⟨c1, A1, q1, S1, N1, H1, G1⟩ := id Va_qa
  refine own_alen 5 rfl A1 (0 : Int32) (len_of S1 N1) d4_4 ?_
  refine own_aloadN 6 rfl d4_5 rfl rfl ?_
  refine own_callV 9 rfl 0 0 1 [] [(.int (0 : Int32))] (y := (⟨"java/lang/String", "coder", "()B"⟩ : MethodName)) (z := (⟨"java/lang/String", "coder", "()B"⟩ : MethodName)) (hw _ (List.mem_of_getElem? (i := 28) rfl)) (hw _ (List.mem_of_getElem? (i := 29) rfl)) (fun hZ => notFace_of_selects (args := #[]) (mvT hZ (hw _ (List.mem_of_getElem? (i := 31) rfl)))) (hw _ (List.mem_of_getElem? (i := 31) rfl)) (hw _ (List.mem_of_getElem? (i := 30) rfl)) (hw _ (List.mem_of_getElem? (i := 3) rfl)) (hw _ (List.mem_of_getElem? (i := 32) rfl)) (by decide) Es_p1 (rmCoder l Z a0 hw [] p1 cs fm h0 I Es_p1 Fc_p1) d4_6 rfl (lenOf own_pd0 rfl) rfl rfl rfl (by decide) (by decide) rfl rfl (by decide) (by decide) (own_kv fun v2 h2 q2 => ?_)
  obtain ⟨rfl, e2⟩ := q2
  rw [e2]
  refine own_ishr 10 rfl d4_9 ?_
  rw [show ((0 : Int32) >>> ((0 : Int32) &&& 31)) = (0 : Int32) from by decide]
  refine own_retI rfl d4_10 (by decide) (by decide) ?_
  exact ⟨_, rfl, rfl, rfl⟩
set_option maxRecDepth 65536 in
set_option maxHeartbeats 40000000 in
theorem rmLen1 (l : Launch) (Z : State) (a0 : Array Value) (hw : ∀ d ∈ tables_1, d.before a0 Z = true) (ws : List Jvm.Cond) {Ts : List String} (p1 qa : Addr) (ka : ClassId) (y0 : Int32) (cs : Int32) (fm : Value) (h0 : Heap) (I : own_Ini Z cs fm) (Es_p1 : Exa Z h0 p1 "java/lang/String") (Fc_p1 : Fld Z h0 p1 "java/lang/String" "coder" "B" (.int (0 : Int32))) (Fv_p1 : Fld Z h0 p1 "java/lang/String" "value" "[B" (.ref qa)) (Va_qa : Arv Z h0 qa ka .byte (1 : Int32) [(.int y0)] (.int (0 : Int32))) :
    own_Met l Z (⟨"java/lang/String", "length", "()I"⟩ : MethodName) jdk_42_method_54_code 1 (some .int) ws ({ frames := 1, cells := 0, slots := 0, locals := 13 } : Room) #[(.ref p1)] h0 (own_some (fun v h => v = .int (1 : Int32) ∧ h = h0)) Ts Ts := by
  have I' := I
  obtain ⟨S_cs, N_cs, HW, R_fm, S_fm, HC⟩ := I'
  refine own_met (ls0 := #[.val (.ref p1)]) own_pf2 (fun m => by first | rfl | (simp [entryFrame, mkF, argsToLocals, Value.category, maxLocals]; done)) ?_
  intro p e s m below meth c
  refine own_old (fun O0 => ?_)
  refine own_aloadN 1 rfl d4_0 rfl rfl ?_
  refine own_getF 4 rfl (host := "") (Or.inl (hw _ (List.mem_of_getElem? (i := 21) rfl))) Via.refl Fv_p1 d4_1 ?_
  obtain ⟨c1, A1, q1, S1, N1, H1, G1⟩ := id Va_qa
  refine own_alen 5 rfl A1 (1 : Int32) (len_of S1 N1) d4_4 ?_
  refine own_aloadN 6 rfl d4_5 rfl rfl ?_
  refine own_callV 9 rfl 0 0 1 [] [(.int (1 : Int32))] (y := (⟨"java/lang/String", "coder", "()B"⟩ : MethodName)) (z := (⟨"java/lang/String", "coder", "()B"⟩ : MethodName)) (hw _ (List.mem_of_getElem? (i := 28) rfl)) (hw _ (List.mem_of_getElem? (i := 29) rfl)) (fun hZ => notFace_of_selects (args := #[]) (mvT hZ (hw _ (List.mem_of_getElem? (i := 31) rfl)))) (hw _ (List.mem_of_getElem? (i := 31) rfl)) (hw _ (List.mem_of_getElem? (i := 30) rfl)) (hw _ (List.mem_of_getElem? (i := 3) rfl)) (hw _ (List.mem_of_getElem? (i := 32) rfl)) (by decide) Es_p1 (rmCoder l Z a0 hw [] p1 cs fm h0 I Es_p1 Fc_p1) d4_6 rfl (lenOf own_pd0 rfl) rfl rfl rfl (by decide) (by decide) rfl rfl (by decide) (by decide) (own_kv fun v2 h2 q2 => ?_)
  obtain ⟨rfl, e2⟩ := q2
  rw [e2]
  refine own_ishr 10 rfl d4_9 ?_
  rw [show ((1 : Int32) >>> ((0 : Int32) &&& 31)) = (1 : Int32) from by decide]
  refine own_retI rfl d4_10 (by decide) (by decide) ?_
  exact ⟨_, rfl, rfl, rfl⟩
set_option maxRecDepth 65536 in
set_option maxHeartbeats 40000000 in
theorem rmLen2 (l : Launch) (Z : State) (a0 : Array Value) (hw : ∀ d ∈ tables_1, d.before a0 Z = true) (ws : List Jvm.Cond) {Ts : List String} (p1 qa : Addr) (ka : ClassId) (y0 : Int32) (y1 : Int32) (cs : Int32) (fm : Value) (h0 : Heap) (I : own_Ini Z cs fm) (Es_p1 : Exa Z h0 p1 "java/lang/String") (Fc_p1 : Fld Z h0 p1 "java/lang/String" "coder" "B" (.int (0 : Int32))) (Fv_p1 : Fld Z h0 p1 "java/lang/String" "value" "[B" (.ref qa)) (Va_qa : Arv Z h0 qa ka .byte (2 : Int32) [(.int y0), (.int y1)] (.int (0 : Int32))) :
    own_Met l Z (⟨"java/lang/String", "length", "()I"⟩ : MethodName) jdk_42_method_54_code 1 (some .int) ws ({ frames := 1, cells := 0, slots := 0, locals := 13 } : Room) #[(.ref p1)] h0 (own_some (fun v h => v = .int (2 : Int32) ∧ h = h0)) Ts Ts := by
  have I' := I
  obtain ⟨S_cs, N_cs, HW, R_fm, S_fm, HC⟩ := I'
  refine own_met (ls0 := #[.val (.ref p1)]) own_pf2 (fun m => by first | rfl | (simp [entryFrame, mkF, argsToLocals, Value.category, maxLocals]; done)) ?_
  intro p e s m below meth c
  refine own_old (fun O0 => ?_)
  refine own_aloadN 1 rfl d4_0 rfl rfl ?_
  refine own_getF 4 rfl (host := "") (Or.inl (hw _ (List.mem_of_getElem? (i := 21) rfl))) Via.refl Fv_p1 d4_1 ?_
  obtain ⟨c1, A1, q1, S1, N1, H1, G1⟩ := id Va_qa
  refine own_alen 5 rfl A1 (2 : Int32) (len_of S1 N1) d4_4 ?_
  refine own_aloadN 6 rfl d4_5 rfl rfl ?_
  refine own_callV 9 rfl 0 0 1 [] [(.int (2 : Int32))] (y := (⟨"java/lang/String", "coder", "()B"⟩ : MethodName)) (z := (⟨"java/lang/String", "coder", "()B"⟩ : MethodName)) (hw _ (List.mem_of_getElem? (i := 28) rfl)) (hw _ (List.mem_of_getElem? (i := 29) rfl)) (fun hZ => notFace_of_selects (args := #[]) (mvT hZ (hw _ (List.mem_of_getElem? (i := 31) rfl)))) (hw _ (List.mem_of_getElem? (i := 31) rfl)) (hw _ (List.mem_of_getElem? (i := 30) rfl)) (hw _ (List.mem_of_getElem? (i := 3) rfl)) (hw _ (List.mem_of_getElem? (i := 32) rfl)) (by decide) Es_p1 (rmCoder l Z a0 hw [] p1 cs fm h0 I Es_p1 Fc_p1) d4_6 rfl (lenOf own_pd0 rfl) rfl rfl rfl (by decide) (by decide) rfl rfl (by decide) (by decide) (own_kv fun v2 h2 q2 => ?_)
  obtain ⟨rfl, e2⟩ := q2
  rw [e2]
  refine own_ishr 10 rfl d4_9 ?_
  rw [show ((2 : Int32) >>> ((0 : Int32) &&& 31)) = (2 : Int32) from by decide]
  refine own_retI rfl d4_10 (by decide) (by decide) ?_
  exact ⟨_, rfl, rfl, rfl⟩
set_option maxRecDepth 65536 in
set_option maxHeartbeats 40000000 in
theorem rmLen3 (l : Launch) (Z : State) (a0 : Array Value) (hw : ∀ d ∈ tables_1, d.before a0 Z = true) (ws : List Jvm.Cond) {Ts : List String} (p1 qa : Addr) (ka : ClassId) (y0 : Int32) (y1 : Int32) (y2 : Int32) (cs : Int32) (fm : Value) (h0 : Heap) (I : own_Ini Z cs fm) (Es_p1 : Exa Z h0 p1 "java/lang/String") (Fc_p1 : Fld Z h0 p1 "java/lang/String" "coder" "B" (.int (0 : Int32))) (Fv_p1 : Fld Z h0 p1 "java/lang/String" "value" "[B" (.ref qa)) (Va_qa : Arv Z h0 qa ka .byte (3 : Int32) [(.int y0), (.int y1), (.int y2)] (.int (0 : Int32))) :
    own_Met l Z (⟨"java/lang/String", "length", "()I"⟩ : MethodName) jdk_42_method_54_code 1 (some .int) ws ({ frames := 1, cells := 0, slots := 0, locals := 13 } : Room) #[(.ref p1)] h0 (own_some (fun v h => v = .int (3 : Int32) ∧ h = h0)) Ts Ts := by
  have I' := I
  obtain ⟨S_cs, N_cs, HW, R_fm, S_fm, HC⟩ := I'
  refine own_met (ls0 := #[.val (.ref p1)]) own_pf2 (fun m => by first | rfl | (simp [entryFrame, mkF, argsToLocals, Value.category, maxLocals]; done)) ?_
  intro p e s m below meth c
  refine own_old (fun O0 => ?_)
  refine own_aloadN 1 rfl d4_0 rfl rfl ?_
  refine own_getF 4 rfl (host := "") (Or.inl (hw _ (List.mem_of_getElem? (i := 21) rfl))) Via.refl Fv_p1 d4_1 ?_
  obtain ⟨c1, A1, q1, S1, N1, H1, G1⟩ := id Va_qa
  refine own_alen 5 rfl A1 (3 : Int32) (len_of S1 N1) d4_4 ?_
  refine own_aloadN 6 rfl d4_5 rfl rfl ?_
  refine own_callV 9 rfl 0 0 1 [] [(.int (3 : Int32))] (y := (⟨"java/lang/String", "coder", "()B"⟩ : MethodName)) (z := (⟨"java/lang/String", "coder", "()B"⟩ : MethodName)) (hw _ (List.mem_of_getElem? (i := 28) rfl)) (hw _ (List.mem_of_getElem? (i := 29) rfl)) (fun hZ => notFace_of_selects (args := #[]) (mvT hZ (hw _ (List.mem_of_getElem? (i := 31) rfl)))) (hw _ (List.mem_of_getElem? (i := 31) rfl)) (hw _ (List.mem_of_getElem? (i := 30) rfl)) (hw _ (List.mem_of_getElem? (i := 3) rfl)) (hw _ (List.mem_of_getElem? (i := 32) rfl)) (by decide) Es_p1 (rmCoder l Z a0 hw [] p1 cs fm h0 I Es_p1 Fc_p1) d4_6 rfl (lenOf own_pd0 rfl) rfl rfl rfl (by decide) (by decide) rfl rfl (by decide) (by decide) (own_kv fun v2 h2 q2 => ?_)
  obtain ⟨rfl, e2⟩ := q2
  rw [e2]
  refine own_ishr 10 rfl d4_9 ?_
  rw [show ((3 : Int32) >>> ((0 : Int32) &&& 31)) = (3 : Int32) from by decide]
  refine own_retI rfl d4_10 (by decide) (by decide) ?_
  exact ⟨_, rfl, rfl, rfl⟩
theorem d16_0 : decode jdk_41_method_11_code 0 = .ok (.iload_n 0, 1) := by decide +kernel
theorem d16_1 : decode jdk_41_method_11_code 1 = .ok (.ifCond .lt 8, 3) := by decide +kernel
theorem d16_4 : decode jdk_41_method_11_code 4 = .ok (.iload_n 0, 1) := by decide +kernel
theorem d16_5 : decode jdk_41_method_11_code 5 = .ok (.iload_n 1, 1) := by decide +kernel
theorem d16_6 : decode jdk_41_method_11_code 6 = .ok (.if_icmp .lt 10, 3) := by decide +kernel
theorem d16_16 : decode jdk_41_method_11_code 16 = .ok (.iload_n 0, 1) := by decide +kernel
theorem d16_17 : decode jdk_41_method_11_code 17 = .ok (.ireturn, 1) := by decide +kernel
theorem own_pf3 : plainFor (⟨"jdk/internal/util/Preconditions", "checkIndex", "(IILjava/util/function/BiFunction;)I"⟩ : MethodName) = true := by first | exact plainFor_of_name (by first | (simp [plainName, overriddenIn]; done) | decide +kernel) | decide +kernel
set_option maxRecDepth 65536 in
set_option maxHeartbeats 40000000 in
theorem rmPci (l : Launch) (Z : State) (a0 : Array Value) (hw : ∀ d ∈ tables_1, d.before a0 Z = true) (ws : List Jvm.Cond) {Ts : List String} (x1 x2 : Int32) (x3 : Value) (h0 : Heap) (hx3 : x3.isRef = true) (hx1 : 0 ≤ x1.toInt) (hx2 : x1.toInt < x2.toInt) :
    own_Met l Z (⟨"jdk/internal/util/Preconditions", "checkIndex", "(IILjava/util/function/BiFunction;)I"⟩ : MethodName) jdk_41_method_11_code 3 (some .int) ws ({ frames := 0, cells := 0, slots := 0, locals := 0 } : Room) #[(.int x1), (.int x2), x3] h0 (own_some (fun v h => v = .int x1 ∧ h = h0)) Ts Ts := by
  refine own_met (ls0 := #[.val (.int x1), .val (.int x2), .val x3]) own_pf3 (fun m => by rcases ref_cases hx3 with rfl | ⟨_, rfl⟩ <;> rfl) ?_
  intro p e s m below meth c
  refine own_old (fun O0 => ?_)
  refine own_iloadN 1 rfl d16_0 rfl ?_
  have ihc1 : (0 : Int) ≤ x1.toInt := by omega
  have hc1 : ¬ (x1 < (0 : Int32)) := own_nlt' ihc1
  refine own_ifNo 4 rfl d16_1 (flt hc1).1 ?_
  refine own_iloadN 5 rfl d16_4 rfl ?_
  refine own_iloadN 6 rfl d16_5 rfl ?_
  have ihc6 : x1.toInt < x2.toInt := by omega
  have hc6 : x1 < x2 := own_lt' ihc6
  refine own_icmpYes 16 d16_6 (tlt hc6).1 (by decide) (by decide) ?_
  refine own_iloadN 17 rfl d16_16 rfl ?_
  refine own_retI rfl d16_17 (by decide) (by decide) ?_
  exact ⟨_, rfl, rfl, rfl⟩
theorem d15_0 : decode jdk_42_method_155_code 0 = .ok (.iload_n 0, 1) := by decide +kernel
theorem d15_1 : decode jdk_42_method_155_code 1 = .ok (.iload_n 1, 1) := by decide +kernel
theorem d15_2 : decode jdk_42_method_155_code 2 = .ok (.getstatic 1053, 3) := by decide +kernel
theorem d15_5 : decode jdk_42_method_155_code 5 = .ok (.invokestatic 1059, 3) := by decide +kernel
theorem own_pd1 : parseMethodDescriptor "(IILjava/util/function/BiFunction;)I" = some ⟨[.int, .int, (.object "java/util/function/BiFunction")], some .int⟩ := by decide +kernel
theorem d15_8 : decode jdk_42_method_155_code 8 = .ok (.pop, 1) := by decide +kernel
theorem d15_9 : decode jdk_42_method_155_code 9 = .ok (.return_, 1) := by decide +kernel
theorem own_pf4 : plainFor (⟨"java/lang/String", "checkIndex", "(II)V"⟩ : MethodName) = true := by first | exact plainFor_of_name (by first | (simp [plainName, overriddenIn]; done) | decide +kernel) | decide +kernel
set_option maxRecDepth 65536 in
set_option maxHeartbeats 40000000 in
theorem rmCi (l : Launch) (Z : State) (a0 : Array Value) (hw : ∀ d ∈ tables_1, d.before a0 Z = true) (ws : List Jvm.Cond) {Ts : List String} (x1 x2 : Int32) (cs : Int32) (fm : Value) (h0 : Heap) (I : own_Ini Z cs fm) (hx1 : 0 ≤ x1.toInt) (hx2 : x1.toInt < x2.toInt) :
    own_Met l Z (⟨"java/lang/String", "checkIndex", "(II)V"⟩ : MethodName) jdk_42_method_155_code 2 none ws ({ frames := 1, cells := 0, slots := 0, locals := 14 } : Room) #[(.int x1), (.int x2)] h0 (own_none (fun h => h = h0)) Ts Ts := by
  have I' := I
  obtain ⟨S_cs, N_cs, HW, R_fm, S_fm, HC⟩ := I'
  refine own_met (ls0 := #[.val (.int x1), .val (.int x2)]) own_pf4 (fun m => by first | rfl | (simp [entryFrame, mkF, argsToLocals, Value.category, maxLocals]; done)) ?_
  intro p e s m below meth c
  refine own_old (fun O0 => ?_)
  refine own_iloadN 1 rfl d15_0 rfl ?_
  refine own_iloadN 2 rfl d15_1 rfl ?_
  refine own_getS 5 rfl (host := "") (Or.inl (hw _ (List.mem_of_getElem? (i := 75) rfl))) Via.refl S_fm d15_2 ?_
  refine own_callS 8 rfl 0 0 0 [(.int x1), (.int x2), fm] [] (y := (⟨"jdk/internal/util/Preconditions", "checkIndex", "(IILjava/util/function/BiFunction;)I"⟩ : MethodName)) (hw _ (List.mem_of_getElem? (i := 77) rfl)) (hw _ (List.mem_of_getElem? (i := 78) rfl)) (hw _ (List.mem_of_getElem? (i := 76) rfl)) (hw _ (List.mem_of_getElem? (i := 79) rfl)) (by decide) (rmPci l Z a0 hw [] x1 x2 fm h0 R_fm hx1 hx2) d15_5 rfl (lenOf own_pd1 rfl) rfl rfl rfl (by decide) (by decide) rfl rfl (by decide) (by decide) (own_kv fun v1 h1 q1 => ?_)
  obtain ⟨rfl, e1⟩ := q1
  rw [e1]
  refine own_pop 9 rfl d15_8 rfl ?_
  refine own_ret rfl d15_9 (by decide) (by decide) ?_
  exact ⟨rfl, rfl⟩
theorem d14_0 : decode jdk_43_method_2_code 0 = .ok (.iload_n 1, 1) := by decide +kernel
theorem d14_1 : decode jdk_43_method_2_code 1 = .ok (.aload_n 0, 1) := by decide +kernel
theorem d14_2 : decode jdk_43_method_2_code 2 = .ok (.arraylength, 1) := by decide +kernel
theorem d14_3 : decode jdk_43_method_2_code 3 = .ok (.invokestatic 9, 3) := by decide +kernel
theorem own_pd2 : parseMethodDescriptor "(II)V" = some ⟨[.int, .int], none⟩ := by decide +kernel
theorem d14_6 : decode jdk_43_method_2_code 6 = .ok (.aload_n 0, 1) := by decide +kernel
theorem d14_7 : decode jdk_43_method_2_code 7 = .ok (.iload_n 1, 1) := by decide +kernel
theorem d14_8 : decode jdk_43_method_2_code 8 = .ok (.baload, 1) := by decide +kernel
theorem d14_9 : decode jdk_43_method_2_code 9 = .ok (.sipush 255, 3) := by decide +kernel
theorem d14_12 : decode jdk_43_method_2_code 12 = .ok (.iand, 1) := by decide +kernel
theorem d14_13 : decode jdk_43_method_2_code 13 = .ok (.i2c, 1) := by decide +kernel
theorem d14_14 : decode jdk_43_method_2_code 14 = .ok (.ireturn, 1) := by decide +kernel
theorem own_pf5 : plainFor (⟨"java/lang/StringLatin1", "charAt", "([BI)C"⟩ : MethodName) = true := by first | exact plainFor_of_name (by first | (simp [plainName, overriddenIn]; done) | decide +kernel) | decide +kernel
set_option maxRecDepth 65536 in
set_option maxHeartbeats 40000000 in
theorem rmLc0 (l : Launch) (Z : State) (a0 : Array Value) (hw : ∀ d ∈ tables_1, d.before a0 Z = true) (ws : List Jvm.Cond) {Ts : List String} (qa : Addr) (ka : ClassId) (y0 y1 : Int32) (cs : Int32) (fm : Value) (h0 : Heap) (I : own_Ini Z cs fm) (Va_qa : Arv Z h0 qa ka .byte (2 : Int32) [(.int y0), (.int y1)] (.int (0 : Int32))) :
    own_Met l Z (⟨"java/lang/StringLatin1", "charAt", "([BI)C"⟩ : MethodName) jdk_43_method_2_code 2 (some .char) ws ({ frames := 2, cells := 0, slots := 0, locals := 27 } : Room) #[(.ref qa), (.int (0 : Int32))] h0 (own_some (fun v h => v = .int (nar .char (y0 &&& (255 : Int32)).toUInt32.toUInt16.toUInt32.toInt32) ∧ h = h0)) Ts Ts := by
  have I' := I
  obtain ⟨S_cs, N_cs, HW, R_fm, S_fm, HC⟩ := I'
  refine own_met (ls0 := #[.val (.ref qa), .val (.int (0 : Int32))]) own_pf5 (fun m => by first | rfl | (simp [entryFrame, mkF, argsToLocals, Value.category, maxLocals]; done)) ?_
  intro p e s m below meth c
  refine own_old (fun O0 => ?_)
  refine own_iloadN 1 rfl d14_0 rfl ?_
  refine own_aloadN 2 rfl d14_1 rfl rfl ?_
  obtain ⟨c1, A1, q1, S1, N1, H1, G1⟩ := id Va_qa
  refine own_alen 3 rfl A1 (2 : Int32) (len_of S1 N1) d14_2 ?_
  refine own_callS 6 rfl 0 0 0 [(.int (0 : Int32)), (.int (2 : Int32))] [] (y := (⟨"java/lang/String", "checkIndex", "(II)V"⟩ : MethodName)) (hw _ (List.mem_of_getElem? (i := 72) rfl)) (hw _ (List.mem_of_getElem? (i := 73) rfl)) (hw _ (List.mem_of_getElem? (i := 3) rfl)) (hw _ (List.mem_of_getElem? (i := 74) rfl)) (by decide) (rmCi l Z a0 hw [] (0 : Int32) (2 : Int32) cs fm h0 I (by decide) (by decide)) d14_3 rfl (lenOf own_pd2 rfl) rfl rfl rfl (by decide) (by decide) rfl rfl (by decide) (by decide) (own_k0 fun h2 q2 => ?_)
  rw [q2]
  refine own_aloadN 7 rfl d14_6 rfl rfl ?_
  refine own_iloadN 8 rfl d14_7 rfl ?_
  obtain ⟨c3, A3, q3, S3, N3, H3, G3⟩ := id Va_qa
  refine own_baload 9 rfl A3 (inb_of S3 ⟨by decide, by decide⟩) (Has.at H3 (inb_of S3 ⟨by decide, by decide⟩) rfl) d14_8 ?_
  refine own_sipush 12 rfl (255 : Int32) d14_9 rfl ?_
  refine own_iand 13 rfl d14_12 ?_
  refine own_i2c 14 rfl d14_13 ?_
  refine own_retN rfl (by simp) d14_14 (by decide) (by decide) ?_
  exact ⟨_, rfl, rfl, rfl⟩
set_option maxRecDepth 65536 in
set_option maxHeartbeats 40000000 in
theorem rmLc1 (l : Launch) (Z : State) (a0 : Array Value) (hw : ∀ d ∈ tables_1, d.before a0 Z = true) (ws : List Jvm.Cond) {Ts : List String} (qa : Addr) (ka : ClassId) (y0 y1 : Int32) (cs : Int32) (fm : Value) (h0 : Heap) (I : own_Ini Z cs fm) (Va_qa : Arv Z h0 qa ka .byte (2 : Int32) [(.int y0), (.int y1)] (.int (0 : Int32))) :
    own_Met l Z (⟨"java/lang/StringLatin1", "charAt", "([BI)C"⟩ : MethodName) jdk_43_method_2_code 2 (some .char) ws ({ frames := 2, cells := 0, slots := 0, locals := 27 } : Room) #[(.ref qa), (.int (1 : Int32))] h0 (own_some (fun v h => v = .int (nar .char (y1 &&& (255 : Int32)).toUInt32.toUInt16.toUInt32.toInt32) ∧ h = h0)) Ts Ts := by
  have I' := I
  obtain ⟨S_cs, N_cs, HW, R_fm, S_fm, HC⟩ := I'
  refine own_met (ls0 := #[.val (.ref qa), .val (.int (1 : Int32))]) own_pf5 (fun m => by first | rfl | (simp [entryFrame, mkF, argsToLocals, Value.category, maxLocals]; done)) ?_
  intro p e s m below meth c
  refine own_old (fun O0 => ?_)
  refine own_iloadN 1 rfl d14_0 rfl ?_
  refine own_aloadN 2 rfl d14_1 rfl rfl ?_
  obtain ⟨c1, A1, q1, S1, N1, H1, G1⟩ := id Va_qa
  refine own_alen 3 rfl A1 (2 : Int32) (len_of S1 N1) d14_2 ?_
  refine own_callS 6 rfl 0 0 0 [(.int (1 : Int32)), (.int (2 : Int32))] [] (y := (⟨"java/lang/String", "checkIndex", "(II)V"⟩ : MethodName)) (hw _ (List.mem_of_getElem? (i := 72) rfl)) (hw _ (List.mem_of_getElem? (i := 73) rfl)) (hw _ (List.mem_of_getElem? (i := 3) rfl)) (hw _ (List.mem_of_getElem? (i := 74) rfl)) (by decide) (rmCi l Z a0 hw [] (1 : Int32) (2 : Int32) cs fm h0 I (by decide) (by decide)) d14_3 rfl (lenOf own_pd2 rfl) rfl rfl rfl (by decide) (by decide) rfl rfl (by decide) (by decide) (own_k0 fun h2 q2 => ?_)
  rw [q2]
  refine own_aloadN 7 rfl d14_6 rfl rfl ?_
  refine own_iloadN 8 rfl d14_7 rfl ?_
  obtain ⟨c3, A3, q3, S3, N3, H3, G3⟩ := id Va_qa
  refine own_baload 9 rfl A3 (inb_of S3 ⟨by decide, by decide⟩) (Has.at H3 (inb_of S3 ⟨by decide, by decide⟩) rfl) d14_8 ?_
  refine own_sipush 12 rfl (255 : Int32) d14_9 rfl ?_
  refine own_iand 13 rfl d14_12 ?_
  refine own_i2c 14 rfl d14_13 ?_
  refine own_retN rfl (by simp) d14_14 (by decide) (by decide) ?_
  exact ⟨_, rfl, rfl, rfl⟩
theorem d12_0 : decode jdk_42_method_56_code 0 = .ok (.aload_n 0, 1) := by decide +kernel
theorem d12_1 : decode jdk_42_method_56_code 1 = .ok (.invokevirtual 492, 3) := by decide +kernel
theorem own_pd3 : parseMethodDescriptor "()Z" = some ⟨[], some .boolean⟩ := by decide +kernel
theorem d12_4 : decode jdk_42_method_56_code 4 = .ok (.ifCond .eq 12, 3) := by decide +kernel
theorem d12_7 : decode jdk_42_method_56_code 7 = .ok (.aload_n 0, 1) := by decide +kernel
theorem d12_8 : decode jdk_42_method_56_code 8 = .ok (.getfield 9, 3) := by decide +kernel
theorem d12_11 : decode jdk_42_method_56_code 11 = .ok (.iload_n 1, 1) := by decide +kernel
theorem d12_12 : decode jdk_42_method_56_code 12 = .ok (.invokestatic 495, 3) := by decide +kernel
theorem own_pd4 : parseMethodDescriptor "([BI)C" = some ⟨[(.array .byte), .int], some .char⟩ := by decide +kernel
theorem d12_15 : decode jdk_42_method_56_code 15 = .ok (.ireturn, 1) := by decide +kernel
theorem own_pf6 : plainFor (⟨"java/lang/String", "charAt", "(I)C"⟩ : MethodName) = true := by first | exact plainFor_of_name (by first | (simp [plainName, overriddenIn]; done) | decide +kernel) | decide +kernel
set_option maxRecDepth 65536 in
set_option maxHeartbeats 40000000 in
theorem rmCa0 (l : Launch) (Z : State) (a0 : Array Value) (hw : ∀ d ∈ tables_1, d.before a0 Z = true) (ws : List Jvm.Cond) {Ts : List String} (p1 qa : Addr) (ka : ClassId) (y0 y1 : Int32) (cs : Int32) (fm : Value) (h0 : Heap) (I : own_Ini Z cs fm) (Es_p1 : Exa Z h0 p1 "java/lang/String") (Fc_p1 : Fld Z h0 p1 "java/lang/String" "coder" "B" (.int (0 : Int32))) (Fv_p1 : Fld Z h0 p1 "java/lang/String" "value" "[B" (.ref qa)) (Va_qa : Arv Z h0 qa ka .byte (2 : Int32) [(.int y0), (.int y1)] (.int (0 : Int32))) :
    own_Met l Z (⟨"java/lang/String", "charAt", "(I)C"⟩ : MethodName) jdk_42_method_56_code 2 (some .char) ws ({ frames := 3, cells := 0, slots := 0, locals := 40 } : Room) #[(.ref p1), (.int (0 : Int32))] h0 (own_some (fun v h => v = .int (nar .char (nar .char (y0 &&& (255 : Int32)).toUInt32.toUInt16.toUInt32.toInt32)) ∧ h = h0)) Ts Ts := by
  have I' := I
  obtain ⟨S_cs, N_cs, HW, R_fm, S_fm, HC⟩ := I'
  refine own_met (ls0 := #[.val (.ref p1), .val (.int (0 : Int32))]) own_pf6 (fun m => by first | rfl | (simp [entryFrame, mkF, argsToLocals, Value.category, maxLocals]; done)) ?_
  intro p e s m below meth c
  refine own_old (fun O0 => ?_)
  refine own_aloadN 1 rfl d12_0 rfl rfl ?_
  refine own_callV 4 rfl 0 0 0 [] [] (y := (⟨"java/lang/String", "isLatin1", "()Z"⟩ : MethodName)) (z := (⟨"java/lang/String", "isLatin1", "()Z"⟩ : MethodName)) (hw _ (List.mem_of_getElem? (i := 64) rfl)) (hw _ (List.mem_of_getElem? (i := 65) rfl)) (fun hZ => notFace_of_selects (args := #[]) (mvT hZ (hw _ (List.mem_of_getElem? (i := 67) rfl)))) (hw _ (List.mem_of_getElem? (i := 67) rfl)) (hw _ (List.mem_of_getElem? (i := 66) rfl)) (hw _ (List.mem_of_getElem? (i := 3) rfl)) (hw _ (List.mem_of_getElem? (i := 68) rfl)) (by decide) Es_p1 (rmLat l Z a0 hw [] p1 cs fm h0 I Es_p1 Fc_p1) d12_1 rfl (lenOf own_pd3 rfl) rfl rfl rfl (by decide) (by decide) rfl rfl (by decide) (by decide) (own_kv fun v1 h1 q1 => ?_)
  obtain ⟨rfl, e1⟩ := q1
  rw [e1]
  refine own_ifNo 7 rfl d12_4 (feq (by decide : ¬ ((1 : Int32) = (0 : Int32)))).1 ?_
  refine own_aloadN 8 rfl d12_7 rfl rfl ?_
  refine own_getF 11 rfl (host := "") (Or.inl (hw _ (List.mem_of_getElem? (i := 21) rfl))) Via.refl Fv_p1 d12_8 ?_
  refine own_iloadN 12 rfl d12_11 rfl ?_
  refine own_callS 15 rfl 0 0 0 [(.ref qa), (.int (0 : Int32))] [] (y := (⟨"java/lang/StringLatin1", "charAt", "([BI)C"⟩ : MethodName)) (hw _ (List.mem_of_getElem? (i := 69) rfl)) (hw _ (List.mem_of_getElem? (i := 70) rfl)) (hw _ (List.mem_of_getElem? (i := 47) rfl)) (hw _ (List.mem_of_getElem? (i := 71) rfl)) (by decide) (rmLc0 l Z a0 hw [] qa ka y0 y1 cs fm h0 I Va_qa) d12_12 rfl (lenOf own_pd4 rfl) rfl rfl rfl (by decide) (by decide) rfl rfl (by decide) (by decide) (own_kv fun v2 h2 q2 => ?_)
  obtain ⟨rfl, e2⟩ := q2
  rw [e2]
  refine own_retN rfl (by simp) d12_15 (by decide) (by decide) ?_
  exact ⟨_, rfl, rfl, rfl⟩
set_option maxRecDepth 65536 in
set_option maxHeartbeats 40000000 in
theorem rmCa1 (l : Launch) (Z : State) (a0 : Array Value) (hw : ∀ d ∈ tables_1, d.before a0 Z = true) (ws : List Jvm.Cond) {Ts : List String} (p1 qa : Addr) (ka : ClassId) (y0 y1 : Int32) (cs : Int32) (fm : Value) (h0 : Heap) (I : own_Ini Z cs fm) (Es_p1 : Exa Z h0 p1 "java/lang/String") (Fc_p1 : Fld Z h0 p1 "java/lang/String" "coder" "B" (.int (0 : Int32))) (Fv_p1 : Fld Z h0 p1 "java/lang/String" "value" "[B" (.ref qa)) (Va_qa : Arv Z h0 qa ka .byte (2 : Int32) [(.int y0), (.int y1)] (.int (0 : Int32))) :
    own_Met l Z (⟨"java/lang/String", "charAt", "(I)C"⟩ : MethodName) jdk_42_method_56_code 2 (some .char) ws ({ frames := 3, cells := 0, slots := 0, locals := 40 } : Room) #[(.ref p1), (.int (1 : Int32))] h0 (own_some (fun v h => v = .int (nar .char (nar .char (y1 &&& (255 : Int32)).toUInt32.toUInt16.toUInt32.toInt32)) ∧ h = h0)) Ts Ts := by
  have I' := I
  obtain ⟨S_cs, N_cs, HW, R_fm, S_fm, HC⟩ := I'
  refine own_met (ls0 := #[.val (.ref p1), .val (.int (1 : Int32))]) own_pf6 (fun m => by first | rfl | (simp [entryFrame, mkF, argsToLocals, Value.category, maxLocals]; done)) ?_
  intro p e s m below meth c
  refine own_old (fun O0 => ?_)
  refine own_aloadN 1 rfl d12_0 rfl rfl ?_
  refine own_callV 4 rfl 0 0 0 [] [] (y := (⟨"java/lang/String", "isLatin1", "()Z"⟩ : MethodName)) (z := (⟨"java/lang/String", "isLatin1", "()Z"⟩ : MethodName)) (hw _ (List.mem_of_getElem? (i := 64) rfl)) (hw _ (List.mem_of_getElem? (i := 65) rfl)) (fun hZ => notFace_of_selects (args := #[]) (mvT hZ (hw _ (List.mem_of_getElem? (i := 67) rfl)))) (hw _ (List.mem_of_getElem? (i := 67) rfl)) (hw _ (List.mem_of_getElem? (i := 66) rfl)) (hw _ (List.mem_of_getElem? (i := 3) rfl)) (hw _ (List.mem_of_getElem? (i := 68) rfl)) (by decide) Es_p1 (rmLat l Z a0 hw [] p1 cs fm h0 I Es_p1 Fc_p1) d12_1 rfl (lenOf own_pd3 rfl) rfl rfl rfl (by decide) (by decide) rfl rfl (by decide) (by decide) (own_kv fun v1 h1 q1 => ?_)
  obtain ⟨rfl, e1⟩ := q1
  rw [e1]
  refine own_ifNo 7 rfl d12_4 (feq (by decide : ¬ ((1 : Int32) = (0 : Int32)))).1 ?_
  refine own_aloadN 8 rfl d12_7 rfl rfl ?_
  refine own_getF 11 rfl (host := "") (Or.inl (hw _ (List.mem_of_getElem? (i := 21) rfl))) Via.refl Fv_p1 d12_8 ?_
  refine own_iloadN 12 rfl d12_11 rfl ?_
  refine own_callS 15 rfl 0 0 0 [(.ref qa), (.int (1 : Int32))] [] (y := (⟨"java/lang/StringLatin1", "charAt", "([BI)C"⟩ : MethodName)) (hw _ (List.mem_of_getElem? (i := 69) rfl)) (hw _ (List.mem_of_getElem? (i := 70) rfl)) (hw _ (List.mem_of_getElem? (i := 47) rfl)) (hw _ (List.mem_of_getElem? (i := 71) rfl)) (by decide) (rmLc1 l Z a0 hw [] qa ka y0 y1 cs fm h0 I Va_qa) d12_12 rfl (lenOf own_pd4 rfl) rfl rfl rfl (by decide) (by decide) rfl rfl (by decide) (by decide) (own_kv fun v2 h2 q2 => ?_)
  obtain ⟨rfl, e2⟩ := q2
  rw [e2]
  refine own_retN rfl (by simp) d12_15 (by decide) (by decide) ?_
  exact ⟨_, rfl, rfl, rfl⟩
theorem d10_0 : decode jdk_52_method_21_code 0 = .ok (.iconst 0, 1) := by decide +kernel
theorem d10_1 : decode jdk_52_method_21_code 1 = .ok (.istore 5, 2) := by decide +kernel
theorem d10_3 : decode jdk_52_method_21_code 3 = .ok (.iload 5, 2) := by decide +kernel
theorem d10_5 : decode jdk_52_method_21_code 5 = .ok (.iload 4, 2) := by decide +kernel
theorem d10_7 : decode jdk_52_method_21_code 7 = .ok (.if_icmp .ge 37, 3) := by decide +kernel
theorem d10_10 : decode jdk_52_method_21_code 10 = .ok (.aload_n 0, 1) := by decide +kernel
theorem d10_11 : decode jdk_52_method_21_code 11 = .ok (.iload_n 1, 1) := by decide +kernel
theorem d10_12 : decode jdk_52_method_21_code 12 = .ok (.caload, 1) := by decide +kernel
theorem d10_13 : decode jdk_52_method_21_code 13 = .ok (.istore 6, 2) := by decide +kernel
theorem d10_15 : decode jdk_52_method_21_code 15 = .ok (.iload 6, 2) := by decide +kernel
theorem d10_17 : decode jdk_52_method_21_code 17 = .ok (.sipush 255, 3) := by decide +kernel
theorem d10_20 : decode jdk_52_method_21_code 20 = .ok (.if_icmp .le 6, 3) := by decide +kernel
theorem d10_26 : decode jdk_52_method_21_code 26 = .ok (.aload_n 2, 1) := by decide +kernel
theorem d10_27 : decode jdk_52_method_21_code 27 = .ok (.iload_n 3, 1) := by decide +kernel
theorem d10_28 : decode jdk_52_method_21_code 28 = .ok (.iload 6, 2) := by decide +kernel
theorem d10_30 : decode jdk_52_method_21_code 30 = .ok (.i2b, 1) := by decide +kernel
theorem d10_31 : decode jdk_52_method_21_code 31 = .ok (.bastore, 1) := by decide +kernel
theorem d10_32 : decode jdk_52_method_21_code 32 = .ok (.iinc 1 1, 3) := by decide +kernel
theorem d10_35 : decode jdk_52_method_21_code 35 = .ok (.iinc 3 1, 3) := by decide +kernel
theorem d10_38 : decode jdk_52_method_21_code 38 = .ok (.iinc 5 1, 3) := by decide +kernel
theorem d10_41 : decode jdk_52_method_21_code 41 = .ok (.goto (-38), 3) := by decide +kernel
theorem d10_44 : decode jdk_52_method_21_code 44 = .ok (.iload 4, 2) := by decide +kernel
theorem d10_46 : decode jdk_52_method_21_code 46 = .ok (.ireturn, 1) := by decide +kernel
theorem own_pf7 : plainFor (⟨"java/lang/StringUTF16", "compress", "([CI[BII)I"⟩ : MethodName) = true := by first | exact plainFor_of_name (by first | (simp [plainName, overriddenIn]; done) | decide +kernel) | decide +kernel
set_option maxRecDepth 65536 in
set_option maxHeartbeats 40000000 in
theorem rmZ5_2 (l : Launch) (Z : State) (a0 : Array Value) (hw : ∀ d ∈ tables_1, d.before a0 Z = true) (ws : List Jvm.Cond) {Ts : List String} (p1 p3 : Addr) (ka kc : ClassId) (ch0 ch1 : Int32) (h0 : Heap) (g3 : Z.heap.size ≤ p3) (Vc_p1 : Arv Z h0 p1 ka .char (2 : Int32) [(.int ch0), (.int ch1)] (.int (0 : Int32))) (Va_p3 : Arv Z h0 p3 kc .byte (2 : Int32) [(.int (0 : Int32)), (.int (0 : Int32))] (.int (0 : Int32))) (n13 : p1 ≠ p3) (hb0 : 0 ≤ ch0.toInt ∧ ch0.toInt ≤ 255) (hb1 : 0 ≤ ch1.toInt ∧ ch1.toInt ≤ 255) :
    own_Met l Z (⟨"java/lang/StringUTF16", "compress", "([CI[BII)I"⟩ : MethodName) jdk_52_method_21_code 7 (some .int) ws ({ frames := 0, cells := 0, slots := 0, locals := 0 } : Room) #[(.ref p1), (.int (0 : Int32)), (.ref p3), (.int (0 : Int32)), (.int (2 : Int32))] h0 (own_some (fun v h => v = .int (2 : Int32) ∧ Keep h0 h [p3] ∧ Arv Z h p3 kc .byte (2 : Int32) [(.int ch0.toInt8.toInt32), (.int ch1.toInt8.toInt32)] (.int (0 : Int32)))) Ts Ts := by
  refine own_met (ls0 := #[.val (.ref p1), .val (.int (0 : Int32)), .val (.ref p3), .val (.int (0 : Int32)), .val (.int (2 : Int32)), .unset, .unset]) own_pf7 (fun m => by first | rfl | (simp [entryFrame, mkF, argsToLocals, Value.category, maxLocals]; done)) ?_
  intro p e s m below meth c
  refine own_old (fun O0 => ?_)
  refine own_iconst 1 rfl (0 : Int32) d10_0 rfl ?_
  refine own_istore 3 rfl #[.val (.ref p1), .val (.int (0 : Int32)), .val (.ref p3), .val (.int (0 : Int32)), .val (.int (2 : Int32)), .val (.int (0 : Int32)), .unset] d10_1 rfl ?_
  refine own_iload 5 rfl d10_3 rfl ?_
  refine own_iload 7 rfl d10_5 rfl ?_
  refine own_icmpNo 10 rfl d10_7 (tlt (by decide : (0 : Int32) < (2 : Int32))).2.1 ?_
  refine own_aloadN 11 rfl d10_10 rfl rfl ?_
  refine own_iloadN 12 rfl d10_11 rfl ?_
  obtain ⟨c1, A1, q1, S1, N1, H1, G1⟩ := id Vc_p1
  refine own_caload 13 rfl A1 (inb_of S1 ⟨by decide, by decide⟩) (Has.at H1 (inb_of S1 ⟨by decide, by decide⟩) rfl) d10_12 ?_
  refine own_istore 15 rfl #[.val (.ref p1), .val (.int (0 : Int32)), .val (.ref p3), .val (.int (0 : Int32)), .val (.int (2 : Int32)), .val (.int (0 : Int32)), .val (.int ch0)] d10_13 rfl ?_
  refine own_iload 17 rfl d10_15 rfl ?_
  refine own_sipush 20 rfl (255 : Int32) d10_17 rfl ?_
  have ihc20 : ch0.toInt ≤ (255 : Int) := by omega
  have hc20 : ¬ ((255 : Int32) < ch0) := own_nlt' ihc20
  refine own_icmpYes 26 d10_20 (flt hc20).2.2.2 (by decide) (by decide) ?_
  refine own_aloadN 27 rfl d10_26 rfl rfl ?_
  refine own_iloadN 28 rfl d10_27 rfl ?_
  refine own_iload 30 rfl d10_28 rfl ?_
  refine own_i2b 31 rfl d10_30 ?_
  obtain ⟨c2, A2, q2, S2, N2, H2, G2⟩ := id Va_p3
  refine own_bastore 32 rfl g3 A2 (inb_of S2 ⟨by decide, by decide⟩) d10_31 (fun h2 W2 => ?_)
  have V2 : Arv Z h2 p3 kc .byte (2 : Int32) [(.int (nar .byte ch0.toInt8.toInt32)), (.int (0 : Int32))] (.int (0 : Int32)) := Arv.set A2 q2 S2 N2 H2 G2 (fits_nar_byte _) W2 0 rfl (Nat.le_of_ble_eq_true rfl)
  rw [own_nb hb0] at V2
  have kp3 : Keep h0 h2 [p3] := Keep.wr (Keep.refl h0 [p3]) W2 (Or.inl (List.mem_of_getElem? (i := 0) rfl))
  refine own_iinc 35 rfl #[.val (.ref p1), .val (.int (1 : Int32)), .val (.ref p3), .val (.int (0 : Int32)), .val (.int (2 : Int32)), .val (.int (0 : Int32)), .val (.int ch0)] (1 : Int32) d10_32 rfl rfl rfl ?_
  refine own_iinc 38 rfl #[.val (.ref p1), .val (.int (1 : Int32)), .val (.ref p3), .val (.int (1 : Int32)), .val (.int (2 : Int32)), .val (.int (0 : Int32)), .val (.int ch0)] (1 : Int32) d10_35 rfl rfl rfl ?_
  refine own_iinc 41 rfl #[.val (.ref p1), .val (.int (1 : Int32)), .val (.ref p3), .val (.int (1 : Int32)), .val (.int (2 : Int32)), .val (.int (1 : Int32)), .val (.int ch0)] (1 : Int32) d10_38 rfl rfl rfl ?_
  refine own_goto 3 d10_41 (by decide) (by decide) ?_
  refine own_iload 5 rfl d10_3 rfl ?_
  refine own_iload 7 rfl d10_5 rfl ?_
  refine own_icmpNo 10 rfl d10_7 (tlt (by decide : (1 : Int32) < (2 : Int32))).2.1 ?_
  refine own_aloadN 11 rfl d10_10 rfl rfl ?_
  refine own_iloadN 12 rfl d10_11 rfl ?_
  obtain ⟨c4, A4, q4, S4, N4, H4, G4⟩ := id (Vc_p1.other W2 n13)
  refine own_caload 13 rfl A4 (inb_of S4 ⟨by decide, by decide⟩) (Has.at H4 (inb_of S4 ⟨by decide, by decide⟩) rfl) d10_12 ?_
  refine own_istore 15 rfl #[.val (.ref p1), .val (.int (1 : Int32)), .val (.ref p3), .val (.int (1 : Int32)), .val (.int (2 : Int32)), .val (.int (1 : Int32)), .val (.int ch1)] d10_13 rfl ?_
  refine own_iload 17 rfl d10_15 rfl ?_
  refine own_sipush 20 rfl (255 : Int32) d10_17 rfl ?_
  have ihc20_5 : ch1.toInt ≤ (255 : Int) := by omega
  have hc20_5 : ¬ ((255 : Int32) < ch1) := own_nlt' ihc20_5
  refine own_icmpYes 26 d10_20 (flt hc20_5).2.2.2 (by decide) (by decide) ?_
  refine own_aloadN 27 rfl d10_26 rfl rfl ?_
  refine own_iloadN 28 rfl d10_27 rfl ?_
  refine own_iload 30 rfl d10_28 rfl ?_
  refine own_i2b 31 rfl d10_30 ?_
  obtain ⟨c6, A6, q6, S6, N6, H6, G6⟩ := id V2
  refine own_bastore 32 rfl g3 A6 (inb_of S6 ⟨by decide, by decide⟩) d10_31 (fun h6 W6 => ?_)
  have V6 : Arv Z h6 p3 kc .byte (2 : Int32) [(.int ch0.toInt8.toInt32), (.int (nar .byte ch1.toInt8.toInt32))] (.int (0 : Int32)) := Arv.set A6 q6 S6 N6 H6 G6 (fits_nar_byte _) W6 1 rfl (Nat.le_of_ble_eq_true rfl)
  rw [own_nb hb1] at V6
  have kp7 : Keep h0 h6 [p3] := Keep.wr kp3 W6 (Or.inl (List.mem_of_getElem? (i := 0) rfl))
  refine own_iinc 35 rfl #[.val (.ref p1), .val (.int (2 : Int32)), .val (.ref p3), .val (.int (1 : Int32)), .val (.int (2 : Int32)), .val (.int (1 : Int32)), .val (.int ch1)] (1 : Int32) d10_32 rfl rfl rfl ?_
  refine own_iinc 38 rfl #[.val (.ref p1), .val (.int (2 : Int32)), .val (.ref p3), .val (.int (2 : Int32)), .val (.int (2 : Int32)), .val (.int (1 : Int32)), .val (.int ch1)] (1 : Int32) d10_35 rfl rfl rfl ?_
  refine own_iinc 41 rfl #[.val (.ref p1), .val (.int (2 : Int32)), .val (.ref p3), .val (.int (2 : Int32)), .val (.int (2 : Int32)), .val (.int (2 : Int32)), .val (.int ch1)] (1 : Int32) d10_38 rfl rfl rfl ?_
  refine own_goto 3 d10_41 (by decide) (by decide) ?_
  refine own_iload 5 rfl d10_3 rfl ?_
  refine own_iload 7 rfl d10_5 rfl ?_
  refine own_icmpYes 44 d10_7 (flt (by decide : ¬ ((2 : Int32) < (2 : Int32)))).2.1 (by decide) (by decide) ?_
  refine own_iload 46 rfl d10_44 rfl ?_
  refine own_retI rfl d10_46 (by decide) (by decide) ?_
  exact ⟨_, rfl, rfl, kp7, V6⟩
set_option maxRecDepth 65536 in
set_option maxHeartbeats 40000000 in
theorem rmZ5_3 (l : Launch) (Z : State) (a0 : Array Value) (hw : ∀ d ∈ tables_1, d.before a0 Z = true) (ws : List Jvm.Cond) {Ts : List String} (p1 p3 : Addr) (ka kc : ClassId) (ch0 ch1 ch2 : Int32) (h0 : Heap) (g3 : Z.heap.size ≤ p3) (Vc_p1 : Arv Z h0 p1 ka .char (3 : Int32) [(.int ch0), (.int ch1), (.int ch2)] (.int (0 : Int32))) (Va_p3 : Arv Z h0 p3 kc .byte (3 : Int32) [(.int (0 : Int32)), (.int (0 : Int32)), (.int (0 : Int32))] (.int (0 : Int32))) (n13 : p1 ≠ p3) (hb0 : 0 ≤ ch0.toInt ∧ ch0.toInt ≤ 255) (hb1 : 0 ≤ ch1.toInt ∧ ch1.toInt ≤ 255) (hb2 : 0 ≤ ch2.toInt ∧ ch2.toInt ≤ 255) :
    own_Met l Z (⟨"java/lang/StringUTF16", "compress", "([CI[BII)I"⟩ : MethodName) jdk_52_method_21_code 7 (some .int) ws ({ frames := 0, cells := 0, slots := 0, locals := 0 } : Room) #[(.ref p1), (.int (0 : Int32)), (.ref p3), (.int (0 : Int32)), (.int (3 : Int32))] h0 (own_some (fun v h => v = .int (3 : Int32) ∧ Keep h0 h [p3] ∧ Arv Z h p3 kc .byte (3 : Int32) [(.int ch0.toInt8.toInt32), (.int ch1.toInt8.toInt32), (.int ch2.toInt8.toInt32)] (.int (0 : Int32)))) Ts Ts := by
  refine own_met (ls0 := #[.val (.ref p1), .val (.int (0 : Int32)), .val (.ref p3), .val (.int (0 : Int32)), .val (.int (3 : Int32)), .unset, .unset]) own_pf7 (fun m => by first | rfl | (simp [entryFrame, mkF, argsToLocals, Value.category, maxLocals]; done)) ?_
  intro p e s m below meth c
  refine own_old (fun O0 => ?_)
  refine own_iconst 1 rfl (0 : Int32) d10_0 rfl ?_
  refine own_istore 3 rfl #[.val (.ref p1), .val (.int (0 : Int32)), .val (.ref p3), .val (.int (0 : Int32)), .val (.int (3 : Int32)), .val (.int (0 : Int32)), .unset] d10_1 rfl ?_
  refine own_iload 5 rfl d10_3 rfl ?_
  refine own_iload 7 rfl d10_5 rfl ?_
  refine own_icmpNo 10 rfl d10_7 (tlt (by decide : (0 : Int32) < (3 : Int32))).2.1 ?_
  refine own_aloadN 11 rfl d10_10 rfl rfl ?_
  refine own_iloadN 12 rfl d10_11 rfl ?_
  obtain ⟨c1, A1, q1, S1, N1, H1, G1⟩ := id Vc_p1
  refine own_caload 13 rfl A1 (inb_of S1 ⟨by decide, by decide⟩) (Has.at H1 (inb_of S1 ⟨by decide, by decide⟩) rfl) d10_12 ?_
  refine own_istore 15 rfl #[.val (.ref p1), .val (.int (0 : Int32)), .val (.ref p3), .val (.int (0 : Int32)), .val (.int (3 : Int32)), .val (.int (0 : Int32)), .val (.int ch0)] d10_13 rfl ?_
  refine own_iload 17 rfl d10_15 rfl ?_
  refine own_sipush 20 rfl (255 : Int32) d10_17 rfl ?_
  have ihc20 : ch0.toInt ≤ (255 : Int) := by omega
  have hc20 : ¬ ((255 : Int32) < ch0) := own_nlt' ihc20
  refine own_icmpYes 26 d10_20 (flt hc20).2.2.2 (by decide) (by decide) ?_
  refine own_aloadN 27 rfl d10_26 rfl rfl ?_
  refine own_iloadN 28 rfl d10_27 rfl ?_
  refine own_iload 30 rfl d10_28 rfl ?_
  refine own_i2b 31 rfl d10_30 ?_
  obtain ⟨c2, A2, q2, S2, N2, H2, G2⟩ := id Va_p3
  refine own_bastore 32 rfl g3 A2 (inb_of S2 ⟨by decide, by decide⟩) d10_31 (fun h2 W2 => ?_)
  have V2 : Arv Z h2 p3 kc .byte (3 : Int32) [(.int (nar .byte ch0.toInt8.toInt32)), (.int (0 : Int32)), (.int (0 : Int32))] (.int (0 : Int32)) := Arv.set A2 q2 S2 N2 H2 G2 (fits_nar_byte _) W2 0 rfl (Nat.le_of_ble_eq_true rfl)
  rw [own_nb hb0] at V2
  have kp3 : Keep h0 h2 [p3] := Keep.wr (Keep.refl h0 [p3]) W2 (Or.inl (List.mem_of_getElem? (i := 0) rfl))
  refine own_iinc 35 rfl #[.val (.ref p1), .val (.int (1 : Int32)), .val (.ref p3), .val (.int (0 : Int32)), .val (.int (3 : Int32)), .val (.int (0 : Int32)), .val (.int ch0)] (1 : Int32) d10_32 rfl rfl rfl ?_
  refine own_iinc 38 rfl #[.val (.ref p1), .val (.int (1 : Int32)), .val (.ref p3), .val (.int (1 : Int32)), .val (.int (3 : Int32)), .val (.int (0 : Int32)), .val (.int ch0)] (1 : Int32) d10_35 rfl rfl rfl ?_
  refine own_iinc 41 rfl #[.val (.ref p1), .val (.int (1 : Int32)), .val (.ref p3), .val (.int (1 : Int32)), .val (.int (3 : Int32)), .val (.int (1 : Int32)), .val (.int ch0)] (1 : Int32) d10_38 rfl rfl rfl ?_
  refine own_goto 3 d10_41 (by decide) (by decide) ?_
  refine own_iload 5 rfl d10_3 rfl ?_
  refine own_iload 7 rfl d10_5 rfl ?_
  refine own_icmpNo 10 rfl d10_7 (tlt (by decide : (1 : Int32) < (3 : Int32))).2.1 ?_
  refine own_aloadN 11 rfl d10_10 rfl rfl ?_
  refine own_iloadN 12 rfl d10_11 rfl ?_
  obtain ⟨c4, A4, q4, S4, N4, H4, G4⟩ := id (Vc_p1.other W2 n13)
  refine own_caload 13 rfl A4 (inb_of S4 ⟨by decide, by decide⟩) (Has.at H4 (inb_of S4 ⟨by decide, by decide⟩) rfl) d10_12 ?_
  refine own_istore 15 rfl #[.val (.ref p1), .val (.int (1 : Int32)), .val (.ref p3), .val (.int (1 : Int32)), .val (.int (3 : Int32)), .val (.int (1 : Int32)), .val (.int ch1)] d10_13 rfl ?_
  refine own_iload 17 rfl d10_15 rfl ?_
  refine own_sipush 20 rfl (255 : Int32) d10_17 rfl ?_
  have ihc20_5 : ch1.toInt ≤ (255 : Int) := by omega
  have hc20_5 : ¬ ((255 : Int32) < ch1) := own_nlt' ihc20_5
  refine own_icmpYes 26 d10_20 (flt hc20_5).2.2.2 (by decide) (by decide) ?_
  refine own_aloadN 27 rfl d10_26 rfl rfl ?_
  refine own_iloadN 28 rfl d10_27 rfl ?_
  refine own_iload 30 rfl d10_28 rfl ?_
  refine own_i2b 31 rfl d10_30 ?_
  obtain ⟨c6, A6, q6, S6, N6, H6, G6⟩ := id V2
  refine own_bastore 32 rfl g3 A6 (inb_of S6 ⟨by decide, by decide⟩) d10_31 (fun h6 W6 => ?_)
  have V6 : Arv Z h6 p3 kc .byte (3 : Int32) [(.int ch0.toInt8.toInt32), (.int (nar .byte ch1.toInt8.toInt32)), (.int (0 : Int32))] (.int (0 : Int32)) := Arv.set A6 q6 S6 N6 H6 G6 (fits_nar_byte _) W6 1 rfl (Nat.le_of_ble_eq_true rfl)
  rw [own_nb hb1] at V6
  have kp7 : Keep h0 h6 [p3] := Keep.wr kp3 W6 (Or.inl (List.mem_of_getElem? (i := 0) rfl))
  refine own_iinc 35 rfl #[.val (.ref p1), .val (.int (2 : Int32)), .val (.ref p3), .val (.int (1 : Int32)), .val (.int (3 : Int32)), .val (.int (1 : Int32)), .val (.int ch1)] (1 : Int32) d10_32 rfl rfl rfl ?_
  refine own_iinc 38 rfl #[.val (.ref p1), .val (.int (2 : Int32)), .val (.ref p3), .val (.int (2 : Int32)), .val (.int (3 : Int32)), .val (.int (1 : Int32)), .val (.int ch1)] (1 : Int32) d10_35 rfl rfl rfl ?_
  refine own_iinc 41 rfl #[.val (.ref p1), .val (.int (2 : Int32)), .val (.ref p3), .val (.int (2 : Int32)), .val (.int (3 : Int32)), .val (.int (2 : Int32)), .val (.int ch1)] (1 : Int32) d10_38 rfl rfl rfl ?_
  refine own_goto 3 d10_41 (by decide) (by decide) ?_
  refine own_iload 5 rfl d10_3 rfl ?_
  refine own_iload 7 rfl d10_5 rfl ?_
  refine own_icmpNo 10 rfl d10_7 (tlt (by decide : (2 : Int32) < (3 : Int32))).2.1 ?_
  refine own_aloadN 11 rfl d10_10 rfl rfl ?_
  refine own_iloadN 12 rfl d10_11 rfl ?_
  obtain ⟨c8, A8, q8, S8, N8, H8, G8⟩ := id ((Vc_p1.other W2 n13).other W6 n13)
  refine own_caload 13 rfl A8 (inb_of S8 ⟨by decide, by decide⟩) (Has.at H8 (inb_of S8 ⟨by decide, by decide⟩) rfl) d10_12 ?_
  refine own_istore 15 rfl #[.val (.ref p1), .val (.int (2 : Int32)), .val (.ref p3), .val (.int (2 : Int32)), .val (.int (3 : Int32)), .val (.int (2 : Int32)), .val (.int ch2)] d10_13 rfl ?_
  refine own_iload 17 rfl d10_15 rfl ?_
  refine own_sipush 20 rfl (255 : Int32) d10_17 rfl ?_
  have ihc20_9 : ch2.toInt ≤ (255 : Int) := by omega
  have hc20_9 : ¬ ((255 : Int32) < ch2) := own_nlt' ihc20_9
  refine own_icmpYes 26 d10_20 (flt hc20_9).2.2.2 (by decide) (by decide) ?_
  refine own_aloadN 27 rfl d10_26 rfl rfl ?_
  refine own_iloadN 28 rfl d10_27 rfl ?_
  refine own_iload 30 rfl d10_28 rfl ?_
  refine own_i2b 31 rfl d10_30 ?_
  obtain ⟨c10, A10, q10, S10, N10, H10, G10⟩ := id V6
  refine own_bastore 32 rfl g3 A10 (inb_of S10 ⟨by decide, by decide⟩) d10_31 (fun h10 W10 => ?_)
  have V10 : Arv Z h10 p3 kc .byte (3 : Int32) [(.int ch0.toInt8.toInt32), (.int ch1.toInt8.toInt32), (.int (nar .byte ch2.toInt8.toInt32))] (.int (0 : Int32)) := Arv.set A10 q10 S10 N10 H10 G10 (fits_nar_byte _) W10 2 rfl (Nat.le_of_ble_eq_true rfl)
  rw [own_nb hb2] at V10
  have kp11 : Keep h0 h10 [p3] := Keep.wr kp7 W10 (Or.inl (List.mem_of_getElem? (i := 0) rfl))
  refine own_iinc 35 rfl #[.val (.ref p1), .val (.int (3 : Int32)), .val (.ref p3), .val (.int (2 : Int32)), .val (.int (3 : Int32)), .val (.int (2 : Int32)), .val (.int ch2)] (1 : Int32) d10_32 rfl rfl rfl ?_
  refine own_iinc 38 rfl #[.val (.ref p1), .val (.int (3 : Int32)), .val (.ref p3), .val (.int (3 : Int32)), .val (.int (3 : Int32)), .val (.int (2 : Int32)), .val (.int ch2)] (1 : Int32) d10_35 rfl rfl rfl ?_
  refine own_iinc 41 rfl #[.val (.ref p1), .val (.int (3 : Int32)), .val (.ref p3), .val (.int (3 : Int32)), .val (.int (3 : Int32)), .val (.int (3 : Int32)), .val (.int ch2)] (1 : Int32) d10_38 rfl rfl rfl ?_
  refine own_goto 3 d10_41 (by decide) (by decide) ?_
  refine own_iload 5 rfl d10_3 rfl ?_
  refine own_iload 7 rfl d10_5 rfl ?_
  refine own_icmpYes 44 d10_7 (flt (by decide : ¬ ((3 : Int32) < (3 : Int32)))).2.1 (by decide) (by decide) ?_
  refine own_iload 46 rfl d10_44 rfl ?_
  refine own_retI rfl d10_46 (by decide) (by decide) ?_
  exact ⟨_, rfl, rfl, kp11, V10⟩
theorem d9_0 : decode jdk_52_method_16_code 0 = .ok (.iload_n 2, 1) := by decide +kernel
theorem d9_1 : decode jdk_52_method_16_code 1 = .ok (.newarray .byte, 2) := by decide +kernel
theorem d9_3 : decode jdk_52_method_16_code 3 = .ok (.astore_n 3, 1) := by decide +kernel
theorem d9_4 : decode jdk_52_method_16_code 4 = .ok (.aload_n 0, 1) := by decide +kernel
theorem d9_5 : decode jdk_52_method_16_code 5 = .ok (.iload_n 1, 1) := by decide +kernel
theorem d9_6 : decode jdk_52_method_16_code 6 = .ok (.aload_n 3, 1) := by decide +kernel
theorem d9_7 : decode jdk_52_method_16_code 7 = .ok (.iconst 0, 1) := by decide +kernel
theorem d9_8 : decode jdk_52_method_16_code 8 = .ok (.iload_n 2, 1) := by decide +kernel
theorem d9_9 : decode jdk_52_method_16_code 9 = .ok (.invokestatic 115, 3) := by decide +kernel
theorem own_pd5 : parseMethodDescriptor "([CI[BII)I" = some ⟨[(.array .char), .int, (.array .byte), .int, .int], some .int⟩ := by decide +kernel
theorem d9_12 : decode jdk_52_method_16_code 12 = .ok (.istore 4, 2) := by decide +kernel
theorem d9_14 : decode jdk_52_method_16_code 14 = .ok (.iload 4, 2) := by decide +kernel
theorem d9_16 : decode jdk_52_method_16_code 16 = .ok (.iload_n 2, 1) := by decide +kernel
theorem d9_17 : decode jdk_52_method_16_code 17 = .ok (.if_icmp .eq 40, 3) := by decide +kernel
theorem d9_57 : decode jdk_52_method_16_code 57 = .ok (.aload_n 3, 1) := by decide +kernel
theorem d9_58 : decode jdk_52_method_16_code 58 = .ok (.areturn, 1) := by decide +kernel
theorem own_pf8 : plainFor (⟨"java/lang/StringUTF16", "compress", "([CII)[B"⟩ : MethodName) = true := by first | exact plainFor_of_name (by first | (simp [plainName, overriddenIn]; done) | decide +kernel) | decide +kernel
set_option maxRecDepth 65536 in
set_option maxHeartbeats 40000000 in
theorem rmZ3_2 (l : Launch) (Z : State) (a0 : Array Value) (hw : ∀ d ∈ tables_1, d.before a0 Z = true) (ws : List Jvm.Cond) {Ts : List String} (p1 : Addr) (ka : ClassId) (ch0 ch1 : Int32) (h0 : Heap) (Vc_p1 : Arv Z h0 p1 ka .char (2 : Int32) [(.int ch0), (.int ch1)] (.int (0 : Int32))) (hb0 : 0 ≤ ch0.toInt ∧ ch0.toInt ≤ 255) (hb1 : 0 ≤ ch1.toInt ∧ ch1.toInt ≤ 255) :
    own_Met l Z (⟨"java/lang/StringUTF16", "compress", "([CII)[B"⟩ : MethodName) jdk_52_method_16_code 6 (some (.array .byte)) ws ({ frames := 1, cells := 1, slots := 2, locals := 18 } : Room) #[(.ref p1), (.int (0 : Int32)), (.int (2 : Int32))] h0 (own_some (fun v h => ∃ b kb, v = .ref b ∧ h0.size ≤ b ∧ Keep h0 h [] ∧ Arv Z h b kb .byte (2 : Int32) [(.int ch0.toInt8.toInt32), (.int ch1.toInt8.toInt32)] (.int (0 : Int32)))) Ts Ts := by
  refine own_met (ls0 := #[.val (.ref p1), .val (.int (0 : Int32)), .val (.int (2 : Int32)), .unset, .unset, .unset]) own_pf8 (fun m => by first | rfl | (simp [entryFrame, mkF, argsToLocals, Value.category, maxLocals]; done)) ?_
  intro p e s m below meth c
  refine own_old (fun O0 => ?_)
  refine own_iloadN 1 rfl d9_0 rfl ?_
  refine own_newP 3 rfl 1 2 2 "[B" (by decide) (hw _ (List.mem_of_getElem? (i := 16) rfl)) d9_1 (by decide) (by decide) (by decide) rfl rfl (by decide) (by decide) (fun h1 b1 k1 z1 g_b1 E1 V1 X_b1 => ?_)
  have ne_p1_b1 : p1 ≠ b1 := Nat.ne_of_lt (Nat.lt_of_lt_of_le Vc_p1.lt (Nat.le_of_eq z1.symm))
  have sz_b1 : h0.size ≤ b1 := Nat.le_trans (Keep.refl h0 []).1 (Nat.le_of_eq z1.symm)
  have kp2 : Keep h0 h1 [] := Keep.ext (Keep.refl h0 []) E1
  have V1p : Arv Z h1 b1 k1 .byte (2 : Int32) [(.int (0 : Int32)), (.int (0 : Int32))] (.int (0 : Int32)) := V1.pad (pad_rep [] (.int (0 : Int32)) 2)
  refine own_astoreN 4 rfl #[.val (.ref p1), .val (.int (0 : Int32)), .val (.int (2 : Int32)), .val (.ref b1), .unset, .unset] d9_3 rfl rfl ?_
  refine own_aloadN 5 rfl d9_4 rfl rfl ?_
  refine own_iloadN 6 rfl d9_5 rfl ?_
  refine own_aloadN 7 rfl d9_6 rfl rfl ?_
  refine own_iconst 8 rfl (0 : Int32) d9_7 rfl ?_
  refine own_iloadN 9 rfl d9_8 rfl ?_
  refine own_callS 12 rfl 1 2 0 [(.ref p1), (.int (0 : Int32)), (.ref b1), (.int (0 : Int32)), (.int (2 : Int32))] [] (y := (⟨"java/lang/StringUTF16", "compress", "([CI[BII)I"⟩ : MethodName)) (hw _ (List.mem_of_getElem? (i := 53) rfl)) (hw _ (List.mem_of_getElem? (i := 54) rfl)) (hw _ (List.mem_of_getElem? (i := 51) rfl)) (hw _ (List.mem_of_getElem? (i := 55) rfl)) (by decide) (rmZ5_2 l Z a0 hw [] p1 b1 ka k1 ch0 ch1 h1 g_b1 (Vc_p1.ext E1) V1p ne_p1_b1 hb0 hb1) d9_9 rfl (lenOf own_pd5 rfl) rfl rfl rfl (by decide) (by decide) rfl rfl (by decide) (by decide) (own_kv fun v3 h3 q3 => ?_)
  obtain ⟨rfl, K3, V3⟩ := q3
  have kp4 : Keep h0 h3 [] := Keep.trans kp2 K3 (allS (Or.inr sz_b1) all0)
  refine own_istore 14 rfl #[.val (.ref p1), .val (.int (0 : Int32)), .val (.int (2 : Int32)), .val (.ref b1), .val (.int (2 : Int32)), .unset] d9_12 rfl ?_
  refine own_iload 16 rfl d9_14 rfl ?_
  refine own_iloadN 17 rfl d9_16 rfl ?_
  refine own_icmpYes 57 d9_17 (teq (rfl : (2 : Int32) = (2 : Int32))).1 (by decide) (by decide) ?_
  refine own_aloadN 58 rfl d9_57 rfl rfl ?_
  refine own_retA rfl rfl rfl d9_58 (by decide) (by decide) ?_
  exact ⟨_, rfl, _, _, rfl, sz_b1, kp4, V3⟩
set_option maxRecDepth 65536 in
set_option maxHeartbeats 40000000 in
theorem rmZ3_3 (l : Launch) (Z : State) (a0 : Array Value) (hw : ∀ d ∈ tables_1, d.before a0 Z = true) (ws : List Jvm.Cond) {Ts : List String} (p1 : Addr) (ka : ClassId) (ch0 ch1 ch2 : Int32) (h0 : Heap) (Vc_p1 : Arv Z h0 p1 ka .char (3 : Int32) [(.int ch0), (.int ch1), (.int ch2)] (.int (0 : Int32))) (hb0 : 0 ≤ ch0.toInt ∧ ch0.toInt ≤ 255) (hb1 : 0 ≤ ch1.toInt ∧ ch1.toInt ≤ 255) (hb2 : 0 ≤ ch2.toInt ∧ ch2.toInt ≤ 255) :
    own_Met l Z (⟨"java/lang/StringUTF16", "compress", "([CII)[B"⟩ : MethodName) jdk_52_method_16_code 6 (some (.array .byte)) ws ({ frames := 1, cells := 1, slots := 3, locals := 18 } : Room) #[(.ref p1), (.int (0 : Int32)), (.int (3 : Int32))] h0 (own_some (fun v h => ∃ b kb, v = .ref b ∧ h0.size ≤ b ∧ Keep h0 h [] ∧ Arv Z h b kb .byte (3 : Int32) [(.int ch0.toInt8.toInt32), (.int ch1.toInt8.toInt32), (.int ch2.toInt8.toInt32)] (.int (0 : Int32)))) Ts Ts := by
  refine own_met (ls0 := #[.val (.ref p1), .val (.int (0 : Int32)), .val (.int (3 : Int32)), .unset, .unset, .unset]) own_pf8 (fun m => by first | rfl | (simp [entryFrame, mkF, argsToLocals, Value.category, maxLocals]; done)) ?_
  intro p e s m below meth c
  refine own_old (fun O0 => ?_)
  refine own_iloadN 1 rfl d9_0 rfl ?_
  refine own_newP 3 rfl 1 3 3 "[B" (by decide) (hw _ (List.mem_of_getElem? (i := 16) rfl)) d9_1 (by decide) (by decide) (by decide) rfl rfl (by decide) (by decide) (fun h1 b1 k1 z1 g_b1 E1 V1 X_b1 => ?_)
  have ne_p1_b1 : p1 ≠ b1 := Nat.ne_of_lt (Nat.lt_of_lt_of_le Vc_p1.lt (Nat.le_of_eq z1.symm))
  have sz_b1 : h0.size ≤ b1 := Nat.le_trans (Keep.refl h0 []).1 (Nat.le_of_eq z1.symm)
  have kp2 : Keep h0 h1 [] := Keep.ext (Keep.refl h0 []) E1
  have V1p : Arv Z h1 b1 k1 .byte (3 : Int32) [(.int (0 : Int32)), (.int (0 : Int32)), (.int (0 : Int32))] (.int (0 : Int32)) := V1.pad (pad_rep [] (.int (0 : Int32)) 3)
  refine own_astoreN 4 rfl #[.val (.ref p1), .val (.int (0 : Int32)), .val (.int (3 : Int32)), .val (.ref b1), .unset, .unset] d9_3 rfl rfl ?_
  refine own_aloadN 5 rfl d9_4 rfl rfl ?_
  refine own_iloadN 6 rfl d9_5 rfl ?_
  refine own_aloadN 7 rfl d9_6 rfl rfl ?_
  refine own_iconst 8 rfl (0 : Int32) d9_7 rfl ?_
  refine own_iloadN 9 rfl d9_8 rfl ?_
  refine own_callS 12 rfl 1 3 0 [(.ref p1), (.int (0 : Int32)), (.ref b1), (.int (0 : Int32)), (.int (3 : Int32))] [] (y := (⟨"java/lang/StringUTF16", "compress", "([CI[BII)I"⟩ : MethodName)) (hw _ (List.mem_of_getElem? (i := 53) rfl)) (hw _ (List.mem_of_getElem? (i := 54) rfl)) (hw _ (List.mem_of_getElem? (i := 51) rfl)) (hw _ (List.mem_of_getElem? (i := 55) rfl)) (by decide) (rmZ5_3 l Z a0 hw [] p1 b1 ka k1 ch0 ch1 ch2 h1 g_b1 (Vc_p1.ext E1) V1p ne_p1_b1 hb0 hb1 hb2) d9_9 rfl (lenOf own_pd5 rfl) rfl rfl rfl (by decide) (by decide) rfl rfl (by decide) (by decide) (own_kv fun v3 h3 q3 => ?_)
  obtain ⟨rfl, K3, V3⟩ := q3
  have kp4 : Keep h0 h3 [] := Keep.trans kp2 K3 (allS (Or.inr sz_b1) all0)
  refine own_istore 14 rfl #[.val (.ref p1), .val (.int (0 : Int32)), .val (.int (3 : Int32)), .val (.ref b1), .val (.int (3 : Int32)), .unset] d9_12 rfl ?_
  refine own_iload 16 rfl d9_14 rfl ?_
  refine own_iloadN 17 rfl d9_16 rfl ?_
  refine own_icmpYes 57 d9_17 (teq (rfl : (3 : Int32) = (3 : Int32))).1 (by decide) (by decide) ?_
  refine own_aloadN 58 rfl d9_57 rfl rfl ?_
  refine own_retA rfl rfl rfl d9_58 (by decide) (by decide) ?_
  exact ⟨_, rfl, _, _, rfl, sz_b1, kp4, V3⟩
theorem d11_0 : decode jdk_52_method_15_code 0 = .ok (.iload_n 1, 1) := by decide +kernel
theorem d11_1 : decode jdk_52_method_15_code 1 = .ok (.aload_n 0, 1) := by decide +kernel
theorem d11_2 : decode jdk_52_method_15_code 2 = .ok (.arraylength, 1) := by decide +kernel
theorem d11_3 : decode jdk_52_method_15_code 3 = .ok (.isub, 1) := by decide +kernel
theorem d11_4 : decode jdk_52_method_15_code 4 = .ok (.bipush 31, 2) := by decide +kernel
theorem d11_6 : decode jdk_52_method_15_code 6 = .ok (.iushr, 1) := by decide +kernel
theorem d11_7 : decode jdk_52_method_15_code 7 = .ok (.i2b, 1) := by decide +kernel
theorem d11_8 : decode jdk_52_method_15_code 8 = .ok (.ireturn, 1) := by decide +kernel
theorem own_pf9 : plainFor (⟨"java/lang/StringUTF16", "coderFromArrayLen", "([BI)B"⟩ : MethodName) = true := by first | exact plainFor_of_name (by first | (simp [plainName, overriddenIn]; done) | decide +kernel) | decide +kernel
set_option maxRecDepth 65536 in
set_option maxHeartbeats 40000000 in
theorem rmCl2 (l : Launch) (Z : State) (a0 : Array Value) (hw : ∀ d ∈ tables_1, d.before a0 Z = true) (ws : List Jvm.Cond) {Ts : List String} (qa : Addr) (ka : ClassId) (ch0 ch1 : Int32) (h0 : Heap) (Va_qa : Arv Z h0 qa ka .byte (2 : Int32) [(.int ch0.toInt8.toInt32), (.int ch1.toInt8.toInt32)] (.int (0 : Int32))) :
    own_Met l Z (⟨"java/lang/StringUTF16", "coderFromArrayLen", "([BI)B"⟩ : MethodName) jdk_52_method_15_code 2 (some .byte) ws ({ frames := 0, cells := 0, slots := 0, locals := 0 } : Room) #[(.ref qa), (.int (2 : Int32))] h0 (own_some (fun v h => v = .int (0 : Int32) ∧ h = h0)) Ts Ts := by
  refine own_met (ls0 := #[.val (.ref qa), .val (.int (2 : Int32))]) own_pf9 (fun m => by first | rfl | (simp [entryFrame, mkF, argsToLocals, Value.category, maxLocals]; done)) ?_
  intro p e s m below meth c
  refine own_old (fun O0 => ?_)
  refine own_iloadN 1 rfl d11_0 rfl ?_
  refine own_aloadN 2 rfl d11_1 rfl rfl ?_
  obtain ⟨c1, A1, q1, S1, N1, H1, G1⟩ := id Va_qa
  refine own_alen 3 rfl A1 (2 : Int32) (len_of S1 N1) d11_2 ?_
  refine own_isub 4 rfl d11_3 ?_
  rw [show ((2 : Int32) - (2 : Int32)) = (0 : Int32) from by decide]
  refine own_bipush 6 rfl (31 : Int32) d11_4 rfl ?_
  refine own_iushr 7 rfl d11_6 ?_
  rw [show (((0 : Int32).toUInt32 >>> ((31 : Int32) &&& 31).toUInt32).toInt32) = (0 : Int32) from by decide]
  refine own_i2b 8 rfl d11_7 ?_
  rw [show (0 : Int32).toInt8.toInt32 = (0 : Int32) from by decide]
  refine own_retN rfl (by simp) d11_8 (by decide) (by decide) ?_
  exact ⟨_, rfl, congrArg Value.int (by decide), rfl⟩
set_option maxRecDepth 65536 in
set_option maxHeartbeats 40000000 in
theorem rmCl3 (l : Launch) (Z : State) (a0 : Array Value) (hw : ∀ d ∈ tables_1, d.before a0 Z = true) (ws : List Jvm.Cond) {Ts : List String} (qa : Addr) (ka : ClassId) (ch0 ch1 ch2 : Int32) (h0 : Heap) (Va_qa : Arv Z h0 qa ka .byte (3 : Int32) [(.int ch0.toInt8.toInt32), (.int ch1.toInt8.toInt32), (.int ch2.toInt8.toInt32)] (.int (0 : Int32))) :
    own_Met l Z (⟨"java/lang/StringUTF16", "coderFromArrayLen", "([BI)B"⟩ : MethodName) jdk_52_method_15_code 2 (some .byte) ws ({ frames := 0, cells := 0, slots := 0, locals := 0 } : Room) #[(.ref qa), (.int (3 : Int32))] h0 (own_some (fun v h => v = .int (0 : Int32) ∧ h = h0)) Ts Ts := by
  refine own_met (ls0 := #[.val (.ref qa), .val (.int (3 : Int32))]) own_pf9 (fun m => by first | rfl | (simp [entryFrame, mkF, argsToLocals, Value.category, maxLocals]; done)) ?_
  intro p e s m below meth c
  refine own_old (fun O0 => ?_)
  refine own_iloadN 1 rfl d11_0 rfl ?_
  refine own_aloadN 2 rfl d11_1 rfl rfl ?_
  obtain ⟨c1, A1, q1, S1, N1, H1, G1⟩ := id Va_qa
  refine own_alen 3 rfl A1 (3 : Int32) (len_of S1 N1) d11_2 ?_
  refine own_isub 4 rfl d11_3 ?_
  rw [show ((3 : Int32) - (3 : Int32)) = (0 : Int32) from by decide]
  refine own_bipush 6 rfl (31 : Int32) d11_4 rfl ?_
  refine own_iushr 7 rfl d11_6 ?_
  rw [show (((0 : Int32).toUInt32 >>> ((31 : Int32) &&& 31).toUInt32).toInt32) = (0 : Int32) from by decide]
  refine own_i2b 8 rfl d11_7 ?_
  rw [show (0 : Int32).toInt8.toInt32 = (0 : Int32) from by decide]
  refine own_retN rfl (by simp) d11_8 (by decide) (by decide) ?_
  exact ⟨_, rfl, congrArg Value.int (by decide), rfl⟩
theorem d2_0 : decode jdk_42_method_149_code 0 = .ok (.aload_n 0, 1) := by decide +kernel
theorem d2_1 : decode jdk_42_method_149_code 1 = .ok (.invokespecial 1, 3) := by decide +kernel
theorem d2_4 : decode jdk_42_method_149_code 4 = .ok (.iload_n 3, 1) := by decide +kernel
theorem d2_5 : decode jdk_42_method_149_code 5 = .ok (.ifCond .ne 22, 3) := by decide +kernel
theorem d2_27 : decode jdk_42_method_149_code 27 = .ok (.getstatic 38, 3) := by decide +kernel
theorem d2_30 : decode jdk_42_method_149_code 30 = .ok (.ifCond .eq 28, 3) := by decide +kernel
theorem d2_33 : decode jdk_42_method_149_code 33 = .ok (.aload_n 1, 1) := by decide +kernel
theorem d2_34 : decode jdk_42_method_149_code 34 = .ok (.iload_n 2, 1) := by decide +kernel
theorem d2_35 : decode jdk_42_method_149_code 35 = .ok (.iload_n 3, 1) := by decide +kernel
theorem d2_36 : decode jdk_42_method_149_code 36 = .ok (.invokestatic 177, 3) := by decide +kernel
theorem own_pd6 : parseMethodDescriptor "([CII)[B" = some ⟨[(.array .char), .int, .int], some (.array .byte)⟩ := by decide +kernel
theorem d2_39 : decode jdk_42_method_149_code 39 = .ok (.astore 5, 2) := by decide +kernel
theorem d2_41 : decode jdk_42_method_149_code 41 = .ok (.aload_n 0, 1) := by decide +kernel
theorem d2_42 : decode jdk_42_method_149_code 42 = .ok (.aload 5, 2) := by decide +kernel
theorem d2_44 : decode jdk_42_method_149_code 44 = .ok (.iload_n 3, 1) := by decide +kernel
theorem d2_45 : decode jdk_42_method_149_code 45 = .ok (.invokestatic 47, 3) := by decide +kernel
theorem own_pd7 : parseMethodDescriptor "([BI)B" = some ⟨[(.array .byte), .int], some .byte⟩ := by decide +kernel
theorem d2_48 : decode jdk_42_method_149_code 48 = .ok (.putfield 15, 3) := by decide +kernel
theorem d2_51 : decode jdk_42_method_149_code 51 = .ok (.aload_n 0, 1) := by decide +kernel
theorem d2_52 : decode jdk_42_method_149_code 52 = .ok (.aload 5, 2) := by decide +kernel
theorem d2_54 : decode jdk_42_method_149_code 54 = .ok (.putfield 9, 3) := by decide +kernel
theorem d2_57 : decode jdk_42_method_149_code 57 = .ok (.return_, 1) := by decide +kernel
theorem own_pf10 : plainFor (⟨"java/lang/String", "<init>", "([CIILjava/lang/Void;)V"⟩ : MethodName) = true := by first | exact plainFor_of_name (by first | (simp [plainName, overriddenIn]; done) | decide +kernel) | decide +kernel
set_option maxRecDepth 65536 in
set_option maxHeartbeats 40000000 in
theorem rmI4_2 (l : Launch) (Z : State) (a0 : Array Value) (hw : ∀ d ∈ tables_1, d.before a0 Z = true) (ws : List Jvm.Cond) {Ts : List String} (p1 p2 : Addr) (kb : ClassId) (ch0 ch1 : Int32) (cs : Int32) (fm : Value) (h0 : Heap) (I : own_Ini Z cs fm) (g1 : Z.heap.size ≤ p1) (Es_p1 : Exa Z h0 p1 "java/lang/String") (Fc_p1 : Fld Z h0 p1 "java/lang/String" "coder" "B" (.int (0 : Int32))) (Fv_p1 : Fld Z h0 p1 "java/lang/String" "value" "[B" .null) (Vc_p2 : Arv Z h0 p2 kb .char (2 : Int32) [(.int ch0), (.int ch1)] (.int (0 : Int32))) (n12 : p1 ≠ p2) (hb0 : 0 ≤ ch0.toInt ∧ ch0.toInt ≤ 255) (hb1 : 0 ≤ ch1.toInt ∧ ch1.toInt ≤ 255) :
    own_Met l Z (⟨"java/lang/String", "<init>", "([CIILjava/lang/Void;)V"⟩ : MethodName) jdk_42_method_149_code 6 none ws ({ frames := 2, cells := 1, slots := 2, locals := 35 } : Room) #[(.ref p1), (.ref p2), (.int (0 : Int32)), (.int (2 : Int32)), .null] h0 (own_none (fun h => Keep h0 h [p1] ∧ Fld Z h p1 "java/lang/String" "coder" "B" (.int (0 : Int32)) ∧ ∃ b kb, Fld Z h p1 "java/lang/String" "value" "[B" (.ref b) ∧ Arv Z h b kb .byte (2 : Int32) [(.int ch0.toInt8.toInt32), (.int ch1.toInt8.toInt32)] (.int (0 : Int32)))) Ts Ts := by
  have I' := I
  obtain ⟨S_cs, N_cs, HW, R_fm, S_fm, HC⟩ := I'
  refine own_met (ls0 := #[.val (.ref p1), .val (.ref p2), .val (.int (0 : Int32)), .val (.int (2 : Int32)), .val .null, .unset]) own_pf10 (fun m => by first | rfl | (simp [entryFrame, mkF, argsToLocals, Value.category, maxLocals]; done)) ?_
  intro p e s m below meth c
  refine own_old (fun O0 => ?_)
  refine own_aloadN 1 rfl d2_0 rfl rfl ?_
  refine own_initO 4 rfl (hw _ (List.mem_of_getElem? (i := 12) rfl)) (hw _ (List.mem_of_getElem? (i := 13) rfl)) (hw _ (List.mem_of_getElem? (i := 14) rfl)) d2_1 rfl (by decide) 0 (Nat.le_of_eq rfl) (by decide) ?_
  refine own_iloadN 5 rfl d2_4 rfl ?_
  refine own_ifYes 27 d2_5 (feq (by decide : ¬ ((2 : Int32) = (0 : Int32)))).2 (by decide) (by decide) ?_
  refine own_getS 30 rfl (host := "") (Or.inl (hw _ (List.mem_of_getElem? (i := 33) rfl))) Via.refl S_cs d2_27 ?_
  have ihc30 : ¬ cs.toInt = (0 : Int) := by omega
  have hc30 : ¬ (cs = (0 : Int32)) := own_neq' ihc30
  refine own_ifNo 33 rfl d2_30 (feq hc30).1 ?_
  refine own_aloadN 34 rfl d2_33 rfl rfl ?_
  refine own_iloadN 35 rfl d2_34 rfl ?_
  refine own_iloadN 36 rfl d2_35 rfl ?_
  refine own_callS 39 rfl 1 2 0 [(.ref p2), (.int (0 : Int32)), (.int (2 : Int32))] [] (y := (⟨"java/lang/StringUTF16", "compress", "([CII)[B"⟩ : MethodName)) (hw _ (List.mem_of_getElem? (i := 49) rfl)) (hw _ (List.mem_of_getElem? (i := 50) rfl)) (hw _ (List.mem_of_getElem? (i := 51) rfl)) (hw _ (List.mem_of_getElem? (i := 52) rfl)) (by decide) (rmZ3_2 l Z a0 hw [] p2 kb ch0 ch1 h0 Vc_p2 hb0 hb1) d2_36 rfl (lenOf own_pd6 rfl) rfl rfl rfl (by decide) (by decide) rfl rfl (by decide) (by decide) (own_kv fun v1 h1 q1 => ?_)
  obtain ⟨b1, k1, rfl, z1, K1, V1⟩ := q1
  have ne_p1_b1 : p1 ≠ b1 := Nat.ne_of_lt (Nat.lt_of_lt_of_le Es_p1.lt z1)
  have ne_p2_b1 : p2 ≠ b1 := Nat.ne_of_lt (Nat.lt_of_lt_of_le Vc_p2.lt z1)
  have kp2 : Keep h0 h1 [p1] := Keep.trans (Keep.refl h0 [p1]) K1 all0
  refine own_astore 41 rfl #[.val (.ref p1), .val (.ref p2), .val (.int (0 : Int32)), .val (.int (2 : Int32)), .val .null, .val (.ref b1)] d2_39 rfl rfl ?_
  refine own_aloadN 42 rfl d2_41 rfl rfl ?_
  refine own_aload 44 rfl d2_42 rfl rfl ?_
  refine own_iloadN 45 rfl d2_44 rfl ?_
  refine own_callS 48 rfl 1 2 1 [(.ref b1), (.int (2 : Int32))] [(.ref p1)] (y := (⟨"java/lang/StringUTF16", "coderFromArrayLen", "([BI)B"⟩ : MethodName)) (hw _ (List.mem_of_getElem? (i := 56) rfl)) (hw _ (List.mem_of_getElem? (i := 57) rfl)) (hw _ (List.mem_of_getElem? (i := 51) rfl)) (hw _ (List.mem_of_getElem? (i := 58) rfl)) (by decide) (rmCl2 l Z a0 hw [] b1 k1 ch0 ch1 h1 V1) d2_45 rfl (lenOf own_pd7 rfl) rfl rfl rfl (by decide) (by decide) rfl rfl (by decide) (by decide) (own_kv fun v3 h3 q3 => ?_)
  obtain ⟨rfl, e3⟩ := q3
  rw [e3]
  refine own_putF 51 rfl (host := "") (Or.inl (hw _ (List.mem_of_getElem? (i := 22) rfl))) Via.refl g1 (Fc_p1.keep K1 nin0) (Es_p1.keep K1) (Or.inr ⟨(hw _ (List.mem_of_getElem? (i := 18) rfl)), rfl, rfl⟩) (hw _ (List.mem_of_getElem? (i := 2) rfl)) (ty := .byte) (by decide) rfl rfl d2_48 (fun h4 W4 => ?_)
  have kp5 : Keep h0 h4 [p1] := Keep.wr kp2 W4 (Or.inl (List.mem_of_getElem? (i := 0) rfl))
  refine own_aloadN 52 rfl d2_51 rfl rfl ?_
  refine own_aload 54 rfl d2_52 rfl rfl ?_
  refine own_putF 57 rfl (host := "") (Or.inl (hw _ (List.mem_of_getElem? (i := 21) rfl))) Via.refl g1 ((Fv_p1.keep K1 nin0).other W4 (Or.inr (slot_ne (a0 := a0) (Or.inr (hw _ (List.mem_of_getElem? (i := 17) rfl))) (Or.inr (hw _ (List.mem_of_getElem? (i := 18) rfl))) (by decide) (t := (.array .byte)) (t' := .byte) (by decide) (by decide)))) ((Es_p1.keep K1).wr W4) (Or.inr ⟨(hw _ (List.mem_of_getElem? (i := 17) rfl)), rfl, rfl⟩) (hw _ (List.mem_of_getElem? (i := 2) rfl)) (ty := (.array .byte)) (by decide) rfl rfl d2_54 (fun h6 W6 => ?_)
  have kp7 : Keep h0 h6 [p1] := Keep.wr kp5 W6 (Or.inl (List.mem_of_getElem? (i := 0) rfl))
  refine own_ret rfl d2_57 (by decide) (by decide) ?_
  exact ⟨rfl, kp7, ((Fld.same W4 (Fc_p1.keep K1 nin0)).other W6 (Or.inr (slot_ne (a0 := a0) (Or.inr (hw _ (List.mem_of_getElem? (i := 18) rfl))) (Or.inr (hw _ (List.mem_of_getElem? (i := 17) rfl))) (by decide) (t := .byte) (t' := (.array .byte)) (by decide) (by decide)))), _, _, (Fld.same W6 ((Fv_p1.keep K1 nin0).other W4 (Or.inr (slot_ne (a0 := a0) (Or.inr (hw _ (List.mem_of_getElem? (i := 17) rfl))) (Or.inr (hw _ (List.mem_of_getElem? (i := 18) rfl))) (by decide) (t := (.array .byte)) (t' := .byte) (by decide) (by decide))))), ((V1.other W4 (Ne.symm ne_p1_b1)).other W6 (Ne.symm ne_p1_b1))⟩
set_option maxRecDepth 65536 in
set_option maxHeartbeats 40000000 in
theorem rmI4_3 (l : Launch) (Z : State) (a0 : Array Value) (hw : ∀ d ∈ tables_1, d.before a0 Z = true) (ws : List Jvm.Cond) {Ts : List String} (p1 p2 : Addr) (kb : ClassId) (ch0 ch1 ch2 : Int32) (cs : Int32) (fm : Value) (h0 : Heap) (I : own_Ini Z cs fm) (g1 : Z.heap.size ≤ p1) (Es_p1 : Exa Z h0 p1 "java/lang/String") (Fc_p1 : Fld Z h0 p1 "java/lang/String" "coder" "B" (.int (0 : Int32))) (Fv_p1 : Fld Z h0 p1 "java/lang/String" "value" "[B" .null) (Vc_p2 : Arv Z h0 p2 kb .char (3 : Int32) [(.int ch0), (.int ch1), (.int ch2)] (.int (0 : Int32))) (n12 : p1 ≠ p2) (hb0 : 0 ≤ ch0.toInt ∧ ch0.toInt ≤ 255) (hb1 : 0 ≤ ch1.toInt ∧ ch1.toInt ≤ 255) (hb2 : 0 ≤ ch2.toInt ∧ ch2.toInt ≤ 255) :
    own_Met l Z (⟨"java/lang/String", "<init>", "([CIILjava/lang/Void;)V"⟩ : MethodName) jdk_42_method_149_code 6 none ws ({ frames := 2, cells := 1, slots := 3, locals := 35 } : Room) #[(.ref p1), (.ref p2), (.int (0 : Int32)), (.int (3 : Int32)), .null] h0 (own_none (fun h => Keep h0 h [p1] ∧ Fld Z h p1 "java/lang/String" "coder" "B" (.int (0 : Int32)) ∧ ∃ b kb, Fld Z h p1 "java/lang/String" "value" "[B" (.ref b) ∧ Arv Z h b kb .byte (3 : Int32) [(.int ch0.toInt8.toInt32), (.int ch1.toInt8.toInt32), (.int ch2.toInt8.toInt32)] (.int (0 : Int32)))) Ts Ts := by
  have I' := I
  obtain ⟨S_cs, N_cs, HW, R_fm, S_fm, HC⟩ := I'
  refine own_met (ls0 := #[.val (.ref p1), .val (.ref p2), .val (.int (0 : Int32)), .val (.int (3 : Int32)), .val .null, .unset]) own_pf10 (fun m => by first | rfl | (simp [entryFrame, mkF, argsToLocals, Value.category, maxLocals]; done)) ?_
  intro p e s m below meth c
  refine own_old (fun O0 => ?_)
  refine own_aloadN 1 rfl d2_0 rfl rfl ?_
  refine own_initO 4 rfl (hw _ (List.mem_of_getElem? (i := 12) rfl)) (hw _ (List.mem_of_getElem? (i := 13) rfl)) (hw _ (List.mem_of_getElem? (i := 14) rfl)) d2_1 rfl (by decide) 0 (Nat.le_of_eq rfl) (by decide) ?_
  refine own_iloadN 5 rfl d2_4 rfl ?_
  refine own_ifYes 27 d2_5 (feq (by decide : ¬ ((3 : Int32) = (0 : Int32)))).2 (by decide) (by decide) ?_
  refine own_getS 30 rfl (host := "") (Or.inl (hw _ (List.mem_of_getElem? (i := 33) rfl))) Via.refl S_cs d2_27 ?_
  have ihc30 : ¬ cs.toInt = (0 : Int) := by omega
  have hc30 : ¬ (cs = (0 : Int32)) := own_neq' ihc30
  refine own_ifNo 33 rfl d2_30 (feq hc30).1 ?_
  refine own_aloadN 34 rfl d2_33 rfl rfl ?_
  refine own_iloadN 35 rfl d2_34 rfl ?_
  refine own_iloadN 36 rfl d2_35 rfl ?_
  refine own_callS 39 rfl 1 3 0 [(.ref p2), (.int (0 : Int32)), (.int (3 : Int32))] [] (y := (⟨"java/lang/StringUTF16", "compress", "([CII)[B"⟩ : MethodName)) (hw _ (List.mem_of_getElem? (i := 49) rfl)) (hw _ (List.mem_of_getElem? (i := 50) rfl)) (hw _ (List.mem_of_getElem? (i := 51) rfl)) (hw _ (List.mem_of_getElem? (i := 52) rfl)) (by decide) (rmZ3_3 l Z a0 hw [] p2 kb ch0 ch1 ch2 h0 Vc_p2 hb0 hb1 hb2) d2_36 rfl (lenOf own_pd6 rfl) rfl rfl rfl (by decide) (by decide) rfl rfl (by decide) (by decide) (own_kv fun v1 h1 q1 => ?_)
  obtain ⟨b1, k1, rfl, z1, K1, V1⟩ := q1
  have ne_p1_b1 : p1 ≠ b1 := Nat.ne_of_lt (Nat.lt_of_lt_of_le Es_p1.lt z1)
  have ne_p2_b1 : p2 ≠ b1 := Nat.ne_of_lt (Nat.lt_of_lt_of_le Vc_p2.lt z1)
  have kp2 : Keep h0 h1 [p1] := Keep.trans (Keep.refl h0 [p1]) K1 all0
  refine own_astore 41 rfl #[.val (.ref p1), .val (.ref p2), .val (.int (0 : Int32)), .val (.int (3 : Int32)), .val .null, .val (.ref b1)] d2_39 rfl rfl ?_
  refine own_aloadN 42 rfl d2_41 rfl rfl ?_
  refine own_aload 44 rfl d2_42 rfl rfl ?_
  refine own_iloadN 45 rfl d2_44 rfl ?_
  refine own_callS 48 rfl 1 3 1 [(.ref b1), (.int (3 : Int32))] [(.ref p1)] (y := (⟨"java/lang/StringUTF16", "coderFromArrayLen", "([BI)B"⟩ : MethodName)) (hw _ (List.mem_of_getElem? (i := 56) rfl)) (hw _ (List.mem_of_getElem? (i := 57) rfl)) (hw _ (List.mem_of_getElem? (i := 51) rfl)) (hw _ (List.mem_of_getElem? (i := 58) rfl)) (by decide) (rmCl3 l Z a0 hw [] b1 k1 ch0 ch1 ch2 h1 V1) d2_45 rfl (lenOf own_pd7 rfl) rfl rfl rfl (by decide) (by decide) rfl rfl (by decide) (by decide) (own_kv fun v3 h3 q3 => ?_)
  obtain ⟨rfl, e3⟩ := q3
  rw [e3]
  refine own_putF 51 rfl (host := "") (Or.inl (hw _ (List.mem_of_getElem? (i := 22) rfl))) Via.refl g1 (Fc_p1.keep K1 nin0) (Es_p1.keep K1) (Or.inr ⟨(hw _ (List.mem_of_getElem? (i := 18) rfl)), rfl, rfl⟩) (hw _ (List.mem_of_getElem? (i := 2) rfl)) (ty := .byte) (by decide) rfl rfl d2_48 (fun h4 W4 => ?_)
  have kp5 : Keep h0 h4 [p1] := Keep.wr kp2 W4 (Or.inl (List.mem_of_getElem? (i := 0) rfl))
  refine own_aloadN 52 rfl d2_51 rfl rfl ?_
  refine own_aload 54 rfl d2_52 rfl rfl ?_
  refine own_putF 57 rfl (host := "") (Or.inl (hw _ (List.mem_of_getElem? (i := 21) rfl))) Via.refl g1 ((Fv_p1.keep K1 nin0).other W4 (Or.inr (slot_ne (a0 := a0) (Or.inr (hw _ (List.mem_of_getElem? (i := 17) rfl))) (Or.inr (hw _ (List.mem_of_getElem? (i := 18) rfl))) (by decide) (t := (.array .byte)) (t' := .byte) (by decide) (by decide)))) ((Es_p1.keep K1).wr W4) (Or.inr ⟨(hw _ (List.mem_of_getElem? (i := 17) rfl)), rfl, rfl⟩) (hw _ (List.mem_of_getElem? (i := 2) rfl)) (ty := (.array .byte)) (by decide) rfl rfl d2_54 (fun h6 W6 => ?_)
  have kp7 : Keep h0 h6 [p1] := Keep.wr kp5 W6 (Or.inl (List.mem_of_getElem? (i := 0) rfl))
  refine own_ret rfl d2_57 (by decide) (by decide) ?_
  exact ⟨rfl, kp7, ((Fld.same W4 (Fc_p1.keep K1 nin0)).other W6 (Or.inr (slot_ne (a0 := a0) (Or.inr (hw _ (List.mem_of_getElem? (i := 18) rfl))) (Or.inr (hw _ (List.mem_of_getElem? (i := 17) rfl))) (by decide) (t := .byte) (t' := (.array .byte)) (by decide) (by decide)))), _, _, (Fld.same W6 ((Fv_p1.keep K1 nin0).other W4 (Or.inr (slot_ne (a0 := a0) (Or.inr (hw _ (List.mem_of_getElem? (i := 17) rfl))) (Or.inr (hw _ (List.mem_of_getElem? (i := 18) rfl))) (by decide) (t := (.array .byte)) (t' := .byte) (by decide) (by decide))))), ((V1.other W4 (Ne.symm ne_p1_b1)).other W6 (Ne.symm ne_p1_b1))⟩
theorem d2_8 : decode jdk_42_method_149_code 8 = .ok (.aload_n 0, 1) := by decide +kernel
theorem d2_9 : decode jdk_42_method_149_code 9 = .ok (.ldc 7, 2) := by decide +kernel
theorem d2_11 : decode jdk_42_method_149_code 11 = .ok (.getfield 9, 3) := by decide +kernel
theorem d2_14 : decode jdk_42_method_149_code 14 = .ok (.putfield 9, 3) := by decide +kernel
theorem d2_17 : decode jdk_42_method_149_code 17 = .ok (.aload_n 0, 1) := by decide +kernel
theorem d2_18 : decode jdk_42_method_149_code 18 = .ok (.ldc 7, 2) := by decide +kernel
theorem d2_20 : decode jdk_42_method_149_code 20 = .ok (.getfield 15, 3) := by decide +kernel
theorem d2_23 : decode jdk_42_method_149_code 23 = .ok (.putfield 15, 3) := by decide +kernel
theorem d2_26 : decode jdk_42_method_149_code 26 = .ok (.return_, 1) := by decide +kernel
set_option maxRecDepth 65536 in
set_option maxHeartbeats 40000000 in
theorem rmI4_0 (l : Launch) (Z : State) (a0 : Array Value) (hw : ∀ d ∈ tables_1, d.before a0 Z = true) (ws : List Jvm.Cond) (p1 p2 : Addr) (cs : Int32) (fm : Value) (h0 : Heap) (I : own_Ini Z cs fm) (g1 : Z.heap.size ≤ p1) (Es_p1 : Exa Z h0 p1 "java/lang/String") (Fc_p1 : Fld Z h0 p1 "java/lang/String" "coder" "B" (.int (0 : Int32))) (Fv_p1 : Fld Z h0 p1 "java/lang/String" "value" "[B" .null) :
    own_Met l Z (⟨"java/lang/String", "<init>", "([CIILjava/lang/Void;)V"⟩ : MethodName) jdk_42_method_149_code 6 none ws ({ frames := 1, cells := 2, slots := 4, locals := 12 } : Room) #[(.ref p1), (.ref p2), (.int (0 : Int32)), (.int (0 : Int32)), .null] h0 (own_none (fun h => Keep h0 h [p1] ∧ Fld Z h p1 "java/lang/String" "coder" "B" (.int (0 : Int32)) ∧ ∃ b kb, Fld Z h p1 "java/lang/String" "value" "[B" (.ref b) ∧ Arv Z h b kb .byte (0 : Int32) [] (.int (0 : Int32)))) [] [""] := by
  have I' := I
  obtain ⟨S_cs, N_cs, HW, R_fm, S_fm, HC⟩ := I'
  refine own_met (ls0 := #[.val (.ref p1), .val (.ref p2), .val (.int (0 : Int32)), .val (.int (0 : Int32)), .val .null, .unset]) own_pf10 (fun m => by first | rfl | (simp [entryFrame, mkF, argsToLocals, Value.category, maxLocals]; done)) ?_
  intro p e s m below meth c
  refine own_old (fun O0 => ?_)
  refine own_aloadN 1 rfl d2_0 rfl rfl ?_
  refine own_initO 4 rfl (hw _ (List.mem_of_getElem? (i := 12) rfl)) (hw _ (List.mem_of_getElem? (i := 13) rfl)) (hw _ (List.mem_of_getElem? (i := 14) rfl)) d2_1 rfl (by decide) 0 (Nat.le_of_eq rfl) (by decide) ?_
  refine own_iloadN 5 rfl d2_4 rfl ?_
  refine own_ifNo 8 rfl d2_5 (teq (rfl : (0 : Int32) = (0 : Int32))).2 ?_
  refine own_aloadN 9 rfl d2_8 rfl rfl ?_
  refine own_ldcT 11 rfl 2 4 0 [] (0 : Int32) (text := "") (hw _ (List.mem_of_getElem? (i := 15) rfl)) (own_wS hw) (HC ("java/lang/String", 7) (List.mem_of_getElem? (i := 1) rfl)) HW (by simp) ⟨by decide, by decide +kernel⟩ (by decide) rfl d2_9 (by decide) (by decide) rfl rfl (by decide) (by decide) (fun h1 b1 b1v k1 E1 X_b1 F1c F1v V1 => ?_)
  have kp2 : Keep h0 h1 [p1] := Keep.ext (Keep.refl h0 [p1]) E1
  have ne_b1 : b1 ≠ p1 := Fld.ne F1v (Fv_p1.ext E1) nofun
  have ne_b1v : p1 ≠ b1v := Exa.neArv (Es_p1.ext E1) V1 (hw _ (List.mem_of_getElem? (i := 2) rfl))
  refine own_getF 14 rfl (host := "") (Or.inl (hw _ (List.mem_of_getElem? (i := 21) rfl))) Via.refl F1v d2_11 ?_
  refine own_putF 17 rfl (host := "") (Or.inl (hw _ (List.mem_of_getElem? (i := 21) rfl))) Via.refl g1 (Fv_p1.ext E1) (Es_p1.ext E1) (Or.inr ⟨(hw _ (List.mem_of_getElem? (i := 17) rfl)), rfl, rfl⟩) (hw _ (List.mem_of_getElem? (i := 2) rfl)) (ty := (.array .byte)) (by decide) rfl rfl d2_14 (fun h3 W3 => ?_)
  have kp4 : Keep h0 h3 [p1] := Keep.wr kp2 W3 (Or.inl (List.mem_of_getElem? (i := 0) rfl))
  refine own_aloadN 18 rfl d2_17 rfl rfl ?_
  refine own_ldcA 20 rfl (a := b1) (hw _ (List.mem_of_getElem? (i := 15) rfl)) (by simp) d2_18 ?_
  refine own_getF 23 rfl (host := "") (Or.inl (hw _ (List.mem_of_getElem? (i := 22) rfl))) Via.refl (F1c.other W3 (Or.inl ne_b1)) d2_20 ?_
  refine own_putF 26 rfl (host := "") (Or.inl (hw _ (List.mem_of_getElem? (i := 22) rfl))) Via.refl g1 ((Fc_p1.ext E1).other W3 (Or.inr (slot_ne (a0 := a0) (Or.inr (hw _ (List.mem_of_getElem? (i := 18) rfl))) (Or.inr (hw _ (List.mem_of_getElem? (i := 17) rfl))) (by decide) (t := .byte) (t' := (.array .byte)) (by decide) (by decide)))) ((Es_p1.ext E1).wr W3) (Or.inr ⟨(hw _ (List.mem_of_getElem? (i := 18) rfl)), rfl, rfl⟩) (hw _ (List.mem_of_getElem? (i := 2) rfl)) (ty := .byte) (by decide) rfl rfl d2_23 (fun h5 W5 => ?_)
  have kp6 : Keep h0 h5 [p1] := Keep.wr kp4 W5 (Or.inl (List.mem_of_getElem? (i := 0) rfl))
  refine own_ret rfl d2_26 (by decide) (by decide) ?_
  exact ⟨rfl, kp6, (Fld.same W5 ((Fc_p1.ext E1).other W3 (Or.inr (slot_ne (a0 := a0) (Or.inr (hw _ (List.mem_of_getElem? (i := 18) rfl))) (Or.inr (hw _ (List.mem_of_getElem? (i := 17) rfl))) (by decide) (t := .byte) (t' := (.array .byte)) (by decide) (by decide))))), _, _, ((Fld.same W3 (Fv_p1.ext E1)).other W5 (Or.inr (slot_ne (a0 := a0) (Or.inr (hw _ (List.mem_of_getElem? (i := 17) rfl))) (Or.inr (hw _ (List.mem_of_getElem? (i := 18) rfl))) (by decide) (t := (.array .byte)) (t' := .byte) (by decide) (by decide)))), ((V1.other W3 (Ne.symm ne_b1v)).other W5 (Ne.symm ne_b1v))⟩
theorem d1_0 : decode jdk_42_method_3_code 0 = .ok (.aload_n 0, 1) := by decide +kernel
theorem d1_1 : decode jdk_42_method_3_code 1 = .ok (.aload_n 1, 1) := by decide +kernel
theorem d1_2 : decode jdk_42_method_3_code 2 = .ok (.iconst 0, 1) := by decide +kernel
theorem d1_3 : decode jdk_42_method_3_code 3 = .ok (.aload_n 1, 1) := by decide +kernel
theorem d1_4 : decode jdk_42_method_3_code 4 = .ok (.arraylength, 1) := by decide +kernel
theorem d1_5 : decode jdk_42_method_3_code 5 = .ok (.aconst_null, 1) := by decide +kernel
theorem d1_6 : decode jdk_42_method_3_code 6 = .ok (.invokespecial 27, 3) := by decide +kernel
theorem own_pd8 : parseMethodDescriptor "([CIILjava/lang/Void;)V" = some ⟨[(.array .char), .int, .int, (.object "java/lang/Void")], none⟩ := by decide +kernel
theorem d1_9 : decode jdk_42_method_3_code 9 = .ok (.return_, 1) := by decide +kernel
theorem own_pf11 : plainFor (⟨"java/lang/String", "<init>", "([C)V"⟩ : MethodName) = true := by first | exact plainFor_of_name (by first | (simp [plainName, overriddenIn]; done) | decide +kernel) | decide +kernel
set_option maxRecDepth 65536 in
set_option maxHeartbeats 40000000 in
theorem rmI1_0 (l : Launch) (Z : State) (a0 : Array Value) (hw : ∀ d ∈ tables_1, d.before a0 Z = true) (ws : List Jvm.Cond) (p1 p2 : Addr) (kb : ClassId) (cs : Int32) (fm : Value) (h0 : Heap) (I : own_Ini Z cs fm) (g1 : Z.heap.size ≤ p1) (Es_p1 : Exa Z h0 p1 "java/lang/String") (Fc_p1 : Fld Z h0 p1 "java/lang/String" "coder" "B" (.int (0 : Int32))) (Fv_p1 : Fld Z h0 p1 "java/lang/String" "value" "[B" .null) (Vc_p2 : Arv Z h0 p2 kb .char (0 : Int32) [] (.int (0 : Int32))) :
    own_Met l Z (⟨"java/lang/String", "<init>", "([C)V"⟩ : MethodName) jdk_42_method_3_code 2 none ws ({ frames := 2, cells := 2, slots := 4, locals := 29 } : Room) #[(.ref p1), (.ref p2)] h0 (own_none (fun h => Keep h0 h [p1] ∧ Fld Z h p1 "java/lang/String" "coder" "B" (.int (0 : Int32)) ∧ ∃ b kb, Fld Z h p1 "java/lang/String" "value" "[B" (.ref b) ∧ Arv Z h b kb .byte (0 : Int32) [] (.int (0 : Int32)))) [] [""] := by
  have I' := I
  obtain ⟨S_cs, N_cs, HW, R_fm, S_fm, HC⟩ := I'
  refine own_met (ls0 := #[.val (.ref p1), .val (.ref p2)]) own_pf11 (fun m => by first | rfl | (simp [entryFrame, mkF, argsToLocals, Value.category, maxLocals]; done)) ?_
  intro p e s m below meth c
  refine own_old (fun O0 => ?_)
  refine own_aloadN 1 rfl d1_0 rfl rfl ?_
  refine own_aloadN 2 rfl d1_1 rfl rfl ?_
  refine own_iconst 3 rfl (0 : Int32) d1_2 rfl ?_
  refine own_aloadN 4 rfl d1_3 rfl rfl ?_
  obtain ⟨c1, A1, q1, S1, N1, H1, G1⟩ := id Vc_p2
  refine own_alen 5 rfl A1 (0 : Int32) (len_of S1 N1) d1_4 ?_
  refine own_aconstNull 6 rfl d1_5 ?_
  refine own_callI 9 rfl 2 4 0 [(.ref p2), (.int (0 : Int32)), (.int (0 : Int32)), .null] [] (y := (⟨"java/lang/String", "<init>", "([CIILjava/lang/Void;)V"⟩ : MethodName)) rfl (hw _ (List.mem_of_getElem? (i := 8) rfl)) (hw _ (List.mem_of_getElem? (i := 9) rfl)) (hw _ (List.mem_of_getElem? (i := 3) rfl)) (hw _ (List.mem_of_getElem? (i := 11) rfl)) (by decide) (rmI4_0 l Z a0 hw [] p1 p2 cs fm h0 I g1 Es_p1 Fc_p1 Fv_p1) d1_6 rfl (lenOf own_pd8 rfl) rfl rfl rfl (by decide) (by decide) rfl rfl (by decide) (by decide) (own_k0 fun h2 q2 => ?_)
  obtain ⟨K2, G2c, b2, k2, G2v, V2⟩ := q2
  have kp3 : Keep h0 h2 [p1] := Keep.trans (Keep.refl h0 [p1]) K2 (allS (Or.inl (List.mem_of_getElem? (i := 0) rfl)) all0)
  refine own_ret rfl d1_9 (by decide) (by decide) ?_
  exact ⟨rfl, kp3, G2c, _, _, G2v, V2⟩
set_option maxRecDepth 65536 in
set_option maxHeartbeats 40000000 in
theorem rmI1_2 (l : Launch) (Z : State) (a0 : Array Value) (hw : ∀ d ∈ tables_1, d.before a0 Z = true) (ws : List Jvm.Cond) {Ts : List String} (p1 p2 : Addr) (kb : ClassId) (ch0 ch1 : Int32) (cs : Int32) (fm : Value) (h0 : Heap) (I : own_Ini Z cs fm) (g1 : Z.heap.size ≤ p1) (Es_p1 : Exa Z h0 p1 "java/lang/String") (Fc_p1 : Fld Z h0 p1 "java/lang/String" "coder" "B" (.int (0 : Int32))) (Fv_p1 : Fld Z h0 p1 "java/lang/String" "value" "[B" .null) (Vc_p2 : Arv Z h0 p2 kb .char (2 : Int32) [(.int ch0), (.int ch1)] (.int (0 : Int32))) (n12 : p1 ≠ p2) (hb0 : 0 ≤ ch0.toInt ∧ ch0.toInt ≤ 255) (hb1 : 0 ≤ ch1.toInt ∧ ch1.toInt ≤ 255) :
    own_Met l Z (⟨"java/lang/String", "<init>", "([C)V"⟩ : MethodName) jdk_42_method_3_code 2 none ws ({ frames := 3, cells := 1, slots := 2, locals := 52 } : Room) #[(.ref p1), (.ref p2)] h0 (own_none (fun h => Keep h0 h [p1] ∧ Fld Z h p1 "java/lang/String" "coder" "B" (.int (0 : Int32)) ∧ ∃ b kb, Fld Z h p1 "java/lang/String" "value" "[B" (.ref b) ∧ Arv Z h b kb .byte (2 : Int32) [(.int ch0.toInt8.toInt32), (.int ch1.toInt8.toInt32)] (.int (0 : Int32)))) Ts Ts := by
  have I' := I
  obtain ⟨S_cs, N_cs, HW, R_fm, S_fm, HC⟩ := I'
  refine own_met (ls0 := #[.val (.ref p1), .val (.ref p2)]) own_pf11 (fun m => by first | rfl | (simp [entryFrame, mkF, argsToLocals, Value.category, maxLocals]; done)) ?_
  intro p e s m below meth c
  refine own_old (fun O0 => ?_)
  refine own_aloadN 1 rfl d1_0 rfl rfl ?_
  refine own_aloadN 2 rfl d1_1 rfl rfl ?_
  refine own_iconst 3 rfl (0 : Int32) d1_2 rfl ?_
  refine own_aloadN 4 rfl d1_3 rfl rfl ?_
  obtain ⟨c1, A1, q1, S1, N1, H1, G1⟩ := id Vc_p2
  refine own_alen 5 rfl A1 (2 : Int32) (len_of S1 N1) d1_4 ?_
  refine own_aconstNull 6 rfl d1_5 ?_
  refine own_callI 9 rfl 1 2 0 [(.ref p2), (.int (0 : Int32)), (.int (2 : Int32)), .null] [] (y := (⟨"java/lang/String", "<init>", "([CIILjava/lang/Void;)V"⟩ : MethodName)) rfl (hw _ (List.mem_of_getElem? (i := 8) rfl)) (hw _ (List.mem_of_getElem? (i := 9) rfl)) (hw _ (List.mem_of_getElem? (i := 3) rfl)) (hw _ (List.mem_of_getElem? (i := 11) rfl)) (by decide) (rmI4_2 l Z a0 hw [] p1 p2 kb ch0 ch1 cs fm h0 I g1 Es_p1 Fc_p1 Fv_p1 Vc_p2 n12 hb0 hb1) d1_6 rfl (lenOf own_pd8 rfl) rfl rfl rfl (by decide) (by decide) rfl rfl (by decide) (by decide) (own_k0 fun h2 q2 => ?_)
  obtain ⟨K2, G2c, b2, k2, G2v, V2⟩ := q2
  have kp3 : Keep h0 h2 [p1] := Keep.trans (Keep.refl h0 [p1]) K2 (allS (Or.inl (List.mem_of_getElem? (i := 0) rfl)) all0)
  refine own_ret rfl d1_9 (by decide) (by decide) ?_
  exact ⟨rfl, kp3, G2c, _, _, G2v, V2⟩
set_option maxRecDepth 65536 in
set_option maxHeartbeats 40000000 in
theorem rmI1_3 (l : Launch) (Z : State) (a0 : Array Value) (hw : ∀ d ∈ tables_1, d.before a0 Z = true) (ws : List Jvm.Cond) {Ts : List String} (p1 p2 : Addr) (kb : ClassId) (ch0 ch1 ch2 : Int32) (cs : Int32) (fm : Value) (h0 : Heap) (I : own_Ini Z cs fm) (g1 : Z.heap.size ≤ p1) (Es_p1 : Exa Z h0 p1 "java/lang/String") (Fc_p1 : Fld Z h0 p1 "java/lang/String" "coder" "B" (.int (0 : Int32))) (Fv_p1 : Fld Z h0 p1 "java/lang/String" "value" "[B" .null) (Vc_p2 : Arv Z h0 p2 kb .char (3 : Int32) [(.int ch0), (.int ch1), (.int ch2)] (.int (0 : Int32))) (n12 : p1 ≠ p2) (hb0 : 0 ≤ ch0.toInt ∧ ch0.toInt ≤ 255) (hb1 : 0 ≤ ch1.toInt ∧ ch1.toInt ≤ 255) (hb2 : 0 ≤ ch2.toInt ∧ ch2.toInt ≤ 255) :
    own_Met l Z (⟨"java/lang/String", "<init>", "([C)V"⟩ : MethodName) jdk_42_method_3_code 2 none ws ({ frames := 3, cells := 1, slots := 3, locals := 52 } : Room) #[(.ref p1), (.ref p2)] h0 (own_none (fun h => Keep h0 h [p1] ∧ Fld Z h p1 "java/lang/String" "coder" "B" (.int (0 : Int32)) ∧ ∃ b kb, Fld Z h p1 "java/lang/String" "value" "[B" (.ref b) ∧ Arv Z h b kb .byte (3 : Int32) [(.int ch0.toInt8.toInt32), (.int ch1.toInt8.toInt32), (.int ch2.toInt8.toInt32)] (.int (0 : Int32)))) Ts Ts := by
  have I' := I
  obtain ⟨S_cs, N_cs, HW, R_fm, S_fm, HC⟩ := I'
  refine own_met (ls0 := #[.val (.ref p1), .val (.ref p2)]) own_pf11 (fun m => by first | rfl | (simp [entryFrame, mkF, argsToLocals, Value.category, maxLocals]; done)) ?_
  intro p e s m below meth c
  refine own_old (fun O0 => ?_)
  refine own_aloadN 1 rfl d1_0 rfl rfl ?_
  refine own_aloadN 2 rfl d1_1 rfl rfl ?_
  refine own_iconst 3 rfl (0 : Int32) d1_2 rfl ?_
  refine own_aloadN 4 rfl d1_3 rfl rfl ?_
  obtain ⟨c1, A1, q1, S1, N1, H1, G1⟩ := id Vc_p2
  refine own_alen 5 rfl A1 (3 : Int32) (len_of S1 N1) d1_4 ?_
  refine own_aconstNull 6 rfl d1_5 ?_
  refine own_callI 9 rfl 1 3 0 [(.ref p2), (.int (0 : Int32)), (.int (3 : Int32)), .null] [] (y := (⟨"java/lang/String", "<init>", "([CIILjava/lang/Void;)V"⟩ : MethodName)) rfl (hw _ (List.mem_of_getElem? (i := 8) rfl)) (hw _ (List.mem_of_getElem? (i := 9) rfl)) (hw _ (List.mem_of_getElem? (i := 3) rfl)) (hw _ (List.mem_of_getElem? (i := 11) rfl)) (by decide) (rmI4_3 l Z a0 hw [] p1 p2 kb ch0 ch1 ch2 cs fm h0 I g1 Es_p1 Fc_p1 Fv_p1 Vc_p2 n12 hb0 hb1 hb2) d1_6 rfl (lenOf own_pd8 rfl) rfl rfl rfl (by decide) (by decide) rfl rfl (by decide) (by decide) (own_k0 fun h2 q2 => ?_)
  obtain ⟨K2, G2c, b2, k2, G2v, V2⟩ := q2
  have kp3 : Keep h0 h2 [p1] := Keep.trans (Keep.refl h0 [p1]) K2 (allS (Or.inl (List.mem_of_getElem? (i := 0) rfl)) all0)
  refine own_ret rfl d1_9 (by decide) (by decide) ?_
  exact ⟨rfl, kp3, G2c, _, _, G2v, V2⟩
theorem d20_0 : decode jdk_42_method_151_code 0 = .ok (.aload_n 0, 1) := by decide +kernel
theorem d20_1 : decode jdk_42_method_151_code 1 = .ok (.invokespecial 1, 3) := by decide +kernel
theorem d20_4 : decode jdk_42_method_151_code 4 = .ok (.aload_n 0, 1) := by decide +kernel
theorem d20_5 : decode jdk_42_method_151_code 5 = .ok (.aload_n 1, 1) := by decide +kernel
theorem d20_6 : decode jdk_42_method_151_code 6 = .ok (.putfield 9, 3) := by decide +kernel
theorem d20_9 : decode jdk_42_method_151_code 9 = .ok (.aload_n 0, 1) := by decide +kernel
theorem d20_10 : decode jdk_42_method_151_code 10 = .ok (.iload_n 2, 1) := by decide +kernel
theorem d20_11 : decode jdk_42_method_151_code 11 = .ok (.putfield 15, 3) := by decide +kernel
theorem d20_14 : decode jdk_42_method_151_code 14 = .ok (.return_, 1) := by decide +kernel
theorem own_pf12 : plainFor (⟨"java/lang/String", "<init>", "([BB)V"⟩ : MethodName) = true := by first | exact plainFor_of_name (by first | (simp [plainName, overriddenIn]; done) | decide +kernel) | decide +kernel
set_option maxRecDepth 65536 in
set_option maxHeartbeats 40000000 in
theorem rmBB (l : Launch) (Z : State) (a0 : Array Value) (hw : ∀ d ∈ tables_1, d.before a0 Z = true) (ws : List Jvm.Cond) {Ts : List String} (p1 p2 : Addr) (h0 : Heap) (g1 : Z.heap.size ≤ p1) (Es_p1 : Exa Z h0 p1 "java/lang/String") (Fc_p1 : Fld Z h0 p1 "java/lang/String" "coder" "B" (.int (0 : Int32))) (Fv_p1 : Fld Z h0 p1 "java/lang/String" "value" "[B" .null) :
    own_Met l Z (⟨"java/lang/String", "<init>", "([BB)V"⟩ : MethodName) jdk_42_method_151_code 3 none ws ({ frames := 1, cells := 0, slots := 0, locals := 12 } : Room) #[(.ref p1), (.ref p2), (.int (0 : Int32))] h0 (own_none (fun h => Keep h0 h [p1] ∧ Fld Z h p1 "java/lang/String" "coder" "B" (.int (0 : Int32)) ∧ Fld Z h p1 "java/lang/String" "value" "[B" (.ref p2))) Ts Ts := by
  refine own_met (ls0 := #[.val (.ref p1), .val (.ref p2), .val (.int (0 : Int32))]) own_pf12 (fun m => by first | rfl | (simp [entryFrame, mkF, argsToLocals, Value.category, maxLocals]; done)) ?_
  intro p e s m below meth c
  refine own_old (fun O0 => ?_)
  refine own_aloadN 1 rfl d20_0 rfl rfl ?_
  refine own_initO 4 rfl (hw _ (List.mem_of_getElem? (i := 12) rfl)) (hw _ (List.mem_of_getElem? (i := 13) rfl)) (hw _ (List.mem_of_getElem? (i := 14) rfl)) d20_1 rfl (by decide) 0 (Nat.le_of_eq rfl) (by decide) ?_
  refine own_aloadN 5 rfl d20_4 rfl rfl ?_
  refine own_aloadN 6 rfl d20_5 rfl rfl ?_
  refine own_putF 9 rfl (host := "") (Or.inl (hw _ (List.mem_of_getElem? (i := 21) rfl))) Via.refl g1 Fv_p1 Es_p1 (Or.inr ⟨(hw _ (List.mem_of_getElem? (i := 17) rfl)), rfl, rfl⟩) (hw _ (List.mem_of_getElem? (i := 2) rfl)) (ty := (.array .byte)) (by decide) rfl rfl d20_6 (fun h1 W1 => ?_)
  have kp2 : Keep h0 h1 [p1] := Keep.wr (Keep.refl h0 [p1]) W1 (Or.inl (List.mem_of_getElem? (i := 0) rfl))
  refine own_aloadN 10 rfl d20_9 rfl rfl ?_
  refine own_iloadN 11 rfl d20_10 rfl ?_
  refine own_putF 14 rfl (host := "") (Or.inl (hw _ (List.mem_of_getElem? (i := 22) rfl))) Via.refl g1 (Fc_p1.other W1 (Or.inr (slot_ne (a0 := a0) (Or.inr (hw _ (List.mem_of_getElem? (i := 18) rfl))) (Or.inr (hw _ (List.mem_of_getElem? (i := 17) rfl))) (by decide) (t := .byte) (t' := (.array .byte)) (by decide) (by decide)))) (Es_p1.wr W1) (Or.inr ⟨(hw _ (List.mem_of_getElem? (i := 18) rfl)), rfl, rfl⟩) (hw _ (List.mem_of_getElem? (i := 2) rfl)) (ty := .byte) (by decide) rfl rfl d20_11 (fun h3 W3 => ?_)
  have kp4 : Keep h0 h3 [p1] := Keep.wr kp2 W3 (Or.inl (List.mem_of_getElem? (i := 0) rfl))
  refine own_ret rfl d20_14 (by decide) (by decide) ?_
  exact ⟨rfl, kp4, (Fld.same W3 (Fc_p1.other W1 (Or.inr (slot_ne (a0 := a0) (Or.inr (hw _ (List.mem_of_getElem? (i := 18) rfl))) (Or.inr (hw _ (List.mem_of_getElem? (i := 17) rfl))) (by decide) (t := .byte) (t' := (.array .byte)) (by decide) (by decide))))), ((Fld.same W1 Fv_p1).other W3 (Or.inr (slot_ne (a0 := a0) (Or.inr (hw _ (List.mem_of_getElem? (i := 17) rfl))) (Or.inr (hw _ (List.mem_of_getElem? (i := 18) rfl))) (by decide) (t := (.array .byte)) (t' := .byte) (by decide) (by decide))))⟩
theorem d18_0 : decode jdk_43_method_3_code 0 = .ok (.iload_n 0, 1) := by decide +kernel
theorem d18_1 : decode jdk_43_method_3_code 1 = .ok (.sipush 255, 3) := by decide +kernel
theorem d18_4 : decode jdk_43_method_3_code 4 = .ok (.if_icmp .gt 7, 3) := by decide +kernel
theorem d18_7 : decode jdk_43_method_3_code 7 = .ok (.iconst 1, 1) := by decide +kernel
theorem d18_8 : decode jdk_43_method_3_code 8 = .ok (.goto 4, 3) := by decide +kernel
theorem d18_12 : decode jdk_43_method_3_code 12 = .ok (.ireturn, 1) := by decide +kernel
theorem own_pf13 : plainFor (⟨"java/lang/StringLatin1", "canEncode", "(C)Z"⟩ : MethodName) = true := by first | exact plainFor_of_name (by first | (simp [plainName, overriddenIn]; done) | decide +kernel) | decide +kernel
set_option maxRecDepth 65536 in
set_option maxHeartbeats 40000000 in
theorem rmCe (l : Launch) (Z : State) (a0 : Array Value) (hw : ∀ d ∈ tables_1, d.before a0 Z = true) (ws : List Jvm.Cond) {Ts : List String} (ch0 : Int32) (h0 : Heap) (hb0 : 0 ≤ ch0.toInt ∧ ch0.toInt ≤ 255) :
    own_Met l Z (⟨"java/lang/StringLatin1", "canEncode", "(C)Z"⟩ : MethodName) jdk_43_method_3_code 1 (some .boolean) ws ({ frames := 0, cells := 0, slots := 0, locals := 0 } : Room) #[(.int ch0)] h0 (own_some (fun v h => v = .int (1 : Int32) ∧ h = h0)) Ts Ts := by
  refine own_met (ls0 := #[.val (.int ch0)]) own_pf13 (fun m => by first | rfl | (simp [entryFrame, mkF, argsToLocals, Value.category, maxLocals]; done)) ?_
  intro p e s m below meth c
  refine own_old (fun O0 => ?_)
  refine own_iloadN 1 rfl d18_0 rfl ?_
  refine own_sipush 4 rfl (255 : Int32) d18_1 rfl ?_
  have ihc4 : ch0.toInt ≤ (255 : Int) := by omega
  have hc4 : ¬ ((255 : Int32) < ch0) := own_nlt' ihc4
  refine own_icmpNo 7 rfl d18_4 (flt hc4).2.2.1 ?_
  refine own_iconst 8 rfl (1 : Int32) d18_7 rfl ?_
  refine own_goto 12 d18_8 (by decide) (by decide) ?_
  refine own_retN rfl (by simp) d18_12 (by decide) (by decide) ?_
  exact ⟨_, rfl, rfl, rfl⟩
theorem d19_0 : decode jdk_43_method_46_code 0 = .ok (.iconst 1, 1) := by decide +kernel
theorem d19_1 : decode jdk_43_method_46_code 1 = .ok (.newarray .byte, 2) := by decide +kernel
theorem d19_3 : decode jdk_43_method_46_code 3 = .ok (.dup, 1) := by decide +kernel
theorem d19_4 : decode jdk_43_method_46_code 4 = .ok (.iconst 0, 1) := by decide +kernel
theorem d19_5 : decode jdk_43_method_46_code 5 = .ok (.iload_n 0, 1) := by decide +kernel
theorem d19_6 : decode jdk_43_method_46_code 6 = .ok (.i2b, 1) := by decide +kernel
theorem d19_7 : decode jdk_43_method_46_code 7 = .ok (.bastore, 1) := by decide +kernel
theorem d19_8 : decode jdk_43_method_46_code 8 = .ok (.areturn, 1) := by decide +kernel
theorem own_pf14 : plainFor (⟨"java/lang/StringLatin1", "toBytes", "(C)[B"⟩ : MethodName) = true := by first | exact plainFor_of_name (by first | (simp [plainName, overriddenIn]; done) | decide +kernel) | decide +kernel
set_option maxRecDepth 65536 in
set_option maxHeartbeats 40000000 in
theorem rmTb (l : Launch) (Z : State) (a0 : Array Value) (hw : ∀ d ∈ tables_1, d.before a0 Z = true) (ws : List Jvm.Cond) {Ts : List String} (ch0 : Int32) (h0 : Heap) (hb0 : 0 ≤ ch0.toInt ∧ ch0.toInt ≤ 255) :
    own_Met l Z (⟨"java/lang/StringLatin1", "toBytes", "(C)[B"⟩ : MethodName) jdk_43_method_46_code 1 (some (.array .byte)) ws ({ frames := 0, cells := 1, slots := 1, locals := 0 } : Room) #[(.int ch0)] h0 (own_some (fun v h => ∃ b kb, v = .ref b ∧ h0.size ≤ b ∧ Keep h0 h [] ∧ Arv Z h b kb .byte (1 : Int32) [(.int ch0.toInt8.toInt32)] (.int (0 : Int32)))) Ts Ts := by
  refine own_met (ls0 := #[.val (.int ch0)]) own_pf14 (fun m => by first | rfl | (simp [entryFrame, mkF, argsToLocals, Value.category, maxLocals]; done)) ?_
  intro p e s m below meth c
  refine own_old (fun O0 => ?_)
  refine own_iconst 1 rfl (1 : Int32) d19_0 rfl ?_
  refine own_newP 3 rfl 1 1 1 "[B" (by decide) (hw _ (List.mem_of_getElem? (i := 16) rfl)) d19_1 (by decide) (by decide) (by decide) rfl rfl (by decide) (by decide) (fun h1 b1 k1 z1 g_b1 E1 V1 X_b1 => ?_)
  have sz_b1 : h0.size ≤ b1 := Nat.le_trans (Keep.refl h0 []).1 (Nat.le_of_eq z1.symm)
  have kp2 : Keep h0 h1 [] := Keep.ext (Keep.refl h0 []) E1
  have V1p : Arv Z h1 b1 k1 .byte (1 : Int32) [(.int (0 : Int32))] (.int (0 : Int32)) := V1.pad (pad_rep [] (.int (0 : Int32)) 1)
  refine own_dup 4 rfl d19_3 rfl ?_
  refine own_iconst 5 rfl (0 : Int32) d19_4 rfl ?_
  refine own_iloadN 6 rfl d19_5 rfl ?_
  refine own_i2b 7 rfl d19_6 ?_
  obtain ⟨c3, A3, q3, S3, N3, H3, G3⟩ := id V1p
  refine own_bastore 8 rfl g_b1 A3 (inb_of S3 ⟨by decide, by decide⟩) d19_7 (fun h3 W3 => ?_)
  have V3 : Arv Z h3 b1 k1 .byte (1 : Int32) [(.int (nar .byte ch0.toInt8.toInt32))] (.int (0 : Int32)) := Arv.set A3 q3 S3 N3 H3 G3 (fits_nar_byte _) W3 0 rfl (Nat.le_of_ble_eq_true rfl)
  rw [own_nb hb0] at V3
  have kp4 : Keep h0 h3 [] := Keep.wr kp2 W3 (Or.inr sz_b1)
  refine own_retA rfl rfl rfl d19_8 (by decide) (by decide) ?_
  exact ⟨_, rfl, _, _, rfl, sz_b1, kp4, V3⟩
theorem d17_0 : decode jdk_42_method_139_code 0 = .ok (.getstatic 38, 3) := by decide +kernel
theorem d17_3 : decode jdk_42_method_139_code 3 = .ok (.ifCond .eq 23, 3) := by decide +kernel
theorem d17_6 : decode jdk_42_method_139_code 6 = .ok (.iload_n 0, 1) := by decide +kernel
theorem d17_7 : decode jdk_42_method_139_code 7 = .ok (.invokestatic 1015, 3) := by decide +kernel
theorem own_pd9 : parseMethodDescriptor "(C)Z" = some ⟨[.char], some .boolean⟩ := by decide +kernel
theorem d17_10 : decode jdk_42_method_139_code 10 = .ok (.ifCond .eq 16, 3) := by decide +kernel
theorem d17_13 : decode jdk_42_method_139_code 13 = .ok (.new 10, 3) := by decide +kernel
theorem d17_16 : decode jdk_42_method_139_code 16 = .ok (.dup, 1) := by decide +kernel
theorem d17_17 : decode jdk_42_method_139_code 17 = .ok (.iload_n 0, 1) := by decide +kernel
theorem d17_18 : decode jdk_42_method_139_code 18 = .ok (.invokestatic 1018, 3) := by decide +kernel
theorem own_pd10 : parseMethodDescriptor "(C)[B" = some ⟨[.char], some (.array .byte)⟩ := by decide +kernel
theorem d17_21 : decode jdk_42_method_139_code 21 = .ok (.iconst 0, 1) := by decide +kernel
theorem d17_22 : decode jdk_42_method_139_code 22 = .ok (.invokespecial 209, 3) := by decide +kernel
theorem own_pd11 : parseMethodDescriptor "([BB)V" = some ⟨[(.array .byte), .byte], none⟩ := by decide +kernel
theorem d17_25 : decode jdk_42_method_139_code 25 = .ok (.areturn, 1) := by decide +kernel
theorem own_pf15 : plainFor (⟨"java/lang/String", "valueOf", "(C)Ljava/lang/String;"⟩ : MethodName) = true := by first | exact plainFor_of_name (by first | (simp [plainName, overriddenIn]; done) | decide +kernel) | decide +kernel
set_option maxRecDepth 65536 in
set_option maxHeartbeats 40000000 in
theorem rmVo (l : Launch) (Z : State) (a0 : Array Value) (hw : ∀ d ∈ tables_1, d.before a0 Z = true) (ws : List Jvm.Cond) {Ts : List String} (ch0 : Int32) (cs : Int32) (fm : Value) (h0 : Heap) (I : own_Ini Z cs fm) (hb0 : 0 ≤ ch0.toInt ∧ ch0.toInt ≤ 255) :
    own_Met l Z (⟨"java/lang/String", "valueOf", "(C)Ljava/lang/String;"⟩ : MethodName) jdk_42_method_139_code 1 (some (.object "java/lang/String")) ws ({ frames := 2, cells := 2, slots := 5, locals := 27 } : Room) #[(.int ch0)] h0 (own_some (fun v h => ∃ b bv kb, v = .ref b ∧ Exa Z h b "java/lang/String" ∧ Fld Z h b "java/lang/String" "coder" "B" (.int (0 : Int32)) ∧ Fld Z h b "java/lang/String" "value" "[B" (.ref bv) ∧ Arv Z h bv kb .byte (1 : Int32) [(.int ch0.toInt8.toInt32)] (.int (0 : Int32)))) Ts Ts := by
  have I' := I
  obtain ⟨S_cs, N_cs, HW, R_fm, S_fm, HC⟩ := I'
  refine own_met (ls0 := #[.val (.int ch0)]) own_pf15 (fun m => by first | rfl | (simp [entryFrame, mkF, argsToLocals, Value.category, maxLocals]; done)) ?_
  intro p e s m below meth c
  refine own_old (fun O0 => ?_)
  refine own_getS 3 rfl (host := "") (Or.inl (hw _ (List.mem_of_getElem? (i := 33) rfl))) Via.refl S_cs d17_0 ?_
  have ihc3 : ¬ cs.toInt = (0 : Int) := by omega
  have hc3 : ¬ (cs = (0 : Int32)) := own_neq' ihc3
  refine own_ifNo 6 rfl d17_3 (feq hc3).1 ?_
  refine own_iloadN 7 rfl d17_6 rfl ?_
  refine own_callS 10 rfl 0 0 0 [(.int ch0)] [] (y := (⟨"java/lang/StringLatin1", "canEncode", "(C)Z"⟩ : MethodName)) (hw _ (List.mem_of_getElem? (i := 83) rfl)) (hw _ (List.mem_of_getElem? (i := 84) rfl)) (hw _ (List.mem_of_getElem? (i := 47) rfl)) (hw _ (List.mem_of_getElem? (i := 85) rfl)) (by decide) (rmCe l Z a0 hw [] ch0 h0 hb0) d17_7 rfl (lenOf own_pd9 rfl) rfl rfl rfl (by decide) (by decide) rfl rfl (by decide) (by decide) (own_kv fun v1 h1 q1 => ?_)
  obtain ⟨rfl, e1⟩ := q1
  rw [e1]
  refine own_ifNo 13 rfl d17_10 (feq (by decide : ¬ ((1 : Int32) = (0 : Int32)))).1 ?_
  refine own_newO 16 rfl 1 4 (hw _ (List.mem_of_getElem? (i := 44) rfl)) (hw _ (List.mem_of_getElem? (i := 2) rfl)) (hw _ (List.mem_of_getElem? (i := 3) rfl)) d17_13 rfl rfl (by decide) (by decide) (fun h2 b2 z2 g_b2 E2 X_b2 D2 => ?_)
  have F2_value : Fld Z h2 b2 "java/lang/String" "value" "[B" .null := D2 (Or.inr (hw _ (List.mem_of_getElem? (i := 17) rfl))) (ty := (.array .byte)) (by decide)
  have F2_coder : Fld Z h2 b2 "java/lang/String" "coder" "B" (.int (0 : Int32)) := D2 (Or.inr (hw _ (List.mem_of_getElem? (i := 18) rfl))) (ty := .byte) (by decide)
  refine own_dup 17 rfl d17_16 rfl ?_
  refine own_iloadN 18 rfl d17_17 rfl ?_
  refine own_callS 21 rfl 2 5 2 [(.int ch0)] [(.ref b2), (.ref b2)] (y := (⟨"java/lang/StringLatin1", "toBytes", "(C)[B"⟩ : MethodName)) (hw _ (List.mem_of_getElem? (i := 86) rfl)) (hw _ (List.mem_of_getElem? (i := 87) rfl)) (hw _ (List.mem_of_getElem? (i := 47) rfl)) (hw _ (List.mem_of_getElem? (i := 88) rfl)) (by decide) (rmTb l Z a0 hw [] ch0 h2 hb0) d17_18 rfl (lenOf own_pd10 rfl) rfl rfl rfl (by decide) (by decide) rfl rfl (by decide) (by decide) (own_kv fun v3 h3 q3 => ?_)
  obtain ⟨b3, k3, rfl, z3, K3, V3⟩ := q3
  have ne_b2_b3 : b2 ≠ b3 := Nat.ne_of_lt (Nat.lt_of_lt_of_le X_b2.lt z3)
  refine own_iconst 22 rfl (0 : Int32) d17_21 rfl ?_
  refine own_callI 25 rfl 2 5 1 [(.ref b3), (.int (0 : Int32))] [(.ref b2)] (y := (⟨"java/lang/String", "<init>", "([BB)V"⟩ : MethodName)) rfl (hw _ (List.mem_of_getElem? (i := 89) rfl)) (hw _ (List.mem_of_getElem? (i := 90) rfl)) (hw _ (List.mem_of_getElem? (i := 3) rfl)) (hw _ (List.mem_of_getElem? (i := 91) rfl)) (by decide) (rmBB l Z a0 hw [] b2 b3 h3 g_b2 (X_b2.keep K3) (F2_coder.keep K3 nin0) (F2_value.keep K3 nin0)) d17_22 rfl (lenOf own_pd11 rfl) rfl rfl rfl (by decide) (by decide) rfl rfl (by decide) (by decide) (own_k0 fun h4 q4 => ?_)
  obtain ⟨K4, G4c, G4v⟩ := q4
  refine own_retA rfl rfl rfl d17_25 (by decide) (by decide) ?_
  exact ⟨_, rfl, _, _, _, rfl, ((X_b2.keep K3).keep K4), G4c, G4v, (V3.keep K4 (ninS (Ne.symm ne_b2_b3) nin0))⟩
theorem d8_0 : decode jdk_43_method_13_code 0 = .ok (.aload_n 0, 1) := by decide +kernel
theorem d8_1 : decode jdk_43_method_13_code 1 = .ok (.arraylength, 1) := by decide +kernel
theorem d8_2 : decode jdk_43_method_13_code 2 = .ok (.aload_n 1, 1) := by decide +kernel
theorem d8_3 : decode jdk_43_method_13_code 3 = .ok (.arraylength, 1) := by decide +kernel
theorem d8_4 : decode jdk_43_method_13_code 4 = .ok (.if_icmp .ne 30, 3) := by decide +kernel
theorem d8_34 : decode jdk_43_method_13_code 34 = .ok (.iconst 0, 1) := by decide +kernel
theorem d8_35 : decode jdk_43_method_13_code 35 = .ok (.ireturn, 1) := by decide +kernel
theorem own_pf16 : plainFor (⟨"java/lang/StringLatin1", "equals", "([B[B)Z"⟩ : MethodName) = true := by first | exact plainFor_of_name (by first | (simp [plainName, overriddenIn]; done) | decide +kernel) | decide +kernel
set_option maxRecDepth 65536 in
set_option maxHeartbeats 40000000 in
theorem rmLeN (l : Launch) (Z : State) (a0 : Array Value) (hw : ∀ d ∈ tables_1, d.before a0 Z = true) (ws : List Jvm.Cond) {Ts : List String} (qa qb : Addr) (ka kb : ClassId) (z : Int32) (vs : List Value) (h0 : Heap) (Va_qa : Arv Z h0 qa ka .byte (2 : Int32) [(.int (120 : Int32)), (.int (97 : Int32))] (.int (0 : Int32))) (Va_qb : Arv Z h0 qb kb .byte z vs (.int (0 : Int32))) (hz : ¬ z.toInt = 2) :
    own_Met l Z (⟨"java/lang/StringLatin1", "equals", "([B[B)Z"⟩ : MethodName) jdk_43_method_13_code 3 (some .boolean) ws ({ frames := 0, cells := 0, slots := 0, locals := 0 } : Room) #[(.ref qa), (.ref qb)] h0 (own_some (fun v h => v = .int (0 : Int32) ∧ h = h0)) Ts Ts := by
  refine own_met (ls0 := #[.val (.ref qa), .val (.ref qb), .unset]) own_pf16 (fun m => by first | rfl | (simp [entryFrame, mkF, argsToLocals, Value.category, maxLocals]; done)) ?_
  intro p e s m below meth c
  refine own_old (fun O0 => ?_)
  refine own_aloadN 1 rfl d8_0 rfl rfl ?_
  obtain ⟨c1, A1, q1, S1, N1, H1, G1⟩ := id Va_qa
  refine own_alen 2 rfl A1 (2 : Int32) (len_of S1 N1) d8_1 ?_
  refine own_aloadN 3 rfl d8_2 rfl rfl ?_
  obtain ⟨c2, A2, q2, S2, N2, H2, G2⟩ := id Va_qb
  refine own_alen 4 rfl A2 z (len_of S2 N2) d8_3 ?_
  have ihc4 : ¬ (2 : Int) = z.toInt := by omega
  have hc4 : ¬ ((2 : Int32) = z) := own_neq' ihc4
  refine own_icmpYes 34 d8_4 (feq hc4).2 (by decide) (by decide) ?_
  refine own_iconst 35 rfl (0 : Int32) d8_34 rfl ?_
  refine own_retN rfl (by simp) d8_35 (by decide) (by decide) ?_
  exact ⟨_, rfl, rfl, rfl⟩
theorem d8_7 : decode jdk_43_method_13_code 7 = .ok (.iconst 0, 1) := by decide +kernel
theorem d8_8 : decode jdk_43_method_13_code 8 = .ok (.istore_n 2, 1) := by decide +kernel
theorem d8_9 : decode jdk_43_method_13_code 9 = .ok (.iload_n 2, 1) := by decide +kernel
theorem d8_10 : decode jdk_43_method_13_code 10 = .ok (.aload_n 0, 1) := by decide +kernel
theorem d8_11 : decode jdk_43_method_13_code 11 = .ok (.arraylength, 1) := by decide +kernel
theorem d8_12 : decode jdk_43_method_13_code 12 = .ok (.if_icmp .ge 20, 3) := by decide +kernel
theorem d8_15 : decode jdk_43_method_13_code 15 = .ok (.aload_n 0, 1) := by decide +kernel
theorem d8_16 : decode jdk_43_method_13_code 16 = .ok (.iload_n 2, 1) := by decide +kernel
theorem d8_17 : decode jdk_43_method_13_code 17 = .ok (.baload, 1) := by decide +kernel
theorem d8_18 : decode jdk_43_method_13_code 18 = .ok (.aload_n 1, 1) := by decide +kernel
theorem d8_19 : decode jdk_43_method_13_code 19 = .ok (.iload_n 2, 1) := by decide +kernel
theorem d8_20 : decode jdk_43_method_13_code 20 = .ok (.baload, 1) := by decide +kernel
theorem d8_21 : decode jdk_43_method_13_code 21 = .ok (.if_icmp .eq 5, 3) := by decide +kernel
theorem d8_26 : decode jdk_43_method_13_code 26 = .ok (.iinc 2 1, 3) := by decide +kernel
theorem d8_29 : decode jdk_43_method_13_code 29 = .ok (.goto (-20), 3) := by decide +kernel
theorem d8_24 : decode jdk_43_method_13_code 24 = .ok (.iconst 0, 1) := by decide +kernel
theorem d8_25 : decode jdk_43_method_13_code 25 = .ok (.ireturn, 1) := by decide +kernel
set_option maxRecDepth 65536 in
set_option maxHeartbeats 40000000 in
theorem rmLe2 (l : Launch) (Z : State) (a0 : Array Value) (hw : ∀ d ∈ tables_1, d.before a0 Z = true) (ws : List Jvm.Cond) {Ts : List String} (qa qb : Addr) (ka kb : ClassId) (y0 y1 : Int32) (h0 : Heap) (Va_qa : Arv Z h0 qa ka .byte (2 : Int32) [(.int (120 : Int32)), (.int (97 : Int32))] (.int (0 : Int32))) (Va_qb : Arv Z h0 qb kb .byte (2 : Int32) [(.int y0), (.int y1)] (.int (0 : Int32))) (hy : ¬ (y0.toInt = 120 ∧ y1.toInt = 97)) :
    own_Met l Z (⟨"java/lang/StringLatin1", "equals", "([B[B)Z"⟩ : MethodName) jdk_43_method_13_code 3 (some .boolean) ws ({ frames := 0, cells := 0, slots := 0, locals := 0 } : Room) #[(.ref qa), (.ref qb)] h0 (own_some (fun v h => v = .int (0 : Int32) ∧ h = h0)) Ts Ts := by
  refine own_met (ls0 := #[.val (.ref qa), .val (.ref qb), .unset]) own_pf16 (fun m => by first | rfl | (simp [entryFrame, mkF, argsToLocals, Value.category, maxLocals]; done)) ?_
  intro p e s m below meth c
  refine own_old (fun O0 => ?_)
  refine own_aloadN 1 rfl d8_0 rfl rfl ?_
  obtain ⟨c1, A1, q1, S1, N1, H1, G1⟩ := id Va_qa
  refine own_alen 2 rfl A1 (2 : Int32) (len_of S1 N1) d8_1 ?_
  refine own_aloadN 3 rfl d8_2 rfl rfl ?_
  obtain ⟨c2, A2, q2, S2, N2, H2, G2⟩ := id Va_qb
  refine own_alen 4 rfl A2 (2 : Int32) (len_of S2 N2) d8_3 ?_
  refine own_icmpNo 7 rfl d8_4 (teq (rfl : (2 : Int32) = (2 : Int32))).2 ?_
  refine own_iconst 8 rfl (0 : Int32) d8_7 rfl ?_
  refine own_istoreN 9 rfl #[.val (.ref qa), .val (.ref qb), .val (.int (0 : Int32))] d8_8 rfl ?_
  refine own_iloadN 10 rfl d8_9 rfl ?_
  refine own_aloadN 11 rfl d8_10 rfl rfl ?_
  obtain ⟨c3, A3, q3, S3, N3, H3, G3⟩ := id Va_qa
  refine own_alen 12 rfl A3 (2 : Int32) (len_of S3 N3) d8_11 ?_
  refine own_icmpNo 15 rfl d8_12 (tlt (by decide : (0 : Int32) < (2 : Int32))).2.1 ?_
  refine own_aloadN 16 rfl d8_15 rfl rfl ?_
  refine own_iloadN 17 rfl d8_16 rfl ?_
  obtain ⟨c4, A4, q4, S4, N4, H4, G4⟩ := id Va_qa
  refine own_baload 18 rfl A4 (inb_of S4 ⟨by decide, by decide⟩) (Has.at H4 (inb_of S4 ⟨by decide, by decide⟩) rfl) d8_17 ?_
  refine own_aloadN 19 rfl d8_18 rfl rfl ?_
  refine own_iloadN 20 rfl d8_19 rfl ?_
  obtain ⟨c5, A5, q5, S5, N5, H5, G5⟩ := id Va_qb
  refine own_baload 21 rfl A5 (inb_of S5 ⟨by decide, by decide⟩) (Has.at H5 (inb_of S5 ⟨by decide, by decide⟩) rfl) d8_20 ?_
  by_cases hc21 : (120 : Int32) = y0
  · have ihc21 : (120 : Int) = y0.toInt := own_eq hc21
    refine own_icmpYes 26 d8_21 (teq hc21).1 (by decide) (by decide) ?_
    refine own_iinc 29 rfl #[.val (.ref qa), .val (.ref qb), .val (.int (1 : Int32))] (1 : Int32) d8_26 rfl rfl rfl ?_
    refine own_goto 9 d8_29 (by decide) (by decide) ?_
    refine own_iloadN 10 rfl d8_9 rfl ?_
    refine own_aloadN 11 rfl d8_10 rfl rfl ?_
    obtain ⟨c6, A6, q6, S6, N6, H6, G6⟩ := id Va_qa
    refine own_alen 12 rfl A6 (2 : Int32) (len_of S6 N6) d8_11 ?_
    refine own_icmpNo 15 rfl d8_12 (tlt (by decide : (1 : Int32) < (2 : Int32))).2.1 ?_
    refine own_aloadN 16 rfl d8_15 rfl rfl ?_
    refine own_iloadN 17 rfl d8_16 rfl ?_
    obtain ⟨c7, A7, q7, S7, N7, H7, G7⟩ := id Va_qa
    refine own_baload 18 rfl A7 (inb_of S7 ⟨by decide, by decide⟩) (Has.at H7 (inb_of S7 ⟨by decide, by decide⟩) rfl) d8_17 ?_
    refine own_aloadN 19 rfl d8_18 rfl rfl ?_
    refine own_iloadN 20 rfl d8_19 rfl ?_
    obtain ⟨c8, A8, q8, S8, N8, H8, G8⟩ := id Va_qb
    refine own_baload 21 rfl A8 (inb_of S8 ⟨by decide, by decide⟩) (Has.at H8 (inb_of S8 ⟨by decide, by decide⟩) rfl) d8_20 ?_
    have ihc21_9 : ¬ (97 : Int) = y1.toInt := by omega
    have hc21_9 : ¬ ((97 : Int32) = y1) := own_neq' ihc21_9
    refine own_icmpNo 24 rfl d8_21 (feq hc21_9).1 ?_
    refine own_iconst 25 rfl (0 : Int32) d8_24 rfl ?_
    refine own_retN rfl (by simp) d8_25 (by decide) (by decide) ?_
    exact ⟨_, rfl, rfl, rfl⟩
  · have ihc21 : ¬ (120 : Int) = y0.toInt := own_neq hc21
    refine own_icmpNo 24 rfl d8_21 (feq hc21).1 ?_
    refine own_iconst 25 rfl (0 : Int32) d8_24 rfl ?_
    refine own_retN rfl (by simp) d8_25 (by decide) (by decide) ?_
    exact ⟨_, rfl, rfl, rfl⟩
theorem d7_0 : decode jdk_42_method_66_code 0 = .ok (.aload_n 0, 1) := by decide +kernel
theorem d7_1 : decode jdk_42_method_66_code 1 = .ok (.aload_n 1, 1) := by decide +kernel
theorem d7_2 : decode jdk_42_method_66_code 2 = .ok (.if_acmp .ne 5, 3) := by decide +kernel
theorem d7_7 : decode jdk_42_method_66_code 7 = .ok (.aload_n 1, 1) := by decide +kernel
theorem d7_8 : decode jdk_42_method_66_code 8 = .ok (.instanceof 10, 3) := by decide +kernel
theorem d7_11 : decode jdk_42_method_66_code 11 = .ok (.ifCond .eq 43, 3) := by decide +kernel
theorem d7_14 : decode jdk_42_method_66_code 14 = .ok (.aload_n 1, 1) := by decide +kernel
theorem d7_15 : decode jdk_42_method_66_code 15 = .ok (.checkcast 10, 3) := by decide +kernel
theorem d7_18 : decode jdk_42_method_66_code 18 = .ok (.astore_n 2, 1) := by decide +kernel
theorem d7_19 : decode jdk_42_method_66_code 19 = .ok (.getstatic 38, 3) := by decide +kernel
theorem d7_22 : decode jdk_42_method_66_code 22 = .ok (.ifCond .eq 14, 3) := by decide +kernel
theorem d7_25 : decode jdk_42_method_66_code 25 = .ok (.aload_n 0, 1) := by decide +kernel
theorem d7_26 : decode jdk_42_method_66_code 26 = .ok (.getfield 15, 3) := by decide +kernel
theorem d7_29 : decode jdk_42_method_66_code 29 = .ok (.aload_n 2, 1) := by decide +kernel
theorem d7_30 : decode jdk_42_method_66_code 30 = .ok (.getfield 15, 3) := by decide +kernel
theorem d7_33 : decode jdk_42_method_66_code 33 = .ok (.if_icmp .ne 21, 3) := by decide +kernel
theorem d7_36 : decode jdk_42_method_66_code 36 = .ok (.aload_n 0, 1) := by decide +kernel
theorem d7_37 : decode jdk_42_method_66_code 37 = .ok (.getfield 9, 3) := by decide +kernel
theorem d7_40 : decode jdk_42_method_66_code 40 = .ok (.aload_n 2, 1) := by decide +kernel
theorem d7_41 : decode jdk_42_method_66_code 41 = .ok (.getfield 9, 3) := by decide +kernel
theorem d7_44 : decode jdk_42_method_66_code 44 = .ok (.invokestatic 541, 3) := by decide +kernel
theorem own_pd12 : parseMethodDescriptor "([B[B)Z" = some ⟨[(.array .byte), (.array .byte)], some .boolean⟩ := by decide +kernel
theorem d7_47 : decode jdk_42_method_66_code 47 = .ok (.ifCond .eq 7, 3) := by decide +kernel
theorem d7_54 : decode jdk_42_method_66_code 54 = .ok (.iconst 0, 1) := by decide +kernel
theorem d7_55 : decode jdk_42_method_66_code 55 = .ok (.ireturn, 1) := by decide +kernel
theorem own_pf17 : plainFor (⟨"java/lang/String", "equals", "(Ljava/lang/Object;)Z"⟩ : MethodName) = true := by first | exact plainFor_of_name (by first | (simp [plainName, overriddenIn]; done) | decide +kernel) | decide +kernel
set_option maxRecDepth 65536 in
set_option maxHeartbeats 40000000 in
theorem rmEqN (l : Launch) (Z : State) (a0 : Array Value) (hw : ∀ d ∈ tables_1, d.before a0 Z = true) (ws : List Jvm.Cond) {Ts : List String} (p1 p2 qa qb : Addr) (ka kb : ClassId) (z : Int32) (vs : List Value) (cs : Int32) (fm : Value) (h0 : Heap) (I : own_Ini Z cs fm) (Es_p1 : Exa Z h0 p1 "java/lang/String") (Fc_p1 : Fld Z h0 p1 "java/lang/String" "coder" "B" (.int (0 : Int32))) (Fv_p1 : Fld Z h0 p1 "java/lang/String" "value" "[B" (.ref qa)) (Va_qa : Arv Z h0 qa ka .byte (2 : Int32) [(.int (120 : Int32)), (.int (97 : Int32))] (.int (0 : Int32))) (Es_p2 : Exa Z h0 p2 "java/lang/String") (Fc_p2 : Fld Z h0 p2 "java/lang/String" "coder" "B" (.int (0 : Int32))) (Fv_p2 : Fld Z h0 p2 "java/lang/String" "value" "[B" (.ref qb)) (Va_qb : Arv Z h0 qb kb .byte z vs (.int (0 : Int32))) (hz : ¬ z.toInt = 2) (hne : p1 ≠ p2) :
    own_Met l Z (⟨"java/lang/String", "equals", "(Ljava/lang/Object;)Z"⟩ : MethodName) jdk_42_method_66_code 3 (some .boolean) ws ({ frames := 1, cells := 0, slots := 0, locals := 14 } : Room) #[(.ref p1), (.ref p2)] h0 (own_some (fun v h => v = .int (0 : Int32) ∧ h = h0)) Ts Ts := by
  have I' := I
  obtain ⟨S_cs, N_cs, HW, R_fm, S_fm, HC⟩ := I'
  refine own_met (ls0 := #[.val (.ref p1), .val (.ref p2), .unset]) own_pf17 (fun m => by first | rfl | (simp [entryFrame, mkF, argsToLocals, Value.category, maxLocals]; done)) ?_
  intro p e s m below meth c
  refine own_old (fun O0 => ?_)
  refine own_aloadN 1 rfl d7_0 rfl rfl ?_
  refine own_aloadN 2 rfl d7_1 rfl rfl ?_
  refine own_acmpYes 7 d7_2 rfl rfl (own_feq (fun q => hne (Value.ref.inj q) : ¬ ((.ref p1) : Value) = (.ref p2))).2 (by decide) (by decide) ?_
  refine own_aloadN 8 rfl d7_7 rfl rfl ?_
  refine own_instY 11 rfl (hw _ (List.mem_of_getElem? (i := 44) rfl)) (Ins.self Es_p2) d7_8 ?_
  refine own_ifNo 14 rfl d7_11 (feq (by decide : ¬ ((1 : Int32) = (0 : Int32)))).1 ?_
  refine own_aloadN 15 rfl d7_14 rfl rfl ?_
  refine own_cast 18 rfl (hw _ (List.mem_of_getElem? (i := 44) rfl)) (Ins.self Es_p2) d7_15 ?_
  refine own_astoreN 19 rfl #[.val (.ref p1), .val (.ref p2), .val (.ref p2)] d7_18 rfl rfl ?_
  refine own_getS 22 rfl (host := "") (Or.inl (hw _ (List.mem_of_getElem? (i := 33) rfl))) Via.refl S_cs d7_19 ?_
  have ihc22 : ¬ cs.toInt = (0 : Int) := by omega
  have hc22 : ¬ (cs = (0 : Int32)) := own_neq' ihc22
  refine own_ifNo 25 rfl d7_22 (feq hc22).1 ?_
  refine own_aloadN 26 rfl d7_25 rfl rfl ?_
  refine own_getF 29 rfl (host := "") (Or.inl (hw _ (List.mem_of_getElem? (i := 22) rfl))) Via.refl Fc_p1 d7_26 ?_
  refine own_aloadN 30 rfl d7_29 rfl rfl ?_
  refine own_getF 33 rfl (host := "") (Or.inl (hw _ (List.mem_of_getElem? (i := 22) rfl))) Via.refl Fc_p2 d7_30 ?_
  refine own_icmpNo 36 rfl d7_33 (teq (rfl : (0 : Int32) = (0 : Int32))).2 ?_
  refine own_aloadN 37 rfl d7_36 rfl rfl ?_
  refine own_getF 40 rfl (host := "") (Or.inl (hw _ (List.mem_of_getElem? (i := 21) rfl))) Via.refl Fv_p1 d7_37 ?_
  refine own_aloadN 41 rfl d7_40 rfl rfl ?_
  refine own_getF 44 rfl (host := "") (Or.inl (hw _ (List.mem_of_getElem? (i := 21) rfl))) Via.refl Fv_p2 d7_41 ?_
  refine own_callS 47 rfl 0 0 0 [(.ref qa), (.ref qb)] [] (y := (⟨"java/lang/StringLatin1", "equals", "([B[B)Z"⟩ : MethodName)) (hw _ (List.mem_of_getElem? (i := 45) rfl)) (hw _ (List.mem_of_getElem? (i := 46) rfl)) (hw _ (List.mem_of_getElem? (i := 47) rfl)) (hw _ (List.mem_of_getElem? (i := 48) rfl)) (by decide) (rmLeN l Z a0 hw [] qa qb ka kb z vs h0 Va_qa Va_qb hz) d7_44 rfl (lenOf own_pd12 rfl) rfl rfl rfl (by decide) (by decide) rfl rfl (by decide) (by decide) (own_kv fun v1 h1 q1 => ?_)
  obtain ⟨rfl, e1⟩ := q1
  rw [e1]
  refine own_ifYes 54 d7_47 (teq (rfl : (0 : Int32) = (0 : Int32))).1 (by decide) (by decide) ?_
  refine own_iconst 55 rfl (0 : Int32) d7_54 rfl ?_
  refine own_retN rfl (by simp) d7_55 (by decide) (by decide) ?_
  exact ⟨_, rfl, rfl, rfl⟩
set_option maxRecDepth 65536 in
set_option maxHeartbeats 40000000 in
theorem rmEq2 (l : Launch) (Z : State) (a0 : Array Value) (hw : ∀ d ∈ tables_1, d.before a0 Z = true) (ws : List Jvm.Cond) {Ts : List String} (p1 p2 qa qb : Addr) (ka kb : ClassId) (y0 y1 : Int32) (cs : Int32) (fm : Value) (h0 : Heap) (I : own_Ini Z cs fm) (Es_p1 : Exa Z h0 p1 "java/lang/String") (Fc_p1 : Fld Z h0 p1 "java/lang/String" "coder" "B" (.int (0 : Int32))) (Fv_p1 : Fld Z h0 p1 "java/lang/String" "value" "[B" (.ref qa)) (Va_qa : Arv Z h0 qa ka .byte (2 : Int32) [(.int (120 : Int32)), (.int (97 : Int32))] (.int (0 : Int32))) (Es_p2 : Exa Z h0 p2 "java/lang/String") (Fc_p2 : Fld Z h0 p2 "java/lang/String" "coder" "B" (.int (0 : Int32))) (Fv_p2 : Fld Z h0 p2 "java/lang/String" "value" "[B" (.ref qb)) (Va_qb : Arv Z h0 qb kb .byte (2 : Int32) [(.int y0), (.int y1)] (.int (0 : Int32))) (hy : ¬ (y0.toInt = 120 ∧ y1.toInt = 97)) (hne : p1 ≠ p2) :
    own_Met l Z (⟨"java/lang/String", "equals", "(Ljava/lang/Object;)Z"⟩ : MethodName) jdk_42_method_66_code 3 (some .boolean) ws ({ frames := 1, cells := 0, slots := 0, locals := 14 } : Room) #[(.ref p1), (.ref p2)] h0 (own_some (fun v h => v = .int (0 : Int32) ∧ h = h0)) Ts Ts := by
  have I' := I
  obtain ⟨S_cs, N_cs, HW, R_fm, S_fm, HC⟩ := I'
  refine own_met (ls0 := #[.val (.ref p1), .val (.ref p2), .unset]) own_pf17 (fun m => by first | rfl | (simp [entryFrame, mkF, argsToLocals, Value.category, maxLocals]; done)) ?_
  intro p e s m below meth c
  refine own_old (fun O0 => ?_)
  refine own_aloadN 1 rfl d7_0 rfl rfl ?_
  refine own_aloadN 2 rfl d7_1 rfl rfl ?_
  refine own_acmpYes 7 d7_2 rfl rfl (own_feq (fun q => hne (Value.ref.inj q) : ¬ ((.ref p1) : Value) = (.ref p2))).2 (by decide) (by decide) ?_
  refine own_aloadN 8 rfl d7_7 rfl rfl ?_
  refine own_instY 11 rfl (hw _ (List.mem_of_getElem? (i := 44) rfl)) (Ins.self Es_p2) d7_8 ?_
  refine own_ifNo 14 rfl d7_11 (feq (by decide : ¬ ((1 : Int32) = (0 : Int32)))).1 ?_
  refine own_aloadN 15 rfl d7_14 rfl rfl ?_
  refine own_cast 18 rfl (hw _ (List.mem_of_getElem? (i := 44) rfl)) (Ins.self Es_p2) d7_15 ?_
  refine own_astoreN 19 rfl #[.val (.ref p1), .val (.ref p2), .val (.ref p2)] d7_18 rfl rfl ?_
  refine own_getS 22 rfl (host := "") (Or.inl (hw _ (List.mem_of_getElem? (i := 33) rfl))) Via.refl S_cs d7_19 ?_
  have ihc22 : ¬ cs.toInt = (0 : Int) := by omega
  have hc22 : ¬ (cs = (0 : Int32)) := own_neq' ihc22
  refine own_ifNo 25 rfl d7_22 (feq hc22).1 ?_
  refine own_aloadN 26 rfl d7_25 rfl rfl ?_
  refine own_getF 29 rfl (host := "") (Or.inl (hw _ (List.mem_of_getElem? (i := 22) rfl))) Via.refl Fc_p1 d7_26 ?_
  refine own_aloadN 30 rfl d7_29 rfl rfl ?_
  refine own_getF 33 rfl (host := "") (Or.inl (hw _ (List.mem_of_getElem? (i := 22) rfl))) Via.refl Fc_p2 d7_30 ?_
  refine own_icmpNo 36 rfl d7_33 (teq (rfl : (0 : Int32) = (0 : Int32))).2 ?_
  refine own_aloadN 37 rfl d7_36 rfl rfl ?_
  refine own_getF 40 rfl (host := "") (Or.inl (hw _ (List.mem_of_getElem? (i := 21) rfl))) Via.refl Fv_p1 d7_37 ?_
  refine own_aloadN 41 rfl d7_40 rfl rfl ?_
  refine own_getF 44 rfl (host := "") (Or.inl (hw _ (List.mem_of_getElem? (i := 21) rfl))) Via.refl Fv_p2 d7_41 ?_
  refine own_callS 47 rfl 0 0 0 [(.ref qa), (.ref qb)] [] (y := (⟨"java/lang/StringLatin1", "equals", "([B[B)Z"⟩ : MethodName)) (hw _ (List.mem_of_getElem? (i := 45) rfl)) (hw _ (List.mem_of_getElem? (i := 46) rfl)) (hw _ (List.mem_of_getElem? (i := 47) rfl)) (hw _ (List.mem_of_getElem? (i := 48) rfl)) (by decide) (rmLe2 l Z a0 hw [] qa qb ka kb y0 y1 h0 Va_qa Va_qb hy) d7_44 rfl (lenOf own_pd12 rfl) rfl rfl rfl (by decide) (by decide) rfl rfl (by decide) (by decide) (own_kv fun v1 h1 q1 => ?_)
  obtain ⟨rfl, e1⟩ := q1
  rw [e1]
  refine own_ifYes 54 d7_47 (teq (rfl : (0 : Int32) = (0 : Int32))).1 (by decide) (by decide) ?_
  refine own_iconst 55 rfl (0 : Int32) d7_54 rfl ?_
  refine own_retN rfl (by simp) d7_55 (by decide) (by decide) ?_
  exact ⟨_, rfl, rfl, rfl⟩
set_option maxRecDepth 65536 in
set_option maxHeartbeats 40000000 in
theorem rmEq0 (l : Launch) (Z : State) (a0 : Array Value) (hw : ∀ d ∈ tables_1, d.before a0 Z = true) (ws : List Jvm.Cond) {Ts : List String} (p1 : Addr) (h0 : Heap)  :
    own_Met l Z (⟨"java/lang/String", "equals", "(Ljava/lang/Object;)Z"⟩ : MethodName) jdk_42_method_66_code 3 (some .boolean) ws ({ frames := 0, cells := 0, slots := 0, locals := 0 } : Room) #[(.ref p1), .null] h0 (own_some (fun v h => v = .int (0 : Int32) ∧ h = h0)) Ts Ts := by
  refine own_met (ls0 := #[.val (.ref p1), .val .null, .unset]) own_pf17 (fun m => by first | rfl | (simp [entryFrame, mkF, argsToLocals, Value.category, maxLocals]; done)) ?_
  intro p e s m below meth c
  refine own_old (fun O0 => ?_)
  refine own_aloadN 1 rfl d7_0 rfl rfl ?_
  refine own_aloadN 2 rfl d7_1 rfl rfl ?_
  refine own_acmpYes 7 d7_2 rfl rfl (own_feq (nofun : ¬ ((.ref p1) : Value) = .null)).2 (by decide) (by decide) ?_
  refine own_aloadN 8 rfl d7_7 rfl rfl ?_
  refine own_instNull 11 rfl d7_8 ?_
  refine own_ifYes 54 d7_11 (teq (rfl : (0 : Int32) = (0 : Int32))).1 (by decide) (by decide) ?_
  refine own_iconst 55 rfl (0 : Int32) d7_54 rfl ?_
  refine own_retN rfl (by simp) d7_55 (by decide) (by decide) ?_
  exact ⟨_, rfl, rfl, rfl⟩
theorem d6_0 : decode prog_79_method_2_code 0 = .ok (.ldc 21, 2) := by decide +kernel
theorem d6_2 : decode prog_79_method_2_code 2 = .ok (.aload_n 0, 1) := by decide +kernel
theorem d6_3 : decode prog_79_method_2_code 3 = .ok (.invokevirtual 23, 3) := by decide +kernel
theorem own_pd13 : parseMethodDescriptor "(Ljava/lang/Object;)Z" = some ⟨[(.object "java/lang/Object")], some .boolean⟩ := by decide +kernel
theorem d6_6 : decode prog_79_method_2_code 6 = .ok (.ifCond .eq 17, 3) := by decide +kernel
theorem d6_23 : decode prog_79_method_2_code 23 = .ok (.aload_n 0, 1) := by decide +kernel
theorem d6_24 : decode prog_79_method_2_code 24 = .ok (.areturn, 1) := by decide +kernel
theorem own_pf18 : plainFor (⟨"com/example/restitch/restitch/engine/Registrations", "checkParticipantType", "(Ljava/lang/String;)Ljava/lang/String;"⟩ : MethodName) = true := by first | exact plainFor_of_name (by first | (simp [plainName, overriddenIn]; done) | decide +kernel) | decide +kernel
set_option maxRecDepth 65536 in
set_option maxHeartbeats 40000000 in
theorem rmCpN (l : Launch) (Z : State) (a0 : Array Value) (hw : ∀ d ∈ tables_1, d.before a0 Z = true) (ws : List Jvm.Cond) {Ts : List String} (p1 qa : Addr) (ka : ClassId) (z : Int32) (vs : List Value) (cs : Int32) (fm : Value) (h0 : Heap) (I : own_Ini Z cs fm) (hTs : "xa" ∉ Ts) (Es_p1 : Exa Z h0 p1 "java/lang/String") (Fc_p1 : Fld Z h0 p1 "java/lang/String" "coder" "B" (.int (0 : Int32))) (Fv_p1 : Fld Z h0 p1 "java/lang/String" "value" "[B" (.ref qa)) (Va_qa : Arv Z h0 qa ka .byte z vs (.int (0 : Int32))) (hz : ¬ z.toInt = 2) :
    own_Met l Z (⟨"com/example/restitch/restitch/engine/Registrations", "checkParticipantType", "(Ljava/lang/String;)Ljava/lang/String;"⟩ : MethodName) prog_79_method_2_code 1 (some (.object "java/lang/String")) ws ({ frames := 2, cells := 2, slots := 12, locals := 28 } : Room) #[(.ref p1)] h0 (own_some (fun v h => v = .ref p1)) Ts ("xa" :: Ts) := by
  have I' := I
  obtain ⟨S_cs, N_cs, HW, R_fm, S_fm, HC⟩ := I'
  refine own_met (ls0 := #[.val (.ref p1)]) own_pf18 (fun m => by first | rfl | (simp [entryFrame, mkF, argsToLocals, Value.category, maxLocals]; done)) ?_
  intro p e s m below meth c
  refine own_old (fun O0 => ?_)
  refine own_ldcT 2 rfl 2 12 8 [(.int (120 : Int32)), (.int (97 : Int32))] (2 : Int32) (text := "xa") (hw _ (List.mem_of_getElem? (i := 38) rfl)) (own_wS hw) (HC ("com/example/restitch/restitch/engine/Registrations", 21) (List.mem_of_getElem? (i := 0) rfl)) HW hTs ⟨by decide, by decide +kernel⟩ (by decide) rfl d6_0 (by decide) (by decide) rfl rfl (by decide) (by decide) (fun h1 b1 b1v k1 E1 X_b1 F1c F1v V1 => ?_)
  refine own_aloadN 3 rfl d6_2 rfl rfl ?_
  have hqq : b1v ≠ qa := own_arvLen V1 (Va_qa.ext E1) (fun q => hz q.symm)
  have hne : b1 ≠ p1 := Fld.ne F1v (Fv_p1.ext E1) (fun q => hqq (Value.ref.inj q))
  refine own_callV 6 rfl 2 12 0 [(.ref p1)] [] (y := (⟨"java/lang/String", "equals", "(Ljava/lang/Object;)Z"⟩ : MethodName)) (z := (⟨"java/lang/String", "equals", "(Ljava/lang/Object;)Z"⟩ : MethodName)) (hw _ (List.mem_of_getElem? (i := 39) rfl)) (hw _ (List.mem_of_getElem? (i := 40) rfl)) (fun hZ => notFace_of_selects (args := #[]) (mvT hZ (hw _ (List.mem_of_getElem? (i := 42) rfl)))) (hw _ (List.mem_of_getElem? (i := 42) rfl)) (hw _ (List.mem_of_getElem? (i := 41) rfl)) (hw _ (List.mem_of_getElem? (i := 3) rfl)) (hw _ (List.mem_of_getElem? (i := 43) rfl)) (by decide) X_b1 (rmEqN l Z a0 hw [] b1 p1 b1v qa k1 ka z vs cs fm h1 I X_b1 F1c F1v V1 (Es_p1.ext E1) (Fc_p1.ext E1) (Fv_p1.ext E1) (Va_qa.ext E1) hz hne) d6_3 rfl (lenOf own_pd13 rfl) rfl rfl rfl (by decide) (by decide) rfl rfl (by decide) (by decide) (own_kv fun v2 h2 q2 => ?_)
  obtain ⟨rfl, e2⟩ := q2
  rw [e2]
  refine own_ifYes 23 d6_6 (teq (rfl : (0 : Int32) = (0 : Int32))).1 (by decide) (by decide) ?_
  refine own_aloadN 24 rfl d6_23 rfl rfl ?_
  refine own_retA rfl rfl rfl d6_24 (by decide) (by decide) ?_
  exact ⟨_, rfl, rfl⟩
set_option maxRecDepth 65536 in
set_option maxHeartbeats 40000000 in
theorem rmCp2 (l : Launch) (Z : State) (a0 : Array Value) (hw : ∀ d ∈ tables_1, d.before a0 Z = true) (ws : List Jvm.Cond) {Ts : List String} (p1 qa : Addr) (ka : ClassId) (y0 y1 : Int32) (cs : Int32) (fm : Value) (h0 : Heap) (I : own_Ini Z cs fm) (hTs : "xa" ∉ Ts) (Es_p1 : Exa Z h0 p1 "java/lang/String") (Fc_p1 : Fld Z h0 p1 "java/lang/String" "coder" "B" (.int (0 : Int32))) (Fv_p1 : Fld Z h0 p1 "java/lang/String" "value" "[B" (.ref qa)) (Va_qa : Arv Z h0 qa ka .byte (2 : Int32) [(.int y0), (.int y1)] (.int (0 : Int32))) (hy : ¬ (y0.toInt = 120 ∧ y1.toInt = 97)) :
    own_Met l Z (⟨"com/example/restitch/restitch/engine/Registrations", "checkParticipantType", "(Ljava/lang/String;)Ljava/lang/String;"⟩ : MethodName) prog_79_method_2_code 1 (some (.object "java/lang/String")) ws ({ frames := 2, cells := 2, slots := 12, locals := 28 } : Room) #[(.ref p1)] h0 (own_some (fun v h => v = .ref p1)) Ts ("xa" :: Ts) := by
  have I' := I
  obtain ⟨S_cs, N_cs, HW, R_fm, S_fm, HC⟩ := I'
  refine own_met (ls0 := #[.val (.ref p1)]) own_pf18 (fun m => by first | rfl | (simp [entryFrame, mkF, argsToLocals, Value.category, maxLocals]; done)) ?_
  intro p e s m below meth c
  refine own_old (fun O0 => ?_)
  refine own_ldcT 2 rfl 2 12 8 [(.int (120 : Int32)), (.int (97 : Int32))] (2 : Int32) (text := "xa") (hw _ (List.mem_of_getElem? (i := 38) rfl)) (own_wS hw) (HC ("com/example/restitch/restitch/engine/Registrations", 21) (List.mem_of_getElem? (i := 0) rfl)) HW hTs ⟨by decide, by decide +kernel⟩ (by decide) rfl d6_0 (by decide) (by decide) rfl rfl (by decide) (by decide) (fun h1 b1 b1v k1 E1 X_b1 F1c F1v V1 => ?_)
  refine own_aloadN 3 rfl d6_2 rfl rfl ?_
  have hqq : b1v ≠ qa := by
    by_cases e0 : y0.toInt = 120
    · exact own_arvEl V1 (Va_qa.ext E1) 1 (by decide) (fun q => hy ⟨e0, (own_eq (Value.int.inj q)).symm⟩)
    · exact own_arvEl V1 (Va_qa.ext E1) 0 (by decide) (fun q => e0 (own_eq (Value.int.inj q)).symm)
  have hne : b1 ≠ p1 := Fld.ne F1v (Fv_p1.ext E1) (fun q => hqq (Value.ref.inj q))
  refine own_callV 6 rfl 2 12 0 [(.ref p1)] [] (y := (⟨"java/lang/String", "equals", "(Ljava/lang/Object;)Z"⟩ : MethodName)) (z := (⟨"java/lang/String", "equals", "(Ljava/lang/Object;)Z"⟩ : MethodName)) (hw _ (List.mem_of_getElem? (i := 39) rfl)) (hw _ (List.mem_of_getElem? (i := 40) rfl)) (fun hZ => notFace_of_selects (args := #[]) (mvT hZ (hw _ (List.mem_of_getElem? (i := 42) rfl)))) (hw _ (List.mem_of_getElem? (i := 42) rfl)) (hw _ (List.mem_of_getElem? (i := 41) rfl)) (hw _ (List.mem_of_getElem? (i := 3) rfl)) (hw _ (List.mem_of_getElem? (i := 43) rfl)) (by decide) X_b1 (rmEq2 l Z a0 hw [] b1 p1 b1v qa k1 ka y0 y1 cs fm h1 I X_b1 F1c F1v V1 (Es_p1.ext E1) (Fc_p1.ext E1) (Fv_p1.ext E1) (Va_qa.ext E1) hy hne) d6_3 rfl (lenOf own_pd13 rfl) rfl rfl rfl (by decide) (by decide) rfl rfl (by decide) (by decide) (own_kv fun v2 h2 q2 => ?_)
  obtain ⟨rfl, e2⟩ := q2
  rw [e2]
  refine own_ifYes 23 d6_6 (teq (rfl : (0 : Int32) = (0 : Int32))).1 (by decide) (by decide) ?_
  refine own_aloadN 24 rfl d6_23 rfl rfl ?_
  refine own_retA rfl rfl rfl d6_24 (by decide) (by decide) ?_
  exact ⟨_, rfl, rfl⟩
set_option maxRecDepth 65536 in
set_option maxHeartbeats 40000000 in
theorem rmCp0 (l : Launch) (Z : State) (a0 : Array Value) (hw : ∀ d ∈ tables_1, d.before a0 Z = true) (ws : List Jvm.Cond) {Ts : List String}  (cs : Int32) (fm : Value) (h0 : Heap) (I : own_Ini Z cs fm) (hTs : "xa" ∉ Ts) :
    own_Met l Z (⟨"com/example/restitch/restitch/engine/Registrations", "checkParticipantType", "(Ljava/lang/String;)Ljava/lang/String;"⟩ : MethodName) prog_79_method_2_code 1 (some (.object "java/lang/String")) ws ({ frames := 1, cells := 2, slots := 12, locals := 14 } : Room) #[.null] h0 (own_some (fun v h => v = .null)) Ts ("xa" :: Ts) := by
  have I' := I
  obtain ⟨S_cs, N_cs, HW, R_fm, S_fm, HC⟩ := I'
  refine own_met (ls0 := #[.val .null]) own_pf18 (fun m => by first | rfl | (simp [entryFrame, mkF, argsToLocals, Value.category, maxLocals]; done)) ?_
  intro p e s m below meth c
  refine own_old (fun O0 => ?_)
  refine own_ldcT 2 rfl 2 12 8 [(.int (120 : Int32)), (.int (97 : Int32))] (2 : Int32) (text := "xa") (hw _ (List.mem_of_getElem? (i := 38) rfl)) (own_wS hw) (HC ("com/example/restitch/restitch/engine/Registrations", 21) (List.mem_of_getElem? (i := 0) rfl)) HW hTs ⟨by decide, by decide +kernel⟩ (by decide) rfl d6_0 (by decide) (by decide) rfl rfl (by decide) (by decide) (fun h1 b1 b1v k1 E1 X_b1 F1c F1v V1 => ?_)
  refine own_aloadN 3 rfl d6_2 rfl rfl ?_
  refine own_callV 6 rfl 2 12 0 [.null] [] (y := (⟨"java/lang/String", "equals", "(Ljava/lang/Object;)Z"⟩ : MethodName)) (z := (⟨"java/lang/String", "equals", "(Ljava/lang/Object;)Z"⟩ : MethodName)) (hw _ (List.mem_of_getElem? (i := 39) rfl)) (hw _ (List.mem_of_getElem? (i := 40) rfl)) (fun hZ => notFace_of_selects (args := #[]) (mvT hZ (hw _ (List.mem_of_getElem? (i := 42) rfl)))) (hw _ (List.mem_of_getElem? (i := 42) rfl)) (hw _ (List.mem_of_getElem? (i := 41) rfl)) (hw _ (List.mem_of_getElem? (i := 3) rfl)) (hw _ (List.mem_of_getElem? (i := 43) rfl)) (by decide) X_b1 (rmEq0 l Z a0 hw [] b1 h1) d6_3 rfl (lenOf own_pd13 rfl) rfl rfl rfl (by decide) (by decide) rfl rfl (by decide) (by decide) (own_kv fun v2 h2 q2 => ?_)
  obtain ⟨rfl, e2⟩ := q2
  rw [e2]
  refine own_ifYes 23 d6_6 (teq (rfl : (0 : Int32) = (0 : Int32))).1 (by decide) (by decide) ?_
  refine own_aloadN 24 rfl d6_23 rfl rfl ?_
  refine own_retA rfl rfl rfl d6_24 (by decide) (by decide) ?_
  exact ⟨_, rfl, rfl⟩
theorem own_pd14 : parseMethodDescriptor "(Ljava/lang/String;)Ljava/lang/String;" = some ⟨[(.object "java/lang/String")], some (.object "java/lang/String")⟩ := by decide +kernel
theorem own_pd15 : parseMethodDescriptor "([C)V" = some ⟨[(.array .char)], none⟩ := by decide +kernel
theorem own_pd16 : parseMethodDescriptor "()I" = some ⟨[], some .int⟩ := by decide +kernel
theorem own_pd17 : parseMethodDescriptor "(C)Ljava/lang/String;" = some ⟨[.char], some (.object "java/lang/String")⟩ := by decide +kernel
theorem own_pd18 : parseMethodDescriptor "(I)C" = some ⟨[.int], some .char⟩ := by decide +kernel
theorem own_pf19 : plainFor (⟨"com/example/restitch/restitch/engine/RegistrationsCheckParticipantTypePinLaw", "law", "(IIII)Z"⟩ : MethodName) = true := by first | exact plainFor_of_name (by first | (simp [plainName, overriddenIn]; done) | decide +kernel) | decide +kernel
set_option maxRecDepth 65536 in
set_option maxHeartbeats 40000000 in
theorem rm0 (l : Launch) (Z : State) (a0 : Array Value) (hw : ∀ d ∈ tables_1, d.before a0 Z = true) (ws : List Jvm.Cond) (p1 p2 p3 p4 : Int32) (cs : Int32) (fm : Value) (h0 : Heap) (I : own_Ini Z cs fm)  :
    own_Met l Z x code maxLocals ret ws room_1 #[(.int p1), (.int p2), (.int p3), (.int p4)] h0 (own_some (fun v h => v = .int 1)) [] ["xa", ""] := by
  have I' := I
  obtain ⟨S_cs, N_cs, HW, R_fm, S_fm, HC⟩ := I'
  refine own_met (ls0 := #[.val (.int p1), .val (.int p2), .val (.int p3), .val (.int p4), .unset, .unset, .unset, .unset, .unset, .unset]) own_pf19 (fun m => by simp [entryFrame, mkF, argsToLocals, Value.category, maxLocals]) ?_
  intro p e s m below meth c
  refine own_old (fun O0 => ?_)
  refine own_iloadN 1 rfl at_0 rfl ?_
  refine own_sipush 4 rfl (255 : Int32) at_1 rfl ?_
  refine own_iand 5 rfl at_4 ?_
  refine own_i2c 6 rfl at_5 ?_
  obtain ⟨ch0, hK0⟩ : ∃ z, z = (p1 &&& (255 : Int32)).toUInt32.toUInt16.toUInt32.toInt32 := ⟨_, rfl⟩
  rw [← hK0]
  have hb0 := own_cm p1
  rw [← hK0] at hb0
  refine own_istore 8 rfl #[.val (.int p1), .val (.int p2), .val (.int p3), .val (.int p4), .val (.int ch0), .unset, .unset, .unset, .unset, .unset] at_6 rfl ?_
  refine own_iloadN 9 rfl at_8 rfl ?_
  refine own_sipush 12 rfl (255 : Int32) at_9 rfl ?_
  refine own_iand 13 rfl at_12 ?_
  refine own_i2c 14 rfl at_13 ?_
  obtain ⟨ch1, hK1⟩ : ∃ z, z = (p2 &&& (255 : Int32)).toUInt32.toUInt16.toUInt32.toInt32 := ⟨_, rfl⟩
  rw [← hK1]
  have hb1 := own_cm p2
  rw [← hK1] at hb1
  refine own_istore 16 rfl #[.val (.int p1), .val (.int p2), .val (.int p3), .val (.int p4), .val (.int ch0), .val (.int ch1), .unset, .unset, .unset, .unset] at_14 rfl ?_
  refine own_iloadN 17 rfl at_16 rfl ?_
  refine own_sipush 20 rfl (255 : Int32) at_17 rfl ?_
  refine own_iand 21 rfl at_20 ?_
  refine own_i2c 22 rfl at_21 ?_
  obtain ⟨ch2, hK2⟩ : ∃ z, z = (p3 &&& (255 : Int32)).toUInt32.toUInt16.toUInt32.toInt32 := ⟨_, rfl⟩
  rw [← hK2]
  have hb2 := own_cm p3
  rw [← hK2] at hb2
  refine own_istore 24 rfl #[.val (.int p1), .val (.int p2), .val (.int p3), .val (.int p4), .val (.int ch0), .val (.int ch1), .val (.int ch2), .unset, .unset, .unset] at_22 rfl ?_
  refine own_iloadN 25 rfl at_24 rfl ?_
  refine own_ldcInt 27 rfl (hw _ (List.mem_of_getElem? (i := 0) rfl)) at_25 ?_
  refine own_iand 28 rfl at_27 ?_
  refine own_iconst 29 rfl (5 : Int32) at_28 rfl ?_
  refine own_irem 30 rfl at_29 (by decide) ?_
  obtain ⟨kk, hKk⟩ : ∃ z, z = ((p4 &&& (2147483647 : Int32)) % (5 : Int32)) := ⟨_, rfl⟩
  rw [← hKk]
  clear hKk
  refine own_istore 32 rfl #[.val (.int p1), .val (.int p2), .val (.int p3), .val (.int p4), .val (.int ch0), .val (.int ch1), .val (.int ch2), .val (.int kk), .unset, .unset] at_30 rfl ?_
  refine own_iload 34 rfl at_32 rfl ?_
  by_cases hc34 : kk = (0 : Int32)
  · have ihc34 : kk.toInt = (0 : Int) := own_eq hc34
    refine own_ifNo 37 rfl at_34 (teq hc34).2 ?_
    refine own_aconstNull 38 rfl at_37 ?_
    refine own_astore 40 rfl #[.val (.int p1), .val (.int p2), .val (.int p3), .val (.int p4), .val (.int ch0), .val (.int ch1), .val (.int ch2), .val (.int kk), .val .null, .unset] at_38 rfl rfl ?_
    refine own_goto 151 at_40 (by decide) (by decide) ?_
    refine own_aload 153 rfl at_151 rfl rfl ?_
    refine own_ifnullYes 189 at_153 (by decide) (by decide) ?_
    refine own_aload 191 rfl at_189 rfl rfl ?_
    refine own_callS 194 rfl 2 12 0 [.null] [] (y := (⟨"com/example/restitch/restitch/engine/Registrations", "checkParticipantType", "(Ljava/lang/String;)Ljava/lang/String;"⟩ : MethodName)) (hw _ (List.mem_of_getElem? (i := 34) rfl)) (hw _ (List.mem_of_getElem? (i := 35) rfl)) (hw _ (List.mem_of_getElem? (i := 36) rfl)) (hw _ (List.mem_of_getElem? (i := 37) rfl)) (by decide) (rmCp0 l Z a0 hw [] cs fm h0 I (by simp)) at_191 rfl (lenOf own_pd14 rfl) rfl rfl rfl (by decide) (by decide) rfl rfl (by decide) (by decide) (own_kv fun v1 h1 q1 => ?_)
    rw [q1]
    refine own_astore 196 rfl #[.val (.int p1), .val (.int p2), .val (.int p3), .val (.int p4), .val (.int ch0), .val (.int ch1), .val (.int ch2), .val (.int kk), .val .null, .val .null] at_194 rfl rfl ?_
    refine own_aload 198 rfl at_196 rfl rfl ?_
    refine own_aload 200 rfl at_198 rfl rfl ?_
    refine own_acmpNo 203 rfl at_200 rfl rfl (own_teq (rfl : (.null : Value) = .null)).2 ?_
    refine own_iconst 204 rfl (1 : Int32) at_203 rfl ?_
    refine own_goto 208 at_204 (by decide) (by decide) ?_
    refine own_weak ["xa", ""] (by simp) ?_
    refine own_retN rfl (by simp) at_208 (by decide) (by decide) ?_
    exact ⟨_, rfl, rfl⟩
  · have ihc34 : ¬ kk.toInt = (0 : Int) := own_neq hc34
    refine own_ifYes 43 at_34 (feq hc34).2 (by decide) (by decide) ?_
    refine own_iload 45 rfl at_43 rfl ?_
    refine own_iconst 46 rfl (1 : Int32) at_45 rfl ?_
    by_cases hc46 : kk = (1 : Int32)
    · have ihc46 : kk.toInt = (1 : Int) := own_eq hc46
      refine own_icmpNo 49 rfl at_46 (teq hc46).2 ?_
      refine own_newO 52 rfl 1 4 (hw _ (List.mem_of_getElem? (i := 1) rfl)) (hw _ (List.mem_of_getElem? (i := 2) rfl)) (hw _ (List.mem_of_getElem? (i := 3) rfl)) at_49 rfl rfl (by decide) (by decide) (fun h2 b2 z2 g_b2 E2 X_b2 D2 => ?_)
      have F2_value : Fld Z h2 b2 "java/lang/String" "value" "[B" .null := D2 (Or.inr (hw _ (List.mem_of_getElem? (i := 17) rfl))) (ty := (.array .byte)) (by decide)
      have F2_coder : Fld Z h2 b2 "java/lang/String" "coder" "B" (.int (0 : Int32)) := D2 (Or.inr (hw _ (List.mem_of_getElem? (i := 18) rfl))) (ty := .byte) (by decide)
      refine own_dup 53 rfl at_52 rfl ?_
      refine own_iconst 54 rfl (0 : Int32) at_53 rfl ?_
      refine own_newP 56 rfl 2 4 0 "[C" (by decide) (hw _ (List.mem_of_getElem? (i := 4) rfl)) at_54 (by decide) (by decide) (by decide) rfl rfl (by decide) (by decide) (fun h3 b3 k3 z3 g_b3 E3 V3 X_b3 => ?_)
      have ne_b2_b3 : b2 ≠ b3 := Nat.ne_of_lt (Nat.lt_of_lt_of_le X_b2.lt (Nat.le_of_eq z3.symm))
      have V3p : Arv Z h3 b3 k3 .char (0 : Int32) [] (.int (0 : Int32)) := V3.pad (pad_rep [] (.int (0 : Int32)) 0)
      refine own_callI 59 rfl 4 8 1 [(.ref b3)] [(.ref b2)] (y := (⟨"java/lang/String", "<init>", "([C)V"⟩ : MethodName)) rfl (hw _ (List.mem_of_getElem? (i := 5) rfl)) (hw _ (List.mem_of_getElem? (i := 6) rfl)) (hw _ (List.mem_of_getElem? (i := 3) rfl)) (hw _ (List.mem_of_getElem? (i := 7) rfl)) (by decide) (rmI1_0 l Z a0 hw [] b2 b3 k3 cs fm h3 I g_b2 (X_b2.ext E3) (F2_coder.ext E3) (F2_value.ext E3) V3p) at_56 rfl (lenOf own_pd15 rfl) rfl rfl rfl (by decide) (by decide) rfl rfl (by decide) (by decide) (own_k0 fun h4 q4 => ?_)
      obtain ⟨K4, G4c, b4, k4, G4v, V4⟩ := q4
      refine own_astore 61 rfl #[.val (.int p1), .val (.int p2), .val (.int p3), .val (.int p4), .val (.int ch0), .val (.int ch1), .val (.int ch2), .val (.int kk), .val (.ref b2), .unset] at_59 rfl rfl ?_
      refine own_goto 151 at_61 (by decide) (by decide) ?_
      refine own_aload 153 rfl at_151 rfl rfl ?_
      refine own_ifnullNo 156 rfl at_153 ?_
      refine own_aload 158 rfl at_156 rfl rfl ?_
      refine own_callV 161 rfl 4 8 0 [] [] (y := (⟨"java/lang/String", "length", "()I"⟩ : MethodName)) (z := (⟨"java/lang/String", "length", "()I"⟩ : MethodName)) (hw _ (List.mem_of_getElem? (i := 23) rfl)) (hw _ (List.mem_of_getElem? (i := 24) rfl)) (fun hZ => notFace_of_selects (args := #[]) (mvT hZ (hw _ (List.mem_of_getElem? (i := 26) rfl)))) (hw _ (List.mem_of_getElem? (i := 26) rfl)) (hw _ (List.mem_of_getElem? (i := 25) rfl)) (hw _ (List.mem_of_getElem? (i := 3) rfl)) (hw _ (List.mem_of_getElem? (i := 27) rfl)) (by decide) ((X_b2.ext E3).keep K4) (rmLen0 l Z a0 hw [] b2 b4 k4  cs fm h4 I ((X_b2.ext E3).keep K4) G4c G4v V4) at_158 rfl (lenOf own_pd16 rfl) rfl rfl rfl (by decide) (by decide) rfl rfl (by decide) (by decide) (own_kv fun v5 h5 q5 => ?_)
      obtain ⟨rfl, e5⟩ := q5
      rw [e5]
      refine own_iconst 162 rfl (2 : Int32) at_161 rfl ?_
      refine own_icmpYes 189 at_162 (feq (by decide : ¬ ((0 : Int32) = (2 : Int32)))).2 (by decide) (by decide) ?_
      refine own_aload 191 rfl at_189 rfl rfl ?_
      refine own_callS 194 rfl 6 20 0 [(.ref b2)] [] (y := (⟨"com/example/restitch/restitch/engine/Registrations", "checkParticipantType", "(Ljava/lang/String;)Ljava/lang/String;"⟩ : MethodName)) (hw _ (List.mem_of_getElem? (i := 34) rfl)) (hw _ (List.mem_of_getElem? (i := 35) rfl)) (hw _ (List.mem_of_getElem? (i := 36) rfl)) (hw _ (List.mem_of_getElem? (i := 37) rfl)) (by decide) (rmCpN l Z a0 hw [] b2 b4 k4 (0 : Int32) [] cs fm h4 I (by simp) ((X_b2.ext E3).keep K4) G4c G4v V4 (by decide)) at_191 rfl (lenOf own_pd14 rfl) rfl rfl rfl (by decide) (by decide) rfl rfl (by decide) (by decide) (own_kv fun v6 h6 q6 => ?_)
      rw [q6]
      refine own_astore 196 rfl #[.val (.int p1), .val (.int p2), .val (.int p3), .val (.int p4), .val (.int ch0), .val (.int ch1), .val (.int ch2), .val (.int kk), .val (.ref b2), .val (.ref b2)] at_194 rfl rfl ?_
      refine own_aload 198 rfl at_196 rfl rfl ?_
      refine own_aload 200 rfl at_198 rfl rfl ?_
      refine own_acmpNo 203 rfl at_200 rfl rfl (own_teq (rfl : ((.ref b2) : Value) = (.ref b2))).2 ?_
      refine own_iconst 204 rfl (1 : Int32) at_203 rfl ?_
      refine own_goto 208 at_204 (by decide) (by decide) ?_
      refine own_weak ["xa", ""] (by simp) ?_
      refine own_retN rfl (by simp) at_208 (by decide) (by decide) ?_
      exact ⟨_, rfl, rfl⟩
    · have ihc46 : ¬ kk.toInt = (1 : Int) := own_neq hc46
      refine own_icmpYes 64 at_46 (feq hc46).2 (by decide) (by decide) ?_
      refine own_iload 66 rfl at_64 rfl ?_
      refine own_iconst 67 rfl (2 : Int32) at_66 rfl ?_
      by_cases hc67 : kk = (2 : Int32)
      · have ihc67 : kk.toInt = (2 : Int) := own_eq hc67
        refine own_icmpNo 70 rfl at_67 (teq hc67).2 ?_
        refine own_iload 72 rfl at_70 rfl ?_
        refine own_callS 75 rfl 2 5 0 [(.int ch0)] [] (y := (⟨"java/lang/String", "valueOf", "(C)Ljava/lang/String;"⟩ : MethodName)) (hw _ (List.mem_of_getElem? (i := 80) rfl)) (hw _ (List.mem_of_getElem? (i := 81) rfl)) (hw _ (List.mem_of_getElem? (i := 3) rfl)) (hw _ (List.mem_of_getElem? (i := 82) rfl)) (by decide) (rmVo l Z a0 hw [] ch0 cs fm h0 I hb0) at_72 rfl (lenOf own_pd17 rfl) rfl rfl rfl (by decide) (by decide) rfl rfl (by decide) (by decide) (own_kv fun v7 h7 q7 => ?_)
        obtain ⟨b7, b7v, k7, rfl, X_b7, G7c, G7v, V7⟩ := q7
        refine own_astore 77 rfl #[.val (.int p1), .val (.int p2), .val (.int p3), .val (.int p4), .val (.int ch0), .val (.int ch1), .val (.int ch2), .val (.int kk), .val (.ref b7), .unset] at_75 rfl rfl ?_
        refine own_goto 151 at_77 (by decide) (by decide) ?_
        refine own_aload 153 rfl at_151 rfl rfl ?_
        refine own_ifnullNo 156 rfl at_153 ?_
        refine own_aload 158 rfl at_156 rfl rfl ?_
        refine own_callV 161 rfl 2 5 0 [] [] (y := (⟨"java/lang/String", "length", "()I"⟩ : MethodName)) (z := (⟨"java/lang/String", "length", "()I"⟩ : MethodName)) (hw _ (List.mem_of_getElem? (i := 23) rfl)) (hw _ (List.mem_of_getElem? (i := 24) rfl)) (fun hZ => notFace_of_selects (args := #[]) (mvT hZ (hw _ (List.mem_of_getElem? (i := 26) rfl)))) (hw _ (List.mem_of_getElem? (i := 26) rfl)) (hw _ (List.mem_of_getElem? (i := 25) rfl)) (hw _ (List.mem_of_getElem? (i := 3) rfl)) (hw _ (List.mem_of_getElem? (i := 27) rfl)) (by decide) X_b7 (rmLen1 l Z a0 hw [] b7 b7v k7 ch0.toInt8.toInt32 cs fm h7 I X_b7 G7c G7v V7) at_158 rfl (lenOf own_pd16 rfl) rfl rfl rfl (by decide) (by decide) rfl rfl (by decide) (by decide) (own_kv fun v8 h8 q8 => ?_)
        obtain ⟨rfl, e8⟩ := q8
        rw [e8]
        refine own_iconst 162 rfl (2 : Int32) at_161 rfl ?_
        refine own_icmpYes 189 at_162 (feq (by decide : ¬ ((1 : Int32) = (2 : Int32)))).2 (by decide) (by decide) ?_
        refine own_aload 191 rfl at_189 rfl rfl ?_
        refine own_callS 194 rfl 4 17 0 [(.ref b7)] [] (y := (⟨"com/example/restitch/restitch/engine/Registrations", "checkParticipantType", "(Ljava/lang/String;)Ljava/lang/String;"⟩ : MethodName)) (hw _ (List.mem_of_getElem? (i := 34) rfl)) (hw _ (List.mem_of_getElem? (i := 35) rfl)) (hw _ (List.mem_of_getElem? (i := 36) rfl)) (hw _ (List.mem_of_getElem? (i := 37) rfl)) (by decide) (rmCpN l Z a0 hw [] b7 b7v k7 (1 : Int32) [(.int ch0.toInt8.toInt32)] cs fm h7 I (by simp) X_b7 G7c G7v V7 (by decide)) at_191 rfl (lenOf own_pd14 rfl) rfl rfl rfl (by decide) (by decide) rfl rfl (by decide) (by decide) (own_kv fun v9 h9 q9 => ?_)
        rw [q9]
        refine own_astore 196 rfl #[.val (.int p1), .val (.int p2), .val (.int p3), .val (.int p4), .val (.int ch0), .val (.int ch1), .val (.int ch2), .val (.int kk), .val (.ref b7), .val (.ref b7)] at_194 rfl rfl ?_
        refine own_aload 198 rfl at_196 rfl rfl ?_
        refine own_aload 200 rfl at_198 rfl rfl ?_
        refine own_acmpNo 203 rfl at_200 rfl rfl (own_teq (rfl : ((.ref b7) : Value) = (.ref b7))).2 ?_
        refine own_iconst 204 rfl (1 : Int32) at_203 rfl ?_
        refine own_goto 208 at_204 (by decide) (by decide) ?_
        refine own_weak ["xa", ""] (by simp) ?_
        refine own_retN rfl (by simp) at_208 (by decide) (by decide) ?_
        exact ⟨_, rfl, rfl⟩
      · have ihc67 : ¬ kk.toInt = (2 : Int) := own_neq hc67
        refine own_icmpYes 80 at_67 (feq hc67).2 (by decide) (by decide) ?_
        refine own_iload 82 rfl at_80 rfl ?_
        refine own_iconst 83 rfl (3 : Int32) at_82 rfl ?_
        by_cases hc83 : kk = (3 : Int32)
        · have ihc83 : kk.toInt = (3 : Int) := own_eq hc83
          refine own_icmpNo 86 rfl at_83 (teq hc83).2 ?_
          refine own_iconst 87 rfl (2 : Int32) at_86 rfl ?_
          refine own_newP 89 rfl 1 2 2 "[C" (by decide) (hw _ (List.mem_of_getElem? (i := 4) rfl)) at_87 (by decide) (by decide) (by decide) rfl rfl (by decide) (by decide) (fun h10 b10 k10 z10 g_b10 E10 V10 X_b10 => ?_)
          have V10p : Arv Z h10 b10 k10 .char (2 : Int32) [(.int (0 : Int32)), (.int (0 : Int32))] (.int (0 : Int32)) := V10.pad (pad_rep [] (.int (0 : Int32)) 2)
          refine own_astore 91 rfl #[.val (.int p1), .val (.int p2), .val (.int p3), .val (.int p4), .val (.int ch0), .val (.int ch1), .val (.int ch2), .val (.int kk), .unset, .val (.ref b10)] at_89 rfl rfl ?_
          refine own_aload 93 rfl at_91 rfl rfl ?_
          refine own_iconst 94 rfl (0 : Int32) at_93 rfl ?_
          refine own_iload 96 rfl at_94 rfl ?_
          obtain ⟨c11, A11, q11, S11, N11, H11, G11⟩ := id V10p
          refine own_castore 97 rfl g_b10 A11 (inb_of S11 ⟨by decide, by decide⟩) at_96 (fun h11 W11 => ?_)
          have V11 : Arv Z h11 b10 k10 .char (2 : Int32) [(.int (nar .char ch0)), (.int (0 : Int32))] (.int (0 : Int32)) := Arv.set A11 q11 S11 N11 H11 G11 (fits_nar_char _) W11 0 rfl (Nat.le_of_ble_eq_true rfl)
          rw [own_nc hb0] at V11
          refine own_aload 99 rfl at_97 rfl rfl ?_
          refine own_iconst 100 rfl (1 : Int32) at_99 rfl ?_
          refine own_iload 102 rfl at_100 rfl ?_
          obtain ⟨c12, A12, q12, S12, N12, H12, G12⟩ := id V11
          refine own_castore 103 rfl g_b10 A12 (inb_of S12 ⟨by decide, by decide⟩) at_102 (fun h12 W12 => ?_)
          have V12 : Arv Z h12 b10 k10 .char (2 : Int32) [(.int ch0), (.int (nar .char ch1))] (.int (0 : Int32)) := Arv.set A12 q12 S12 N12 H12 G12 (fits_nar_char _) W12 1 rfl (Nat.le_of_ble_eq_true rfl)
          rw [own_nc hb1] at V12
          refine own_newO 106 rfl 2 6 (hw _ (List.mem_of_getElem? (i := 1) rfl)) (hw _ (List.mem_of_getElem? (i := 2) rfl)) (hw _ (List.mem_of_getElem? (i := 3) rfl)) at_103 rfl rfl (by decide) (by decide) (fun h13 b13 z13 g_b13 E13 X_b13 D13 => ?_)
          have ne_b10_b13 : b10 ≠ b13 := Nat.ne_of_lt (Nat.lt_of_lt_of_le ((X_b10.wr W11).wr W12).lt (Nat.le_of_eq z13.symm))
          have F13_value : Fld Z h13 b13 "java/lang/String" "value" "[B" .null := D13 (Or.inr (hw _ (List.mem_of_getElem? (i := 17) rfl))) (ty := (.array .byte)) (by decide)
          have F13_coder : Fld Z h13 b13 "java/lang/String" "coder" "B" (.int (0 : Int32)) := D13 (Or.inr (hw _ (List.mem_of_getElem? (i := 18) rfl))) (ty := .byte) (by decide)
          refine own_dup 107 rfl at_106 rfl ?_
          refine own_aload 109 rfl at_107 rfl rfl ?_
          refine own_callI 112 rfl 3 8 1 [(.ref b10)] [(.ref b13)] (y := (⟨"java/lang/String", "<init>", "([C)V"⟩ : MethodName)) rfl (hw _ (List.mem_of_getElem? (i := 5) rfl)) (hw _ (List.mem_of_getElem? (i := 6) rfl)) (hw _ (List.mem_of_getElem? (i := 3) rfl)) (hw _ (List.mem_of_getElem? (i := 7) rfl)) (by decide) (rmI1_2 l Z a0 hw [] b13 b10 k10 ch0 ch1 cs fm h13 I g_b13 X_b13 F13_coder F13_value (V12.ext E13) (Ne.symm ne_b10_b13) hb0 hb1) at_109 rfl (lenOf own_pd15 rfl) rfl rfl rfl (by decide) (by decide) rfl rfl (by decide) (by decide) (own_k0 fun h14 q14 => ?_)
          obtain ⟨K14, G14c, b14, k14, G14v, V14⟩ := q14
          refine own_astore 114 rfl #[.val (.int p1), .val (.int p2), .val (.int p3), .val (.int p4), .val (.int ch0), .val (.int ch1), .val (.int ch2), .val (.int kk), .val (.ref b13), .val (.ref b10)] at_112 rfl rfl ?_
          refine own_goto 151 at_114 (by decide) (by decide) ?_
          refine own_aload 153 rfl at_151 rfl rfl ?_
          refine own_ifnullNo 156 rfl at_153 ?_
          refine own_aload 158 rfl at_156 rfl rfl ?_
          refine own_callV 161 rfl 3 8 0 [] [] (y := (⟨"java/lang/String", "length", "()I"⟩ : MethodName)) (z := (⟨"java/lang/String", "length", "()I"⟩ : MethodName)) (hw _ (List.mem_of_getElem? (i := 23) rfl)) (hw _ (List.mem_of_getElem? (i := 24) rfl)) (fun hZ => notFace_of_selects (args := #[]) (mvT hZ (hw _ (List.mem_of_getElem? (i := 26) rfl)))) (hw _ (List.mem_of_getElem? (i := 26) rfl)) (hw _ (List.mem_of_getElem? (i := 25) rfl)) (hw _ (List.mem_of_getElem? (i := 3) rfl)) (hw _ (List.mem_of_getElem? (i := 27) rfl)) (by decide) (X_b13.keep K14) (rmLen2 l Z a0 hw [] b13 b14 k14 ch0.toInt8.toInt32 ch1.toInt8.toInt32 cs fm h14 I (X_b13.keep K14) G14c G14v V14) at_158 rfl (lenOf own_pd16 rfl) rfl rfl rfl (by decide) (by decide) rfl rfl (by decide) (by decide) (own_kv fun v15 h15 q15 => ?_)
          obtain ⟨rfl, e15⟩ := q15
          rw [e15]
          refine own_iconst 162 rfl (2 : Int32) at_161 rfl ?_
          refine own_icmpNo 165 rfl at_162 (teq (rfl : (2 : Int32) = (2 : Int32))).2 ?_
          refine own_aload 167 rfl at_165 rfl rfl ?_
          refine own_iconst 168 rfl (0 : Int32) at_167 rfl ?_
          refine own_callV 171 rfl 3 8 0 [(.int (0 : Int32))] [] (y := (⟨"java/lang/String", "charAt", "(I)C"⟩ : MethodName)) (z := (⟨"java/lang/String", "charAt", "(I)C"⟩ : MethodName)) (hw _ (List.mem_of_getElem? (i := 59) rfl)) (hw _ (List.mem_of_getElem? (i := 60) rfl)) (fun hZ => notFace_of_selects (args := #[]) (mvT hZ (hw _ (List.mem_of_getElem? (i := 62) rfl)))) (hw _ (List.mem_of_getElem? (i := 62) rfl)) (hw _ (List.mem_of_getElem? (i := 61) rfl)) (hw _ (List.mem_of_getElem? (i := 3) rfl)) (hw _ (List.mem_of_getElem? (i := 63) rfl)) (by decide) (X_b13.keep K14) (rmCa0 l Z a0 hw [] b13 b14 k14 ch0.toInt8.toInt32 ch1.toInt8.toInt32 cs fm h14 I (X_b13.keep K14) G14c G14v V14) at_168 rfl (lenOf own_pd18 rfl) rfl rfl rfl (by decide) (by decide) rfl rfl (by decide) (by decide) (own_kv fun v16 h16 q16 => ?_)
          obtain ⟨rfl, e16⟩ := q16
          rw [e16]
          rw [own_cc hb0]
          refine own_bipush 173 rfl (120 : Int32) at_171 rfl ?_
          by_cases hc173 : ch0 = (120 : Int32)
          · have ihc173 : ch0.toInt = (120 : Int) := own_eq hc173
            refine own_icmpNo 176 rfl at_173 (teq hc173).2 ?_
            refine own_aload 178 rfl at_176 rfl rfl ?_
            refine own_iconst 179 rfl (1 : Int32) at_178 rfl ?_
            refine own_callV 182 rfl 3 8 0 [(.int (1 : Int32))] [] (y := (⟨"java/lang/String", "charAt", "(I)C"⟩ : MethodName)) (z := (⟨"java/lang/String", "charAt", "(I)C"⟩ : MethodName)) (hw _ (List.mem_of_getElem? (i := 59) rfl)) (hw _ (List.mem_of_getElem? (i := 60) rfl)) (fun hZ => notFace_of_selects (args := #[]) (mvT hZ (hw _ (List.mem_of_getElem? (i := 62) rfl)))) (hw _ (List.mem_of_getElem? (i := 62) rfl)) (hw _ (List.mem_of_getElem? (i := 61) rfl)) (hw _ (List.mem_of_getElem? (i := 3) rfl)) (hw _ (List.mem_of_getElem? (i := 63) rfl)) (by decide) (X_b13.keep K14) (rmCa1 l Z a0 hw [] b13 b14 k14 ch0.toInt8.toInt32 ch1.toInt8.toInt32 cs fm h14 I (X_b13.keep K14) G14c G14v V14) at_179 rfl (lenOf own_pd18 rfl) rfl rfl rfl (by decide) (by decide) rfl rfl (by decide) (by decide) (own_kv fun v17 h17 q17 => ?_)
            obtain ⟨rfl, e17⟩ := q17
            rw [e17]
            rw [own_cc hb1]
            refine own_bipush 184 rfl (97 : Int32) at_182 rfl ?_
            by_cases hc184 : ch1 = (97 : Int32)
            · have ihc184 : ch1.toInt = (97 : Int) := own_eq hc184
              refine own_icmpNo 187 rfl at_184 (teq hc184).2 ?_
              refine own_iconst 188 rfl (1 : Int32) at_187 rfl ?_
              refine own_weak ["xa", ""] (by simp) ?_
              refine own_retN rfl (by simp) at_188 (by decide) (by decide) ?_
              exact ⟨_, rfl, rfl⟩
            · have ihc184 : ¬ ch1.toInt = (97 : Int) := own_neq hc184
              refine own_icmpYes 189 at_184 (feq hc184).2 (by decide) (by decide) ?_
              refine own_aload 191 rfl at_189 rfl rfl ?_
              have hy : ¬ (ch0.toInt8.toInt32.toInt = 120 ∧ ch1.toInt8.toInt32.toInt = 97) := fun q => by have qa := (own_is hb0).1 q.1; have qb := (own_is hb1).2 q.2; omega
              refine own_callS 194 rfl 5 20 0 [(.ref b13)] [] (y := (⟨"com/example/restitch/restitch/engine/Registrations", "checkParticipantType", "(Ljava/lang/String;)Ljava/lang/String;"⟩ : MethodName)) (hw _ (List.mem_of_getElem? (i := 34) rfl)) (hw _ (List.mem_of_getElem? (i := 35) rfl)) (hw _ (List.mem_of_getElem? (i := 36) rfl)) (hw _ (List.mem_of_getElem? (i := 37) rfl)) (by decide) (rmCp2 l Z a0 hw [] b13 b14 k14 ch0.toInt8.toInt32 ch1.toInt8.toInt32 cs fm h14 I (by simp) (X_b13.keep K14) G14c G14v V14 hy) at_191 rfl (lenOf own_pd14 rfl) rfl rfl rfl (by decide) (by decide) rfl rfl (by decide) (by decide) (own_kv fun v18 h18 q18 => ?_)
              rw [q18]
              refine own_astore 196 rfl #[.val (.int p1), .val (.int p2), .val (.int p3), .val (.int p4), .val (.int ch0), .val (.int ch1), .val (.int ch2), .val (.int kk), .val (.ref b13), .val (.ref b13)] at_194 rfl rfl ?_
              refine own_aload 198 rfl at_196 rfl rfl ?_
              refine own_aload 200 rfl at_198 rfl rfl ?_
              refine own_acmpNo 203 rfl at_200 rfl rfl (own_teq (rfl : ((.ref b13) : Value) = (.ref b13))).2 ?_
              refine own_iconst 204 rfl (1 : Int32) at_203 rfl ?_
              refine own_goto 208 at_204 (by decide) (by decide) ?_
              refine own_weak ["xa", ""] (by simp) ?_
              refine own_retN rfl (by simp) at_208 (by decide) (by decide) ?_
              exact ⟨_, rfl, rfl⟩
          · have ihc173 : ¬ ch0.toInt = (120 : Int) := own_neq hc173
            refine own_icmpYes 189 at_173 (feq hc173).2 (by decide) (by decide) ?_
            refine own_aload 191 rfl at_189 rfl rfl ?_
            have hy : ¬ (ch0.toInt8.toInt32.toInt = 120 ∧ ch1.toInt8.toInt32.toInt = 97) := fun q => by have qa := (own_is hb0).1 q.1; have qb := (own_is hb1).2 q.2; omega
            refine own_callS 194 rfl 5 20 0 [(.ref b13)] [] (y := (⟨"com/example/restitch/restitch/engine/Registrations", "checkParticipantType", "(Ljava/lang/String;)Ljava/lang/String;"⟩ : MethodName)) (hw _ (List.mem_of_getElem? (i := 34) rfl)) (hw _ (List.mem_of_getElem? (i := 35) rfl)) (hw _ (List.mem_of_getElem? (i := 36) rfl)) (hw _ (List.mem_of_getElem? (i := 37) rfl)) (by decide) (rmCp2 l Z a0 hw [] b13 b14 k14 ch0.toInt8.toInt32 ch1.toInt8.toInt32 cs fm h14 I (by simp) (X_b13.keep K14) G14c G14v V14 hy) at_191 rfl (lenOf own_pd14 rfl) rfl rfl rfl (by decide) (by decide) rfl rfl (by decide) (by decide) (own_kv fun v19 h19 q19 => ?_)
            rw [q19]
            refine own_astore 196 rfl #[.val (.int p1), .val (.int p2), .val (.int p3), .val (.int p4), .val (.int ch0), .val (.int ch1), .val (.int ch2), .val (.int kk), .val (.ref b13), .val (.ref b13)] at_194 rfl rfl ?_
            refine own_aload 198 rfl at_196 rfl rfl ?_
            refine own_aload 200 rfl at_198 rfl rfl ?_
            refine own_acmpNo 203 rfl at_200 rfl rfl (own_teq (rfl : ((.ref b13) : Value) = (.ref b13))).2 ?_
            refine own_iconst 204 rfl (1 : Int32) at_203 rfl ?_
            refine own_goto 208 at_204 (by decide) (by decide) ?_
            refine own_weak ["xa", ""] (by simp) ?_
            refine own_retN rfl (by simp) at_208 (by decide) (by decide) ?_
            exact ⟨_, rfl, rfl⟩
        · have ihc83 : ¬ kk.toInt = (3 : Int) := own_neq hc83
          refine own_icmpYes 117 at_83 (feq hc83).2 (by decide) (by decide) ?_
          refine own_iconst 118 rfl (3 : Int32) at_117 rfl ?_
          refine own_newP 120 rfl 1 3 3 "[C" (by decide) (hw _ (List.mem_of_getElem? (i := 4) rfl)) at_118 (by decide) (by decide) (by decide) rfl rfl (by decide) (by decide) (fun h20 b20 k20 z20 g_b20 E20 V20 X_b20 => ?_)
          have V20p : Arv Z h20 b20 k20 .char (3 : Int32) [(.int (0 : Int32)), (.int (0 : Int32)), (.int (0 : Int32))] (.int (0 : Int32)) := V20.pad (pad_rep [] (.int (0 : Int32)) 3)
          refine own_astore 122 rfl #[.val (.int p1), .val (.int p2), .val (.int p3), .val (.int p4), .val (.int ch0), .val (.int ch1), .val (.int ch2), .val (.int kk), .unset, .val (.ref b20)] at_120 rfl rfl ?_
          refine own_aload 124 rfl at_122 rfl rfl ?_
          refine own_iconst 125 rfl (0 : Int32) at_124 rfl ?_
          refine own_iload 127 rfl at_125 rfl ?_
          obtain ⟨c21, A21, q21, S21, N21, H21, G21⟩ := id V20p
          refine own_castore 128 rfl g_b20 A21 (inb_of S21 ⟨by decide, by decide⟩) at_127 (fun h21 W21 => ?_)
          have V21 : Arv Z h21 b20 k20 .char (3 : Int32) [(.int (nar .char ch0)), (.int (0 : Int32)), (.int (0 : Int32))] (.int (0 : Int32)) := Arv.set A21 q21 S21 N21 H21 G21 (fits_nar_char _) W21 0 rfl (Nat.le_of_ble_eq_true rfl)
          rw [own_nc hb0] at V21
          refine own_aload 130 rfl at_128 rfl rfl ?_
          refine own_iconst 131 rfl (1 : Int32) at_130 rfl ?_
          refine own_iload 133 rfl at_131 rfl ?_
          obtain ⟨c22, A22, q22, S22, N22, H22, G22⟩ := id V21
          refine own_castore 134 rfl g_b20 A22 (inb_of S22 ⟨by decide, by decide⟩) at_133 (fun h22 W22 => ?_)
          have V22 : Arv Z h22 b20 k20 .char (3 : Int32) [(.int ch0), (.int (nar .char ch1)), (.int (0 : Int32))] (.int (0 : Int32)) := Arv.set A22 q22 S22 N22 H22 G22 (fits_nar_char _) W22 1 rfl (Nat.le_of_ble_eq_true rfl)
          rw [own_nc hb1] at V22
          refine own_aload 136 rfl at_134 rfl rfl ?_
          refine own_iconst 137 rfl (2 : Int32) at_136 rfl ?_
          refine own_iload 139 rfl at_137 rfl ?_
          obtain ⟨c23, A23, q23, S23, N23, H23, G23⟩ := id V22
          refine own_castore 140 rfl g_b20 A23 (inb_of S23 ⟨by decide, by decide⟩) at_139 (fun h23 W23 => ?_)
          have V23 : Arv Z h23 b20 k20 .char (3 : Int32) [(.int ch0), (.int ch1), (.int (nar .char ch2))] (.int (0 : Int32)) := Arv.set A23 q23 S23 N23 H23 G23 (fits_nar_char _) W23 2 rfl (Nat.le_of_ble_eq_true rfl)
          rw [own_nc hb2] at V23
          refine own_newO 143 rfl 2 7 (hw _ (List.mem_of_getElem? (i := 1) rfl)) (hw _ (List.mem_of_getElem? (i := 2) rfl)) (hw _ (List.mem_of_getElem? (i := 3) rfl)) at_140 rfl rfl (by decide) (by decide) (fun h24 b24 z24 g_b24 E24 X_b24 D24 => ?_)
          have ne_b20_b24 : b20 ≠ b24 := Nat.ne_of_lt (Nat.lt_of_lt_of_le (((X_b20.wr W21).wr W22).wr W23).lt (Nat.le_of_eq z24.symm))
          have F24_value : Fld Z h24 b24 "java/lang/String" "value" "[B" .null := D24 (Or.inr (hw _ (List.mem_of_getElem? (i := 17) rfl))) (ty := (.array .byte)) (by decide)
          have F24_coder : Fld Z h24 b24 "java/lang/String" "coder" "B" (.int (0 : Int32)) := D24 (Or.inr (hw _ (List.mem_of_getElem? (i := 18) rfl))) (ty := .byte) (by decide)
          refine own_dup 144 rfl at_143 rfl ?_
          refine own_aload 146 rfl at_144 rfl rfl ?_
          refine own_callI 149 rfl 3 10 1 [(.ref b20)] [(.ref b24)] (y := (⟨"java/lang/String", "<init>", "([C)V"⟩ : MethodName)) rfl (hw _ (List.mem_of_getElem? (i := 5) rfl)) (hw _ (List.mem_of_getElem? (i := 6) rfl)) (hw _ (List.mem_of_getElem? (i := 3) rfl)) (hw _ (List.mem_of_getElem? (i := 7) rfl)) (by decide) (rmI1_3 l Z a0 hw [] b24 b20 k20 ch0 ch1 ch2 cs fm h24 I g_b24 X_b24 F24_coder F24_value (V23.ext E24) (Ne.symm ne_b20_b24) hb0 hb1 hb2) at_146 rfl (lenOf own_pd15 rfl) rfl rfl rfl (by decide) (by decide) rfl rfl (by decide) (by decide) (own_k0 fun h25 q25 => ?_)
          obtain ⟨K25, G25c, b25, k25, G25v, V25⟩ := q25
          refine own_astore 151 rfl #[.val (.int p1), .val (.int p2), .val (.int p3), .val (.int p4), .val (.int ch0), .val (.int ch1), .val (.int ch2), .val (.int kk), .val (.ref b24), .val (.ref b20)] at_149 rfl rfl ?_
          refine own_aload 153 rfl at_151 rfl rfl ?_
          refine own_ifnullNo 156 rfl at_153 ?_
          refine own_aload 158 rfl at_156 rfl rfl ?_
          refine own_callV 161 rfl 3 10 0 [] [] (y := (⟨"java/lang/String", "length", "()I"⟩ : MethodName)) (z := (⟨"java/lang/String", "length", "()I"⟩ : MethodName)) (hw _ (List.mem_of_getElem? (i := 23) rfl)) (hw _ (List.mem_of_getElem? (i := 24) rfl)) (fun hZ => notFace_of_selects (args := #[]) (mvT hZ (hw _ (List.mem_of_getElem? (i := 26) rfl)))) (hw _ (List.mem_of_getElem? (i := 26) rfl)) (hw _ (List.mem_of_getElem? (i := 25) rfl)) (hw _ (List.mem_of_getElem? (i := 3) rfl)) (hw _ (List.mem_of_getElem? (i := 27) rfl)) (by decide) (X_b24.keep K25) (rmLen3 l Z a0 hw [] b24 b25 k25 ch0.toInt8.toInt32 ch1.toInt8.toInt32 ch2.toInt8.toInt32 cs fm h25 I (X_b24.keep K25) G25c G25v V25) at_158 rfl (lenOf own_pd16 rfl) rfl rfl rfl (by decide) (by decide) rfl rfl (by decide) (by decide) (own_kv fun v26 h26 q26 => ?_)
          obtain ⟨rfl, e26⟩ := q26
          rw [e26]
          refine own_iconst 162 rfl (2 : Int32) at_161 rfl ?_
          refine own_icmpYes 189 at_162 (feq (by decide : ¬ ((3 : Int32) = (2 : Int32)))).2 (by decide) (by decide) ?_
          refine own_aload 191 rfl at_189 rfl rfl ?_
          refine own_callS 194 rfl 5 22 0 [(.ref b24)] [] (y := (⟨"com/example/restitch/restitch/engine/Registrations", "checkParticipantType", "(Ljava/lang/String;)Ljava/lang/String;"⟩ : MethodName)) (hw _ (List.mem_of_getElem? (i := 34) rfl)) (hw _ (List.mem_of_getElem? (i := 35) rfl)) (hw _ (List.mem_of_getElem? (i := 36) rfl)) (hw _ (List.mem_of_getElem? (i := 37) rfl)) (by decide) (rmCpN l Z a0 hw [] b24 b25 k25 (3 : Int32) [(.int ch0.toInt8.toInt32), (.int ch1.toInt8.toInt32), (.int ch2.toInt8.toInt32)] cs fm h25 I (by simp) (X_b24.keep K25) G25c G25v V25 (by decide)) at_191 rfl (lenOf own_pd14 rfl) rfl rfl rfl (by decide) (by decide) rfl rfl (by decide) (by decide) (own_kv fun v27 h27 q27 => ?_)
          rw [q27]
          refine own_astore 196 rfl #[.val (.int p1), .val (.int p2), .val (.int p3), .val (.int p4), .val (.int ch0), .val (.int ch1), .val (.int ch2), .val (.int kk), .val (.ref b24), .val (.ref b24)] at_194 rfl rfl ?_
          refine own_aload 198 rfl at_196 rfl rfl ?_
          refine own_aload 200 rfl at_198 rfl rfl ?_
          refine own_acmpNo 203 rfl at_200 rfl rfl (own_teq (rfl : ((.ref b24) : Value) = (.ref b24))).2 ?_
          refine own_iconst 204 rfl (1 : Int32) at_203 rfl ?_
          refine own_goto 208 at_204 (by decide) (by decide) ?_
          refine own_weak ["xa", ""] (by simp) ?_
          refine own_retN rfl (by simp) at_208 (by decide) (by decide) ?_
          exact ⟨_, rfl, rfl⟩
set_option maxRecDepth 65536 in
set_option maxHeartbeats 40000000 in
theorem comes_1 {Post : Tables → Env → Array Value → State → Outcome → State → Prop} (hpost : ∀ tb e args s v u, (limb_1_1.after args s (.returned v) u = true ∧ limb_1_2.after args s (.returned v) u = true ∧ True) → ReturnedEndW s (.returned v) u (Jvm.fieldLocs frame_1_writes args s ++ Jvm.arrayLocs frame_1_arrays args s ++ Jvm.staticLocs frame_1_statics s) 24 2176 → Post tb e args s (.returned v) u) :
    ArmFor flags0 classFile x code maxLocals ret World_1 tables_1 room_1 Calls_1 rest_1 Pre_1 Post := by
  intro l hfl _ _ p e ha hc hk s m args below hf hA hF happ hP
  obtain ⟨hcalls, hrest, hpre⟩ := hP
  obtain ⟨-, -, -, hnamed, -, -, -, hat⟩ := (Spec.applies_iff hf).mp happ
  obtain ⟨hg, hn⟩ := and_e (Cond.before_iff.mp (show (Jvm.Cond.and given_1 narrow_1).before args s = true from hpre))
  obtain ⟨g0, gr0⟩ := and_e hg
  obtain ⟨g1, gr1⟩ := and_e gr0
  obtain ⟨g2, gr2⟩ := and_e gr1
  obtain ⟨g3, gr3⟩ := and_e gr2
  have g4 := gr3
  obtain ⟨w0, w1, w2, w3, rfl⟩ : ∃ w0 w1 w2 w3 : Value, args = #[w0, w1, w2, w3] := by
    have hs : args.size = 4 := by simpa [Cond.value, given_1] using g0
    obtain ⟨L⟩ := args
    match L, hs with
    | [w0, w1, w2, w3], _ => exact ⟨w0, w1, w2, w3, rfl⟩
  have hw := fun d (hd : d ∈ tables_1) => atoms_spec (ws := Jvm.Cond.code x code maxLocals ret :: tables_1) hat d (List.mem_cons_of_mem _ hd)
  have hfit : Fit s := fun {y c} hc i hi => by
    obtain ⟨ha, rfl⟩ := Array.getElem?_eq_some_iff.mp hc
    have q := List.all_eq_true.mp ((Array.all_eq_true_iff_forall_mem.mp hF) _ (Array.getElem_mem ha)) i (List.mem_range.mpr hi)
    simpa [Array.getElem?_eq_getElem hi] using q
  obtain ⟨i0, ei0⟩ := is_v g1
  obtain rfl : w0 = (.int i0) := Option.some.inj ei0
  obtain ⟨i1, ei1⟩ := is_v g2
  obtain rfl : w1 = (.int i1) := Option.some.inj ei1
  obtain ⟨i2, ei2⟩ := is_v g3
  obtain rfl : w2 = (.int i2) := Option.some.inj ei2
  obtain ⟨i3, ei3⟩ := is_v g4
  obtain rfl : w3 = (.int i3) := Option.some.inj ei3
  obtain ⟨n0, r0⟩ := and_e (Cond.before_iff.mp (show rest_1_c.before _ s = true from hrest))
  obtain ⟨n1, r1⟩ := and_e r0
  obtain ⟨n2, r2⟩ := and_e r1
  obtain ⟨n3, r3⟩ := and_e r2
  obtain ⟨n4, r4⟩ := and_e r3
  obtain ⟨n5, r5⟩ := and_e r4
  obtain ⟨n6, r6⟩ := and_e r5
  obtain ⟨n7, r7⟩ := and_e r6
  obtain ⟨n8, r8⟩ := and_e r7
  have n9 := r8
  obtain ⟨cs, ev_cs⟩ := is_v n1
  have S_cs : Sta s s.heap "java/lang/String" "COMPACT_STRINGS" "Z" (.int cs) := Sta.start ev_cs (Or.inl (Cond.before_iff.mpr n0))
  have N_cs : ¬ cs.toInt = 0 := own_neq (own_neI n2 ev_cs)
  have HW : Jvm.Lit.compactW.before #[] s = true := (by have q := Cond.before_iff.mpr n2; simpa [Jvm.Lit.compactW, Cond.before, Cond.holds, Cond.value, Term.eval] using q)
  obtain ⟨fm, ev_fm, hr_fm⟩ := isR_v n8
  have R_fm : fm.isRef = true := hr_fm
  have S_fm : Sta s s.heap "jdk/internal/util/Preconditions" "SIOOBE_FORMATTER" "Ljava/util/function/BiFunction;" fm := Sta.start ev_fm (Or.inl (Cond.before_iff.mpr n7))
  have HC : ∀ p ∈ consts_1, Jvm.Lit.constHeld s p.1 p.2 := (fun p hp => hcalls.1 p hp)
  obtain ⟨n', o, h1, h2, h3, _, L, rfl, ⟨⟨_, rfl, rfl⟩, N, -⟩, hq⟩ := rm0 l s _ hw tables_1 i0 i1 i2 i3 cs fm s.heap (show own_Ini s cs fm from ⟨S_cs, N_cs, HW, R_fm, S_fm, HC⟩) (Old.start s) p e ha hc hk s m _ below hf ((Spec.applies_iff_loose hf).mp happ).1 ⟨rfl, State.Warmed39.refl s, rfl, IB.start⟩ trivial
  refine ⟨n', _, h1, h2, h3, hpost _ _ _ _ _ _ ⟨Cond.after_iff.mpr rfl, Cond.after_iff.mpr (eq_i res_at (Term.int_eval (1)) rfl), trivial⟩ ⟨hq.1, hq.2.1, hq.2.2.1, (hq.2.2.2.sift fun y hy => Or.inr (N y hy)).mono (by decide) (by decide)⟩⟩
theorem main_1_1 : Claimed_1_1 := comes_1 fun _ _ _ _ _ _ h hF => ⟨h.1, hF⟩
theorem main_1_2 : Claimed_1_2 := comes_1 fun _ _ _ _ _ _ h hF => ⟨h.2.1, hF⟩
end Jvm.Pilot.@@N@@
namespace Jvm.Pilot.@@N@@
open Jvm Jvm.ClassFile Sem Op Lib Jvm.Free Jvm.Stand Jvm.Pilot.@@N@@.Jvm.D
/-! MADE BY PROGRAM (witnessworld.py) out of the Statement's table words and the real class files: 20 classes; the members and pool entries that the words name. The judged class is class 1, her method 1. -/
namespace start1
open Jvm.ClassFile
def u (s : String) : CpInfo := .utf8 (stringToUtf16 s)
/-- a pool by its gaps: so many unusable entries, then the entry; so many at the end -/
def gap : Nat → List CpInfo → List CpInfo
  | 0, r => r
  | n + 1, r => .unusable :: gap n r
def poolList (es : List (Nat × CpInfo)) (last : Nat) : List CpInfo := es.foldr (fun e r => gap e.1 (e.2 :: r)) (gap last [])
def pool (es : List (Nat × CpInfo)) (last : Nat) : Array CpInfo := ⟨poolList es last⟩
def fileOf (pool : Array CpInfo) (this : Nat) (attrs : Array Attribute := #[]) (ms : Array MethodInfo := #[]) (fl : Nat := 33) (sup : Nat := 0) (ifs : Array Nat := #[]) (fds : Array FieldInfo := #[]) : ClassFile where
  minorVersion := 0
  majorVersion := 65
  constantPool := pool
  accessFlags := fl
  thisClass := this
  superClass := sup
  interfaces := ifs
  fields := fds
  methods := ms
  attributes := attrs
def plain (name : String) (sup : Option ClassId) : Class where
  name := name
  kind := .ordinary
  loader := none
  accessFlags := 33
  super := sup
  interfaces := #[]
  cf := none
  fields := #[]
  methods := #[]
  instanceTypes := #[]
  staticTypes := #[]
  resolved := #[]
  callSites := []
  init := .initialized
  statics := none
  mirror := none

def pool0 : Array CpInfo := pool [(5, u "<init>"), (0, u "()V"), (1, .class_ 10), (1, u "java/lang/Object")] 113

def k0c0 : Code := { maxStack := 0, maxLocals := 1, code := object_method_1_code, exceptionTable := #[], attributes := #[] }
def k0m0 : Method := { name := "<init>", desc := "()V", sig := { parameters := [], returnType := none }, accessFlags := 1, code := some k0c0 }
/-- java/lang/Object -/
def k0 : Class := { plain "java/lang/Object" none with
  accessFlags := 33
  interfaces := #[]
  cf := some (fileOf pool0 8 #[] #[{ accessFlags := 1, nameIndex := 5, descriptorIndex := 6, attributes := #[] }] 33 0 #[] #[])
  fields := #[]
  methods := #[k0m0]
  instanceTypes := #[]
  staticTypes := #[]
  resolved := Array.replicate 124 none
  statics := none }

def pool1 : Array CpInfo := pool [(2, .class_ 4), (1, u "java/lang/Object"), (0, u "<init>"), (0, u "()V"), (0, .integer 2147483647), (0, .class_ 9), (0, u "java/lang/String"), (0, .methodref 8 11), (0, .nameAndType 5 12), (0, u "([C)V"), (0, .methodref 8 14), (0, .nameAndType 15 16), (0, u "valueOf"), (0, u "(C)Ljava/lang/String;"), (0, .methodref 8 18), (0, .nameAndType 19 20), (0, u "length"), (0, u "()I"), (0, .methodref 8 22), (0, .nameAndType 23 24), (0, u "charAt"), (0, u "(I)C"), (0, .methodref 26 27), (0, .class_ 28), (0, .nameAndType 29 30), (0, u "com/example/restitch/restitch/engine/Registrations"), (0, u "checkParticipantType"), (0, u "(Ljava/lang/String;)Ljava/lang/String;"), (0, .class_ 32), (0, u "com/example/restitch/restitch/engine/RegistrationsCheckParticipantTypePinLaw"), (2, u "law"), (0, u "(IIII)Z")] 3

def k1m0 : Method := { name := "<init>", desc := "()V", sig := { parameters := [], returnType := none }, accessFlags := 2, code := none }
def k1c1 : Code := { maxStack := 3, maxLocals := 10, code := code, exceptionTable := #[], attributes := #[] }
def k1m1 : Method := { name := "law", desc := "(IIII)Z", sig := { parameters := [.int, .int, .int, .int], returnType := some .boolean }, accessFlags := 9, code := some k1c1 }
/-- com/example/restitch/restitch/engine/RegistrationsCheckParticipantTypePinLaw -/
def k1 : Class := { plain "com/example/restitch/restitch/engine/RegistrationsCheckParticipantTypePinLaw" (some 0) with
  accessFlags := 49
  interfaces := #[]
  cf := some (fileOf pool1 31 #[] #[{ accessFlags := 2, nameIndex := 5, descriptorIndex := 6, attributes := #[] }, { accessFlags := 9, nameIndex := 35, descriptorIndex := 36, attributes := #[] }] 49 2 #[] #[])
  fields := #[]
  methods := #[k1m0, k1m1]
  instanceTypes := #[]
  staticTypes := #[]
  resolved := Array.replicate 40 none
  statics := none }

def pool2 : Array CpInfo := pool [(1, .class_ 2), (0, u "java/io/Serializable"), (0, .class_ 4), (0, u "java/lang/Object")] 2

/-- java/io/Serializable -/
def k2 : Class := { plain "java/io/Serializable" (some 0) with
  accessFlags := 1537
  interfaces := #[]
  cf := some (fileOf pool2 1 #[] #[] 1537 3 #[] #[])
  fields := #[]
  methods := #[]
  instanceTypes := #[]
  staticTypes := #[]
  resolved := Array.replicate 7 none
  statics := none }

def pool3 : Array CpInfo := pool [(1, .class_ 2), (0, u "java/lang/Comparable"), (0, .class_ 4), (0, u "java/lang/Object")] 7

/-- java/lang/Comparable -/
def k3 : Class := { plain "java/lang/Comparable" (some 0) with
  accessFlags := 1537
  interfaces := #[]
  cf := some (fileOf pool3 1 #[] #[] 1537 3 #[] #[])
  fields := #[]
  methods := #[]
  instanceTypes := #[]
  staticTypes := #[]
  resolved := Array.replicate 12 none
  statics := none }

def pool4 : Array CpInfo := pool [(2, .class_ 4), (1, u "java/lang/CharSequence"), (42, .class_ 48), (0, u "java/lang/CharSequence$1CodePointIterator"), (10, .class_ 60), (0, u "java/lang/CharSequence$1CharIterator"), (5, .class_ 67), (0, u "java/lang/Object")] 63

/-- java/lang/CharSequence -/
def k4 : Class := { plain "java/lang/CharSequence" (some 0) with
  accessFlags := 1537
  interfaces := #[]
  cf := some (fileOf pool4 2 #[.nestMembers #[47, 59]] #[] 1537 66 #[] #[])
  fields := #[]
  methods := #[]
  instanceTypes := #[]
  staticTypes := #[]
  resolved := Array.replicate 131 none
  statics := none }

def pool5 : Array CpInfo := pool [(1, .class_ 2), (0, u "java/lang/constant/Constable"), (0, .class_ 4), (0, u "java/lang/Object")] 6

/-- java/lang/constant/Constable -/
def k5 : Class := { plain "java/lang/constant/Constable" (some 0) with
  accessFlags := 1537
  interfaces := #[]
  cf := some (fileOf pool5 1 #[] #[] 1537 3 #[] #[])
  fields := #[]
  methods := #[]
  instanceTypes := #[]
  staticTypes := #[]
  resolved := Array.replicate 11 none
  statics := none }

def pool6 : Array CpInfo := pool [(1, .class_ 2), (0, u "java/lang/constant/ConstantDesc"), (0, .class_ 4), (0, u "java/lang/Object")] 32

/-- java/lang/constant/ConstantDesc -/
def k6 : Class := { plain "java/lang/constant/ConstantDesc" (some 0) with
  accessFlags := 1537
  interfaces := #[]
  cf := some (fileOf pool6 1 #[] #[] 1537 3 #[] #[])
  fields := #[]
  methods := #[]
  instanceTypes := #[]
  staticTypes := #[]
  resolved := Array.replicate 37 none
  statics := none }

def pool7 : Array CpInfo := pool [(1, .methodref 2 3), (0, .class_ 4), (0, .nameAndType 5 6), (0, u "java/lang/Object"), (0, u "<init>"), (0, u "()V"), (0, .string 8), (0, u ""), (0, .fieldref 10 11), (0, .class_ 12), (0, .nameAndType 13 14), (0, u "java/lang/String"), (0, u "value"), (0, u "[B"), (0, .fieldref 10 16), (0, .nameAndType 17 18), (0, u "coder"), (0, u "B"), (2, u "hash"), (0, u "I"), (2, u "hashIsZero"), (0, u "Z"), (0, .methodref 10 28), (0, .nameAndType 5 29), (0, u "([CIILjava/lang/Void;)V"), (8, .fieldref 10 39), (0, .nameAndType 40 26), (0, u "COMPACT_STRINGS"), (1, .class_ 44), (1, u "java/lang/StringUTF16"), (0, u "compress"), (1, .methodref 42 48), (0, .nameAndType 49 50), (0, u "coderFromArrayLen"), (0, u "([BI)B"), (2, u "toBytes"), (53, .class_ 109), (1, u "java/lang/StringLatin1"), (32, u "()Z"), (34, .methodref 42 178), (0, .nameAndType 45 179), (0, u "([CII)[B"), (29, .methodref 10 210), (0, .nameAndType 5 211), (0, u "([BB)V"), (122, u "()I"), (0, .methodref 10 336), (0, .nameAndType 17 337), (0, u "()B"), (25, u "([BI)C"), (5, u "(C)Z"), (21, u "(II)V"), (35, u "(I)C"), (64, .methodref 10 493), (0, .nameAndType 494 142), (0, u "isLatin1"), (0, .methodref 107 496), (0, .nameAndType 497 363), (0, u "charAt"), (3, u "checkIndex"), (5, u "length"), (33, .methodref 107 542), (0, .nameAndType 543 544), (0, u "equals"), (0, u "([B[B)Z"), (28, u "(Ljava/lang/Object;)Z"), (1, .class_ 576), (0, u "java/lang/CharSequence"), (22, u "CASE_INSENSITIVE_ORDER"), (0, u "Ljava/util/Comparator;"), (181, u "valueOf"), (0, u "(C)Ljava/lang/String;"), (226, u "([C)V"), (4, .methodref 107 1016), (0, .nameAndType 1017 369), (0, u "canEncode"), (0, .methodref 107 1019), (0, .nameAndType 53 1020), (0, u "(C)[B"), (32, .fieldref 1054 1055), (0, .class_ 1056), (0, .nameAndType 1057 1058), (0, u "jdk/internal/util/Preconditions"), (0, u "SIOOBE_FORMATTER"), (0, u "Ljava/util/function/BiFunction;"), (0, .methodref 1054 1060), (0, .nameAndType 501 1061), (0, u "(IILjava/util/function/BiFunction;)I"), (39, u "serialPersistentFields"), (0, u "[Ljava/io/ObjectStreamField;"), (0, .class_ 1104), (0, u "java/lang/String$CaseInsensitiveComparator"), (1, .class_ 1107), (0, u "java/io/Serializable"), (0, .class_ 1109), (0, u "java/lang/Comparable"), (0, .class_ 1111), (0, u "java/lang/constant/Constable"), (0, .class_ 1113), (0, u "java/lang/constant/ConstantDesc"), (2, u "serialVersionUID"), (0, u "J"), (3, u "REPL"), (0, u "C"), (2, u "LATIN1"), (1, u "UTF16")] 323

def k7m0 : Method := { name := "<init>", desc := "()V", sig := { parameters := [], returnType := none }, accessFlags := 1, code := none }
def k7c1 : Code := { maxStack := 5, maxLocals := 2, code := jdk_42_method_3_code, exceptionTable := #[], attributes := #[] }
def k7m1 : Method := { name := "<init>", desc := "([C)V", sig := { parameters := [(.array .char)], returnType := none }, accessFlags := 1, code := some k7c1 }
def k7c2 : Code := { maxStack := 2, maxLocals := 1, code := jdk_42_method_54_code, exceptionTable := #[], attributes := #[] }
def k7m2 : Method := { name := "length", desc := "()I", sig := { parameters := [], returnType := some .int }, accessFlags := 1, code := some k7c2 }
def k7c3 : Code := { maxStack := 2, maxLocals := 2, code := jdk_42_method_56_code, exceptionTable := #[], attributes := #[] }
def k7m3 : Method := { name := "charAt", desc := "(I)C", sig := { parameters := [.int], returnType := some .char }, accessFlags := 1, code := some k7c3 }
def k7c4 : Code := { maxStack := 2, maxLocals := 3, code := jdk_42_method_66_code, exceptionTable := #[], attributes := #[] }
def k7m4 : Method := { name := "equals", desc := "(Ljava/lang/Object;)Z", sig := { parameters := [(.object "java/lang/Object")], returnType := some .boolean }, accessFlags := 1, code := some k7c4 }
def k7c5 : Code := { maxStack := 4, maxLocals := 1, code := jdk_42_method_139_code, exceptionTable := #[], attributes := #[] }
def k7m5 : Method := { name := "valueOf", desc := "(C)Ljava/lang/String;", sig := { parameters := [.char], returnType := some (.object "java/lang/String") }, accessFlags := 9, code := some k7c5 }
def k7c6 : Code := { maxStack := 4, maxLocals := 6, code := jdk_42_method_149_code, exceptionTable := #[], attributes := #[] }
def k7m6 : Method := { name := "<init>", desc := "([CIILjava/lang/Void;)V", sig := { parameters := [(.array .char), .int, .int, (.object "java/lang/Void")], returnType := none }, accessFlags := 2, code := some k7c6 }
def k7c7 : Code := { maxStack := 2, maxLocals := 3, code := jdk_42_method_151_code, exceptionTable := #[], attributes := #[] }
def k7m7 : Method := { name := "<init>", desc := "([BB)V", sig := { parameters := [(.array .byte), .byte], returnType := none }, accessFlags := 0, code := some k7c7 }
def k7c8 : Code := { maxStack := 1, maxLocals := 1, code := jdk_42_method_152_code, exceptionTable := #[], attributes := #[] }
def k7m8 : Method := { name := "coder", desc := "()B", sig := { parameters := [], returnType := some .byte }, accessFlags := 0, code := some k7c8 }
def k7c9 : Code := { maxStack := 1, maxLocals := 1, code := jdk_42_method_154_code, exceptionTable := #[], attributes := #[] }
def k7m9 : Method := { name := "isLatin1", desc := "()Z", sig := { parameters := [], returnType := some .boolean }, accessFlags := 0, code := some k7c9 }
def k7c10 : Code := { maxStack := 3, maxLocals := 2, code := jdk_42_method_155_code, exceptionTable := #[], attributes := #[] }
def k7m10 : Method := { name := "checkIndex", desc := "(II)V", sig := { parameters := [.int, .int], returnType := none }, accessFlags := 8, code := some k7c10 }
/-- java/lang/String -/
def k7 : Class := { plain "java/lang/String" (some 0) with
  accessFlags := 49
  interfaces := #[2, 3, 4, 5, 6]
  cf := some (fileOf pool7 10 #[.nestMembers #[1103]] #[{ accessFlags := 1, nameIndex := 5, descriptorIndex := 6, attributes := #[] }, { accessFlags := 1, nameIndex := 5, descriptorIndex := 1010, attributes := #[] }, { accessFlags := 1, nameIndex := 507, descriptorIndex := 334, attributes := #[] }, { accessFlags := 1, nameIndex := 497, descriptorIndex := 427, attributes := #[] }, { accessFlags := 1, nameIndex := 543, descriptorIndex := 573, attributes := #[] }, { accessFlags := 9, nameIndex := 782, descriptorIndex := 783, attributes := #[] }, { accessFlags := 2, nameIndex := 5, descriptorIndex := 29, attributes := #[] }, { accessFlags := 0, nameIndex := 5, descriptorIndex := 211, attributes := #[] }, { accessFlags := 0, nameIndex := 17, descriptorIndex := 337, attributes := #[] }, { accessFlags := 0, nameIndex := 494, descriptorIndex := 142, attributes := #[] }, { accessFlags := 8, nameIndex := 501, descriptorIndex := 391, attributes := #[] }] 49 2 #[1106, 1108, 575, 1110, 1112] #[{ accessFlags := 18, nameIndex := 13, descriptorIndex := 14, attributes := #[] }, { accessFlags := 18, nameIndex := 17, descriptorIndex := 18, attributes := #[] }, { accessFlags := 2, nameIndex := 21, descriptorIndex := 22, attributes := #[] }, { accessFlags := 2, nameIndex := 25, descriptorIndex := 26, attributes := #[] }, { accessFlags := 26, nameIndex := 1116, descriptorIndex := 1117, attributes := #[] }, { accessFlags := 24, nameIndex := 40, descriptorIndex := 26, attributes := #[] }, { accessFlags := 26, nameIndex := 1101, descriptorIndex := 1102, attributes := #[] }, { accessFlags := 26, nameIndex := 1121, descriptorIndex := 1122, attributes := #[] }, { accessFlags := 25, nameIndex := 599, descriptorIndex := 600, attributes := #[] }, { accessFlags := 24, nameIndex := 1125, descriptorIndex := 18, attributes := #[] }, { accessFlags := 24, nameIndex := 1127, descriptorIndex := 18, attributes := #[] }])
  fields := #[{ name := "value", type := (.array .byte), accessFlags := 18, slot := 0, constantValue := 0 }, { name := "coder", type := .byte, accessFlags := 18, slot := 1, constantValue := 0 }, { name := "hash", type := .int, accessFlags := 2, slot := 2, constantValue := 0 }, { name := "hashIsZero", type := .boolean, accessFlags := 2, slot := 3, constantValue := 0 }, { name := "serialVersionUID", type := .long, accessFlags := 26, slot := 0, constantValue := 0 }, { name := "COMPACT_STRINGS", type := .boolean, accessFlags := 24, slot := 1, constantValue := 0 }, { name := "serialPersistentFields", type := (.array (.object "java/io/ObjectStreamField")), accessFlags := 26, slot := 2, constantValue := 0 }, { name := "REPL", type := .char, accessFlags := 26, slot := 3, constantValue := 0 }, { name := "CASE_INSENSITIVE_ORDER", type := (.object "java/util/Comparator"), accessFlags := 25, slot := 4, constantValue := 0 }, { name := "LATIN1", type := .byte, accessFlags := 24, slot := 5, constantValue := 0 }, { name := "UTF16", type := .byte, accessFlags := 24, slot := 6, constantValue := 0 }]
  methods := #[k7m0, k7m1, k7m2, k7m3, k7m4, k7m5, k7m6, k7m7, k7m8, k7m9, k7m10]
  instanceTypes := #[(.array .byte), .byte, .int, .boolean]
  staticTypes := #[.long, .boolean, (.array (.object "java/io/ObjectStreamField")), .char, (.object "java/util/Comparator"), .byte, .byte]
  resolved := Array.replicate 1451 none
  statics := some 0 }

def pool8 : Array CpInfo := pool [(2, .class_ 4), (1, u "java/lang/Object"), (0, u "<init>"), (0, u "()V"), (4, .class_ 13), (1, u "com/example/restitch/restitch/engine/Registrations"), (0, u "providers"), (0, u "Ljava/util/Map;"), (2, u "restorers"), (2, .string 22), (0, u "xa"), (0, .methodref 24 25), (0, .class_ 26), (0, .nameAndType 27 28), (0, u "java/lang/String"), (0, u "equals"), (0, u "(Ljava/lang/Object;)Z"), (5, u "(Ljava/lang/String;)Ljava/lang/String;"), (5, u "checkParticipantType")] 153

def k8m0 : Method := { name := "<init>", desc := "()V", sig := { parameters := [], returnType := none }, accessFlags := 0, code := none }
def k8c1 : Code := { maxStack := 3, maxLocals := 1, code := prog_79_method_2_code, exceptionTable := #[], attributes := #[] }
def k8m1 : Method := { name := "checkParticipantType", desc := "(Ljava/lang/String;)Ljava/lang/String;", sig := { parameters := [(.object "java/lang/String")], returnType := some (.object "java/lang/String") }, accessFlags := 8, code := some k8c1 }
/-- com/example/restitch/restitch/engine/Registrations -/
def k8 : Class := { plain "com/example/restitch/restitch/engine/Registrations" (some 0) with
  accessFlags := 48
  interfaces := #[]
  cf := some (fileOf pool8 11 #[] #[{ accessFlags := 0, nameIndex := 5, descriptorIndex := 6, attributes := #[] }, { accessFlags := 8, nameIndex := 40, descriptorIndex := 34, attributes := #[] }] 48 2 #[] #[{ accessFlags := 18, nameIndex := 14, descriptorIndex := 15, attributes := #[] }, { accessFlags := 18, nameIndex := 18, descriptorIndex := 15, attributes := #[] }])
  fields := #[{ name := "providers", type := (.object "java/util/Map"), accessFlags := 18, slot := 0, constantValue := 0 }, { name := "restorers", type := (.object "java/util/Map"), accessFlags := 18, slot := 1, constantValue := 0 }]
  methods := #[k8m0, k8m1]
  instanceTypes := #[(.object "java/util/Map"), (.object "java/util/Map")]
  staticTypes := #[]
  resolved := Array.replicate 194 none
  statics := none }

def pool9 : Array CpInfo := pool [(1, .class_ 2), (0, u "java/lang/String"), (1, .class_ 6), (1, u "java/lang/Object"), (0, u "<init>"), (0, u "()V"), (0, .methodref 1 10), (0, .nameAndType 11 12), (0, u "checkIndex"), (0, u "(II)V"), (1, .class_ 16), (1, u "java/lang/StringLatin1"), (36, u "([BI)C"), (36, u "canEncode"), (14, u "(C)Z"), (15, u "$assertionsDisabled"), (0, u "Z"), (98, .class_ 223), (1, u "java/lang/StringLatin1$LinesSpliterator"), (28, u "charAt"), (28, u "equals"), (0, u "([B[B)Z"), (97, u "toBytes"), (1, u "(C)[B"), (7, .class_ 391), (0, u "java/lang/StringLatin1$CharsSpliterator")] 3

def k9m0 : Method := { name := "<init>", desc := "()V", sig := { parameters := [], returnType := none }, accessFlags := 0, code := none }
def k9c1 : Code := { maxStack := 2, maxLocals := 2, code := jdk_43_method_2_code, exceptionTable := #[], attributes := #[] }
def k9m1 : Method := { name := "charAt", desc := "([BI)C", sig := { parameters := [(.array .byte), .int], returnType := some .char }, accessFlags := 9, code := some k9c1 }
def k9c2 : Code := { maxStack := 2, maxLocals := 1, code := jdk_43_method_3_code, exceptionTable := #[], attributes := #[] }
def k9m2 : Method := { name := "canEncode", desc := "(C)Z", sig := { parameters := [.char], returnType := some .boolean }, accessFlags := 9, code := some k9c2 }
def k9c3 : Code := { maxStack := 3, maxLocals := 3, code := jdk_43_method_13_code, exceptionTable := #[], attributes := #[] }
def k9m3 : Method := { name := "equals", desc := "([B[B)Z", sig := { parameters := [(.array .byte), (.array .byte)], returnType := some .boolean }, accessFlags := 9, code := some k9c3 }
def k9c4 : Code := { maxStack := 4, maxLocals := 1, code := jdk_43_method_46_code, exceptionTable := #[], attributes := #[] }
def k9m4 : Method := { name := "toBytes", desc := "(C)[B", sig := { parameters := [.char], returnType := some (.array .byte) }, accessFlags := 9, code := some k9c4 }
/-- java/lang/StringLatin1 -/
def k9 : Class := { plain "java/lang/StringLatin1" (some 0) with
  accessFlags := 48
  interfaces := #[]
  cf := some (fileOf pool9 14 #[.nestMembers #[390, 221]] #[{ accessFlags := 0, nameIndex := 7, descriptorIndex := 8, attributes := #[] }, { accessFlags := 9, nameIndex := 252, descriptorIndex := 53, attributes := #[] }, { accessFlags := 9, nameIndex := 90, descriptorIndex := 105, attributes := #[] }, { accessFlags := 9, nameIndex := 281, descriptorIndex := 282, attributes := #[] }, { accessFlags := 9, nameIndex := 380, descriptorIndex := 382, attributes := #[] }] 48 4 #[] #[{ accessFlags := 4120, nameIndex := 121, descriptorIndex := 122, attributes := #[] }])
  fields := #[{ name := "$assertionsDisabled", type := .boolean, accessFlags := 4120, slot := 0, constantValue := 0 }]
  methods := #[k9m0, k9m1, k9m2, k9m3, k9m4]
  instanceTypes := #[]
  staticTypes := #[.boolean]
  resolved := Array.replicate 395 none
  statics := none }

def pool10 : Array CpInfo := pool [(6, .class_ 8), (1, u "java/lang/Object"), (0, u "<init>"), (0, u "()V"), (1, .class_ 14), (1, u "java/lang/StringUTF16"), (31, u "$assertionsDisabled"), (0, u "Z"), (13, u "HI_BYTE_SHIFT"), (0, u "I"), (2, u "LO_BYTE_SHIFT"), (49, .methodref 12 116), (0, .nameAndType 117 118), (0, u "compress"), (0, u "([CI[BII)I"), (3, u "([CII)[B"), (138, u "coderFromArrayLen"), (0, u "([BI)B"), (106, .class_ 371), (1, u "java/lang/StringUTF16$LinesSpliterator"), (58, u "MAX_LENGTH"), (196, .class_ 628), (0, u "java/lang/StringUTF16$CodePointsSpliterator"), (0, .class_ 630), (0, u "java/lang/StringUTF16$CharsSpliterator")] 4

def k10m0 : Method := { name := "<init>", desc := "()V", sig := { parameters := [], returnType := none }, accessFlags := 0, code := none }
def k10c1 : Code := { maxStack := 2, maxLocals := 2, code := jdk_52_method_15_code, exceptionTable := #[], attributes := #[] }
def k10m1 : Method := { name := "coderFromArrayLen", desc := "([BI)B", sig := { parameters := [(.array .byte), .int], returnType := some .byte }, accessFlags := 8, code := some k10c1 }
def k10c2 : Code := { maxStack := 5, maxLocals := 6, code := jdk_52_method_16_code, exceptionTable := #[], attributes := #[] }
def k10m2 : Method := { name := "compress", desc := "([CII)[B", sig := { parameters := [(.array .char), .int, .int], returnType := some (.array .byte) }, accessFlags := 9, code := some k10c2 }
def k10c3 : Code := { maxStack := 3, maxLocals := 7, code := jdk_52_method_21_code, exceptionTable := #[], attributes := #[] }
def k10m3 : Method := { name := "compress", desc := "([CI[BII)I", sig := { parameters := [(.array .char), .int, (.array .byte), .int, .int], returnType := some .int }, accessFlags := 9, code := some k10c3 }
/-- java/lang/StringUTF16 -/
def k10 : Class := { plain "java/lang/StringUTF16" (some 0) with
  accessFlags := 48
  interfaces := #[]
  cf := some (fileOf pool10 12 #[.nestMembers #[627, 629, 369]] #[{ accessFlags := 0, nameIndex := 9, descriptorIndex := 10, attributes := #[] }, { accessFlags := 8, nameIndex := 261, descriptorIndex := 262, attributes := #[] }, { accessFlags := 9, nameIndex := 117, descriptorIndex := 122, attributes := #[] }, { accessFlags := 9, nameIndex := 117, descriptorIndex := 118, attributes := #[] }] 48 6 #[] #[{ accessFlags := 26, nameIndex := 61, descriptorIndex := 62, attributes := #[] }, { accessFlags := 26, nameIndex := 65, descriptorIndex := 62, attributes := #[] }, { accessFlags := 24, nameIndex := 430, descriptorIndex := 62, attributes := #[] }, { accessFlags := 4120, nameIndex := 46, descriptorIndex := 47, attributes := #[] }])
  fields := #[{ name := "HI_BYTE_SHIFT", type := .int, accessFlags := 26, slot := 0, constantValue := 0 }, { name := "LO_BYTE_SHIFT", type := .int, accessFlags := 26, slot := 1, constantValue := 0 }, { name := "MAX_LENGTH", type := .int, accessFlags := 24, slot := 2, constantValue := 0 }, { name := "$assertionsDisabled", type := .boolean, accessFlags := 4120, slot := 3, constantValue := 0 }]
  methods := #[k10m0, k10m1, k10m2, k10m3]
  instanceTypes := #[]
  staticTypes := #[.int, .int, .int, .boolean]
  resolved := Array.replicate 635 none
  statics := none }

def pool11 : Array CpInfo := pool [(2, .class_ 4), (1, u "java/lang/Object"), (0, u "<init>"), (0, u "()V"), (17, .class_ 26), (1, u "jdk/internal/util/Preconditions"), (6, u "checkIndex"), (21, .class_ 56), (0, u "jdk/internal/util/Preconditions$4"), (57, .class_ 115), (0, u "jdk/internal/util/Preconditions$1"), (7, u "SIOOBE_FORMATTER"), (0, u "Ljava/util/function/BiFunction;"), (0, .class_ 126), (0, u "jdk/internal/util/Preconditions$2"), (3, u "AIOOBE_FORMATTER"), (0, .class_ 132), (0, u "jdk/internal/util/Preconditions$3"), (3, u "IOOBE_FORMATTER"), (41, u "(IILjava/util/function/BiFunction;)I")] 15

def k11m0 : Method := { name := "<init>", desc := "()V", sig := { parameters := [], returnType := none }, accessFlags := 1, code := none }
def k11c1 : Code := { maxStack := 3, maxLocals := 3, code := jdk_41_method_11_code, exceptionTable := #[], attributes := #[] }
def k11m1 : Method := { name := "checkIndex", desc := "(IILjava/util/function/BiFunction;)I", sig := { parameters := [.int, .int, (.object "java/util/function/BiFunction")], returnType := some .int }, accessFlags := 9, code := some k11c1 }
/-- jdk/internal/util/Preconditions -/
def k11 : Class := { plain "jdk/internal/util/Preconditions" (some 0) with
  accessFlags := 33
  interfaces := #[]
  cf := some (fileOf pool11 24 #[.nestMembers #[55, 131, 125, 114]] #[{ accessFlags := 1, nameIndex := 5, descriptorIndex := 6, attributes := #[] }, { accessFlags := 9, nameIndex := 33, descriptorIndex := 178, attributes := #[] }] 33 2 #[] #[{ accessFlags := 25, nameIndex := 123, descriptorIndex := 124, attributes := #[] }, { accessFlags := 25, nameIndex := 130, descriptorIndex := 124, attributes := #[] }, { accessFlags := 25, nameIndex := 136, descriptorIndex := 124, attributes := #[] }])
  fields := #[{ name := "SIOOBE_FORMATTER", type := (.object "java/util/function/BiFunction"), accessFlags := 25, slot := 0, constantValue := 0 }, { name := "AIOOBE_FORMATTER", type := (.object "java/util/function/BiFunction"), accessFlags := 25, slot := 1, constantValue := 0 }, { name := "IOOBE_FORMATTER", type := (.object "java/util/function/BiFunction"), accessFlags := 25, slot := 2, constantValue := 0 }]
  methods := #[k11m0, k11m1]
  instanceTypes := #[]
  staticTypes := #[(.object "java/util/function/BiFunction"), (.object "java/util/function/BiFunction"), (.object "java/util/function/BiFunction")]
  resolved := Array.replicate 194 none
  statics := some 1 }

def pool12 : Array CpInfo := pool [(9, u "<init>"), (6, .class_ 18), (1, u "java/lang/Object"), (0, u "()V"), (1, .class_ 23), (1, u "jdk/internal/util/ArraysSupport"), (0, u "LOG2_ARRAY_LONG_INDEX_SCALE"), (0, u "I"), (2, u "U"), (0, u "Ljdk/internal/misc/Unsafe;"), (8, u "BIG_ENDIAN"), (0, u "Z"), (8, u "LOG2_BYTE_BIT_SIZE"), (4, u "LOG2_ARRAY_INT_INDEX_SCALE"), (54, u "JLA"), (0, u "Ljdk/internal/access/JavaLangAccess;"), (11, u "LOG2_ARRAY_BOOLEAN_INDEX_SCALE"), (9, u "LOG2_ARRAY_BYTE_INDEX_SCALE"), (5, u "LOG2_ARRAY_CHAR_INDEX_SCALE"), (5, u "LOG2_ARRAY_SHORT_INDEX_SCALE"), (18, u "LOG2_ARRAY_FLOAT_INDEX_SCALE"), (24, u "LOG2_ARRAY_DOUBLE_INDEX_SCALE"), (89, u "T_BOOLEAN"), (2, u "T_CHAR"), (1, u "T_FLOAT"), (1, u "T_DOUBLE"), (1, u "T_BYTE"), (1, u "T_SHORT"), (1, u "T_INT"), (1, u "T_LONG"), (1, u "SOFT_MAX_ARRAY_LENGTH")] 83

def k12m0 : Method := { name := "<init>", desc := "()V", sig := { parameters := [], returnType := none }, accessFlags := 2, code := none }
/-- jdk/internal/util/ArraysSupport -/
def k12 : Class := { plain "jdk/internal/util/ArraysSupport" (some 0) with
  accessFlags := 33
  interfaces := #[]
  cf := some (fileOf pool12 21 #[] #[{ accessFlags := 2, nameIndex := 9, descriptorIndex := 19, attributes := #[] }] 33 16 #[] #[{ accessFlags := 24, nameIndex := 28, descriptorIndex := 29, attributes := #[] }, { accessFlags := 26, nameIndex := 38, descriptorIndex := 39, attributes := #[] }, { accessFlags := 25, nameIndex := 121, descriptorIndex := 25, attributes := #[] }, { accessFlags := 25, nameIndex := 131, descriptorIndex := 25, attributes := #[] }, { accessFlags := 25, nameIndex := 137, descriptorIndex := 25, attributes := #[] }, { accessFlags := 25, nameIndex := 143, descriptorIndex := 25, attributes := #[] }, { accessFlags := 25, nameIndex := 53, descriptorIndex := 25, attributes := #[] }, { accessFlags := 25, nameIndex := 24, descriptorIndex := 25, attributes := #[] }, { accessFlags := 25, nameIndex := 162, descriptorIndex := 25, attributes := #[] }, { accessFlags := 25, nameIndex := 187, descriptorIndex := 25, attributes := #[] }, { accessFlags := 26, nameIndex := 48, descriptorIndex := 25, attributes := #[] }, { accessFlags := 25, nameIndex := 277, descriptorIndex := 25, attributes := #[] }, { accessFlags := 25, nameIndex := 280, descriptorIndex := 25, attributes := #[] }, { accessFlags := 25, nameIndex := 282, descriptorIndex := 25, attributes := #[] }, { accessFlags := 25, nameIndex := 284, descriptorIndex := 25, attributes := #[] }, { accessFlags := 25, nameIndex := 286, descriptorIndex := 25, attributes := #[] }, { accessFlags := 25, nameIndex := 288, descriptorIndex := 25, attributes := #[] }, { accessFlags := 25, nameIndex := 290, descriptorIndex := 25, attributes := #[] }, { accessFlags := 25, nameIndex := 292, descriptorIndex := 25, attributes := #[] }, { accessFlags := 26, nameIndex := 108, descriptorIndex := 109, attributes := #[] }, { accessFlags := 25, nameIndex := 294, descriptorIndex := 25, attributes := #[] }])
  fields := #[{ name := "U", type := (.object "jdk/internal/misc/Unsafe"), accessFlags := 24, slot := 0, constantValue := 0 }, { name := "BIG_ENDIAN", type := .boolean, accessFlags := 26, slot := 1, constantValue := 0 }, { name := "LOG2_ARRAY_BOOLEAN_INDEX_SCALE", type := .int, accessFlags := 25, slot := 2, constantValue := 0 }, { name := "LOG2_ARRAY_BYTE_INDEX_SCALE", type := .int, accessFlags := 25, slot := 3, constantValue := 0 }, { name := "LOG2_ARRAY_CHAR_INDEX_SCALE", type := .int, accessFlags := 25, slot := 4, constantValue := 0 }, { name := "LOG2_ARRAY_SHORT_INDEX_SCALE", type := .int, accessFlags := 25, slot := 5, constantValue := 0 }, { name := "LOG2_ARRAY_INT_INDEX_SCALE", type := .int, accessFlags := 25, slot := 6, constantValue := 0 }, { name := "LOG2_ARRAY_LONG_INDEX_SCALE", type := .int, accessFlags := 25, slot := 7, constantValue := 0 }, { name := "LOG2_ARRAY_FLOAT_INDEX_SCALE", type := .int, accessFlags := 25, slot := 8, constantValue := 0 }, { name := "LOG2_ARRAY_DOUBLE_INDEX_SCALE", type := .int, accessFlags := 25, slot := 9, constantValue := 0 }, { name := "LOG2_BYTE_BIT_SIZE", type := .int, accessFlags := 26, slot := 10, constantValue := 0 }, { name := "T_BOOLEAN", type := .int, accessFlags := 25, slot := 11, constantValue := 0 }, { name := "T_CHAR", type := .int, accessFlags := 25, slot := 12, constantValue := 0 }, { name := "T_FLOAT", type := .int, accessFlags := 25, slot := 13, constantValue := 0 }, { name := "T_DOUBLE", type := .int, accessFlags := 25, slot := 14, constantValue := 0 }, { name := "T_BYTE", type := .int, accessFlags := 25, slot := 15, constantValue := 0 }, { name := "T_SHORT", type := .int, accessFlags := 25, slot := 16, constantValue := 0 }, { name := "T_INT", type := .int, accessFlags := 25, slot := 17, constantValue := 0 }, { name := "T_LONG", type := .int, accessFlags := 25, slot := 18, constantValue := 0 }, { name := "JLA", type := (.object "jdk/internal/access/JavaLangAccess"), accessFlags := 26, slot := 19, constantValue := 0 }, { name := "SOFT_MAX_ARRAY_LENGTH", type := .int, accessFlags := 25, slot := 20, constantValue := 0 }]
  methods := #[k12m0]
  instanceTypes := #[]
  staticTypes := #[(.object "jdk/internal/misc/Unsafe"), .boolean, .int, .int, .int, .int, .int, .int, .int, .int, .int, .int, .int, .int, .int, .int, .int, .int, .int, (.object "jdk/internal/access/JavaLangAccess"), .int]
  resolved := Array.replicate 378 none
  statics := none }

def pool13 : Array CpInfo := pool [(1, u "java/lang/Cloneable"), (0, .class_ 1), (0, u "java/lang/Object"), (0, .class_ 3)] 3

/-- java/lang/Cloneable -/
def k13 : Class := { plain "java/lang/Cloneable" (some 0) with
  accessFlags := 1537
  interfaces := #[]
  cf := some (fileOf pool13 2 #[] #[] 1537 4 #[] #[])
  fields := #[]
  methods := #[]
  instanceTypes := #[]
  staticTypes := #[]
  resolved := Array.replicate 8 none
  statics := none }

/-- the primitive byte -/
def k14 : Class := { plain "byte" none with kind := .primitive 'B', accessFlags := 0x411 }
/-- [B -/
def k15 : Class := { plain "[B" (some 0) with kind := .array 14 .byte, interfaces := #[13, 2], accessFlags := 1041 }

/-- the primitive char -/
def k16 : Class := { plain "char" none with kind := .primitive 'C', accessFlags := 0x411 }
/-- [C -/
def k17 : Class := { plain "[C" (some 0) with kind := .array 16 .char, interfaces := #[13, 2], accessFlags := 1041 }

/-- the primitive int -/
def k18 : Class := { plain "int" none with kind := .primitive 'I', accessFlags := 0x411 }
/-- [I -/
def k19 : Class := { plain "[I" (some 0) with kind := .array 18 .int, interfaces := #[13, 2], accessFlags := 1041 }

def heap : Heap := #[{ cls := 7, slots := #[.long 0, .int 1, .null, .int 0, .null, .int 0, .int 0], vm := .statics 7 },
  { cls := 11, slots := #[.null, .null, .null], vm := .statics 11 }]
def classes : Array Class := #[k0, k1, k2, k3, k4, k5, k6, k7, k8, k9, k10, k11, k12, k13, k14, k15, k16, k17, k18, k19]
def interned : List (Array UInt16 × Addr) := []
def slotsUsed : Nat := 10
def theMethod : MethodId := ⟨1, 1⟩
def args0 : Array Value := #[.int 120, .int 98, .int 99, .int 3]
def aboutOver (below : List Frame) : State where
  vm := { classes := classes, interned := interned.toArray }
  heap := heap
  slotsUsed := slotsUsed
  threads := #[{ frames := .invoking theMethod args0 :: below }]
def below0 : List Frame := [.native { method := ⟨0, 0⟩, args := #[] }]
def about1 : State := aboutOver below0
def p0 : Program := .bare "" "" ""
def e0 : Env := launch0.env 0 0 0
theorem w_frames : about1.frames = Frame.invoking theMethod args0 :: below0 := rfl
set_option maxRecDepth 65536 in
theorem w_args : argsFit about1.vm theMethod args0 = true := by decide +kernel
set_option maxRecDepth 65536 in
theorem w_heap : heapFits about1 = true := by decide +kernel
set_option maxRecDepth 65536 in
theorem w_runnable : about1.curStatus? = some .runnable := by decide +kernel
set_option maxRecDepth 65536 in
theorem w_alone : about1.alone = true := by decide +kernel
set_option maxRecDepth 65536 in
theorem w_named : about1.methodNamed? x = some theMethod := by decide +kernel
set_option maxRecDepth 65536 in
theorem w_hears : about1.hears theMethod below0 = true := by decide +kernel
set_option maxRecDepth 65536 in
theorem w_ripe : about1.ripe theMethod args0 below0 = true := by decide +kernel
theorem w_running : about1.status = .running := rfl
set_option maxRecDepth 65536 in
theorem w_room : about1.hasRoom e0.platform room_1 = true :=
  launch0.hasRoom_least _ room_1 (by decide +kernel) (by decide +kernel) (by decide +kernel) (by decide +kernel) (by decide +kernel) (by decide +kernel)
theorem allAtoms_all (ts : List Jvm.Cond) (a : Array Jvm.Value) (st : Jvm.State) : (allAtoms ts).before a st = ts.all (fun c => c.before a st) := by
  induction ts with
  | nil => rfl
  | cons c t ih =>
    show (Jvm.Cond.and c (allAtoms t)).before a st = _
    rw [Jvm.Cond.before_and, ih, List.all_cons]
def words1 : List Jvm.Cond := Jvm.Cond.code x code maxLocals ret :: tables_1
/-- a 'code' word, met by the world's own term for the bytes: nothing is compared byte by byte -/
theorem code_word {y : MethodName} {bytes : ByteArray} {mx : Nat} {rt : Option FieldType} {a : Array Value} {s : State} {m : MethodId} {meth : Method} {c : Code} (h1 : s.methodNamed? y = some m) (h2 : s.vm.method? m = some meth) (h3 : meth.code = some c) (h4 : c.code = bytes)
    (h5 : (c.maxLocals == mx && c.exceptionTable.isEmpty && decide (c.maxStack ≤ mostOperands) && decide (meth.sig.returnType = rt) && !meth.locks && decide (parseMethodDescriptor y.desc = some meth.sig)) = true) : (Jvm.Cond.code y bytes mx rt).before a s = true := by
  simp only [Bool.and_eq_true, beq_iff_eq, Bool.not_eq_true', decide_eq_true_eq] at h5
  obtain ⟨⟨⟨⟨⟨g1, g2⟩, g3⟩, g4⟩, g5⟩, g6⟩ := h5
  simp [Cond.before, Cond.holds, Cond.value, h1, h2, h3, h4, g1, g2, g3, g4, g5, g6]
def isCode : Jvm.Cond → Bool
  | .code _ _ _ _ => true
  | _ => false
theorem all_split {L : List Jvm.Cond} {P : Jvm.Cond → Bool} (h1 : L.all (fun c => isCode c || P c) = true) (h2 : ∀ c ∈ L.filter isCode, P c = true) : L.all P = true := by
  refine List.all_eq_true.mpr fun c hc => ?_
  have h := List.all_eq_true.mp h1 c hc
  rcases Bool.eq_false_or_eq_true (isCode c) with hi | hi
  · exact h2 c (List.mem_filter.mpr ⟨hc, hi⟩)
  · simpa [hi] using h
set_option maxRecDepth 65536 in
theorem w_c0 : (Jvm.Cond.code x code maxLocals ret).before args0 about1 = true := code_word (m := ⟨1, 1⟩) (meth := k1m1) (c := k1c1) (by decide +kernel) rfl rfl rfl (by decide +kernel)
set_option maxRecDepth 65536 in
theorem w_c1 : (Jvm.Cond.code ({ cls := "java/lang/String", name := "<init>", desc := "([C)V" } : Jvm.MethodName) jdk_42_method_3_code (2 : Nat) (Option.none : Option Jvm.ClassFile.FieldType)).before args0 about1 = true := code_word (m := ⟨7, 1⟩) (meth := k7m1) (c := k7c1) (by decide +kernel) rfl rfl rfl (by decide +kernel)
set_option maxRecDepth 65536 in
theorem w_c2 : (Jvm.Cond.code ({ cls := "java/lang/String", name := "<init>", desc := "([CIILjava/lang/Void;)V" } : Jvm.MethodName) jdk_42_method_149_code (6 : Nat) (Option.none : Option Jvm.ClassFile.FieldType)).before args0 about1 = true := code_word (m := ⟨7, 6⟩) (meth := k7m6) (c := k7c6) (by decide +kernel) rfl rfl rfl (by decide +kernel)
set_option maxRecDepth 65536 in
theorem w_c3 : (Jvm.Cond.code ({ cls := "java/lang/Object", name := "<init>", desc := "()V" } : Jvm.MethodName) object_method_1_code (1 : Nat) (Option.none : Option Jvm.ClassFile.FieldType)).before args0 about1 = true := code_word (m := ⟨0, 0⟩) (meth := k0m0) (c := k0c0) (by decide +kernel) rfl rfl rfl (by decide +kernel)
set_option maxRecDepth 65536 in
theorem w_c4 : (Jvm.Cond.code ({ cls := "java/lang/String", name := "length", desc := "()I" } : Jvm.MethodName) jdk_42_method_54_code (1 : Nat) (Option.some Jvm.ClassFile.FieldType.int)).before args0 about1 = true := code_word (m := ⟨7, 2⟩) (meth := k7m2) (c := k7c2) (by decide +kernel) rfl rfl rfl (by decide +kernel)
set_option maxRecDepth 65536 in
theorem w_c5 : (Jvm.Cond.code ({ cls := "java/lang/String", name := "coder", desc := "()B" } : Jvm.MethodName) jdk_42_method_152_code (1 : Nat) (Option.some Jvm.ClassFile.FieldType.byte)).before args0 about1 = true := code_word (m := ⟨7, 8⟩) (meth := k7m8) (c := k7c8) (by decide +kernel) rfl rfl rfl (by decide +kernel)
set_option maxRecDepth 65536 in
theorem w_c6 : (Jvm.Cond.code ({ cls := "com/example/restitch/restitch/engine/Registrations", name := "checkParticipantType", desc := "(Ljava/lang/String;)Ljava/lang/String;" } : Jvm.MethodName) prog_79_method_2_code (1 : Nat) (Option.some (Jvm.ClassFile.FieldType.object "java/lang/String"))).before args0 about1 = true := code_word (m := ⟨8, 1⟩) (meth := k8m1) (c := k8c1) (by decide +kernel) rfl rfl rfl (by decide +kernel)
set_option maxRecDepth 65536 in
theorem w_c7 : (Jvm.Cond.code ({ cls := "java/lang/String", name := "equals", desc := "(Ljava/lang/Object;)Z" } : Jvm.MethodName) jdk_42_method_66_code (3 : Nat) (Option.some Jvm.ClassFile.FieldType.boolean)).before args0 about1 = true := code_word (m := ⟨7, 4⟩) (meth := k7m4) (c := k7c4) (by decide +kernel) rfl rfl rfl (by decide +kernel)
set_option maxRecDepth 65536 in
theorem w_c8 : (Jvm.Cond.code ({ cls := "java/lang/StringLatin1", name := "equals", desc := "([B[B)Z" } : Jvm.MethodName) jdk_43_method_13_code (3 : Nat) (Option.some Jvm.ClassFile.FieldType.boolean)).before args0 about1 = true := code_word (m := ⟨9, 3⟩) (meth := k9m3) (c := k9c3) (by decide +kernel) rfl rfl rfl (by decide +kernel)
set_option maxRecDepth 65536 in
theorem w_c9 : (Jvm.Cond.code ({ cls := "java/lang/StringUTF16", name := "compress", desc := "([CII)[B" } : Jvm.MethodName) jdk_52_method_16_code (6 : Nat) (Option.some (Jvm.ClassFile.FieldType.array Jvm.ClassFile.FieldType.byte))).before args0 about1 = true := code_word (m := ⟨10, 2⟩) (meth := k10m2) (c := k10c2) (by decide +kernel) rfl rfl rfl (by decide +kernel)
set_option maxRecDepth 65536 in
theorem w_c10 : (Jvm.Cond.code ({ cls := "java/lang/StringUTF16", name := "compress", desc := "([CI[BII)I" } : Jvm.MethodName) jdk_52_method_21_code (7 : Nat) (Option.some Jvm.ClassFile.FieldType.int)).before args0 about1 = true := code_word (m := ⟨10, 3⟩) (meth := k10m3) (c := k10c3) (by decide +kernel) rfl rfl rfl (by decide +kernel)
set_option maxRecDepth 65536 in
theorem w_c11 : (Jvm.Cond.code ({ cls := "java/lang/StringUTF16", name := "coderFromArrayLen", desc := "([BI)B" } : Jvm.MethodName) jdk_52_method_15_code (2 : Nat) (Option.some Jvm.ClassFile.FieldType.byte)).before args0 about1 = true := code_word (m := ⟨10, 1⟩) (meth := k10m1) (c := k10c1) (by decide +kernel) rfl rfl rfl (by decide +kernel)
set_option maxRecDepth 65536 in
theorem w_c12 : (Jvm.Cond.code ({ cls := "java/lang/String", name := "charAt", desc := "(I)C" } : Jvm.MethodName) jdk_42_method_56_code (2 : Nat) (Option.some Jvm.ClassFile.FieldType.char)).before args0 about1 = true := code_word (m := ⟨7, 3⟩) (meth := k7m3) (c := k7c3) (by decide +kernel) rfl rfl rfl (by decide +kernel)
set_option maxRecDepth 65536 in
theorem w_c13 : (Jvm.Cond.code ({ cls := "java/lang/String", name := "isLatin1", desc := "()Z" } : Jvm.MethodName) jdk_42_method_154_code (1 : Nat) (Option.some Jvm.ClassFile.FieldType.boolean)).before args0 about1 = true := code_word (m := ⟨7, 9⟩) (meth := k7m9) (c := k7c9) (by decide +kernel) rfl rfl rfl (by decide +kernel)
set_option maxRecDepth 65536 in
theorem w_c14 : (Jvm.Cond.code ({ cls := "java/lang/StringLatin1", name := "charAt", desc := "([BI)C" } : Jvm.MethodName) jdk_43_method_2_code (2 : Nat) (Option.some Jvm.ClassFile.FieldType.char)).before args0 about1 = true := code_word (m := ⟨9, 1⟩) (meth := k9m1) (c := k9c1) (by decide +kernel) rfl rfl rfl (by decide +kernel)
set_option maxRecDepth 65536 in
theorem w_c15 : (Jvm.Cond.code ({ cls := "java/lang/String", name := "checkIndex", desc := "(II)V" } : Jvm.MethodName) jdk_42_method_155_code (2 : Nat) (Option.none : Option Jvm.ClassFile.FieldType)).before args0 about1 = true := code_word (m := ⟨7, 10⟩) (meth := k7m10) (c := k7c10) (by decide +kernel) rfl rfl rfl (by decide +kernel)
set_option maxRecDepth 65536 in
theorem w_c16 : (Jvm.Cond.code ({ cls := "jdk/internal/util/Preconditions", name := "checkIndex", desc := "(IILjava/util/function/BiFunction;)I" } : Jvm.MethodName) jdk_41_method_11_code (3 : Nat) (Option.some Jvm.ClassFile.FieldType.int)).before args0 about1 = true := code_word (m := ⟨11, 1⟩) (meth := k11m1) (c := k11c1) (by decide +kernel) rfl rfl rfl (by decide +kernel)
set_option maxRecDepth 65536 in
theorem w_c17 : (Jvm.Cond.code ({ cls := "java/lang/String", name := "valueOf", desc := "(C)Ljava/lang/String;" } : Jvm.MethodName) jdk_42_method_139_code (1 : Nat) (Option.some (Jvm.ClassFile.FieldType.object "java/lang/String"))).before args0 about1 = true := code_word (m := ⟨7, 5⟩) (meth := k7m5) (c := k7c5) (by decide +kernel) rfl rfl rfl (by decide +kernel)
set_option maxRecDepth 65536 in
theorem w_c18 : (Jvm.Cond.code ({ cls := "java/lang/StringLatin1", name := "canEncode", desc := "(C)Z" } : Jvm.MethodName) jdk_43_method_3_code (1 : Nat) (Option.some Jvm.ClassFile.FieldType.boolean)).before args0 about1 = true := code_word (m := ⟨9, 2⟩) (meth := k9m2) (c := k9c2) (by decide +kernel) rfl rfl rfl (by decide +kernel)
set_option maxRecDepth 65536 in
theorem w_c19 : (Jvm.Cond.code ({ cls := "java/lang/StringLatin1", name := "toBytes", desc := "(C)[B" } : Jvm.MethodName) jdk_43_method_46_code (1 : Nat) (Option.some (Jvm.ClassFile.FieldType.array Jvm.ClassFile.FieldType.byte))).before args0 about1 = true := code_word (m := ⟨9, 4⟩) (meth := k9m4) (c := k9c4) (by decide +kernel) rfl rfl rfl (by decide +kernel)
set_option maxRecDepth 65536 in
theorem w_c20 : (Jvm.Cond.code ({ cls := "java/lang/String", name := "<init>", desc := "([BB)V" } : Jvm.MethodName) jdk_42_method_151_code (3 : Nat) (Option.none : Option Jvm.ClassFile.FieldType)).before args0 about1 = true := code_word (m := ⟨7, 7⟩) (meth := k7m7) (c := k7c7) (by decide +kernel) rfl rfl rfl (by decide +kernel)
def codes1 : List Jvm.Cond := [Jvm.Cond.code x code maxLocals ret, Jvm.Cond.code ({ cls := "java/lang/String", name := "<init>", desc := "([C)V" } : Jvm.MethodName) jdk_42_method_3_code (2 : Nat) (Option.none : Option Jvm.ClassFile.FieldType), Jvm.Cond.code ({ cls := "java/lang/String", name := "<init>", desc := "([CIILjava/lang/Void;)V" } : Jvm.MethodName) jdk_42_method_149_code (6 : Nat) (Option.none : Option Jvm.ClassFile.FieldType), Jvm.Cond.code ({ cls := "java/lang/Object", name := "<init>", desc := "()V" } : Jvm.MethodName) object_method_1_code (1 : Nat) (Option.none : Option Jvm.ClassFile.FieldType), Jvm.Cond.code ({ cls := "java/lang/String", name := "length", desc := "()I" } : Jvm.MethodName) jdk_42_method_54_code (1 : Nat) (Option.some Jvm.ClassFile.FieldType.int), Jvm.Cond.code ({ cls := "java/lang/String", name := "coder", desc := "()B" } : Jvm.MethodName) jdk_42_method_152_code (1 : Nat) (Option.some Jvm.ClassFile.FieldType.byte), Jvm.Cond.code ({ cls := "com/example/restitch/restitch/engine/Registrations", name := "checkParticipantType", desc := "(Ljava/lang/String;)Ljava/lang/String;" } : Jvm.MethodName) prog_79_method_2_code (1 : Nat) (Option.some (Jvm.ClassFile.FieldType.object "java/lang/String")), Jvm.Cond.code ({ cls := "java/lang/String", name := "equals", desc := "(Ljava/lang/Object;)Z" } : Jvm.MethodName) jdk_42_method_66_code (3 : Nat) (Option.some Jvm.ClassFile.FieldType.boolean), Jvm.Cond.code ({ cls := "java/lang/StringLatin1", name := "equals", desc := "([B[B)Z" } : Jvm.MethodName) jdk_43_method_13_code (3 : Nat) (Option.some Jvm.ClassFile.FieldType.boolean), Jvm.Cond.code ({ cls := "java/lang/StringUTF16", name := "compress", desc := "([CII)[B" } : Jvm.MethodName) jdk_52_method_16_code (6 : Nat) (Option.some (Jvm.ClassFile.FieldType.array Jvm.ClassFile.FieldType.byte)), Jvm.Cond.code ({ cls := "java/lang/StringUTF16", name := "compress", desc := "([CI[BII)I" } : Jvm.MethodName) jdk_52_method_21_code (7 : Nat) (Option.some Jvm.ClassFile.FieldType.int), Jvm.Cond.code ({ cls := "java/lang/StringUTF16", name := "coderFromArrayLen", desc := "([BI)B" } : Jvm.MethodName) jdk_52_method_15_code (2 : Nat) (Option.some Jvm.ClassFile.FieldType.byte), Jvm.Cond.code ({ cls := "java/lang/String", name := "charAt", desc := "(I)C" } : Jvm.MethodName) jdk_42_method_56_code (2 : Nat) (Option.some Jvm.ClassFile.FieldType.char), Jvm.Cond.code ({ cls := "java/lang/String", name := "isLatin1", desc := "()Z" } : Jvm.MethodName) jdk_42_method_154_code (1 : Nat) (Option.some Jvm.ClassFile.FieldType.boolean), Jvm.Cond.code ({ cls := "java/lang/StringLatin1", name := "charAt", desc := "([BI)C" } : Jvm.MethodName) jdk_43_method_2_code (2 : Nat) (Option.some Jvm.ClassFile.FieldType.char), Jvm.Cond.code ({ cls := "java/lang/String", name := "checkIndex", desc := "(II)V" } : Jvm.MethodName) jdk_42_method_155_code (2 : Nat) (Option.none : Option Jvm.ClassFile.FieldType), Jvm.Cond.code ({ cls := "jdk/internal/util/Preconditions", name := "checkIndex", desc := "(IILjava/util/function/BiFunction;)I" } : Jvm.MethodName) jdk_41_method_11_code (3 : Nat) (Option.some Jvm.ClassFile.FieldType.int), Jvm.Cond.code ({ cls := "java/lang/String", name := "valueOf", desc := "(C)Ljava/lang/String;" } : Jvm.MethodName) jdk_42_method_139_code (1 : Nat) (Option.some (Jvm.ClassFile.FieldType.object "java/lang/String")), Jvm.Cond.code ({ cls := "java/lang/StringLatin1", name := "canEncode", desc := "(C)Z" } : Jvm.MethodName) jdk_43_method_3_code (1 : Nat) (Option.some Jvm.ClassFile.FieldType.boolean), Jvm.Cond.code ({ cls := "java/lang/StringLatin1", name := "toBytes", desc := "(C)[B" } : Jvm.MethodName) jdk_43_method_46_code (1 : Nat) (Option.some (Jvm.ClassFile.FieldType.array Jvm.ClassFile.FieldType.byte)), Jvm.Cond.code ({ cls := "java/lang/String", name := "<init>", desc := "([BB)V" } : Jvm.MethodName) jdk_42_method_151_code (3 : Nat) (Option.none : Option Jvm.ClassFile.FieldType)]
set_option maxRecDepth 65536 in
theorem codes_eq : words1.filter isCode = codes1 := rfl
theorem w_codes : ∀ c ∈ words1.filter isCode, c.before args0 about1 = true := by
  rw [codes_eq]
  intro c hc
  simp only [codes1, List.mem_cons, List.not_mem_nil, or_false] at hc
  rcases hc with rfl | rfl | rfl | rfl | rfl | rfl | rfl | rfl | rfl | rfl | rfl | rfl | rfl | rfl | rfl | rfl | rfl | rfl | rfl | rfl | rfl
  · exact w_c0
  · exact w_c1
  · exact w_c2
  · exact w_c3
  · exact w_c4
  · exact w_c5
  · exact w_c6
  · exact w_c7
  · exact w_c8
  · exact w_c9
  · exact w_c10
  · exact w_c11
  · exact w_c12
  · exact w_c13
  · exact w_c14
  · exact w_c15
  · exact w_c16
  · exact w_c17
  · exact w_c18
  · exact w_c19
  · exact w_c20
set_option maxRecDepth 65536 in
theorem w_t1 : (words1.take 24).all (fun c => isCode c || c.before args0 about1) = true := by decide +kernel
set_option maxRecDepth 65536 in
theorem w_t2 : ((words1.drop 24).take 24).all (fun c => isCode c || c.before args0 about1) = true := by decide +kernel
set_option maxRecDepth 65536 in
theorem w_t3 : (((words1.drop 24).drop 24).take 24).all (fun c => isCode c || c.before args0 about1) = true := by decide +kernel
set_option maxRecDepth 65536 in
theorem w_t4 : (((words1.drop 24).drop 24).drop 24).all (fun c => isCode c || c.before args0 about1) = true := by decide +kernel
theorem w_tables : (allAtoms (Jvm.Cond.code x code maxLocals ret :: tables_1)).before args0 about1 = true := by
  rw [allAtoms_all]
  show words1.all (fun c => c.before args0 about1) = true
  refine all_split ?_ w_codes
  rw [← List.take_append_drop 24 words1, List.all_append, w_t1, ← List.take_append_drop 24 (words1.drop 24), List.all_append, w_t2, ← List.take_append_drop 24 ((words1.drop 24).drop 24), List.all_append, w_t3, w_t4]
  rfl
set_option maxRecDepth 65536 in
theorem w_rest : rest_1_c.before args0 about1 = true := by decide +kernel
set_option maxRecDepth 65536 in
theorem w_case : (Jvm.Cond.and given_1 narrow_1).before args0 about1 = true := by decide +kernel
set_option maxRecDepth 65536 in
theorem w_consts : constsHeld consts_1 about1 := Jvm.Lit.constsHeldB_iff.mp (by decide +kernel)
theorem w_applies : (headSpec (Jvm.Cond.code x code maxLocals ret :: tables_1) room_1).applies x e0.platform about1 = true :=
  (Spec.applies_iff w_frames).mpr ⟨w_running, w_runnable, w_alone, w_named, w_hears, w_ripe, w_room, w_tables⟩
theorem atStart : AtStart classFile x code maxLocals ret World_1 tables_1 room_1 Calls_1 rest_1 Pre_1 launch0 p0 e0 about1 theMethod args0 below0 :=
  ⟨lists_1, trivial, launch0.admits_env _ _ _, launch0.least_env, fairChoices_fair.cas, fairChoices_fair.clock, w_frames, w_args, w_heap, w_applies, ⟨w_consts, trivial⟩, w_rest, w_case⟩
end start1
theorem witness_1 : WitnessClaimed_1 := ⟨start1.p0, start1.e0, start1.about1, start1.theMethod, start1.args0, start1.below0, start1.atStart⟩
end Jvm.Pilot.@@N@@
