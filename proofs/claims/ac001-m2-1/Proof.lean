import JvmDerived
import JvmDerived.Pilot.@@N@@Statement
import JvmDerived.Pilot.@@N@@Code
set_option linter.unusedVariables false
set_option linter.unusedSimpArgs false
namespace Jvm.Pilot.@@N@@
open Jvm Jvm.ClassFile Sem Op Lib Jvm.Free Jvm.Stand Jvm.LawKit Jvm.RoadKit Bundle Jvm.Pilot.@@N@@.Jvm.D
section Own
variable {p : Program} {l : Launch} {e : Env} {R : Room} {s : State} {m : MethodId} {args : Array Value} {below : List Frame} {meth : Method} {c : Code} {bytes : ByteArray} {mx : Nat} {rt : Option FieldType} {own nm : String} {Z : State} {Q : Option Value → Heap → Prop} {pc : Nat} {ls : Array Slot} {st : List Value} {h : Heap} {cs sl : Nat} {a0 : Array Value}
/-- from A the invocation comes back, and what it leaves is as Q says; nothing old is written -/
def own_G (p : Program) (e : Env) (s : State) (below : List Frame) (Z : State) (Q : Option Value → Heap → Prop) (cs sl : Nat) (A : State) : Prop :=
  ∃ s₂ o, Steps p.tables e below A s₂ ∧ s₂.status = .running ∧ Ended s₂ below o ∧ ∃ v L, o = .returned v ∧ (Q v s₂.heap ∧ Fr Z.heap.size L ∧ Old Z Z.heap.size s₂.heap) ∧ ReturnedEndW s o s₂ L cs sl
theorem own_go {A B : State} (f : ∀ t, Steps p.tables e below B t → Steps p.tables e below A t) (k : own_G p e s below Z Q cs sl B) : own_G p e s below Z Q cs sl A := by
  obtain ⟨t, o, h1, h2⟩ := k
  exact ⟨t, o, f t h1, h2⟩
/-- the run, wherever it stands in this body with this pc, these locals, this stack and this heap, comes back as Q says -/
def own_K (p : Program) (l : Launch) (e : Env) (R : Room) (s : State) (m : MethodId) (args : Array Value) (below : List Frame) (meth : Method) (c : Code) (bytes : ByteArray) (mx : Nat) (rt : Option FieldType) (own nm : String) (Z : State) (Q : Option Value → Heap → Prop)
    (pc : Nat) (ls : Array Slot) (st : List Value) (h : Heap) (cs sl : Nat) : Prop :=
  ∀ (vm0 : Vm) (k0 : Nat) (_ : s.Since vm0 k0) (_ : k0 ≤ h.size) (T : State) (L : List Loc), p.tables.exec = Jvm.exec → c.code = bytes → c.maxLocals = mx → meth.sig.returnType = rt → meth.locks = false → (s.setVm vm0).vm.findClass own = some m.cls → meth.name = nm → Z.Warmed39 (s.setVm vm0).vm →
    Stand p l e R (s.setVm vm0) m args below meth c T L cs sl → T.heap = h → Fr Z.heap.size L → Old Z Z.heap.size h → own_G p e s below Z Q R.cells R.slots (T.setTop (mkF m pc ls st))
/-- a body's contract, asked at the heap h0 -/
def own_Met (l : Launch) (Z : State) (y : MethodName) (bytes : ByteArray) (mx : Nat) (rt : Option FieldType) (ws : List Jvm.Cond) (rm : Room) (as : Array Value) (h0 : Heap) (Q : Option Value → Heap → Prop) : Prop :=
  Old Z Z.heap.size h0 → MetFree l y (head1 (Jvm.Cond.code y bytes mx rt :: ws) rm) (fun a U => a = as ∧ Z.Warmed39 U.vm ∧ U.heap = h0) (fun _ _ _ _ _ => True)
    (fun _ U o U' => ∃ v L, o = .returned v ∧ (Q v U'.heap ∧ Fr Z.heap.size L ∧ Old Z Z.heap.size U'.heap) ∧ ReturnedEndW U o U' L rm.cells rm.slots)
theorem own_hkW {h h' : Heap} {a : Addr} {i k : Nat} {v : Value} (hk : k ≤ h.size) (W : Wr h h' a i v) : k ≤ h'.size := by
  obtain ⟨c, -, -, -, rfl⟩ := W
  rw [Array.size_setIfInBounds]; exact hk
def own_some (Qv : Value → Heap → Prop) : Option Value → Heap → Prop := fun v h => ∃ x, v = some x ∧ Qv x h
def own_none (Qn : Heap → Prop) : Option Value → Heap → Prop := fun v h => v = none ∧ Qn h
theorem own_met {y : MethodName} {ws : List Jvm.Cond} {rm : Room} {as : Array Value} {h0 : Heap} {ls0 : Array Slot} (pn : plainFor y = true) (hef : ∀ m, entryFrame m as mx = mkF m 0 ls0 [])
    (body : ∀ p e s m below meth c, own_K p l e rm s m as below meth c bytes mx rt y.cls y.name Z Q 0 ls0 [] h0 0 0) : own_Met l Z y bytes mx rt ws rm as h0 Q := by
  intro O
  refine MetFree.of_bodySF pn hisR ?_
  intro p e s m args below meth c s₁ Bd hml0 hP hK
  obtain ⟨rfl, hZ, hh⟩ := hP
  have X0 : Stand p l e rm s m _ below meth c s₁ [] 0 0 := Stand.of_body Bd
  have e0 : s₁.heap = h0 := by rw [← hh, Bd.state]; rfl
  obtain ⟨t, o, h1, h2⟩ := body p e s m below meth c s₁.vm h0.size (X0.warmed.since _) (Nat.le_refl _) s₁ [] Bd.exec Bd.bytes hml0 Bd.returns Bd.notSynchronized (by rw [show (s.setVm s₁.vm).vm = s₁.vm from rfl, X0.warmed.alike.findClass]; exact findClass_of_methodNamed Bd.named) (name_of_methodNamed Bd.named Bd.method).1 (wtrans hZ X0.warmed) (X0.retabled X0.warmed.wide) e0 (Fr.nil _) O
  exact ⟨t, o, castTop (hef m) h1, h2⟩
theorem own_old (k : Old Z Z.heap.size h → own_K p l e R s m args below meth c bytes mx rt own nm Z Q pc ls st h cs sl) : own_K p l e R s m args below meth c bytes mx rt own nm Z Q pc ls st h cs sl := fun vm0 k0 hS hk T L a b c d e' f g i j n o q => k q vm0 k0 hS hk T L a b c d e' f g i j n o q
theorem own_more {cs' sl' : Nat} (h1 : cs ≤ cs') (h2 : sl ≤ sl') (k : own_K p l e R s m args below meth c bytes mx rt own nm Z Q pc ls st h cs' sl') : own_K p l e R s m args below meth c bytes mx rt own nm Z Q pc ls st h cs sl := fun vm0 k0 hS hk T L a b c d e' f g i X n o q =>
  k vm0 k0 hS hk T L a b c d e' f g i ⟨X.admits, X.cas, X.clock, X.frames, X.room, X.hears, X.method, X.code, X.here, X.tail, X.warmed, X.limits, X.bytes, X.same.mono h1 h2⟩ n o q
/-- roads that come together: what holds from there on is shown once -/
theorem own_join {α : Type} (P : α → Prop) (pc' : Nat) (ls' : α → Array Slot) (st' : α → List Value) (hh : α → Heap) (cs' sl' : Nat) (j : ∀ x, P x → own_K p l e R s m args below meth c bytes mx rt own nm Z Q pc' (ls' x) (st' x) (hh x) cs' sl') (k : (∀ x, P x → own_K p l e R s m args below meth c bytes mx rt own nm Z Q pc' (ls' x) (st' x) (hh x) cs' sl') → own_K p l e R s m args below meth c bytes mx rt own nm Z Q pc ls st h cs sl) : own_K p l e R s m args below meth c bytes mx rt own nm Z Q pc ls st h cs sl := k j
/-- a loop's head: by induction over the turns left -/
theorem own_loop {α : Type} (P : Nat → α → Prop) (pc' : Nat) (ls' : α → Array Slot) (st' : α → List Value) (hh : α → Heap) (cs' sl' : Nat)
    (step : ∀ d x, P d x → (∀ d' x', d' < d → P d' x' → own_K p l e R s m args below meth c bytes mx rt own nm Z Q pc' (ls' x') (st' x') (hh x') cs' sl') → own_K p l e R s m args below meth c bytes mx rt own nm Z Q pc' (ls' x) (st' x) (hh x) cs' sl')
    (k : (∀ d x, P d x → own_K p l e R s m args below meth c bytes mx rt own nm Z Q pc' (ls' x) (st' x) (hh x) cs' sl') → own_K p l e R s m args below meth c bytes mx rt own nm Z Q pc ls st h cs sl) : own_K p l e R s m args below meth c bytes mx rt own nm Z Q pc ls st h cs sl :=
  k fun d => Nat.strongRecOn d fun d ih x hx => step d x hx fun d' x' hd hx' => ih d' hd x' hx'
/-- one plain step -/
theorem own_xs {r : Except ClassFile.DecodeError (ClassFile.Instr × Nat)} {pc' : Nat} {ls' : Array Slot} {st' : List Value} (hd : decode bytes pc = r)
    (k : own_K p l e R s m args below meth c bytes mx rt own nm Z Q pc' ls' st' h cs sl)
    (f : ∀ (T t : State), At T m c below → p.tables.exec = Jvm.exec → decode c.code pc = r → Steps p.tables e below (T.setTop (mkF m pc' ls' st')) t → Steps p.tables e below (T.setTop (mkF m pc ls st)) t) : own_K p l e R s m args below meth c bytes mx rt own nm Z Q pc ls st h cs sl := fun vm0 k0 hS hk T L hx hby hml hrt hlk hown hnm hZ X eT N O =>
  own_go (fun t q => f T t X.here hx (hb hby hd) q) (k vm0 k0 hS hk T L hx hby hml hrt hlk hown hnm hZ X eT N O)
theorem own_nop {A : Prop} (h : A) : A := h
-- loads and stores
theorem own_iloadN (pc' : Nat) (hp : pc + 1 = pc') {k : Fin 4} {v : Int32} (hd : decode bytes pc = .ok (.iload_n k, 1)) (hl : ls[k.val]? = some (.val (.int v))) (q : own_K p l e R s m args below meth c bytes mx rt own nm Z Q pc' ls (.int v :: st) h cs sl) : own_K p l e R s m args below meth c bytes mx rt own nm Z Q pc ls st h cs sl := by subst hp; exact own_xs hd q (fun T t ha hx hd => XS.iloadN (g := mkF m pc ls st) ha hx rfl hd hl)
theorem own_iload (pc' : Nat) (hp : pc + 2 = pc') {k : Nat} {v : Int32} (hd : decode bytes pc = .ok (.iload k, 2)) (hl : ls[k]? = some (.val (.int v))) (q : own_K p l e R s m args below meth c bytes mx rt own nm Z Q pc' ls (.int v :: st) h cs sl) : own_K p l e R s m args below meth c bytes mx rt own nm Z Q pc ls st h cs sl := by subst hp; exact own_xs hd q (fun T t ha hx hd => XS.iload (g := mkF m pc ls st) ha hx rfl hd hl)
theorem own_lloadN (pc' : Nat) (hp : pc + 1 = pc') {k : Fin 4} {v : Int64} (hd : decode bytes pc = .ok (.lload_n k, 1)) (hl : ls[k.val]? = some (.val (.long v))) (q : own_K p l e R s m args below meth c bytes mx rt own nm Z Q pc' ls (.long v :: st) h cs sl) : own_K p l e R s m args below meth c bytes mx rt own nm Z Q pc ls st h cs sl := by subst hp; exact own_xs hd q (fun T t ha hx hd => XS.lloadN (g := mkF m pc ls st) ha hx rfl hd hl)
theorem own_lload (pc' : Nat) (hp : pc + 2 = pc') {k : Nat} {v : Int64} (hd : decode bytes pc = .ok (.lload k, 2)) (hl : ls[k]? = some (.val (.long v))) (q : own_K p l e R s m args below meth c bytes mx rt own nm Z Q pc' ls (.long v :: st) h cs sl) : own_K p l e R s m args below meth c bytes mx rt own nm Z Q pc ls st h cs sl := by subst hp; exact own_xs hd q (fun T t ha hx hd => XS.lload (g := mkF m pc ls st) ha hx rfl hd hl)
theorem own_aloadN (pc' : Nat) (hp : pc + 1 = pc') {k : Fin 4} {v : Value} (hd : decode bytes pc = .ok (.aload_n k, 1)) (hl : ls[k.val]? = some (.val v)) (hv : v.isRef = true) (q : own_K p l e R s m args below meth c bytes mx rt own nm Z Q pc' ls (v :: st) h cs sl) : own_K p l e R s m args below meth c bytes mx rt own nm Z Q pc ls st h cs sl := by subst hp; exact own_xs hd q (fun T t ha hx hd => XS.aloadN (g := mkF m pc ls st) ha hx rfl hd hl hv)
theorem own_aload (pc' : Nat) (hp : pc + 2 = pc') {k : Nat} {v : Value} (hd : decode bytes pc = .ok (.aload k, 2)) (hl : ls[k]? = some (.val v)) (hv : v.isRef = true) (q : own_K p l e R s m args below meth c bytes mx rt own nm Z Q pc' ls (v :: st) h cs sl) : own_K p l e R s m args below meth c bytes mx rt own nm Z Q pc ls st h cs sl := by subst hp; exact own_xs hd q (fun T t ha hx hd => XS.aload (g := mkF m pc ls st) ha hx rfl hd hl hv)
theorem own_istoreN (pc' : Nat) (hp : pc + 1 = pc') (ls' : Array Slot) {k : Fin 4} {v : Int32} (hd : decode bytes pc = .ok (.istore_n k, 1)) (hl : storeLocals ls k.val (.int v) = some ls') (q : own_K p l e R s m args below meth c bytes mx rt own nm Z Q pc' ls' st h cs sl) : own_K p l e R s m args below meth c bytes mx rt own nm Z Q pc ls (.int v :: st) h cs sl := by subst hp; exact own_xs hd q (fun T t ha hx hd => XS.istoreN (g := mkF m pc ls (.int v :: st)) ha hx rfl hd rfl hl)
theorem own_istore (pc' : Nat) (hp : pc + 2 = pc') (ls' : Array Slot) {k : Nat} {v : Int32} (hd : decode bytes pc = .ok (.istore k, 2)) (hl : storeLocals ls k (.int v) = some ls') (q : own_K p l e R s m args below meth c bytes mx rt own nm Z Q pc' ls' st h cs sl) : own_K p l e R s m args below meth c bytes mx rt own nm Z Q pc ls (.int v :: st) h cs sl := by subst hp; exact own_xs hd q (fun T t ha hx hd => XS.istore (g := mkF m pc ls (.int v :: st)) ha hx rfl hd rfl hl)
theorem own_lstoreN (pc' : Nat) (hp : pc + 1 = pc') (ls' : Array Slot) {k : Fin 4} {v : Int64} (hd : decode bytes pc = .ok (.lstore_n k, 1)) (hl : storeLocals ls k.val (.long v) = some ls') (q : own_K p l e R s m args below meth c bytes mx rt own nm Z Q pc' ls' st h cs sl) : own_K p l e R s m args below meth c bytes mx rt own nm Z Q pc ls (.long v :: st) h cs sl := by subst hp; exact own_xs hd q (fun T t ha hx hd => XS.lstoreN (g := mkF m pc ls (.long v :: st)) ha hx rfl hd rfl hl)
theorem own_lstore (pc' : Nat) (hp : pc + 2 = pc') (ls' : Array Slot) {k : Nat} {v : Int64} (hd : decode bytes pc = .ok (.lstore k, 2)) (hl : storeLocals ls k (.long v) = some ls') (q : own_K p l e R s m args below meth c bytes mx rt own nm Z Q pc' ls' st h cs sl) : own_K p l e R s m args below meth c bytes mx rt own nm Z Q pc ls (.long v :: st) h cs sl := by subst hp; exact own_xs hd q (fun T t ha hx hd => XS.lstore (g := mkF m pc ls (.long v :: st)) ha hx rfl hd rfl hl)
theorem own_astoreN (pc' : Nat) (hp : pc + 1 = pc') (ls' : Array Slot) {k : Fin 4} {v : Value} (hd : decode bytes pc = .ok (.astore_n k, 1)) (hv : v.isRef = true) (hl : storeLocals ls k.val v = some ls') (q : own_K p l e R s m args below meth c bytes mx rt own nm Z Q pc' ls' st h cs sl) : own_K p l e R s m args below meth c bytes mx rt own nm Z Q pc ls (v :: st) h cs sl := by subst hp; exact own_xs hd q (fun T t ha hx hd => XS.astoreN (g := mkF m pc ls (v :: st)) ha hx rfl hd rfl hv hl)
theorem own_astore (pc' : Nat) (hp : pc + 2 = pc') (ls' : Array Slot) {k : Nat} {v : Value} (hd : decode bytes pc = .ok (.astore k, 2)) (hv : v.isRef = true) (hl : storeLocals ls k v = some ls') (q : own_K p l e R s m args below meth c bytes mx rt own nm Z Q pc' ls' st h cs sl) : own_K p l e R s m args below meth c bytes mx rt own nm Z Q pc ls (v :: st) h cs sl := by subst hp; exact own_xs hd q (fun T t ha hx hd => XS.astore (g := mkF m pc ls (v :: st)) ha hx rfl hd rfl hv hl)
theorem own_iinc (pc' : Nat) (hp : pc + 3 = pc') (ls' : Array Slot) {k : Nat} {i : Int} {x : Int32} (v : Int32) (hd : decode bytes pc = .ok (.iinc k i, 3)) (hv : Int32.ofInt i = v) (hl : ls[k]? = some (.val (.int x))) (hl' : storeLocals ls k (.int (x + v)) = some ls') (q : own_K p l e R s m args below meth c bytes mx rt own nm Z Q pc' ls' st h cs sl) : own_K p l e R s m args below meth c bytes mx rt own nm Z Q pc ls st h cs sl := by subst hp; subst hv; exact own_xs hd q (fun T t ha hx hd => XS.iinc (g := mkF m pc ls st) ha hx rfl hd hl hl')
-- constants
theorem own_iconst (pc' : Nat) (hp : pc + 1 = pc') (v : Int32) {i : Int} (hd : decode bytes pc = .ok (.iconst i, 1)) (hv : Int32.ofInt i = v) (q : own_K p l e R s m args below meth c bytes mx rt own nm Z Q pc' ls (.int v :: st) h cs sl) : own_K p l e R s m args below meth c bytes mx rt own nm Z Q pc ls st h cs sl := by subst hp; subst hv; exact own_xs hd q (fun T t ha hx hd => XS.iconst (g := mkF m pc ls st) ha hx rfl hd)
theorem own_bipush (pc' : Nat) (hp : pc + 2 = pc') (v : Int32) {i : Int} (hd : decode bytes pc = .ok (.bipush i, 2)) (hv : (Int8.ofInt i).toInt32 = v) (q : own_K p l e R s m args below meth c bytes mx rt own nm Z Q pc' ls (.int v :: st) h cs sl) : own_K p l e R s m args below meth c bytes mx rt own nm Z Q pc ls st h cs sl := by subst hp; subst hv; exact own_xs hd q (fun T t ha hx hd => XS.bipush (g := mkF m pc ls st) ha hx rfl hd)
theorem own_sipush (pc' : Nat) (hp : pc + 3 = pc') (v : Int32) {i : Int} (hd : decode bytes pc = .ok (.sipush i, 3)) (hv : (Int16.ofInt i).toInt32 = v) (q : own_K p l e R s m args below meth c bytes mx rt own nm Z Q pc' ls (.int v :: st) h cs sl) : own_K p l e R s m args below meth c bytes mx rt own nm Z Q pc ls st h cs sl := by subst hp; subst hv; exact own_xs hd q (fun T t ha hx hd => XS.sipush (g := mkF m pc ls st) ha hx rfl hd)
theorem own_lconst (pc' : Nat) (hp : pc + 1 = pc') (v : Int64) {i : Fin 2} (hd : decode bytes pc = .ok (.lconst i, 1)) (hv : Int64.ofNat i = v) (q : own_K p l e R s m args below meth c bytes mx rt own nm Z Q pc' ls (.long v :: st) h cs sl) : own_K p l e R s m args below meth c bytes mx rt own nm Z Q pc ls st h cs sl := by subst hp; subst hv; exact own_xs hd q (fun T t ha hx hd => XT.lconst (g := mkF m pc ls st) ha hx rfl hd)
theorem own_aconstNull (pc' : Nat) (hp : pc + 1 = pc') (hd : decode bytes pc = .ok (.aconst_null, 1)) (q : own_K p l e R s m args below meth c bytes mx rt own nm Z Q pc' ls (.null :: st) h cs sl) : own_K p l e R s m args below meth c bytes mx rt own nm Z Q pc ls st h cs sl := by subst hp; exact own_xs hd q (fun T t ha hx hd => XS.aconstNull (g := mkF m pc ls st) ha hx rfl hd)
theorem own_ldcInt (pc' : Nat) (hp : pc + 2 = pc') {v : Int32} {index : Nat} (w : (Jvm.Cond.constant own index v).before a0 Z = true) (hd : decode bytes pc = .ok (.ldc index, 2)) (q : own_K p l e R s m args below meth c bytes mx rt own nm Z Q pc' ls (.int v :: st) h cs sl) : own_K p l e R s m args below meth c bytes mx rt own nm Z Q pc ls st h cs sl := fun vm0 k0 hS hk T L hx hby hml hrt hlk hown hnm hZ X eT N O => by
  subst hp; exact own_go (X.ldcInt hx hown (mvT hZ w) (g := mkF m pc ls st) rfl (hb hby hd)) (q vm0 k0 hS hk T L hx hby hml hrt hlk hown hnm hZ X eT N O)
theorem own_ldc2Long (pc' : Nat) (hp : pc + 3 = pc') {v : Int64} {index : Nat} (w : (Jvm.Cond.constantLong own index v).before a0 Z = true) (hd : decode bytes pc = .ok (.ldc2_w index, 3)) (q : own_K p l e R s m args below meth c bytes mx rt own nm Z Q pc' ls (.long v :: st) h cs sl) : own_K p l e R s m args below meth c bytes mx rt own nm Z Q pc ls st h cs sl := fun vm0 k0 hS hk T L hx hby hml hrt hlk hown hnm hZ X eT N O => by
  subst hp; exact own_go (X.ldc2Long hx hown (mvT hZ w) (g := mkF m pc ls st) rfl (hb hby hd)) (q vm0 k0 hS hk T L hx hby hml hrt hlk hown hnm hZ X eT N O)
theorem own_ldcFloat (pc' : Nat) (hp : pc + 2 = pc') {b : UInt32} {index : Nat} (w : (Jvm.Cond.constantFloat own index b).before a0 Z = true) (hd : decode bytes pc = .ok (.ldc index, 2)) (q : own_K p l e R s m args below meth c bytes mx rt own nm Z Q pc' ls (.float b :: st) h cs sl) : own_K p l e R s m args below meth c bytes mx rt own nm Z Q pc ls st h cs sl := fun vm0 k0 hS hk T L hx hby hml hrt hlk hown hnm hZ X eT N O => by
  subst hp; exact own_go (X.ldcFloatC hx hown (mvT hZ w) (g := mkF m pc ls st) rfl (hb hby hd)) (q vm0 k0 hS hk T L hx hby hml hrt hlk hown hnm hZ X eT N O)
-- arithmetic
theorem own_iadd (pc' : Nat) (hp : pc + 1 = pc') {x y : Int32} (hd : decode bytes pc = .ok (.iadd, 1)) (q : own_K p l e R s m args below meth c bytes mx rt own nm Z Q pc' ls (.int (x + y) :: st) h cs sl) : own_K p l e R s m args below meth c bytes mx rt own nm Z Q pc ls (.int y :: .int x :: st) h cs sl := by subst hp; exact own_xs hd q (fun T t ha hx hd => XS.iadd (g := mkF m pc ls (.int y :: .int x :: st)) ha hx rfl hd rfl)
theorem own_isub (pc' : Nat) (hp : pc + 1 = pc') {x y : Int32} (hd : decode bytes pc = .ok (.isub, 1)) (q : own_K p l e R s m args below meth c bytes mx rt own nm Z Q pc' ls (.int (x - y) :: st) h cs sl) : own_K p l e R s m args below meth c bytes mx rt own nm Z Q pc ls (.int y :: .int x :: st) h cs sl := by subst hp; exact own_xs hd q (fun T t ha hx hd => XS.isub (g := mkF m pc ls (.int y :: .int x :: st)) ha hx rfl hd rfl)
theorem own_imul (pc' : Nat) (hp : pc + 1 = pc') {x y : Int32} (hd : decode bytes pc = .ok (.imul, 1)) (q : own_K p l e R s m args below meth c bytes mx rt own nm Z Q pc' ls (.int (x * y) :: st) h cs sl) : own_K p l e R s m args below meth c bytes mx rt own nm Z Q pc ls (.int y :: .int x :: st) h cs sl := by subst hp; exact own_xs hd q (fun T t ha hx hd => XS.imul (g := mkF m pc ls (.int y :: .int x :: st)) ha hx rfl hd rfl)
theorem own_iand (pc' : Nat) (hp : pc + 1 = pc') {x y : Int32} (hd : decode bytes pc = .ok (.iand, 1)) (q : own_K p l e R s m args below meth c bytes mx rt own nm Z Q pc' ls (.int (x &&& y) :: st) h cs sl) : own_K p l e R s m args below meth c bytes mx rt own nm Z Q pc ls (.int y :: .int x :: st) h cs sl := by subst hp; exact own_xs hd q (fun T t ha hx hd => XS.iand (g := mkF m pc ls (.int y :: .int x :: st)) ha hx rfl hd rfl)
theorem own_ior (pc' : Nat) (hp : pc + 1 = pc') {x y : Int32} (hd : decode bytes pc = .ok (.ior, 1)) (q : own_K p l e R s m args below meth c bytes mx rt own nm Z Q pc' ls (.int (x ||| y) :: st) h cs sl) : own_K p l e R s m args below meth c bytes mx rt own nm Z Q pc ls (.int y :: .int x :: st) h cs sl := by subst hp; exact own_xs hd q (fun T t ha hx hd => XS.ior (g := mkF m pc ls (.int y :: .int x :: st)) ha hx rfl hd rfl)
theorem own_ixor (pc' : Nat) (hp : pc + 1 = pc') {x y : Int32} (hd : decode bytes pc = .ok (.ixor, 1)) (q : own_K p l e R s m args below meth c bytes mx rt own nm Z Q pc' ls (.int (x ^^^ y) :: st) h cs sl) : own_K p l e R s m args below meth c bytes mx rt own nm Z Q pc ls (.int y :: .int x :: st) h cs sl := by subst hp; exact own_xs hd q (fun T t ha hx hd => XS.ixor (g := mkF m pc ls (.int y :: .int x :: st)) ha hx rfl hd rfl)
theorem own_idiv (pc' : Nat) (hp : pc + 1 = pc') {x y : Int32} (hd : decode bytes pc = .ok (.idiv, 1)) (hy : y ≠ 0) (q : own_K p l e R s m args below meth c bytes mx rt own nm Z Q pc' ls (.int (x / y) :: st) h cs sl) : own_K p l e R s m args below meth c bytes mx rt own nm Z Q pc ls (.int y :: .int x :: st) h cs sl := by subst hp; exact own_xs hd q (fun T t ha hx hd => XS.idiv (g := mkF m pc ls (.int y :: .int x :: st)) ha hx rfl hd rfl hy)
theorem own_irem (pc' : Nat) (hp : pc + 1 = pc') {x y : Int32} (hd : decode bytes pc = .ok (.irem, 1)) (hy : y ≠ 0) (q : own_K p l e R s m args below meth c bytes mx rt own nm Z Q pc' ls (.int (x % y) :: st) h cs sl) : own_K p l e R s m args below meth c bytes mx rt own nm Z Q pc ls (.int y :: .int x :: st) h cs sl := fun vm0 k0 hS hk T L hx hby hml hrt hlk hown hnm hZ X eT N O => by
  subst hp; exact own_go (fun t k => iremM (g := mkF m pc ls (.int y :: .int x :: st)) X hx rfl (hb hby hd) rfl hy k) (q vm0 k0 hS hk T L hx hby hml hrt hlk hown hnm hZ X eT N O)
theorem own_ineg (pc' : Nat) (hp : pc + 1 = pc') {x : Int32} (hd : decode bytes pc = .ok (.ineg, 1)) (q : own_K p l e R s m args below meth c bytes mx rt own nm Z Q pc' ls (.int (-x) :: st) h cs sl) : own_K p l e R s m args below meth c bytes mx rt own nm Z Q pc ls (.int x :: st) h cs sl := by subst hp; exact own_xs hd q (fun T t ha hx hd => XS.ineg (g := mkF m pc ls (.int x :: st)) ha hx rfl hd rfl)
theorem own_ishl (pc' : Nat) (hp : pc + 1 = pc') {x y : Int32} (hd : decode bytes pc = .ok (.ishl, 1)) (q : own_K p l e R s m args below meth c bytes mx rt own nm Z Q pc' ls (.int (x <<< (y &&& 31)) :: st) h cs sl) : own_K p l e R s m args below meth c bytes mx rt own nm Z Q pc ls (.int y :: .int x :: st) h cs sl := by subst hp; exact own_xs hd q (fun T t ha hx hd => XS.ishl (g := mkF m pc ls (.int y :: .int x :: st)) ha hx rfl hd rfl)
theorem own_ishr (pc' : Nat) (hp : pc + 1 = pc') {x y : Int32} (hd : decode bytes pc = .ok (.ishr, 1)) (q : own_K p l e R s m args below meth c bytes mx rt own nm Z Q pc' ls (.int (x >>> (y &&& 31)) :: st) h cs sl) : own_K p l e R s m args below meth c bytes mx rt own nm Z Q pc ls (.int y :: .int x :: st) h cs sl := by subst hp; exact own_xs hd q (fun T t ha hx hd => XS.ishr (g := mkF m pc ls (.int y :: .int x :: st)) ha hx rfl hd rfl)
theorem own_iushr (pc' : Nat) (hp : pc + 1 = pc') {x y : Int32} (hd : decode bytes pc = .ok (.iushr, 1)) (q : own_K p l e R s m args below meth c bytes mx rt own nm Z Q pc' ls (.int ((x.toUInt32 >>> (y &&& 31).toUInt32).toInt32) :: st) h cs sl) : own_K p l e R s m args below meth c bytes mx rt own nm Z Q pc ls (.int y :: .int x :: st) h cs sl := by subst hp; exact own_xs hd q (fun T t ha hx hd => XS.iushr (g := mkF m pc ls (.int y :: .int x :: st)) ha hx rfl hd rfl)
theorem own_i2l (pc' : Nat) (hp : pc + 1 = pc') {x : Int32} (hd : decode bytes pc = .ok (.i2l, 1)) (q : own_K p l e R s m args below meth c bytes mx rt own nm Z Q pc' ls (.long x.toInt64 :: st) h cs sl) : own_K p l e R s m args below meth c bytes mx rt own nm Z Q pc ls (.int x :: st) h cs sl := by subst hp; exact own_xs hd q (fun T t ha hx hd => XS.i2l (g := mkF m pc ls (.int x :: st)) ha hx rfl hd rfl)
theorem own_l2i (pc' : Nat) (hp : pc + 1 = pc') {x : Int64} (hd : decode bytes pc = .ok (.l2i, 1)) (q : own_K p l e R s m args below meth c bytes mx rt own nm Z Q pc' ls (.int x.toInt32 :: st) h cs sl) : own_K p l e R s m args below meth c bytes mx rt own nm Z Q pc ls (.long x :: st) h cs sl := by subst hp; exact own_xs hd q (fun T t ha hx hd => XS.l2i (g := mkF m pc ls (.long x :: st)) ha hx rfl hd rfl)
theorem own_i2b (pc' : Nat) (hp : pc + 1 = pc') {x : Int32} (hd : decode bytes pc = .ok (.i2b, 1)) (q : own_K p l e R s m args below meth c bytes mx rt own nm Z Q pc' ls (.int x.toInt8.toInt32 :: st) h cs sl) : own_K p l e R s m args below meth c bytes mx rt own nm Z Q pc ls (.int x :: st) h cs sl := by subst hp; exact own_xs hd q (fun T t ha hx hd => XS.i2b (g := mkF m pc ls (.int x :: st)) ha hx rfl hd rfl)
theorem own_i2c (pc' : Nat) (hp : pc + 1 = pc') {x : Int32} (hd : decode bytes pc = .ok (.i2c, 1)) (q : own_K p l e R s m args below meth c bytes mx rt own nm Z Q pc' ls (.int x.toUInt32.toUInt16.toUInt32.toInt32 :: st) h cs sl) : own_K p l e R s m args below meth c bytes mx rt own nm Z Q pc ls (.int x :: st) h cs sl := by subst hp; exact own_xs hd q (fun T t ha hx hd => XS.i2c (g := mkF m pc ls (.int x :: st)) ha hx rfl hd rfl)
theorem own_ladd (pc' : Nat) (hp : pc + 1 = pc') {x y : Int64} (hd : decode bytes pc = .ok (.ladd, 1)) (q : own_K p l e R s m args below meth c bytes mx rt own nm Z Q pc' ls (.long (x + y) :: st) h cs sl) : own_K p l e R s m args below meth c bytes mx rt own nm Z Q pc ls (.long y :: .long x :: st) h cs sl := by subst hp; exact own_xs hd q (fun T t ha hx hd => XS.ladd (g := mkF m pc ls (.long y :: .long x :: st)) ha hx rfl hd rfl)
theorem own_lsub (pc' : Nat) (hp : pc + 1 = pc') {x y : Int64} (hd : decode bytes pc = .ok (.lsub, 1)) (q : own_K p l e R s m args below meth c bytes mx rt own nm Z Q pc' ls (.long (x - y) :: st) h cs sl) : own_K p l e R s m args below meth c bytes mx rt own nm Z Q pc ls (.long y :: .long x :: st) h cs sl := by subst hp; exact own_xs hd q (fun T t ha hx hd => XS.lsub (g := mkF m pc ls (.long y :: .long x :: st)) ha hx rfl hd rfl)
theorem own_lmul (pc' : Nat) (hp : pc + 1 = pc') {x y : Int64} (hd : decode bytes pc = .ok (.lmul, 1)) (q : own_K p l e R s m args below meth c bytes mx rt own nm Z Q pc' ls (.long (x * y) :: st) h cs sl) : own_K p l e R s m args below meth c bytes mx rt own nm Z Q pc ls (.long y :: .long x :: st) h cs sl := by subst hp; exact own_xs hd q (fun T t ha hx hd => XS.lmul (g := mkF m pc ls (.long y :: .long x :: st)) ha hx rfl hd rfl)
theorem own_land (pc' : Nat) (hp : pc + 1 = pc') {x y : Int64} (hd : decode bytes pc = .ok (.land, 1)) (q : own_K p l e R s m args below meth c bytes mx rt own nm Z Q pc' ls (.long (x &&& y) :: st) h cs sl) : own_K p l e R s m args below meth c bytes mx rt own nm Z Q pc ls (.long y :: .long x :: st) h cs sl := by subst hp; exact own_xs hd q (fun T t ha hx hd => XS.land (g := mkF m pc ls (.long y :: .long x :: st)) ha hx rfl hd rfl)
theorem own_lxor (pc' : Nat) (hp : pc + 1 = pc') {x y : Int64} (hd : decode bytes pc = .ok (.lxor, 1)) (q : own_K p l e R s m args below meth c bytes mx rt own nm Z Q pc' ls (.long (x ^^^ y) :: st) h cs sl) : own_K p l e R s m args below meth c bytes mx rt own nm Z Q pc ls (.long y :: .long x :: st) h cs sl := by subst hp; exact own_xs hd q (fun T t ha hx hd => XS.lxor (g := mkF m pc ls (.long y :: .long x :: st)) ha hx rfl hd rfl)
theorem own_ldiv (pc' : Nat) (hp : pc + 1 = pc') {x y : Int64} (hd : decode bytes pc = .ok (.ldiv, 1)) (hy : y ≠ 0) (q : own_K p l e R s m args below meth c bytes mx rt own nm Z Q pc' ls (.long (x / y) :: st) h cs sl) : own_K p l e R s m args below meth c bytes mx rt own nm Z Q pc ls (.long y :: .long x :: st) h cs sl := by subst hp; exact own_xs hd q (fun T t ha hx hd => XS.ldiv (g := mkF m pc ls (.long y :: .long x :: st)) ha hx rfl hd rfl hy)
theorem own_lrem (pc' : Nat) (hp : pc + 1 = pc') {x y : Int64} (hd : decode bytes pc = .ok (.lrem, 1)) (hy : y ≠ 0) (q : own_K p l e R s m args below meth c bytes mx rt own nm Z Q pc' ls (.long (x % y) :: st) h cs sl) : own_K p l e R s m args below meth c bytes mx rt own nm Z Q pc ls (.long y :: .long x :: st) h cs sl := by subst hp; rw [← lrem_mod] at q; exact own_xs hd q (fun T t ha hx hd => XT.lrem (g := mkF m pc ls (.long y :: .long x :: st)) ha hx rfl hd rfl hy)
theorem own_lneg (pc' : Nat) (hp : pc + 1 = pc') {x : Int64} (hd : decode bytes pc = .ok (.lneg, 1)) (q : own_K p l e R s m args below meth c bytes mx rt own nm Z Q pc' ls (.long (-x) :: st) h cs sl) : own_K p l e R s m args below meth c bytes mx rt own nm Z Q pc ls (.long x :: st) h cs sl := by subst hp; exact own_xs hd q (fun T t ha hx hd => XS.lneg (g := mkF m pc ls (.long x :: st)) ha hx rfl hd rfl)
theorem own_lcmp (pc' : Nat) (hp : pc + 1 = pc') {x y : Int64} (hd : decode bytes pc = .ok (.lcmp, 1)) (q : own_K p l e R s m args below meth c bytes mx rt own nm Z Q pc' ls (.int (lcmpW x y) :: st) h cs sl) : own_K p l e R s m args below meth c bytes mx rt own nm Z Q pc ls (.long y :: .long x :: st) h cs sl := by subst hp; exact own_xs hd q (fun T t ha hx hd => XS.lcmp (g := mkF m pc ls (.long y :: .long x :: st)) ha hx rfl hd rfl)
-- the stack
theorem own_dup (pc' : Nat) (hp : pc + 1 = pc') {x : Value} (hd : decode bytes pc = .ok (.dup, 1)) (hc : x.category = 1) (q : own_K p l e R s m args below meth c bytes mx rt own nm Z Q pc' ls (x :: x :: st) h cs sl) : own_K p l e R s m args below meth c bytes mx rt own nm Z Q pc ls (x :: st) h cs sl := by subst hp; exact own_xs hd q (fun T t ha hx hd => XS.dup (g := mkF m pc ls (x :: st)) ha hx rfl hd rfl hc)
theorem own_pop (pc' : Nat) (hp : pc + 1 = pc') {x : Value} (hd : decode bytes pc = .ok (.pop, 1)) (hc : x.category = 1) (q : own_K p l e R s m args below meth c bytes mx rt own nm Z Q pc' ls st h cs sl) : own_K p l e R s m args below meth c bytes mx rt own nm Z Q pc ls (x :: st) h cs sl := by subst hp; exact own_xs hd q (fun T t ha hx hd => XS.pop (g := mkF m pc ls (x :: st)) ha hx rfl hd rfl hc)
theorem own_dupX1 (pc' : Nat) (hp : pc + 1 = pc') {x y : Value} (hd : decode bytes pc = .ok (.dup_x1, 1)) (hc : x.category = 1) (hc' : y.category = 1) (q : own_K p l e R s m args below meth c bytes mx rt own nm Z Q pc' ls (x :: y :: x :: st) h cs sl) : own_K p l e R s m args below meth c bytes mx rt own nm Z Q pc ls (x :: y :: st) h cs sl := by subst hp; exact own_xs hd q (fun T t ha hx hd => XT.dupX1 (g := mkF m pc ls (x :: y :: st)) ha hx rfl hd rfl hc hc')
theorem own_dup2 (pc' : Nat) (hp : pc + 1 = pc') {x y : Value} (hd : decode bytes pc = .ok (.dup2, 1)) (hc : x.category = 1) (hc' : y.category = 1) (q : own_K p l e R s m args below meth c bytes mx rt own nm Z Q pc' ls (x :: y :: x :: y :: st) h cs sl) : own_K p l e R s m args below meth c bytes mx rt own nm Z Q pc ls (x :: y :: st) h cs sl := by subst hp; exact own_xs hd q (fun T t ha hx hd => XT.dup2 (g := mkF m pc ls (x :: y :: st)) ha hx rfl hd rfl hc hc')
-- branches
theorem own_goto (pc' : Nat) {o : Int} (hd : decode bytes pc = .ok (.goto o, 3)) (ho : 0 ≤ (pc : Int) + o) (hp : ((pc : Int) + o).toNat = pc') (q : own_K p l e R s m args below meth c bytes mx rt own nm Z Q pc' ls st h cs sl) : own_K p l e R s m args below meth c bytes mx rt own nm Z Q pc ls st h cs sl := own_xs hd q (fun T t ha hx hd => XS.goto (g := mkF m pc ls st) ha hx rfl rfl hd ho hp)
theorem own_ifYes (pc' : Nat) {cd : ClassFile.Cond} {x : Int32} {o : Int} (hd : decode bytes pc = .ok (.ifCond cd o, 3)) (hc : if_icmp.holds cd x 0 = true) (ho : 0 ≤ (pc : Int) + o) (hp : ((pc : Int) + o).toNat = pc') (q : own_K p l e R s m args below meth c bytes mx rt own nm Z Q pc' ls st h cs sl) : own_K p l e R s m args below meth c bytes mx rt own nm Z Q pc ls (.int x :: st) h cs sl := own_xs hd q (fun T t ha hx hd => XS.ifYes (g := mkF m pc ls (.int x :: st)) ha hx rfl rfl hd rfl ((if0 _ _).trans hc) ho hp)
theorem own_ifNo (pc' : Nat) (hp : pc + 3 = pc') {cd : ClassFile.Cond} {x : Int32} {o : Int} (hd : decode bytes pc = .ok (.ifCond cd o, 3)) (hc : if_icmp.holds cd x 0 = false) (q : own_K p l e R s m args below meth c bytes mx rt own nm Z Q pc' ls st h cs sl) : own_K p l e R s m args below meth c bytes mx rt own nm Z Q pc ls (.int x :: st) h cs sl := by subst hp; exact own_xs hd q (fun T t ha hx hd => XS.ifNo (g := mkF m pc ls (.int x :: st)) ha hx rfl hd rfl ((if0 _ _).trans hc))
theorem own_icmpYes (pc' : Nat) {cd : ClassFile.Cond} {x y : Int32} {o : Int} (hd : decode bytes pc = .ok (.if_icmp cd o, 3)) (hc : if_icmp.holds cd x y = true) (ho : 0 ≤ (pc : Int) + o) (hp : ((pc : Int) + o).toNat = pc') (q : own_K p l e R s m args below meth c bytes mx rt own nm Z Q pc' ls st h cs sl) : own_K p l e R s m args below meth c bytes mx rt own nm Z Q pc ls (.int y :: .int x :: st) h cs sl := own_xs hd q (fun T t ha hx hd => XS.icmpYes (g := mkF m pc ls (.int y :: .int x :: st)) ha hx rfl rfl hd rfl hc ho hp)
theorem own_icmpNo (pc' : Nat) (hp : pc + 3 = pc') {cd : ClassFile.Cond} {x y : Int32} {o : Int} (hd : decode bytes pc = .ok (.if_icmp cd o, 3)) (hc : if_icmp.holds cd x y = false) (q : own_K p l e R s m args below meth c bytes mx rt own nm Z Q pc' ls st h cs sl) : own_K p l e R s m args below meth c bytes mx rt own nm Z Q pc ls (.int y :: .int x :: st) h cs sl := by subst hp; exact own_xs hd q (fun T t ha hx hd => XS.icmpNo (g := mkF m pc ls (.int y :: .int x :: st)) ha hx rfl hd rfl hc)
theorem own_acmpYes (pc' : Nat) {cd : ClassFile.ACond} {x y : Value} {o : Int} (hd : decode bytes pc = .ok (.if_acmp cd o, 3)) (hx' : x.isRef = true) (hy' : y.isRef = true) (hc : XT.acmp cd x y = true) (ho : 0 ≤ (pc : Int) + o) (hp : ((pc : Int) + o).toNat = pc') (q : own_K p l e R s m args below meth c bytes mx rt own nm Z Q pc' ls st h cs sl) : own_K p l e R s m args below meth c bytes mx rt own nm Z Q pc ls (y :: x :: st) h cs sl := own_xs hd q (fun T t ha hx hd => XT.acmpYes (g := mkF m pc ls (y :: x :: st)) ha hx rfl rfl hd rfl hx' hy' hc ho hp)
theorem own_acmpNo (pc' : Nat) (hp : pc + 3 = pc') {cd : ClassFile.ACond} {x y : Value} {o : Int} (hd : decode bytes pc = .ok (.if_acmp cd o, 3)) (hx' : x.isRef = true) (hy' : y.isRef = true) (hc : XT.acmp cd x y = false) (q : own_K p l e R s m args below meth c bytes mx rt own nm Z Q pc' ls st h cs sl) : own_K p l e R s m args below meth c bytes mx rt own nm Z Q pc ls (y :: x :: st) h cs sl := by subst hp; exact own_xs hd q (fun T t ha hx hd => XT.acmpNo (g := mkF m pc ls (y :: x :: st)) ha hx rfl hd rfl hx' hy' hc)
theorem own_teq {x y : Value} (q : x = y) : XT.acmp .eq x y = true ∧ XT.acmp .ne x y = false := ⟨decide_eq_true q, decide_eq_false fun f => f q⟩
theorem own_feq {x y : Value} (q : ¬ x = y) : XT.acmp .eq x y = false ∧ XT.acmp .ne x y = true := ⟨decide_eq_false q, decide_eq_true q⟩
theorem own_ifnullYes (pc' : Nat) {o : Int} (hd : decode bytes pc = .ok (.ifnull o, 3)) (ho : 0 ≤ (pc : Int) + o) (hp : ((pc : Int) + o).toNat = pc') (q : own_K p l e R s m args below meth c bytes mx rt own nm Z Q pc' ls st h cs sl) : own_K p l e R s m args below meth c bytes mx rt own nm Z Q pc ls (.null :: st) h cs sl := own_xs hd q (fun T t ha hx hd => XS.ifnullYes (g := mkF m pc ls (.null :: st)) ha hx rfl rfl hd rfl ho hp)
theorem own_ifnullNo (pc' : Nat) (hp : pc + 3 = pc') {b : Addr} {o : Int} (hd : decode bytes pc = .ok (.ifnull o, 3)) (q : own_K p l e R s m args below meth c bytes mx rt own nm Z Q pc' ls st h cs sl) : own_K p l e R s m args below meth c bytes mx rt own nm Z Q pc ls (.ref b :: st) h cs sl := by subst hp; exact own_xs hd q (fun T t ha hx hd => XS.ifnullNo (g := mkF m pc ls (.ref b :: st)) ha hx rfl hd rfl)
theorem own_ifnonnullYes (pc' : Nat) {b : Addr} {o : Int} (hd : decode bytes pc = .ok (.ifnonnull o, 3)) (ho : 0 ≤ (pc : Int) + o) (hp : ((pc : Int) + o).toNat = pc') (q : own_K p l e R s m args below meth c bytes mx rt own nm Z Q pc' ls st h cs sl) : own_K p l e R s m args below meth c bytes mx rt own nm Z Q pc ls (.ref b :: st) h cs sl := own_xs hd q (fun T t ha hx hd => XT.ifnonnullYes (g := mkF m pc ls (.ref b :: st)) ha hx rfl rfl hd rfl ho hp)
theorem own_ifnonnullNo (pc' : Nat) (hp : pc + 3 = pc') {o : Int} (hd : decode bytes pc = .ok (.ifnonnull o, 3)) (q : own_K p l e R s m args below meth c bytes mx rt own nm Z Q pc' ls st h cs sl) : own_K p l e R s m args below meth c bytes mx rt own nm Z Q pc ls (.null :: st) h cs sl := by subst hp; exact own_xs hd q (fun T t ha hx hd => XT.ifnonnullNo (g := mkF m pc ls (.null :: st)) ha hx rfl hd rfl)
-- fields
theorem own_getF (pc' : Nat) (hp : pc + 3 = pc') {R0 O n d host : String} {index : Nat} (w : (Jvm.Cond.fieldLink own index R0 n d).before a0 Z = true ∨ (Jvm.Cond.fieldLinkNest own index R0 n d host).before a0 Z = true) (via : Via Z R0 O n d) {a : Addr} {v : Value} (F : Fld Z h a O n d v) (hd : decode bytes pc = .ok (.getfield index, 3))
    (q : own_K p l e R s m args below meth c bytes mx rt own nm Z Q pc' ls (v :: st) h cs sl) : own_K p l e R s m args below meth c bytes mx rt own nm Z Q pc ls (.ref a :: st) h cs sl := fun vm0 k0 hS hk T L hx hby hml hrt hlk hown hnm hZ X eT N O' => by
  subst hp
  obtain ⟨T', X', e', s'⟩ := getF X hx hZ hown w via eT F (g := mkF m pc ls (.ref a :: st)) rfl rfl (hb hby hd)
  exact own_go s' (q vm0 k0 hS hk T' L hx hby hml hrt hlk hown hnm hZ X' e' N O')
theorem own_getS (pc' : Nat) (hp : pc + 3 = pc') {R0 O n d host : String} {index : Nat} (w : (Jvm.Cond.fieldLink own index R0 n d).before a0 Z = true ∨ (Jvm.Cond.fieldLinkNest own index R0 n d host).before a0 Z = true) (via : Via Z R0 O n d) {v : Value} (F : Sta Z Z.heap O n d v) (hd : decode bytes pc = .ok (.getstatic index, 3))
    (q : own_K p l e R s m args below meth c bytes mx rt own nm Z Q pc' ls (v :: st) h cs sl) : own_K p l e R s m args below meth c bytes mx rt own nm Z Q pc ls st h cs sl := fun vm0 k0 hS hk T L hx hby hml hrt hlk hown hnm hZ X eT N O' => by
  subst hp
  obtain ⟨T', X', e', s'⟩ := getS2 X hx hZ hown w via eT (F.ext O'.2) (g := mkF m pc ls st) rfl (hb hby hd)
  exact own_go s' (q vm0 k0 hS hk T' L hx hby hml hrt hlk hown hnm hZ X' e' N O')
theorem own_putF (pc' : Nat) (hp : pc + 3 = pc') {R0 O n d host C : String} {index kk : Nat} {ty : FieldType} (w : (Jvm.Cond.fieldLink own index R0 n d).before a0 Z = true ∨ (Jvm.Cond.fieldLinkNest own index R0 n d host).before a0 Z = true) (via : Via Z R0 O n d) {a : Addr} {v old : Value} (ga : Z.heap.size ≤ a) (F : Fld Z h a O n d old) (E : Exa Z h a C)
    (L0 : (Jvm.Cond.lays C O n d).before a0 Z = true ∨ ((Jvm.Cond.laysFinal C O n d).before a0 Z = true ∧ own = O ∧ nm = "<init>")) (wi : (Jvm.Cond.instantiable C kk).before a0 Z = true) (hty : parseFieldDescriptor d = some ty) (hn : narrow ty v = v) (hf : fits ty v = true) (hd : decode bytes pc = .ok (.putfield index, 3))
    (q : ∀ h', Wr h h' a (Jvm.RoadKit.slotOf Z O n d) v → own_K p l e R s m args below meth c bytes mx rt own nm Z Q pc' ls st h' cs sl) : own_K p l e R s m args below meth c bytes mx rt own nm Z Q pc ls (v :: .ref a :: st) h cs sl := fun vm0 k0 hS hk T L hx hby hml hrt hlk hown hnm hZ X eT N O' => by
  subst hp
  obtain ⟨T', h', X', e', W', s'⟩ := putF X hx hZ hown w via eT F E (L0.imp id fun u => ⟨u.1, u.2.1, hnm.trans u.2.2⟩) wi hty hn hf (g := mkF m pc ls (v :: .ref a :: st)) rfl rfl (hb hby hd)
  exact own_go s' (q h' W' vm0 k0 hS (own_hkW hk W') T' _ hx hby hml hrt hlk hown hnm hZ X' e' (Fr.snoc X' N ga) (O'.wr W' ga))
-- objects and arrays
theorem own_newO (pc' : Nat) (hp : pc + 3 = pc') (cs' sl' : Nat) {C : String} {index n : Nat} (w : (Jvm.Cond.classLink own index C).before a0 Z = true) (wi : (Jvm.Cond.instantiable C n).before a0 Z = true) (wz : (Jvm.Cond.initialized C).before a0 Z = true) (hd : decode bytes pc = .ok (.new index, 3)) (hcs : cs + 1 = cs') (hsl : sl + n = sl') (hc : cs' ≤ R.cells) (hl : sl' ≤ R.slots)
    (q : ∀ h' (a : Addr), a = h.size → Z.heap.size ≤ a → Ext h h' → Exa Z h' a C → (∀ {O nm d : String} {ty : FieldType}, Laid Z a0 C O nm d → parseFieldDescriptor d = some ty → Fld Z h' a O nm d (defaultValue ty)) → own_K p l e R s m args below meth c bytes mx rt own nm Z Q pc' ls (.ref a :: st) h' cs' sl') : own_K p l e R s m args below meth c bytes mx rt own nm Z Q pc ls st h cs sl := fun vm0 k0 hS hk T L hx hby hml hrt hlk hown hnm hZ X eT N O' => by
  subst hp; subst hcs; subst hsl
  obtain ⟨T', h', X', e', E', A', D', -, s'⟩ := newO X hx hZ hown w wi wz eT (g := mkF m pc ls st) rfl (hb hby hd) hc hl
  exact own_go s' (q h' _ rfl O'.2.1 E' A' D' vm0 k0 hS (Nat.le_trans hk E'.1) T' _ hx hby hml hrt hlk hown hnm hZ X' e' N (O'.ext E'))
theorem own_newP (pc' : Nat) (hp : pc + 2 = pc') (cs' sl' cap : Nat) (ad : String) {aty : ArrayType} (had : "[" ++ (newarray.typeOf aty).toString = ad) (w : (Jvm.Cond.arrayClass (newarray.typeOf aty)).before a0 Z = true) (hd : decode bytes pc = .ok (.newarray aty, 2)) {n : Int32} (hn : ¬ n < 0) (hcap : n.toNatClampNeg ≤ cap) (hb' : cap * 8 ≤ 536870912) (hcs : cs + 1 = cs') (hsl : sl + cap = sl') (hc : cs' ≤ R.cells) (hl : sl' ≤ R.slots)
    (q : ∀ h' (a : Addr) k, a = h.size → Z.heap.size ≤ a → Ext h h' → Arv Z h' a k (newarray.typeOf aty) n [] (defaultValue (newarray.typeOf aty)) → Exa Z h' a ad → own_K p l e R s m args below meth c bytes mx rt own nm Z Q pc' ls (.ref a :: st) h' cs' sl') : own_K p l e R s m args below meth c bytes mx rt own nm Z Q pc ls (.int n :: st) h cs sl := fun vm0 k0 hS hk T L hx hby hml hrt hlk hown hnm hZ X eT N O' => by
  subst hp; subst hcs; subst hsl
  obtain ⟨T', h', cA, X', e', E', A', C', s'⟩ := newPE X hx hZ w eT (g := mkF m pc ls (.int n :: st)) rfl (hb hby hd) rfl hn hcap hb' hc hl had
  exact own_go s' (q h' _ cA rfl O'.2.1 E' (Arv.new A' hn) C' vm0 k0 hS (Nat.le_trans hk E'.1) T' _ hx hby hml hrt hlk hown hnm hZ X' e' N (O'.ext E'))
theorem own_newR (pc' : Nat) (hp : pc + 3 = pc') (cs' sl' cap : Nat) {C : String} {index : Nat} (w1 : (Jvm.Cond.classLink own index C).before a0 Z = true) (w2 : (Jvm.Cond.arrayOver (.object C)).before a0 Z = true) (hd : decode bytes pc = .ok (.anewarray index, 3)) {n : Int32} (hn : ¬ n < 0) (hcap : n.toNatClampNeg ≤ cap) (hb' : cap * 8 ≤ 536870912) (hcs : cs + 1 = cs') (hsl : sl + cap = sl') (hc : cs' ≤ R.cells) (hl : sl' ≤ R.slots)
    (q : ∀ h' (a : Addr) k, a = h.size → Z.heap.size ≤ a → Ext h h' → Arv Z h' a k (.object C) n [] .null → Ovr Z k C → own_K p l e R s m args below meth c bytes mx rt own nm Z Q pc' ls (.ref a :: st) h' cs' sl') : own_K p l e R s m args below meth c bytes mx rt own nm Z Q pc ls (.int n :: st) h cs sl := fun vm0 k0 hS hk T L hx hby hml hrt hlk hown hnm hZ X eT N O' => by
  subst hp; subst hcs; subst hsl
  obtain ⟨T', h', cA, X', e', E', A', V', s'⟩ := newR X hx hZ hown w1 w2 eT (g := mkF m pc ls (.int n :: st)) rfl (hb hby hd) rfl hn hcap hb' hc hl
  exact own_go s' (q h' _ cA rfl O'.2.1 E' (Arv.new A' hn) V' vm0 k0 hS (Nat.le_trans hk E'.1) T' _ hx hby hml hrt hlk hown hnm hZ X' e' N (O'.ext E'))
theorem own_initO (pc' : Nat) (hp : pc + 3 = pc') {index : Nat} (w1 : (Jvm.Cond.methodLink own index Lib.objectInit).before a0 Z = true) (w2 : (Jvm.Cond.instanceMethod Lib.objectInit).before a0 Z = true) (w3 : (Jvm.Cond.code Lib.objectInit ⟨#[0xb1]⟩ 1 none).before a0 Z = true) {a : Addr} (hd : decode bytes pc = .ok (.invokespecial index, 3)) (hls : ls.size = mx) (hf : 1 ≤ R.frames) (W : Nat) (hW : (st.map fun v => v.category).sum ≤ W) (hl : W + 12 ≤ R.locals)
    (q : own_K p l e R s m args below meth c bytes mx rt own nm Z Q pc' ls st h cs sl) : own_K p l e R s m args below meth c bytes mx rt own nm Z Q pc ls (.ref a :: st) h cs sl := fun vm0 k0 hS hk T L hx hby hml hrt hlk hown hnm hZ X eT N O' => by
  subst hp
  obtain ⟨T', X', e', s'⟩ := initO X hx hZ hown w1 w2 w3 eT (g := mkF m pc ls (.ref a :: st)) rfl (hls.trans hml.symm) rfl (hb hby hd) hf (W := W) (by simpa using hW) hl
  exact own_go s' (q vm0 k0 hS hk T' L hx hby hml hrt hlk hown hnm hZ X' e' N O')
theorem own_alen (pc' : Nat) (hp : pc + 1 = pc') {a : Addr} {cl : Cell} {ty : FieldType} (A : Arr Z h a cl ty) (n : Int32) (hn : cl.slots.size.toInt32 = n) (hd : decode bytes pc = .ok (.arraylength, 1))
    (q : own_K p l e R s m args below meth c bytes mx rt own nm Z Q pc' ls (.int n :: st) h cs sl) : own_K p l e R s m args below meth c bytes mx rt own nm Z Q pc ls (.ref a :: st) h cs sl := fun vm0 k0 hS hk T L hx hby hml hrt hlk hown hnm hZ X eT N O' => by
  subst hp; subst hn
  exact own_go (X.arraylength hx (by rw [eT]; exact A.1) (State.isArrayOf_alike hZ.alike A.2.1) (g := mkF m pc ls (.ref a :: st)) rfl rfl (hb hby hd)) (q vm0 k0 hS hk T L hx hby hml hrt hlk hown hnm hZ X eT N O')
theorem own_iaload (pc' : Nat) (hp : pc + 1 = pc') {a : Addr} {cl : Cell} {j : Int32} {v : Value} (A : Arr Z h a cl .int) (hin : ¬ (j < 0 ∨ cl.slots.size ≤ j.toNatClampNeg)) (hv : cl.slots[j.toNatClampNeg]? = some v) (hd : decode bytes pc = .ok (.iaload, 1))
    (q : own_K p l e R s m args below meth c bytes mx rt own nm Z Q pc' ls (v :: st) h cs sl) : own_K p l e R s m args below meth c bytes mx rt own nm Z Q pc ls (.int j :: .ref a :: st) h cs sl := fun vm0 k0 hS hk T L hx hby hml hrt hlk hown hnm hZ X eT N O' => by
  subst hp
  exact own_go (X.iaload hx (by rw [eT]; exact A.1) (State.isArrayOf_alike hZ.alike A.2.1) A.2.2 hin hv (g := mkF m pc ls (.int j :: .ref a :: st)) rfl rfl (hb hby hd)) (q vm0 k0 hS hk T L hx hby hml hrt hlk hown hnm hZ X eT N O')
theorem own_laload (pc' : Nat) (hp : pc + 1 = pc') {a : Addr} {cl : Cell} {j : Int32} {v : Value} (A : Arr Z h a cl .long) (hin : ¬ (j < 0 ∨ cl.slots.size ≤ j.toNatClampNeg)) (hv : cl.slots[j.toNatClampNeg]? = some v) (hd : decode bytes pc = .ok (.laload, 1))
    (q : own_K p l e R s m args below meth c bytes mx rt own nm Z Q pc' ls (v :: st) h cs sl) : own_K p l e R s m args below meth c bytes mx rt own nm Z Q pc ls (.int j :: .ref a :: st) h cs sl := fun vm0 k0 hS hk T L hx hby hml hrt hlk hown hnm hZ X eT N O' => by
  subst hp
  exact own_go (X.laload hx (by rw [eT]; exact A.1) (State.isArrayOf_alike hZ.alike A.2.1) A.2.2 hin hv (g := mkF m pc ls (.int j :: .ref a :: st)) rfl rfl (hb hby hd)) (q vm0 k0 hS hk T L hx hby hml hrt hlk hown hnm hZ X eT N O')
theorem own_baload (pc' : Nat) (hp : pc + 1 = pc') {a : Addr} {cl : Cell} {j : Int32} {v : Value} (A : Arr Z h a cl .byte) (hin : ¬ (j < 0 ∨ cl.slots.size ≤ j.toNatClampNeg)) (hv : cl.slots[j.toNatClampNeg]? = some v) (hd : decode bytes pc = .ok (.baload, 1))
    (q : own_K p l e R s m args below meth c bytes mx rt own nm Z Q pc' ls (v :: st) h cs sl) : own_K p l e R s m args below meth c bytes mx rt own nm Z Q pc ls (.int j :: .ref a :: st) h cs sl := fun vm0 k0 hS hk T L hx hby hml hrt hlk hown hnm hZ X eT N O' => by
  subst hp
  exact own_go (X.baloadBytes hx (by rw [eT]; exact A.1) (State.isArrayOf_alike hZ.alike A.2.1) A.2.2 hin hv (g := mkF m pc ls (.int j :: .ref a :: st)) rfl rfl (hb hby hd)) (q vm0 k0 hS hk T L hx hby hml hrt hlk hown hnm hZ X eT N O')
theorem own_zaload (pc' : Nat) (hp : pc + 1 = pc') {a : Addr} {cl : Cell} {j : Int32} {v : Value} (A : Arr Z h a cl .boolean) (hin : ¬ (j < 0 ∨ cl.slots.size ≤ j.toNatClampNeg)) (hv : cl.slots[j.toNatClampNeg]? = some v) (hd : decode bytes pc = .ok (.baload, 1))
    (q : own_K p l e R s m args below meth c bytes mx rt own nm Z Q pc' ls (v :: st) h cs sl) : own_K p l e R s m args below meth c bytes mx rt own nm Z Q pc ls (.int j :: .ref a :: st) h cs sl := fun vm0 k0 hS hk T L hx hby hml hrt hlk hown hnm hZ X eT N O' => by
  subst hp
  exact own_go (X.baloadBooleans hx (by rw [eT]; exact A.1) (State.isArrayOf_alike hZ.alike A.2.1) A.2.2 hin hv (g := mkF m pc ls (.int j :: .ref a :: st)) rfl rfl (hb hby hd)) (q vm0 k0 hS hk T L hx hby hml hrt hlk hown hnm hZ X eT N O')
theorem own_aaload (pc' : Nat) (hp : pc + 1 = pc') {a : Addr} {cl : Cell} {j : Int32} {v : Value} {ty : FieldType} (A : Arr Z h a cl ty) (hty : ty.isReference = true) (hin : ¬ (j < 0 ∨ cl.slots.size ≤ j.toNatClampNeg)) (hv : cl.slots[j.toNatClampNeg]? = some v) (hd : decode bytes pc = .ok (.aaload, 1))
    (q : own_K p l e R s m args below meth c bytes mx rt own nm Z Q pc' ls (v :: st) h cs sl) : own_K p l e R s m args below meth c bytes mx rt own nm Z Q pc ls (.int j :: .ref a :: st) h cs sl := fun vm0 k0 hS hk T L hx hby hml hrt hlk hown hnm hZ X eT N O' => by
  subst hp
  exact own_go (X.aaload hx (by rw [eT]; exact A.1) (State.isArrayOf_alike hZ.alike A.2.1) hty A.2.2 hin hv (g := mkF m pc ls (.int j :: .ref a :: st)) rfl rfl (hb hby hd)) (q vm0 k0 hS hk T L hx hby hml hrt hlk hown hnm hZ X eT N O')
theorem own_iastore (pc' : Nat) (hp : pc + 1 = pc') {a : Addr} {cl : Cell} {j x : Int32} (ga : Z.heap.size ≤ a) (A : Arr Z h a cl .int) (hin : ¬ (j < 0 ∨ cl.slots.size ≤ j.toNatClampNeg)) (hd : decode bytes pc = .ok (.iastore, 1))
    (q : ∀ h', Wr h h' a j.toNatClampNeg (.int x) → own_K p l e R s m args below meth c bytes mx rt own nm Z Q pc' ls st h' cs sl) : own_K p l e R s m args below meth c bytes mx rt own nm Z Q pc ls (.int x :: .int j :: .ref a :: st) h cs sl := fun vm0 k0 hS hk T L hx hby hml hrt hlk hown hnm hZ X eT N O' => by
  subst hp
  obtain ⟨T', h', X', e', W', s'⟩ := stI X hx hZ eT A hin (g := mkF m pc ls (.int x :: .int j :: .ref a :: st)) rfl rfl (hb hby hd)
  exact own_go s' (q h' W' vm0 k0 hS (own_hkW hk W') T' _ hx hby hml hrt hlk hown hnm hZ X' e' (Fr.snoc X' N ga) (O'.wr W' ga))
theorem own_lastore (pc' : Nat) (hp : pc + 1 = pc') {a : Addr} {cl : Cell} {j : Int32} {x : Int64} (ga : Z.heap.size ≤ a) (A : Arr Z h a cl .long) (hin : ¬ (j < 0 ∨ cl.slots.size ≤ j.toNatClampNeg)) (hd : decode bytes pc = .ok (.lastore, 1))
    (q : ∀ h', Wr h h' a j.toNatClampNeg (.long x) → own_K p l e R s m args below meth c bytes mx rt own nm Z Q pc' ls st h' cs sl) : own_K p l e R s m args below meth c bytes mx rt own nm Z Q pc ls (.long x :: .int j :: .ref a :: st) h cs sl := fun vm0 k0 hS hk T L hx hby hml hrt hlk hown hnm hZ X eT N O' => by
  subst hp
  obtain ⟨T', h', X', e', W', s'⟩ := stJ X hx hZ eT A hin (g := mkF m pc ls (.long x :: .int j :: .ref a :: st)) rfl rfl (hb hby hd)
  exact own_go s' (q h' W' vm0 k0 hS (own_hkW hk W') T' _ hx hby hml hrt hlk hown hnm hZ X' e' (Fr.snoc X' N ga) (O'.wr W' ga))
theorem own_bastore (pc' : Nat) (hp : pc + 1 = pc') {a : Addr} {cl : Cell} {j x : Int32} (ga : Z.heap.size ≤ a) (A : Arr Z h a cl .byte) (hin : ¬ (j < 0 ∨ cl.slots.size ≤ j.toNatClampNeg)) (hd : decode bytes pc = .ok (.bastore, 1))
    (q : ∀ h', Wr h h' a j.toNatClampNeg (.int (nar .byte x)) → own_K p l e R s m args below meth c bytes mx rt own nm Z Q pc' ls st h' cs sl) : own_K p l e R s m args below meth c bytes mx rt own nm Z Q pc ls (.int x :: .int j :: .ref a :: st) h cs sl := fun vm0 k0 hS hk T L hx hby hml hrt hlk hown hnm hZ X eT N O' => by
  subst hp
  obtain ⟨T', h', X', e', W', s'⟩ := stB X hx hZ eT A hin (g := mkF m pc ls (.int x :: .int j :: .ref a :: st)) rfl rfl (hb hby hd)
  exact own_go s' (q h' W' vm0 k0 hS (own_hkW hk W') T' _ hx hby hml hrt hlk hown hnm hZ X' e' (Fr.snoc X' N ga) (O'.wr W' ga))
theorem own_aastore (pc' : Nat) (hp : pc + 1 = pc') {a : Addr} {cl : Cell} {j : Int32} {v : Value} {ty : FieldType} (ga : Z.heap.size ≤ a) (A : Arr Z h a cl ty) (hty : ty.isReference = true) (F : Sto Z h a v) (hin : ¬ (j < 0 ∨ cl.slots.size ≤ j.toNatClampNeg)) (hd : decode bytes pc = .ok (.aastore, 1))
    (q : ∀ h', Wr h h' a j.toNatClampNeg v → own_K p l e R s m args below meth c bytes mx rt own nm Z Q pc' ls st h' cs sl) : own_K p l e R s m args below meth c bytes mx rt own nm Z Q pc ls (v :: .int j :: .ref a :: st) h cs sl := fun vm0 k0 hS hk T L hx hby hml hrt hlk hown hnm hZ X eT N O' => by
  subst hp
  obtain ⟨T', h', X', e', W', s'⟩ := stR X hx hZ eT A hin hty F (g := mkF m pc ls (v :: .int j :: .ref a :: st)) rfl rfl (hb hby hd)
  exact own_go s' (q h' W' vm0 k0 hS (own_hkW hk W') T' _ hx hby hml hrt hlk hown hnm hZ X' e' (Fr.snoc X' N ga) (O'.wr W' ga))
theorem own_cast (pc' : Nat) (hp : pc + 3 = pc') {C : String} {index : Nat} (w : (Jvm.Cond.classLink own index C).before a0 Z = true) {a : Addr} (F : Ins Z h a C true) (hd : decode bytes pc = .ok (.checkcast index, 3))
    (q : own_K p l e R s m args below meth c bytes mx rt own nm Z Q pc' ls (.ref a :: st) h cs sl) : own_K p l e R s m args below meth c bytes mx rt own nm Z Q pc ls (.ref a :: st) h cs sl := fun vm0 k0 hS hk T L hx hby hml hrt hlk hown hnm hZ X eT N O' => by
  subst hp
  obtain ⟨T', X', e', s'⟩ := castY X hx hZ hown w eT F (g := mkF m pc ls (.ref a :: st)) rfl rfl (hb hby hd)
  exact own_go s' (q vm0 k0 hS hk T' L hx hby hml hrt hlk hown hnm hZ X' e' N O')
theorem own_castNull (pc' : Nat) (hp : pc + 3 = pc') {index : Nat} (hd : decode bytes pc = .ok (.checkcast index, 3))
    (q : own_K p l e R s m args below meth c bytes mx rt own nm Z Q pc' ls (.null :: st) h cs sl) : own_K p l e R s m args below meth c bytes mx rt own nm Z Q pc ls (.null :: st) h cs sl := fun vm0 k0 hS hk T L hx hby hml hrt hlk hown hnm hZ X eT N O' => by
  subst hp
  exact own_go (X.checkcastNull hx (g := mkF m pc ls (.null :: st)) rfl rfl (hb hby hd)) (q vm0 k0 hS hk T L hx hby hml hrt hlk hown hnm hZ X eT N O')
theorem own_clone (pc' : Nat) (hp : pc + 3 = pc') (cs' sl' cap W : Nat) {ad : String} {index : Nat} {k : ClassId} {ty : FieldType} {z : Int32} {vs : List Value} {dv : Value} {a : Addr}
    (w1 : (Jvm.Cond.methodLink own index ⟨ad, "clone", "()Ljava/lang/Object;"⟩).before a0 Z = true) (w2 : (Jvm.Cond.sameMethod ad "java/lang/Object" "clone" "()Ljava/lang/Object;").before a0 Z = true) (w3 : (Jvm.Cond.native ⟨"java/lang/Object", "clone", "()Ljava/lang/Object;"⟩).before a0 Z = true)
    (w4 : (Jvm.Cond.instanceMethod ⟨"java/lang/Object", "clone", "()Ljava/lang/Object;"⟩).before a0 Z = true) (w5 : (Jvm.Cond.selects ad ⟨ad, "clone", "()Ljava/lang/Object;"⟩ ⟨"java/lang/Object", "clone", "()Ljava/lang/Object;"⟩).before a0 Z = true) (w6 : (Jvm.Cond.castable ad "java/lang/Cloneable").before a0 Z = true)
    (F : Arv Z h a k ty z vs dv) (E : Exa Z h a ad) (hcap : z.toNatClampNeg ≤ cap) (hd : decode bytes pc = .ok (.invokevirtual index, 3)) (hls : ls.size = mx) (hf : 1 ≤ R.frames) (hW : (st.map fun v => v.category).sum = W) (hl : W + 14 ≤ R.locals) (hcs : cs + 1 = cs') (hsl : sl + cap = sl') (hc : cs' ≤ R.cells) (hs : sl' ≤ R.slots)
    (q : ∀ h' (b : Addr), b = h.size → Z.heap.size ≤ b → Ext h h' → Arv Z h' b k ty z vs dv → Exa Z h' b ad → own_K p l e R s m args below meth c bytes mx rt own nm Z Q pc' ls (.ref b :: st) h' cs' sl') : own_K p l e R s m args below meth c bytes mx rt own nm Z Q pc ls (.ref a :: st) h cs sl := fun vm0 k0 hS hk T L hx hby hml hrt hlk hown hnm hZ X eT N O' => by
  subst hp; subst hcs; subst hsl
  obtain ⟨T', h', X', e', E', A', C', s'⟩ := cloneH X hx hZ hown w1 w2 w3 w4 w5 w6 eT F.arh E (g := mkF m pc ls (.ref a :: st)) rfl (hls.trans hml.symm) rfl (hb hby hd) hf (W := W) (by show 2 * 0 + _ ≤ _; omega) hl hcap hc hs
  exact own_go s' (q h' _ rfl O'.2.1 E' A' C' vm0 k0 hS (Nat.le_trans hk E'.1) T' _ hx hby hml hrt hlk hown hnm hZ X' e' N (O'.ext E'))
-- leaving
theorem own_monoW {s t : State} {o : Outcome} {L : List Loc} {k n k' n' : Nat} (h : ReturnedEndW s o t L k n) (h1 : k ≤ k') (h2 : n ≤ n') : ReturnedEndW s o t L k' n' := ⟨h.1, h.2.1, h.2.2.1, h.2.2.2.mono h1 h2⟩
theorem own_out {t : FieldType} {v : Value} {pc : Nat} {T : State} {L : List Loc} {vm0 : Vm} {k0 : Nat} (hS : s.Since vm0 k0) (hk : k0 ≤ T.heap.size) (X : Stand p l e R (s.setVm vm0) m args below meth c T L cs sl) (hrt : meth.sig.returnType = some t) (hlk : meth.locks = false)
    (f : ∀ fs, (∀ (f : JFrame) (acts : List Action), f.method = m → f.locked = none → f.entered = [] → (doReturn e (T.setTop f) acts (some v)).1 = T.setFrames fs) → Steps p.tables e below (T.setTop (mkF m pc ls st)) (T.setFrames fs)) (hc : cs ≤ R.cells) (hs : sl ≤ R.slots) (N : Fr Z.heap.size L) (O : Old Z Z.heap.size T.heap) (q : Q (some v) T.heap) :
    own_G p e s below Z Q R.cells R.slots (T.setTop (mkF m pc ls st)) := by
  obtain ⟨fs, hr, hrun, hended, hW⟩ := X.leaveW hS hk (v := some v) (fun h => by rw [hrt] at h; cases h) hlk
  exact ⟨_, _, f fs hr, hrun, hended, _, _, rfl, ⟨q, N, O⟩, own_monoW hW hc hs⟩
theorem own_retI {v : Int32} (hr : rt = some .int) (hd : decode bytes pc = .ok (.ireturn, 1)) (hc : cs ≤ R.cells) (hs : sl ≤ R.slots) (q : Q (some (.int v)) h) : own_K p l e R s m args below meth c bytes mx rt own nm Z Q pc ls (.int v :: st) h cs sl := fun vm0 k0 hS hk T L hx hby hml hrt hlk hown hnm hZ X eT N O' => by
  subst eT
  exact own_out hS hk X (hrt.trans hr) hlk (fun fs k => retOut X hx (hrt.trans hr) rfl (Or.inl ⟨rfl, Or.inl rfl, _, rfl⟩) (hb hby hd) k) hc hs N O' q
theorem own_retN {v : Int32} {t : FieldType} (hr : rt = some t) (ht : t = .boolean ∨ t = .byte ∨ t = .char ∨ t = .short) (hd : decode bytes pc = .ok (.ireturn, 1)) (hc : cs ≤ R.cells) (hs : sl ≤ R.slots) (q : Q (some (.int (nar t v))) h) : own_K p l e R s m args below meth c bytes mx rt own nm Z Q pc ls (.int v :: st) h cs sl := fun vm0 k0 hS hk T L hx hby hml hrt hlk hown hnm hZ X eT N O' => by
  subst eT
  exact own_out hS hk X (hrt.trans hr) hlk (fun fs k => retN X hx (hrt.trans hr) ht (hb hby hd) k) hc hs N O' q
theorem own_retJ {v : Int64} (hr : rt = some .long) (hd : decode bytes pc = .ok (.lreturn, 1)) (hc : cs ≤ R.cells) (hs : sl ≤ R.slots) (q : Q (some (.long v)) h) : own_K p l e R s m args below meth c bytes mx rt own nm Z Q pc ls (.long v :: st) h cs sl := fun vm0 k0 hS hk T L hx hby hml hrt hlk hown hnm hZ X eT N O' => by
  subst eT
  exact own_out hS hk X (hrt.trans hr) hlk (fun fs k => retOut X hx (hrt.trans hr) rfl (Or.inr (Or.inl ⟨rfl, rfl, _, rfl⟩)) (hb hby hd) k) hc hs N O' q
theorem own_narR {t : FieldType} {v : Value} (ht : t.isReference = true) (hv : v.isRef = true) : narrow t v = v := by
  rcases ref_cases hv with rfl | ⟨_, rfl⟩ <;> cases t <;> first | rfl | cases ht
theorem own_retA {v : Value} {t : FieldType} (hr : rt = some t) (ht : t.isReference = true) (hv : v.isRef = true) (hd : decode bytes pc = .ok (.areturn, 1)) (hc : cs ≤ R.cells) (hs : sl ≤ R.slots) (q : Q (some v) h) : own_K p l e R s m args below meth c bytes mx rt own nm Z Q pc ls (v :: st) h cs sl := fun vm0 k0 hS hk T L hx hby hml hrt hlk hown hnm hZ X eT N O' => by
  subst eT
  exact own_out hS hk X (hrt.trans hr) hlk (fun fs k => retOut X hx (hrt.trans hr) (own_narR ht hv) (Or.inr (Or.inr (Or.inr (Or.inr ⟨rfl, ht, hv⟩)))) (hb hby hd) k) hc hs N O' q
theorem own_ret (hr : rt = none) (hd : decode bytes pc = .ok (.return_, 1)) (hc : cs ≤ R.cells) (hs : sl ≤ R.slots) (q : Q none h) : own_K p l e R s m args below meth c bytes mx rt own nm Z Q pc ls [] h cs sl := fun vm0 k0 hS hk T L hx hby hml hrt hlk hown hnm hZ X eT N O' => by
  subst eT
  obtain ⟨fs, hr', hrun, hended, hW⟩ := X.leaveW hS hk (v := none) (fun _ => rfl) hlk
  exact ⟨_, _, X.returnOut hx (hrt.trans hr) (hb hby hd) hr', hrun, hended, _, _, rfl, ⟨q, N, O'⟩, own_monoW hW hc hs⟩
-- calls
theorem own_ownS {s : State} {vm0 vm1 : Vm} {k : Nat} {own : String} {i : ClassId} (h : (s.setVm vm0).Since vm1 k) (q : (s.setVm vm0).vm.findClass own = some i) : (s.setVm vm1).vm.findClass own = some i := by
  rw [show (s.setVm vm1).vm = vm1 from rfl, h.1.alike.findClass]; exact q
theorem own_back {y : MethodName} {b' : ByteArray} {mx' : Nat} {rt' : Option FieldType} {rm' : Room} {as' : Array Value} {Q' : Option Value → Heap → Prop} {W : Nat} (hZ : Z.Warmed39 s.vm) (O : Old Z Z.heap.size h) (hM : own_Met l Z y b' mx' rt' [] rm' as' h Q') (w4 : (Jvm.Cond.code y b' mx' rt').before a0 Z = true) (w3 : (Jvm.Cond.initialized y.cls).before a0 Z = true)
    (hf : rm'.frames + 1 ≤ R.frames) (hl : W + (mx' + 11) + rm'.locals ≤ R.locals) {len : Nat} :
    BackS l R p e below s args y len W (fun A a => a = as' ∧ A.U.heap = h ∧ A.cells + rm'.cells ≤ R.cells ∧ A.slots + rm'.slots ≤ R.slots)
      (fun A _ v B => ∃ L, (Q' v B.U.heap ∧ Fr Z.heap.size L ∧ Old Z Z.heap.size B.U.heap) ∧ B.locs = A.locs ++ L ∧ B.cells = A.cells + rm'.cells ∧ B.slots = A.slots + rm'.slots) :=
  backOfS (Q := fun v h' L => Q' v h' ∧ Fr Z.heap.size L ∧ Old Z Z.heap.size h') (hM O) hZ w4 w3 hf hl
theorem own_callS (pc' : Nat) (hp : pc + 3 = pc') (cs' sl' W : Nat) (argsL rest : List Value) {index : Nat} {y : MethodName} {b' : ByteArray} {mx' : Nat} {rt' : Option FieldType} {rm' : Room} {as' : Array Value} {Q' : Option Value → Heap → Prop}
    (w1 : (Jvm.Cond.methodLink own index y).before a0 Z = true) (w2 : (Jvm.Cond.static y).before a0 Z = true) (w3 : (Jvm.Cond.initialized y.cls).before a0 Z = true) (w4 : (Jvm.Cond.code y b' mx' rt').before a0 Z = true) (hy : y.cls ≠ "java/lang/invoke/MethodHandle" ∧ y.cls ≠ "java/lang/invoke/VarHandle")
    (hM : own_Met l Z y b' mx' rt' [] rm' as' h Q') (hd : decode bytes pc = .ok (.invokestatic index, 3)) (hls : ls.size = mx) (hlen : ∀ sig, parseMethodDescriptor y.desc = some sig → argsL.length = sig.parameters.length) (has : argsL.toArray = as') (hst : st = argsL.reverse ++ rest) (hW : (rest.map fun v => v.category).sum = W)
    (hf : rm'.frames + 1 ≤ R.frames) (hl : W + (mx' + 11) + rm'.locals ≤ R.locals) (hcs : cs + rm'.cells = cs') (hsl : sl + rm'.slots = sl') (hc : cs' ≤ R.cells) (hs : sl' ≤ R.slots)
    (k : ∀ v h', Q' v h' → own_K p l e R s m args below meth c bytes mx rt own nm Z Q pc' ls (v.toList ++ rest) h' cs' sl') : own_K p l e R s m args below meth c bytes mx rt own nm Z Q pc ls st h cs sl := fun vm0 k0 hS hk T L hx hby hml hrt hlk hown hnm hZ X eT N O' => by
  subst hp; subst hcs; subst hsl; subst hst; subst has; subst eT
  obtain ⟨v, _, ⟨T2, L2, k2, n2⟩, -, X2, hS2, g2, ⟨Lc2, ⟨hQ2, N2, O2⟩, l2, y2, z2⟩, st2⟩ := Jvm.RoadKit.callSS X hx (y := y) hown (mvT hZ w1) (mvT hZ w2) (mvT hZ w3) (mvT hZ w4) hy (own_back (W := W) hZ O' hM w4 w3 hf hl) (g := mkF m pc ls (argsL.reverse ++ rest)) rfl (hls.trans hml.symm) (argsL := argsL) (rest := rest) hlen rfl (by show 2 * 0 + _ ≤ _; omega) (hb hby hd) (fun _ _ => ⟨rfl, rfl, hc, hs⟩)
  dsimp only [Pt.U, Pt.locs, Pt.cells, Pt.slots] at X2 l2 y2 z2 st2 hQ2 O2 hS2 g2
  subst l2 y2 z2
  exact own_go (fun t q => st2.trans q) (k v _ hQ2 T2.vm T2.heap.size (foldS hS hk hS2 g2) (Nat.le_refl _) T2 _ hx hby hml hrt hlk (own_ownS hS2 hown) hnm (State.Warmed39.trans (t := s.setVm vm0) hZ hS2.1) X2 rfl (N.app N2) O2)
theorem own_callV (pc' : Nat) (hp : pc + 3 = pc') (cs' sl' W : Nat) (argsL rest : List Value) {index : Nat} {C : String} {y z : MethodName} {b' : ByteArray} {mx' : Nat} {rt' : Option FieldType} {rm' : Room} {as' : Array Value} {Q' : Option Value → Heap → Prop} {a : Addr}
    (w1 : (Jvm.Cond.methodLink own index y).before a0 Z = true) (w2 : (Jvm.Cond.declares y).before a0 Z = true) (hnf : ∀ {u : State}, Z.Warmed39 u.vm → NotFace u y) (w5 : (Jvm.Cond.selects C y z).before a0 Z = true) (w6 : (Jvm.Cond.instanceMethod z).before a0 Z = true) (w3 : (Jvm.Cond.initialized z.cls).before a0 Z = true) (w4 : (Jvm.Cond.code z b' mx' rt').before a0 Z = true) (hy : y.cls ≠ "java/lang/invoke/MethodHandle" ∧ y.cls ≠ "java/lang/invoke/VarHandle")
    (E : Exa Z h a C) (hM : own_Met l Z z b' mx' rt' [] rm' as' h Q') (hd : decode bytes pc = .ok (.invokevirtual index, 3)) (hls : ls.size = mx) (hlen : ∀ sig, parseMethodDescriptor y.desc = some sig → argsL.length = sig.parameters.length) (has : (.ref a :: argsL).toArray = as') (hst : st = argsL.reverse ++ .ref a :: rest) (hW : (rest.map fun v => v.category).sum = W)
    (hf : rm'.frames + 1 ≤ R.frames) (hl : W + (mx' + 11) + rm'.locals ≤ R.locals) (hcs : cs + rm'.cells = cs') (hsl : sl + rm'.slots = sl') (hc : cs' ≤ R.cells) (hs : sl' ≤ R.slots)
    (k : ∀ v h', Q' v h' → own_K p l e R s m args below meth c bytes mx rt own nm Z Q pc' ls (v.toList ++ rest) h' cs' sl') : own_K p l e R s m args below meth c bytes mx rt own nm Z Q pc ls st h cs sl := fun vm0 k0 hS hk T L hx hby hml hrt hlk hown hnm hZ X eT N O' => by
  subst hp; subst hcs; subst hsl; subst hst; subst has; subst eT
  obtain ⟨cq, kq, qa, qb, qc⟩ := isOf hZ rfl E
  obtain ⟨v, _, ⟨T2, L2, k2, n2⟩, -, X2, hS2, g2, ⟨Lc2, ⟨hQ2, N2, O2⟩, l2, y2, z2⟩, st2⟩ := X.virtualBackS hx (y := y) (z := z) hown (mvT hZ w1) (mvT hZ w2) (hnf hZ) (mvT hZ w5) (mvT hZ w6) hy (own_back (W := W) hZ O' hM w4 w3 hf hl) qa qc (g := mkF m pc ls (argsL.reverse ++ .ref a :: rest)) rfl (hls.trans hml.symm) (Steps.refl _) (argsL := argsL) (rest := rest) hlen rfl (by show 2 * 0 + _ ≤ _; omega) (hb hby hd) (fun _ _ => ⟨rfl, rfl, hc, hs⟩)
  dsimp only [Pt.U, Pt.locs, Pt.cells, Pt.slots] at X2 l2 y2 z2 st2 hQ2 O2 hS2 g2
  subst l2 y2 z2
  exact own_go (fun t q => st2.trans q) (k v _ hQ2 T2.vm T2.heap.size (foldS hS hk hS2 g2) (Nat.le_refl _) T2 _ hx hby hml hrt hlk (own_ownS hS2 hown) hnm (State.Warmed39.trans (t := s.setVm vm0) hZ hS2.1) X2 rfl (N.app N2) O2)
theorem own_callU (pc' : Nat) (hp : pc + 3 = pc') (cs' sl' W : Nat) (argsL rest : List Value) {index : Nat} {C owner : String} {y z : MethodName} {b' : ByteArray} {mx' : Nat} {rt' : Option FieldType} {rm' : Room} {as' : Array Value} {Q' : Option Value → Heap → Prop} {a : Addr}
    (w1 : (Jvm.Cond.methodLink own index y).before a0 Z = true) (wsm : (Jvm.Cond.sameMethod y.cls owner y.name y.desc).before a0 Z = true) (w2 : (Jvm.Cond.declares ⟨owner, y.name, y.desc⟩).before a0 Z = true) (w5 : (Jvm.Cond.selects C y z).before a0 Z = true) (w6 : (Jvm.Cond.instanceMethod z).before a0 Z = true) (w3 : (Jvm.Cond.initialized z.cls).before a0 Z = true) (w4 : (Jvm.Cond.code z b' mx' rt').before a0 Z = true) (hy : owner ≠ "java/lang/invoke/MethodHandle" ∧ owner ≠ "java/lang/invoke/VarHandle")
    (E : Exa Z h a C) (hM : own_Met l Z z b' mx' rt' [] rm' as' h Q') (hd : decode bytes pc = .ok (.invokevirtual index, 3)) (hls : ls.size = mx) (hlen : ∀ sig, parseMethodDescriptor y.desc = some sig → argsL.length = sig.parameters.length) (has : (.ref a :: argsL).toArray = as') (hst : st = argsL.reverse ++ .ref a :: rest) (hW : (rest.map fun v => v.category).sum = W)
    (hf : rm'.frames + 1 ≤ R.frames) (hl : W + (mx' + 11) + rm'.locals ≤ R.locals) (hcs : cs + rm'.cells = cs') (hsl : sl + rm'.slots = sl') (hc : cs' ≤ R.cells) (hs : sl' ≤ R.slots)
    (k : ∀ v h', Q' v h' → own_K p l e R s m args below meth c bytes mx rt own nm Z Q pc' ls (v.toList ++ rest) h' cs' sl') : own_K p l e R s m args below meth c bytes mx rt own nm Z Q pc ls st h cs sl := fun vm0 k0 hS hk T L hx hby hml hrt hlk hown hnm hZ X eT N O' => by
  subst hp; subst hcs; subst hsl; subst hst; subst has; subst eT
  obtain ⟨cq, kq, qa, qb, qc⟩ := isOf hZ rfl E
  obtain ⟨v, _, ⟨T2, L2, k2, n2⟩, -, X2, hS2, g2, ⟨Lc2, ⟨hQ2, N2, O2⟩, l2, y2, z2⟩, st2⟩ := X.virtualBackUpS hx (x := y) (y := z) (owner := owner) hown (mvT hZ w1) (mvT hZ wsm) (mvT hZ w2) hy (mvT hZ w5) (mvT hZ w6) (own_back (W := W) hZ O' hM w4 w3 hf hl) qa qc (g := mkF m pc ls (argsL.reverse ++ .ref a :: rest)) rfl (hls.trans hml.symm) (Steps.refl _) (argsL := argsL) (rest := rest) hlen rfl (by show 2 * 0 + _ ≤ _; omega) (hb hby hd) (fun _ _ => ⟨rfl, rfl, hc, hs⟩)
  dsimp only [Pt.U, Pt.locs, Pt.cells, Pt.slots] at X2 l2 y2 z2 st2 hQ2 O2 hS2 g2
  subst l2 y2 z2
  exact own_go (fun t q => st2.trans q) (k v _ hQ2 T2.vm T2.heap.size (foldS hS hk hS2 g2) (Nat.le_refl _) T2 _ hx hby hml hrt hlk (own_ownS hS2 hown) hnm (State.Warmed39.trans (t := s.setVm vm0) hZ hS2.1) X2 rfl (N.app N2) O2)
theorem own_callF (pc' : Nat) (hp : pc + 5 = pc') (cs' sl' W : Nat) (argsL rest : List Value) {index count : Nat} {C : String} {y z : MethodName} {b' : ByteArray} {mx' : Nat} {rt' : Option FieldType} {rm' : Room} {as' : Array Value} {Q' : Option Value → Heap → Prop} {a : Addr}
    (w1 : (Jvm.Cond.methodLink own index y).before a0 Z = true) (w2 : (Jvm.Cond.declares y).before a0 Z = true) (w7 : (Jvm.Cond.interfaceMethod y.cls y.cls y.name y.desc).before a0 Z = true) (w7k : ((Jvm.Cond.interfaceMethod y.cls y.cls y.name y.desc).onTables && (Jvm.Cond.interfaceMethod y.cls y.cls y.name y.desc).keepsFace) = true) (w5 : (Jvm.Cond.selects C y z).before a0 Z = true) (w6 : (Jvm.Cond.instanceMethod z).before a0 Z = true) (w8 : (Jvm.Cond.publicMethod z).before a0 Z = true) (w9 : (Jvm.Cond.unhidden C y.name y.desc).before a0 Z = true) (w10 : (Jvm.Cond.castable C y.cls).before a0 Z = true) (w3 : (Jvm.Cond.initialized z.cls).before a0 Z = true) (w4 : (Jvm.Cond.code z b' mx' rt').before a0 Z = true) (hy : y.cls ≠ "java/lang/invoke/MethodHandle" ∧ y.cls ≠ "java/lang/invoke/VarHandle")
    (E : Exa Z h a C) (hM : own_Met l Z z b' mx' rt' [] rm' as' h Q') (hd : decode bytes pc = .ok (.invokeinterface index count, 5)) (hls : ls.size = mx) (hlen : ∀ sig, parseMethodDescriptor y.desc = some sig → argsL.length = sig.parameters.length) (has : (.ref a :: argsL).toArray = as') (hst : st = argsL.reverse ++ .ref a :: rest) (hW : (rest.map fun v => v.category).sum = W)
    (hf : rm'.frames + 1 ≤ R.frames) (hl : W + (mx' + 11) + rm'.locals ≤ R.locals) (hcs : cs + rm'.cells = cs') (hsl : sl + rm'.slots = sl') (hc : cs' ≤ R.cells) (hs : sl' ≤ R.slots)
    (k : ∀ v h', Q' v h' → own_K p l e R s m args below meth c bytes mx rt own nm Z Q pc' ls (v.toList ++ rest) h' cs' sl') : own_K p l e R s m args below meth c bytes mx rt own nm Z Q pc ls st h cs sl := fun vm0 k0 hS hk T L hx hby hml hrt hlk hown hnm hZ X eT N O' => by
  subst hp; subst hcs; subst hsl; subst hst; subst has; subst eT
  obtain ⟨cq, kq, qa, qb, qc⟩ := isOf hZ rfl E
  obtain ⟨v, _, ⟨T2, L2, k2, n2⟩, -, X2, hS2, g2, ⟨Lc2, ⟨hQ2, N2, O2⟩, l2, y2, z2⟩, st2⟩ := X.interfaceBackS hx (xi := y) (y := z) hown (mvT hZ w1) (mvT hZ w2) (mvT hZ w7 w7k) (mvT hZ w5) (mvT hZ w6) (mvT hZ w8) (mvT hZ w9) (mvT hZ w10) hy (own_back (W := W) hZ O' hM w4 w3 hf hl) qa qb qc (g := mkF m pc ls (argsL.reverse ++ .ref a :: rest)) rfl (hls.trans hml.symm) (Steps.refl _) (argsL := argsL) (rest := rest) hlen rfl (by show 2 * 0 + _ ≤ _; omega) (hb hby hd) (fun _ _ => ⟨rfl, rfl, hc, hs⟩)
  dsimp only [Pt.U, Pt.locs, Pt.cells, Pt.slots] at X2 l2 y2 z2 st2 hQ2 O2 hS2 g2
  subst l2 y2 z2
  exact own_go (fun t q => st2.trans q) (k v _ hQ2 T2.vm T2.heap.size (foldS hS hk hS2 g2) (Nat.le_refl _) T2 _ hx hby hml hrt hlk (own_ownS hS2 hown) hnm (State.Warmed39.trans (t := s.setVm vm0) hZ hS2.1) X2 rfl (N.app N2) O2)
theorem own_callI (pc' : Nat) (hp : pc + 3 = pc') (cs' sl' W : Nat) (argsL rest : List Value) {index : Nat} {y : MethodName} {b' : ByteArray} {mx' : Nat} {rm' : Room} {as' : Array Value} {Q' : Option Value → Heap → Prop} {a : Addr} (hy1 : y.name = "<init>")
    (w1 : (Jvm.Cond.methodLink own index y).before a0 Z = true) (w6 : (Jvm.Cond.instanceMethod y).before a0 Z = true) (w3 : (Jvm.Cond.initialized y.cls).before a0 Z = true) (w4 : (Jvm.Cond.code y b' mx' none).before a0 Z = true) (hy : y.cls ≠ "java/lang/invoke/MethodHandle" ∧ y.cls ≠ "java/lang/invoke/VarHandle")
    (hM : own_Met l Z y b' mx' none [] rm' as' h Q') (hd : decode bytes pc = .ok (.invokespecial index, 3)) (hls : ls.size = mx) (hlen : ∀ sig, parseMethodDescriptor y.desc = some sig → argsL.length = sig.parameters.length) (has : (.ref a :: argsL).toArray = as') (hst : st = argsL.reverse ++ .ref a :: rest) (hW : (rest.map fun v => v.category).sum = W)
    (hf : rm'.frames + 1 ≤ R.frames) (hl : W + (mx' + 11) + rm'.locals ≤ R.locals) (hcs : cs + rm'.cells = cs') (hsl : sl + rm'.slots = sl') (hc : cs' ≤ R.cells) (hs : sl' ≤ R.slots)
    (k : ∀ v h', Q' v h' → own_K p l e R s m args below meth c bytes mx rt own nm Z Q pc' ls (v.toList ++ rest) h' cs' sl') : own_K p l e R s m args below meth c bytes mx rt own nm Z Q pc ls st h cs sl := fun vm0 k0 hS hk T L hx hby hml hrt hlk hown hnm hZ X eT N O' => by
  subst hp; subst hcs; subst hsl; subst hst; subst has; subst eT
  obtain ⟨v, _, ⟨T2, L2, k2, n2⟩, -, X2, hS2, g2, ⟨Lc2, ⟨hQ2, N2, O2⟩, l2, y2, z2⟩, st2⟩ := X.specialBackS hx (y := y) hy1 hown (mvT hZ w1) (mvT hZ w6) (mvT hZ w4) hy (own_back (W := W) hZ O' hM w4 w3 hf hl) (g := mkF m pc ls (argsL.reverse ++ .ref a :: rest)) rfl (hls.trans hml.symm) (Steps.refl _) (a := a) (argsL := argsL) (rest := rest) hlen rfl (by show 2 * 0 + _ ≤ _; omega) (hb hby hd) (fun _ _ => ⟨rfl, rfl, hc, hs⟩)
  dsimp only [Pt.U, Pt.locs, Pt.cells, Pt.slots] at X2 l2 y2 z2 st2 hQ2 O2 hS2 g2
  subst l2 y2 z2
  exact own_go (fun t q => st2.trans q) (k v _ hQ2 T2.vm T2.heap.size (foldS hS hk hS2 g2) (Nat.le_refl _) T2 _ hx hby hml hrt hlk (own_ownS hS2 hown) hnm (State.Warmed39.trans (t := s.setVm vm0) hZ hS2.1) X2 rfl (N.app N2) O2)
theorem own_callP (pc' : Nat) (hp : pc + 3 = pc') (cs' sl' W : Nat) (argsL rest : List Value) {index : Nat} {C : String} {y : MethodName} {b' : ByteArray} {mx' : Nat} {rt' : Option FieldType} {rm' : Room} {as' : Array Value} {Q' : Option Value → Heap → Prop} {a : Addr}
    (w1 : (Jvm.Cond.methodLink own index y).before a0 Z = true) (w6 : (Jvm.Cond.instanceMethod y).before a0 Z = true) (w5 : (Jvm.Cond.selects y.cls y y).before a0 Z = true) (w7 : (Jvm.Cond.privateMethod y).before a0 Z = true) (w3 : (Jvm.Cond.initialized y.cls).before a0 Z = true) (w4 : (Jvm.Cond.code y b' mx' rt').before a0 Z = true) (hy : y.cls ≠ "java/lang/invoke/MethodHandle" ∧ y.cls ≠ "java/lang/invoke/VarHandle")
    (E : Exa Z h a C) (hM : own_Met l Z y b' mx' rt' [] rm' as' h Q') (hd : decode bytes pc = .ok (.invokevirtual index, 3)) (hls : ls.size = mx) (hlen : ∀ sig, parseMethodDescriptor y.desc = some sig → argsL.length = sig.parameters.length) (has : (.ref a :: argsL).toArray = as') (hst : st = argsL.reverse ++ .ref a :: rest) (hW : (rest.map fun v => v.category).sum = W)
    (hf : rm'.frames + 1 ≤ R.frames) (hl : W + (mx' + 11) + rm'.locals ≤ R.locals) (hcs : cs + rm'.cells = cs') (hsl : sl + rm'.slots = sl') (hc : cs' ≤ R.cells) (hs : sl' ≤ R.slots)
    (k : ∀ v h', Q' v h' → own_K p l e R s m args below meth c bytes mx rt own nm Z Q pc' ls (v.toList ++ rest) h' cs' sl') : own_K p l e R s m args below meth c bytes mx rt own nm Z Q pc ls st h cs sl := fun vm0 k0 hS hk T L hx hby hml hrt hlk hown hnm hZ X eT N O' => by
  subst hp; subst hcs; subst hsl; subst hst; subst has; subst eT
  obtain ⟨cq, qa, qb⟩ := E.cell
  obtain ⟨v, _, ⟨T2, L2, k2, n2⟩, -, X2, hS2, g2, ⟨Lc2, ⟨hQ2, N2, O2⟩, l2, y2, z2⟩, st2⟩ := X.privateBackS hx (y := y) hown (mvT hZ w1) (mvT hZ w6) (mvT hZ w5) (Cond.privateMethod_at (mvP hZ w7 (args := #[]))) (mvT hZ w4) hy (own_back (W := W) hZ O' hM w4 w3 hf hl) (g := mkF m pc ls (argsL.reverse ++ .ref a :: rest)) rfl (hls.trans hml.symm) (Steps.refl _) (a := a) qa qb (argsL := argsL) (rest := rest) hlen rfl (by show 2 * 0 + _ ≤ _; omega) (hb hby hd) (fun _ _ => ⟨rfl, rfl, hc, hs⟩)
  dsimp only [Pt.U, Pt.locs, Pt.cells, Pt.slots] at X2 l2 y2 z2 st2 hQ2 O2 hS2 g2
  subst l2 y2 z2
  exact own_go (fun t q => st2.trans q) (k v _ hQ2 T2.vm T2.heap.size (foldS hS hk hS2 g2) (Nat.le_refl _) T2 _ hx hby hml hrt hlk (own_ownS hS2 hown) hnm (State.Warmed39.trans (t := s.setVm vm0) hZ hS2.1) X2 rfl (N.app N2) O2)
theorem own_kv {rest : List Value} {Qv : Value → Heap → Prop} (k : ∀ x h', Qv x h' → own_K p l e R s m args below meth c bytes mx rt own nm Z Q pc ls (x :: rest) h' cs sl) : ∀ v h', own_some Qv v h' → own_K p l e R s m args below meth c bytes mx rt own nm Z Q pc ls (v.toList ++ rest) h' cs sl := by
  intro v h' hq
  obtain ⟨x, rfl, hq⟩ := hq
  exact k x h' hq
theorem own_k0 {rest : List Value} {Qn : Heap → Prop} (k : ∀ h', Qn h' → own_K p l e R s m args below meth c bytes mx rt own nm Z Q pc ls rest h' cs sl) : ∀ v h', own_none Qn v h' → own_K p l e R s m args below meth c bytes mx rt own nm Z Q pc ls (v.toList ++ rest) h' cs sl := by
  intro v h' hq
  obtain ⟨rfl, hq⟩ := hq
  exact k h' hq
theorem own_getFR (pc' : Nat) (hp : pc + 3 = pc') {O n d : String} {index : Nat} (w : (Jvm.Cond.fieldRef own index O n d).before a0 Z = true) {a : Addr} {v : Value} (F : Fld Z h a O n d v) (hd : decode bytes pc = .ok (.getfield index, 3))
    (q : own_K p l e R s m args below meth c bytes mx rt own nm Z Q pc' ls (v :: st) h cs sl) : own_K p l e R s m args below meth c bytes mx rt own nm Z Q pc ls (.ref a :: st) h cs sl := fun vm0 k0 hS hk T L hx hby hml hrt hlk hown hnm hZ X eT N O' => by
  subst hp
  have hT : Z.Warmed39 T.vm := wtrans hZ X.warmed
  have hcur : (Z.setVm T.vm).vm.findClass own = some m.cls := by
    show T.vm.findClass own = _
    rw [X.warmed.alike.findClass]; exact hown
  obtain ⟨c1, k1, i1, f1, e1, rdy⟩ := Cond.fieldRef_spec hcur (Cond.fieldRef_warmed39 hT w)
  obtain ⟨cell, cf, k, i, f, g1, g2, g3, g4, g5, g6, g7⟩ := F
  obtain ⟨k', q1, q2⟩ := State.fieldFound?_setVm (s := Z) hT.alike g2
  cases e1.symm.trans q1
  exact own_go (fun t k => (X.getfieldR hx (g := mkF m pc ls (.ref a :: st)) rfl rdy g3 rfl (by rw [eT]; exact g1) g4 g7 (hb hby hd) (Steps.refl _)).trans k) (q vm0 k0 hS hk T L hx hby hml hrt hlk hown hnm hZ X eT N O')
theorem own_callQ (pc' : Nat) (hp : pc + 3 = pc') (cs' sl' W : Nat) (argsL rest : List Value) {index : Nat} {C C2 : String} {y y2 : MethodName} {b' : ByteArray} {mx' : Nat} {rt' : Option FieldType} {rm' : Room} {as' : Array Value} {Q' : Option Value → Heap → Prop} {a : Addr}
    (w1 : (Jvm.Cond.methodLink own index y).before a0 Z = true) (w6 : (Jvm.Cond.instanceMethod y).before a0 Z = true) (w5 : (Jvm.Cond.selects C2 y2 y2).before a0 Z = true) (w8 : (Jvm.Cond.instanceMethod y2).before a0 Z = true) (hc2 : y2.cls = y.cls) (w7 : (Jvm.Cond.privateMethod y).before a0 Z = true) (w3 : (Jvm.Cond.initialized y.cls).before a0 Z = true) (w4 : (Jvm.Cond.code y b' mx' rt').before a0 Z = true) (hy : y.cls ≠ "java/lang/invoke/MethodHandle" ∧ y.cls ≠ "java/lang/invoke/VarHandle")
    (E : Exa Z h a C) (hM : own_Met l Z y b' mx' rt' [] rm' as' h Q') (hd : decode bytes pc = .ok (.invokevirtual index, 3)) (hls : ls.size = mx) (hlen : ∀ sig, parseMethodDescriptor y.desc = some sig → argsL.length = sig.parameters.length) (has : (.ref a :: argsL).toArray = as') (hst : st = argsL.reverse ++ .ref a :: rest) (hW : (rest.map fun v => v.category).sum = W)
    (hf : rm'.frames + 1 ≤ R.frames) (hl : W + (mx' + 11) + rm'.locals ≤ R.locals) (hcs : cs + rm'.cells = cs') (hsl : sl + rm'.slots = sl') (hc : cs' ≤ R.cells) (hs : sl' ≤ R.slots)
    (k : ∀ v h', Q' v h' → own_K p l e R s m args below meth c bytes mx rt own nm Z Q pc' ls (v.toList ++ rest) h' cs' sl') : own_K p l e R s m args below meth c bytes mx rt own nm Z Q pc ls st h cs sl := fun vm0 k0 hS hk T L hx hby hml hrt hlk hown hnm hZ X eT N O' => by
  subst hp; subst hcs; subst hsl; subst hst; subst has; subst eT
  obtain ⟨cq, qa, qb⟩ := E.cell
  have hpr := Cond.privateMethod_at (mvP hZ w7 (args := args))
  obtain ⟨r0, mt, hn2, -⟩ := Cond.instanceMethod_spec (mvT (args := args) hZ w8)
  obtain ⟨kk, hk1, hk2⟩ := notFace_of_selects (args := args) (mvT hZ w5) r0 hn2
  have hse : (Jvm.Cond.selects y.cls y y).before args (s.setVm vm0) = true := selects_self_of_private (hc2 ▸ findClass_of_methodNamed hn2) hk1 hk2 hpr (mvT hZ w6) hy
  obtain ⟨v, _, ⟨T2, L2, k2, n2⟩, -, X2, hS2, g2, ⟨Lc2, ⟨hQ2, N2, O2⟩, l2, y2, z2⟩, st2⟩ := X.privateBackS hx (y := y) hown (mvT hZ w1) (mvT hZ w6) hse hpr (mvT hZ w4) hy (own_back (W := W) hZ O' hM w4 w3 hf hl) (g := mkF m pc ls (argsL.reverse ++ .ref a :: rest)) rfl (hls.trans hml.symm) (Steps.refl _) (a := a) qa qb (argsL := argsL) (rest := rest) hlen rfl (by show 2 * 0 + _ ≤ _; omega) (hb hby hd) (fun _ _ => ⟨rfl, rfl, hc, hs⟩)
  dsimp only [Pt.U, Pt.locs, Pt.cells, Pt.slots] at X2 l2 y2 z2 st2 hQ2 O2 hS2 g2
  subst l2 y2 z2
  exact own_go (fun t q => st2.trans q) (k v _ hQ2 T2.vm T2.heap.size (foldS hS hk hS2 g2) (Nat.le_refl _) T2 _ hx hby hml hrt hlk (own_ownS hS2 hown) hnm (State.Warmed39.trans (t := s.setVm vm0) hZ hS2.1) X2 rfl (N.app N2) O2)
theorem own_ldcS (pc' : Nat) (hp : pc + 2 = pc') (cs' sl' n : Nat) {text : String} {index : Nat} (w : (Jvm.Cond.stringLink own index text).before a0 Z = true) (wS : ∀ a ∈ Bundle.stringAtoms, a.before a0 Z = true) (hd : decode bytes pc = .ok (.ldc index, 2)) (hn : 4 * text.toList.length ≤ n) (hbig : n ≤ 536870912) (hcs : cs + 2 = cs') (hsl : sl + (n + 4) = sl') (hc : cs' ≤ R.cells) (hl : sl' ≤ R.slots)
    (q : ∀ h' (a : Addr), Ext h h' → own_K p l e R s m args below meth c bytes mx rt own nm Z Q pc' ls (.ref a :: st) h' cs' sl') : own_K p l e R s m args below meth c bytes mx rt own nm Z Q pc ls st h cs sl := fun vm0 k0 hS hk T L hx hby hml hrt hlk hown hnm hZ X eT N O' => by
  subst hp; subst hcs; subst hsl
  obtain ⟨a, T', h', k1, X', e', E, hS', hk', hZ', hown', s'⟩ := ldcS X hx hZ hown w wS eT hS hk (g := mkF m pc ls st) rfl (hb hby hd) hn hbig hc hl
  exact own_go s' (q h' a E T'.vm k1 hS' hk' T' _ hx hby hml hrt hlk hown' hnm hZ' X' e' N (O'.ext E))
-- a case's words
theorem own_eqI {t : Term} {k : Int32} {o : Option Outcome} {idx : List Nat} {first : State} (hq : (Jvm.Cond.eq t (.int k)).value args first o s idx = some true) : t.eval args first o idx s = some (.int k) := by
  simp only [Jvm.Cond.value, Term.eval] at hq
  cases ht : t.eval args first o idx s with
  | none => simp [ht] at hq
  | some x => cases x <;> simp [ht] at hq ⊢; exact hq
theorem own_eqR {t u : Term} {a : Addr} {o : Option Outcome} {idx : List Nat} {first : State} (hq : (Jvm.Cond.eq t u).value args first o s idx = some true) (hu : u.eval args first o idx s = some (.ref a)) : t.eval args first o idx s = some (.ref a) := by
  simp only [Jvm.Cond.value, hu] at hq
  cases ht : t.eval args first o idx s with
  | none => simp [ht] at hq
  | some x => cases x <;> simp [ht] at hq ⊢; exact hq
theorem own_fold {f : Nat → Option Bool} : ∀ (L : List Nat) (acc : Option Bool), L.foldl (fun acc i => match acc with | some true => f i | x => x) acc = some true → acc = some true ∧ ∀ i ∈ L, f i = some true
  | [], acc, hq => ⟨hq, fun _ q => nomatch q⟩
  | a :: L, acc, hq => by
    obtain ⟨h1, h2⟩ := own_fold L _ hq
    rcases acc with _ | _ | _
    · cases h1
    · cases h1
    · exact ⟨rfl, fun i hi => (List.mem_cons.mp hi).elim (fun q => q ▸ h1) (h2 i)⟩
theorem own_all {t : Term} {cd : Jvm.Cond} {o : Option Outcome} {idx : List Nat} {first : State} {a : Addr} {cell : Cell} (hq : (Jvm.Cond.all t cd).value args first o s idx = some true) (ht : t.eval args first o idx s = some (.ref a)) (ha : s.arrayAt? a = some cell) : ∀ i, i < cell.slots.size → cd.value args first o s (i :: idx) = some true := by
  simp only [Jvm.Cond.value, ht, ha] at hq
  exact fun i hi => (own_fold _ _ hq).2 i (List.mem_range.mpr hi)
theorem own_len {t : Term} {n : Int32} {o : Option Outcome} {idx : List Nat} {first : State} {a : Addr} {cell : Cell} (hq : (Term.length t).eval args first o idx s = some (.int n)) (ht : t.eval args first o idx s = some (.ref a)) (ha : s.arrayAt? a = some cell) : cell.slots.size.toInt32 = n ∧ cell.slots.size < 2 ^ 31 := by
  simp only [Term.eval, ht, ha, Option.bind_eq_bind, Option.bind_some] at hq
  split at hq
  · rename_i hl
    exact ⟨by simpa using hq, hl⟩
  · cases hq
theorem own_elem {t : Term} {j : Int32} {v : Value} {o : Option Outcome} {idx : List Nat} {first : State} {a : Addr} {cell : Cell} (hq : (Term.elem t (.int j)).eval args first o idx s = some v) (ht : t.eval args first o idx s = some (.ref a)) (ha : s.heap[a]? = some cell) : cell.slots[j.toNatClampNeg]? = some v :=
  (elem_in hq ht rfl ha).2
-- ints as integers
theorem own_lt {x y : Int32} (h : x < y) : x.toInt < y.toInt := Int32.lt_iff_toInt_lt.mp h
theorem own_nlt {x y : Int32} (h : ¬ x < y) : y.toInt ≤ x.toInt := Int.not_lt.mp fun q => h (Int32.lt_iff_toInt_lt.mpr q)
theorem own_eq {x y : Int32} (h : x = y) : x.toInt = y.toInt := congrArg _ h
theorem own_neq {x y : Int32} (h : ¬ x = y) : ¬ x.toInt = y.toInt := fun q => h (Int32.toInt_inj.mp q)
theorem own_lt' {x y : Int32} (h : x.toInt < y.toInt) : x < y := Int32.lt_iff_toInt_lt.mpr h
theorem own_nlt' {x y : Int32} (h : y.toInt ≤ x.toInt) : ¬ x < y := fun q => Int.not_lt.mpr h (Int32.lt_iff_toInt_lt.mp q)
theorem own_eq' {x y : Int32} (h : x.toInt = y.toInt) : x = y := Int32.toInt_inj.mp h
theorem own_neq' {x y : Int32} (h : ¬ x.toInt = y.toInt) : ¬ x = y := fun q => h (congrArg _ q)
theorem own_ltL {x y : Int64} (h : x < y) : x.toInt < y.toInt := Int64.lt_iff_toInt_lt.mp h
theorem own_nltL {x y : Int64} (h : ¬ x < y) : y.toInt ≤ x.toInt := Int.not_lt.mp fun q => h (Int64.lt_iff_toInt_lt.mpr q)
theorem own_eqL {x y : Int64} (h : x = y) : x.toInt = y.toInt := congrArg _ h
theorem own_neqL {x y : Int64} (h : ¬ x = y) : ¬ x.toInt = y.toInt := fun q => h (Int64.toInt_inj.mp q)
theorem own_ltL' {x y : Int64} (h : x.toInt < y.toInt) : x < y := Int64.lt_iff_toInt_lt.mpr h
theorem own_nltL' {x y : Int64} (h : y.toInt ≤ x.toInt) : ¬ x < y := fun q => Int.not_lt.mpr h (Int64.lt_iff_toInt_lt.mp q)
theorem own_eqL' {x y : Int64} (h : x.toInt = y.toInt) : x = y := Int64.toInt_inj.mp h
theorem own_neqL' {x y : Int64} (h : ¬ x.toInt = y.toInt) : ¬ x = y := fun q => h (congrArg _ q)
end Own
/-! the ring of times -/
theorem own_nat {x : Int32} (h : 0 ≤ x.toInt) : (x.toNatClampNeg : Int) = x.toInt := (nat_of (own_nlt' h)).symm
def own_ix (N hd i : Int32) : Int32 := if i < N - hd then hd + i else i - (N - hd)
def own_ixI (N hd i : Int) : Int := if hd + i < N then hd + i else hd + i - N
theorem own_ix_int {N hd i : Int32} (hN : N.toInt ≤ 8) (h0 : 0 ≤ hd.toInt) (h1 : hd.toInt < N.toInt) (i0 : 0 ≤ i.toInt) (i1 : i.toInt ≤ N.toInt) : (own_ix N hd i).toInt = own_ixI N.toInt hd.toInt i.toInt := by
  have c1 := c_isub N hd
  have c2 := rng32 (N - hd)
  have c3 := c_iadd hd i
  have c4 := rng32 (hd + i)
  have c5 := c_isub i (N - hd)
  have c6 := rng32 (i - (N - hd))
  unfold own_ix own_ixI
  by_cases q : i < N - hd
  · have q' := own_lt q
    rw [if_pos q, if_pos (by omega)]; omega
  · have q' := own_nlt q
    rw [if_neg q, if_neg (by omega)]; omega
theorem own_ix_rng {N hd i : Int32} (hN : N.toInt ≤ 8) (h0 : 0 ≤ hd.toInt) (h1 : hd.toInt < N.toInt) (i0 : 0 ≤ i.toInt) (i1 : i.toInt ≤ N.toInt) : 0 ≤ (own_ix N hd i).toInt ∧ (own_ix N hd i).toInt < N.toInt := by
  rw [own_ix_int hN h0 h1 i0 i1]; unfold own_ixI; split <;> omega
theorem own_ix_ix {N hd i j s : Int32} (hN : N.toInt ≤ 8) (h0 : 0 ≤ hd.toInt) (h1 : hd.toInt < N.toInt) (i0 : 0 ≤ i.toInt) (j0 : 0 ≤ j.toInt) (e : s.toInt = i.toInt + j.toInt) (s1 : s.toInt ≤ N.toInt) : own_ix N (own_ix N hd i) j = own_ix N hd s := by
  have r := own_ix_rng hN h0 h1 i0 (by omega)
  have q := own_ix_int hN h0 h1 i0 (i := i) (by omega)
  apply own_eq'
  rw [own_ix_int hN r.1 r.2 j0 (by omega), own_ix_int hN h0 h1 (by omega) s1, q, e]
  unfold own_ixI
  split <;> split <;> split <;> omega
theorem own_ix_ne {N hd i j : Int32} (hN : N.toInt ≤ 8) (h0 : 0 ≤ hd.toInt) (h1 : hd.toInt < N.toInt) (i0 : 0 ≤ i.toInt) (i1 : i.toInt < N.toInt) (j0 : 0 ≤ j.toInt) (j1 : j.toInt < N.toInt) (ne : ¬ i.toInt = j.toInt) : ¬ (own_ix N hd i).toNatClampNeg = (own_ix N hd j).toNatClampNeg := fun q => by
  have a := own_ix_rng hN h0 h1 i0 (i := i) (by omega)
  have b := own_ix_rng hN h0 h1 j0 (i := j) (by omega)
  have c := own_nat a.1
  have d := own_nat b.1
  have e : (own_ix N hd i).toInt = (own_ix N hd j).toInt := by omega
  rw [own_ix_int hN h0 h1 i0 (by omega), own_ix_int hN h0 h1 j0 (by omega)] at e
  unfold own_ixI at e
  revert e; split <;> split <;> omega
def own_Log (Z : State) (h : Heap) (p a : Addr) (N : Int32) (S : Int64) (hd : Int32) (xs : List Int64) : Prop :=
  ∃ (c : Cell) (fu : Int64), (Z.heap.size ≤ p ∧ Z.heap.size ≤ a) ∧ Exa Z h p "com/example/lean_limiter/leanlimiter/ExactLog" ∧ Fld Z h p "com/example/lean_limiter/leanlimiter/ExactLog" "count" "I" (.int N) ∧ Fld Z h p "com/example/lean_limiter/leanlimiter/ExactLog" "spanMicros" "J" (.long S) ∧ Fld Z h p "com/example/lean_limiter/leanlimiter/ExactLog" "times" "[J" (.ref a) ∧
    Fld Z h p "com/example/lean_limiter/leanlimiter/ExactLog" "head" "I" (.int hd) ∧ Fld Z h p "com/example/lean_limiter/leanlimiter/ExactLog" "size" "I" (.int (Int32.ofNat xs.length)) ∧ Fld Z h p "com/example/lean_limiter/leanlimiter/Tally" "fullUntil" "J" (.long fu) ∧ Arr Z h a c .long ∧
    (1 ≤ N.toInt ∧ N.toInt ≤ 8) ∧ (0 ≤ hd.toInt ∧ hd.toInt < N.toInt) ∧ (xs.length : Int) ≤ N.toInt ∧ c.slots.size = N.toNatClampNeg ∧ (∀ i x, xs[i]? = some x → c.slots[(own_ix N hd (Int32.ofNat i)).toNatClampNeg]? = some (.long x))
def own_left (w : Int64) : List Int64 → Nat
  | [] => 0
  | x :: r => if w < x then 0 else own_left w r + 1
def own_maxJ (a b : Int64) : Int64 := if a < b then b else a
def own_dec (t : Int64) : List Int64 → Int64
  | [] => t
  | x :: r => own_maxJ t ((x :: r).getLastD 0)
def own_sorted : List Int64 → Prop
  | [] => True
  | [_] => True
  | x :: y :: r => x.toInt ≤ y.toInt ∧ own_sorted (y :: r)
theorem own_lenN {c : Cell} {N : Int32} (h : c.slots.size = N.toNatClampNeg) (h1 : 1 ≤ N.toInt) : c.slots.size.toInt32 = N := by
  have e := own_nat (x := N) (by omega)
  have r := rng32 N
  apply own_eq'
  rw [len_toInt (by omega : c.slots.size < 2 ^ 31)]; omega
theorem own_hin {c : Cell} {N hd i : Int32} (SZ : c.slots.size = N.toNatClampNeg) (hN : 1 ≤ N.toInt ∧ N.toInt ≤ 8) (hh : 0 ≤ hd.toInt ∧ hd.toInt < N.toInt) (i0 : 0 ≤ i.toInt) (i1 : i.toInt ≤ N.toInt) : ¬ (own_ix N hd i < 0 ∨ c.slots.size ≤ (own_ix N hd i).toNatClampNeg) := fun q => by
  have r := own_ix_rng hN.2 hh.1 hh.2 i0 i1
  have a := own_nat r.1
  have b := own_nat (x := N) (by omega)
  exact q.elim (own_nlt' r.1) (by omega)
def own_minJ (a b : Int64) : Int64 := if b < a then b else a
theorem own_len0 {n : Nat} (h : n < 8) : (Int32.ofNat n).toInt = n := Int32.toInt_ofNat_small (by omega)

theorem d20_0 : decode prog_3_method_12_code 0 = .ok (.aload_n 0, 1) := by decide +kernel
theorem d20_1 : decode prog_3_method_12_code 1 = .ok (.getfield 34, 3) := by decide +kernel
theorem d20_4 : decode prog_3_method_12_code 4 = .ok (.arraylength, 1) := by decide +kernel
theorem d20_5 : decode prog_3_method_12_code 5 = .ok (.aload_n 0, 1) := by decide +kernel
theorem d20_6 : decode prog_3_method_12_code 6 = .ok (.getfield 52, 3) := by decide +kernel
theorem d20_9 : decode prog_3_method_12_code 9 = .ok (.isub, 1) := by decide +kernel
theorem d20_10 : decode prog_3_method_12_code 10 = .ok (.istore_n 2, 1) := by decide +kernel
theorem d20_11 : decode prog_3_method_12_code 11 = .ok (.iload_n 1, 1) := by decide +kernel
theorem d20_12 : decode prog_3_method_12_code 12 = .ok (.iload_n 2, 1) := by decide +kernel
theorem d20_13 : decode prog_3_method_12_code 13 = .ok (.if_icmp .ge 12, 3) := by decide +kernel
theorem d20_16 : decode prog_3_method_12_code 16 = .ok (.aload_n 0, 1) := by decide +kernel
theorem d20_17 : decode prog_3_method_12_code 17 = .ok (.getfield 52, 3) := by decide +kernel
theorem d20_20 : decode prog_3_method_12_code 20 = .ok (.iload_n 1, 1) := by decide +kernel
theorem d20_21 : decode prog_3_method_12_code 21 = .ok (.iadd, 1) := by decide +kernel
theorem d20_22 : decode prog_3_method_12_code 22 = .ok (.goto 6, 3) := by decide +kernel
theorem d20_28 : decode prog_3_method_12_code 28 = .ok (.ireturn, 1) := by decide +kernel
theorem d20_25 : decode prog_3_method_12_code 25 = .ok (.iload_n 1, 1) := by decide +kernel
theorem d20_26 : decode prog_3_method_12_code 26 = .ok (.iload_n 2, 1) := by decide +kernel
theorem d20_27 : decode prog_3_method_12_code 27 = .ok (.isub, 1) := by decide +kernel
theorem own_pf0 : plainFor (⟨"com/example/lean_limiter/leanlimiter/ExactLog", "indexOf", "(I)I"⟩ : MethodName) = true := by first | exact plainFor_of_name (by first | (simp [plainName, overriddenIn]; done) | decide +kernel) | decide +kernel
set_option maxRecDepth 65536 in
set_option maxHeartbeats 40000000 in
theorem rmIx (l : Launch) (Z : State) (a0 : Array Value) (hw : ∀ d ∈ tables_1, d.before a0 Z = true) (ws : List Jvm.Cond) (p1 a : Addr) (N : Int32) (S : Int64) (hd : Int32) (xs : List Int64) (i : Int32) (h0 : Heap) (RS : own_Log Z h0 p1 a N S hd xs) :
    own_Met l Z (⟨"com/example/lean_limiter/leanlimiter/ExactLog", "indexOf", "(I)I"⟩ : MethodName) prog_3_method_12_code 3 (some .int) ws ({ frames := 0, cells := 0, slots := 0, locals := 0 } : Room) #[(.ref p1), (.int i)] h0 (own_some (fun v h => v = .int (own_ix N hd i) ∧ h = h0)) := by
  obtain ⟨cc, fu, ⟨g1, ga⟩, EX, FC, FSp, FT, FH, FS, FU, AR, hN, hh, hxl, SZ, EL⟩ := id RS
  refine own_met (ls0 := #[.val (.ref p1), .val (.int i), .unset]) own_pf0 (fun m => by first | rfl | (simp [entryFrame, mkF, argsToLocals, Value.category, maxLocals]; done)) ?_
  intro p e s m below meth c
  refine own_old (fun O0 => ?_)
  refine own_aloadN 1 rfl d20_0 rfl rfl ?_
  refine own_getF 4 rfl (host := "") (Or.inl (hw _ (List.mem_of_getElem? (i := 94) rfl))) Via.refl FT d20_1 ?_
  refine own_alen 5 rfl AR N (own_lenN SZ hN.1) d20_4 ?_
  refine own_aloadN 6 rfl d20_5 rfl rfl ?_
  refine own_getF 9 rfl (host := "") (Or.inl (hw _ (List.mem_of_getElem? (i := 127) rfl))) Via.refl FH d20_6 ?_
  refine own_isub 10 rfl d20_9 ?_
  refine own_istoreN 11 rfl #[.val (.ref p1), .val (.int i), .val (.int (N - hd))] d20_10 rfl ?_
  refine own_iloadN 12 rfl d20_11 rfl ?_
  refine own_iloadN 13 rfl d20_12 rfl ?_
  by_cases hc13 : i < (N - hd)
  · have ihc13 : i.toInt < (N - hd).toInt := own_lt hc13
    refine own_icmpNo 16 rfl d20_13 (tlt hc13).2.1 ?_
    refine own_aloadN 17 rfl d20_16 rfl rfl ?_
    refine own_getF 20 rfl (host := "") (Or.inl (hw _ (List.mem_of_getElem? (i := 127) rfl))) Via.refl FH d20_17 ?_
    refine own_iloadN 21 rfl d20_20 rfl ?_
    refine own_iadd 22 rfl d20_21 ?_
    refine own_goto 28 d20_22 (by decide) (by decide) ?_
    refine own_retI rfl d20_28 (by decide) (by decide) ?_
    exact ⟨_, rfl, by rw [own_ix, if_pos hc13], rfl⟩
  · have ihc13 : (N - hd).toInt ≤ i.toInt := own_nlt hc13
    refine own_icmpYes 25 d20_13 (flt hc13).2.1 (by decide) (by decide) ?_
    refine own_iloadN 26 rfl d20_25 rfl ?_
    refine own_iloadN 27 rfl d20_26 rfl ?_
    refine own_isub 28 rfl d20_27 ?_
    refine own_retI rfl d20_28 (by decide) (by decide) ?_
    exact ⟨_, rfl, by rw [own_ix, if_neg hc13], rfl⟩
theorem d24_0 : decode jdk_29_method_70_code 0 = .ok (.lload_n 0, 1) := by decide +kernel
theorem d24_1 : decode jdk_29_method_70_code 1 = .ok (.lload_n 2, 1) := by decide +kernel
theorem d24_2 : decode jdk_29_method_70_code 2 = .ok (.lcmp, 1) := by decide +kernel
theorem d24_3 : decode jdk_29_method_70_code 3 = .ok (.ifCond .gt 7, 3) := by decide +kernel
theorem d24_10 : decode jdk_29_method_70_code 10 = .ok (.lload_n 2, 1) := by decide +kernel
theorem d24_11 : decode jdk_29_method_70_code 11 = .ok (.lreturn, 1) := by decide +kernel
theorem d24_6 : decode jdk_29_method_70_code 6 = .ok (.lload_n 0, 1) := by decide +kernel
theorem d24_7 : decode jdk_29_method_70_code 7 = .ok (.goto 4, 3) := by decide +kernel
theorem own_pf1 : plainFor (⟨"java/lang/Math", "min", "(JJ)J"⟩ : MethodName) = true := by first | exact plainFor_of_name (by first | (simp [plainName, overriddenIn]; done) | decide +kernel) | decide +kernel
set_option maxRecDepth 65536 in
set_option maxHeartbeats 40000000 in
theorem rmminJ (l : Launch) (Z : State) (a0 : Array Value) (hw : ∀ d ∈ tables_1, d.before a0 Z = true) (ws : List Jvm.Cond) (x y : Int64) (h0 : Heap)  :
    own_Met l Z (⟨"java/lang/Math", "min", "(JJ)J"⟩ : MethodName) jdk_29_method_70_code 4 (some .long) ws ({ frames := 0, cells := 0, slots := 0, locals := 0 } : Room) #[(.long x), (.long y)] h0 (own_some (fun v h => v = .long (own_minJ x y) ∧ h = h0)) := by
  refine own_met (ls0 := #[.val (.long x), .second, .val (.long y), .second]) own_pf1 (fun m => by first | rfl | (simp [entryFrame, mkF, argsToLocals, Value.category, maxLocals]; done)) ?_
  intro p e s m below meth c
  refine own_old (fun O0 => ?_)
  refine own_lloadN 1 rfl d24_0 rfl ?_
  refine own_lloadN 2 rfl d24_1 rfl ?_
  refine own_lcmp 3 rfl d24_2 ?_
  by_cases hc3 : y < x
  · have ihc3 : y.toInt < x.toInt := own_ltL hc3
    refine own_ifYes 10 d24_3 (tlt ((lw_gt _ _).mpr hc3)).2.2.1 (by decide) (by decide) ?_
    refine own_lloadN 11 rfl d24_10 rfl ?_
    refine own_retJ rfl d24_11 (by decide) (by decide) ?_
    exact ⟨_, rfl, by unfold own_minJ; first | rw [if_pos hc3] | rw [if_neg hc3], rfl⟩
  · have ihc3 : x.toInt ≤ y.toInt := own_nltL hc3
    refine own_ifNo 6 rfl d24_3 (flt (fun q => hc3 ((lw_gt _ _).mp q))).2.2.1 ?_
    refine own_lloadN 7 rfl d24_6 rfl ?_
    refine own_goto 11 d24_7 (by decide) (by decide) ?_
    refine own_retJ rfl d24_11 (by decide) (by decide) ?_
    exact ⟨_, rfl, by unfold own_minJ; first | rw [if_pos hc3] | rw [if_neg hc3], rfl⟩
theorem d2_0 : decode jdk_29_method_66_code 0 = .ok (.lload_n 0, 1) := by decide +kernel
theorem d2_1 : decode jdk_29_method_66_code 1 = .ok (.lload_n 2, 1) := by decide +kernel
theorem d2_2 : decode jdk_29_method_66_code 2 = .ok (.lcmp, 1) := by decide +kernel
theorem d2_3 : decode jdk_29_method_66_code 3 = .ok (.ifCond .lt 7, 3) := by decide +kernel
theorem d2_10 : decode jdk_29_method_66_code 10 = .ok (.lload_n 2, 1) := by decide +kernel
theorem d2_11 : decode jdk_29_method_66_code 11 = .ok (.lreturn, 1) := by decide +kernel
theorem d2_6 : decode jdk_29_method_66_code 6 = .ok (.lload_n 0, 1) := by decide +kernel
theorem d2_7 : decode jdk_29_method_66_code 7 = .ok (.goto 4, 3) := by decide +kernel
theorem own_pf2 : plainFor (⟨"java/lang/Math", "max", "(JJ)J"⟩ : MethodName) = true := by first | exact plainFor_of_name (by first | (simp [plainName, overriddenIn]; done) | decide +kernel) | decide +kernel
set_option maxRecDepth 65536 in
set_option maxHeartbeats 40000000 in
theorem rmmaxJ (l : Launch) (Z : State) (a0 : Array Value) (hw : ∀ d ∈ tables_1, d.before a0 Z = true) (ws : List Jvm.Cond) (x y : Int64) (h0 : Heap)  :
    own_Met l Z (⟨"java/lang/Math", "max", "(JJ)J"⟩ : MethodName) jdk_29_method_66_code 4 (some .long) ws ({ frames := 0, cells := 0, slots := 0, locals := 0 } : Room) #[(.long x), (.long y)] h0 (own_some (fun v h => v = .long (own_maxJ x y) ∧ h = h0)) := by
  refine own_met (ls0 := #[.val (.long x), .second, .val (.long y), .second]) own_pf2 (fun m => by first | rfl | (simp [entryFrame, mkF, argsToLocals, Value.category, maxLocals]; done)) ?_
  intro p e s m below meth c
  refine own_old (fun O0 => ?_)
  refine own_lloadN 1 rfl d2_0 rfl ?_
  refine own_lloadN 2 rfl d2_1 rfl ?_
  refine own_lcmp 3 rfl d2_2 ?_
  by_cases hc3 : x < y
  · have ihc3 : x.toInt < y.toInt := own_ltL hc3
    refine own_ifYes 10 d2_3 (tlt ((lw_lt _ _).mpr hc3)).1 (by decide) (by decide) ?_
    refine own_lloadN 11 rfl d2_10 rfl ?_
    refine own_retJ rfl d2_11 (by decide) (by decide) ?_
    exact ⟨_, rfl, by unfold own_maxJ; first | rw [if_pos hc3] | rw [if_neg hc3], rfl⟩
  · have ihc3 : y.toInt ≤ x.toInt := own_nltL hc3
    refine own_ifNo 6 rfl d2_3 (flt (fun q => hc3 ((lw_lt _ _).mp q))).1 ?_
    refine own_lloadN 7 rfl d2_6 rfl ?_
    refine own_goto 11 d2_7 (by decide) (by decide) ?_
    refine own_retJ rfl d2_11 (by decide) (by decide) ?_
    exact ⟨_, rfl, by unfold own_maxJ; first | rw [if_pos hc3] | rw [if_neg hc3], rfl⟩
theorem d23_0 : decode prog_3_method_9_code 0 = .ok (.aload_n 0, 1) := by decide +kernel
theorem d23_1 : decode prog_3_method_9_code 1 = .ok (.getfield 34, 3) := by decide +kernel
theorem d23_4 : decode prog_3_method_9_code 4 = .ok (.aload_n 0, 1) := by decide +kernel
theorem d23_5 : decode prog_3_method_9_code 5 = .ok (.aload_n 0, 1) := by decide +kernel
theorem d23_6 : decode prog_3_method_9_code 6 = .ok (.getfield 38, 3) := by decide +kernel
theorem d23_9 : decode prog_3_method_9_code 9 = .ok (.iconst 1, 1) := by decide +kernel
theorem d23_10 : decode prog_3_method_9_code 10 = .ok (.isub, 1) := by decide +kernel
theorem d23_11 : decode prog_3_method_9_code 11 = .ok (.invokevirtual 59, 3) := by decide +kernel
theorem own_pd0 : parseMethodDescriptor "(I)I" = some ⟨[.int], some .int⟩ := by decide +kernel
theorem d23_14 : decode prog_3_method_9_code 14 = .ok (.laload, 1) := by decide +kernel
theorem d23_15 : decode prog_3_method_9_code 15 = .ok (.lreturn, 1) := by decide +kernel
theorem own_pf3 : plainFor (⟨"com/example/lean_limiter/leanlimiter/ExactLog", "newest", "()J"⟩ : MethodName) = true := by first | exact plainFor_of_name (by first | (simp [plainName, overriddenIn]; done) | decide +kernel) | decide +kernel
set_option maxRecDepth 65536 in
set_option maxHeartbeats 40000000 in
theorem rmNew1 (l : Launch) (Z : State) (a0 : Array Value) (hw : ∀ d ∈ tables_1, d.before a0 Z = true) (ws : List Jvm.Cond) (p1 a : Addr) (N : Int32) (S : Int64) (hd : Int32) (x0 : Int64) (h0 : Heap) (RS : own_Log Z h0 p1 a N S hd [x0]) :
    own_Met l Z (⟨"com/example/lean_limiter/leanlimiter/ExactLog", "newest", "()J"⟩ : MethodName) prog_3_method_9_code 1 (some .long) ws ({ frames := 1, cells := 0, slots := 0, locals := 15 } : Room) #[(.ref p1)] h0 (own_some (fun v h => v = .long x0 ∧ h = h0)) := by
  obtain ⟨cc, fu, ⟨g1, ga⟩, EX, FC, FSp, FT, FH, FS, FU, AR, hN, hh, hxl, SZ, EL⟩ := id RS
  have hxl' : (1 : Int) ≤ N.toInt := hxl
  have FS : Fld Z h0 p1 "com/example/lean_limiter/leanlimiter/ExactLog" "size" "I" (.int (1 : Int32)) := FS
  refine own_met (ls0 := #[.val (.ref p1)]) own_pf3 (fun m => by first | rfl | (simp [entryFrame, mkF, argsToLocals, Value.category, maxLocals]; done)) ?_
  intro p e s m below meth c
  refine own_old (fun O0 => ?_)
  refine own_aloadN 1 rfl d23_0 rfl rfl ?_
  refine own_getF 4 rfl (host := "") (Or.inl (hw _ (List.mem_of_getElem? (i := 94) rfl))) Via.refl FT d23_1 ?_
  refine own_aloadN 5 rfl d23_4 rfl rfl ?_
  refine own_aloadN 6 rfl d23_5 rfl rfl ?_
  refine own_getF 9 rfl (host := "") (Or.inl (hw _ (List.mem_of_getElem? (i := 101) rfl))) Via.refl FS d23_6 ?_
  refine own_iconst 10 rfl (1 : Int32) d23_9 rfl ?_
  refine own_isub 11 rfl d23_10 ?_
  rw [show ((1 : Int32) - (1 : Int32)) = (0 : Int32) from by decide]
  refine own_callQ 14 rfl 0 0 1 [(.int (0 : Int32))] [(.ref a)] (y := (⟨"com/example/lean_limiter/leanlimiter/ExactLog", "indexOf", "(I)I"⟩ : MethodName)) (y2 := (⟨"com/example/lean_limiter/leanlimiter/ExactLog", "isIdleAt", "(J)Z"⟩ : MethodName)) (hw _ (List.mem_of_getElem? (i := 123) rfl)) (hw _ (List.mem_of_getElem? (i := 124) rfl)) (hw _ (List.mem_of_getElem? (i := 99) rfl)) (hw _ (List.mem_of_getElem? (i := 98) rfl)) rfl (hw _ (List.mem_of_getElem? (i := 125) rfl)) (hw _ (List.mem_of_getElem? (i := 13) rfl)) (hw _ (List.mem_of_getElem? (i := 126) rfl)) (by decide) EX (rmIx l Z a0 hw [] p1 a N S hd [x0] (0 : Int32) h0 RS) d23_11 rfl (lenOf own_pd0 rfl) rfl rfl rfl (by decide) (by decide) rfl rfl (by decide) (by decide) (own_kv fun v1 h1 q1 => ?_)
  obtain ⟨rfl, e1⟩ := q1
  rw [e1]
  refine own_laload 15 rfl AR (own_hin SZ hN hh (by decide) (by show (0 : Int) ≤ _; omega)) (EL 0 x0 rfl) d23_14 ?_
  refine own_retJ rfl d23_15 (by decide) (by decide) ?_
  exact ⟨_, rfl, rfl, rfl⟩
set_option maxRecDepth 65536 in
set_option maxHeartbeats 40000000 in
theorem rmNew2 (l : Launch) (Z : State) (a0 : Array Value) (hw : ∀ d ∈ tables_1, d.before a0 Z = true) (ws : List Jvm.Cond) (p1 a : Addr) (N : Int32) (S : Int64) (hd : Int32) (x0 x1 : Int64) (h0 : Heap) (RS : own_Log Z h0 p1 a N S hd [x0, x1]) :
    own_Met l Z (⟨"com/example/lean_limiter/leanlimiter/ExactLog", "newest", "()J"⟩ : MethodName) prog_3_method_9_code 1 (some .long) ws ({ frames := 1, cells := 0, slots := 0, locals := 15 } : Room) #[(.ref p1)] h0 (own_some (fun v h => v = .long x1 ∧ h = h0)) := by
  obtain ⟨cc, fu, ⟨g1, ga⟩, EX, FC, FSp, FT, FH, FS, FU, AR, hN, hh, hxl, SZ, EL⟩ := id RS
  have hxl' : (2 : Int) ≤ N.toInt := hxl
  have FS : Fld Z h0 p1 "com/example/lean_limiter/leanlimiter/ExactLog" "size" "I" (.int (2 : Int32)) := FS
  refine own_met (ls0 := #[.val (.ref p1)]) own_pf3 (fun m => by first | rfl | (simp [entryFrame, mkF, argsToLocals, Value.category, maxLocals]; done)) ?_
  intro p e s m below meth c
  refine own_old (fun O0 => ?_)
  refine own_aloadN 1 rfl d23_0 rfl rfl ?_
  refine own_getF 4 rfl (host := "") (Or.inl (hw _ (List.mem_of_getElem? (i := 94) rfl))) Via.refl FT d23_1 ?_
  refine own_aloadN 5 rfl d23_4 rfl rfl ?_
  refine own_aloadN 6 rfl d23_5 rfl rfl ?_
  refine own_getF 9 rfl (host := "") (Or.inl (hw _ (List.mem_of_getElem? (i := 101) rfl))) Via.refl FS d23_6 ?_
  refine own_iconst 10 rfl (1 : Int32) d23_9 rfl ?_
  refine own_isub 11 rfl d23_10 ?_
  rw [show ((2 : Int32) - (1 : Int32)) = (1 : Int32) from by decide]
  refine own_callQ 14 rfl 0 0 1 [(.int (1 : Int32))] [(.ref a)] (y := (⟨"com/example/lean_limiter/leanlimiter/ExactLog", "indexOf", "(I)I"⟩ : MethodName)) (y2 := (⟨"com/example/lean_limiter/leanlimiter/ExactLog", "isIdleAt", "(J)Z"⟩ : MethodName)) (hw _ (List.mem_of_getElem? (i := 123) rfl)) (hw _ (List.mem_of_getElem? (i := 124) rfl)) (hw _ (List.mem_of_getElem? (i := 99) rfl)) (hw _ (List.mem_of_getElem? (i := 98) rfl)) rfl (hw _ (List.mem_of_getElem? (i := 125) rfl)) (hw _ (List.mem_of_getElem? (i := 13) rfl)) (hw _ (List.mem_of_getElem? (i := 126) rfl)) (by decide) EX (rmIx l Z a0 hw [] p1 a N S hd [x0, x1] (1 : Int32) h0 RS) d23_11 rfl (lenOf own_pd0 rfl) rfl rfl rfl (by decide) (by decide) rfl rfl (by decide) (by decide) (own_kv fun v1 h1 q1 => ?_)
  obtain ⟨rfl, e1⟩ := q1
  rw [e1]
  refine own_laload 15 rfl AR (own_hin SZ hN hh (by decide) (by show (1 : Int) ≤ _; omega)) (EL 1 x1 rfl) d23_14 ?_
  refine own_retJ rfl d23_15 (by decide) (by decide) ?_
  exact ⟨_, rfl, rfl, rfl⟩
set_option maxRecDepth 65536 in
set_option maxHeartbeats 40000000 in
theorem rmNew3 (l : Launch) (Z : State) (a0 : Array Value) (hw : ∀ d ∈ tables_1, d.before a0 Z = true) (ws : List Jvm.Cond) (p1 a : Addr) (N : Int32) (S : Int64) (hd : Int32) (x0 x1 x2 : Int64) (h0 : Heap) (RS : own_Log Z h0 p1 a N S hd [x0, x1, x2]) :
    own_Met l Z (⟨"com/example/lean_limiter/leanlimiter/ExactLog", "newest", "()J"⟩ : MethodName) prog_3_method_9_code 1 (some .long) ws ({ frames := 1, cells := 0, slots := 0, locals := 15 } : Room) #[(.ref p1)] h0 (own_some (fun v h => v = .long x2 ∧ h = h0)) := by
  obtain ⟨cc, fu, ⟨g1, ga⟩, EX, FC, FSp, FT, FH, FS, FU, AR, hN, hh, hxl, SZ, EL⟩ := id RS
  have hxl' : (3 : Int) ≤ N.toInt := hxl
  have FS : Fld Z h0 p1 "com/example/lean_limiter/leanlimiter/ExactLog" "size" "I" (.int (3 : Int32)) := FS
  refine own_met (ls0 := #[.val (.ref p1)]) own_pf3 (fun m => by first | rfl | (simp [entryFrame, mkF, argsToLocals, Value.category, maxLocals]; done)) ?_
  intro p e s m below meth c
  refine own_old (fun O0 => ?_)
  refine own_aloadN 1 rfl d23_0 rfl rfl ?_
  refine own_getF 4 rfl (host := "") (Or.inl (hw _ (List.mem_of_getElem? (i := 94) rfl))) Via.refl FT d23_1 ?_
  refine own_aloadN 5 rfl d23_4 rfl rfl ?_
  refine own_aloadN 6 rfl d23_5 rfl rfl ?_
  refine own_getF 9 rfl (host := "") (Or.inl (hw _ (List.mem_of_getElem? (i := 101) rfl))) Via.refl FS d23_6 ?_
  refine own_iconst 10 rfl (1 : Int32) d23_9 rfl ?_
  refine own_isub 11 rfl d23_10 ?_
  rw [show ((3 : Int32) - (1 : Int32)) = (2 : Int32) from by decide]
  refine own_callQ 14 rfl 0 0 1 [(.int (2 : Int32))] [(.ref a)] (y := (⟨"com/example/lean_limiter/leanlimiter/ExactLog", "indexOf", "(I)I"⟩ : MethodName)) (y2 := (⟨"com/example/lean_limiter/leanlimiter/ExactLog", "isIdleAt", "(J)Z"⟩ : MethodName)) (hw _ (List.mem_of_getElem? (i := 123) rfl)) (hw _ (List.mem_of_getElem? (i := 124) rfl)) (hw _ (List.mem_of_getElem? (i := 99) rfl)) (hw _ (List.mem_of_getElem? (i := 98) rfl)) rfl (hw _ (List.mem_of_getElem? (i := 125) rfl)) (hw _ (List.mem_of_getElem? (i := 13) rfl)) (hw _ (List.mem_of_getElem? (i := 126) rfl)) (by decide) EX (rmIx l Z a0 hw [] p1 a N S hd [x0, x1, x2] (2 : Int32) h0 RS) d23_11 rfl (lenOf own_pd0 rfl) rfl rfl rfl (by decide) (by decide) rfl rfl (by decide) (by decide) (own_kv fun v1 h1 q1 => ?_)
  obtain ⟨rfl, e1⟩ := q1
  rw [e1]
  refine own_laload 15 rfl AR (own_hin SZ hN hh (by decide) (by show (2 : Int) ≤ _; omega)) (EL 2 x2 rfl) d23_14 ?_
  refine own_retJ rfl d23_15 (by decide) (by decide) ?_
  exact ⟨_, rfl, rfl, rfl⟩
theorem d19_0 : decode prog_3_method_8_code 0 = .ok (.iconst 0, 1) := by decide +kernel
theorem d19_1 : decode prog_3_method_8_code 1 = .ok (.istore_n 3, 1) := by decide +kernel
theorem d19_2 : decode prog_3_method_8_code 2 = .ok (.aload_n 0, 1) := by decide +kernel
theorem d19_3 : decode prog_3_method_8_code 3 = .ok (.getfield 38, 3) := by decide +kernel
theorem d19_6 : decode prog_3_method_8_code 6 = .ok (.istore 4, 2) := by decide +kernel
theorem d19_8 : decode prog_3_method_8_code 8 = .ok (.lconst 1, 1) := by decide +kernel
theorem d19_9 : decode prog_3_method_8_code 9 = .ok (.lstore 5, 2) := by decide +kernel
theorem d19_11 : decode prog_3_method_8_code 11 = .ok (.iconst 0, 1) := by decide +kernel
theorem d19_12 : decode prog_3_method_8_code 12 = .ok (.istore 7, 2) := by decide +kernel
theorem d19_14 : decode prog_3_method_8_code 14 = .ok (.iload_n 3, 1) := by decide +kernel
theorem d19_15 : decode prog_3_method_8_code 15 = .ok (.iload 4, 2) := by decide +kernel
theorem d19_17 : decode prog_3_method_8_code 17 = .ok (.if_icmp .ge 66, 3) := by decide +kernel
theorem d19_83 : decode prog_3_method_8_code 83 = .ok (.iload_n 3, 1) := by decide +kernel
theorem d19_84 : decode prog_3_method_8_code 84 = .ok (.iload 4, 2) := by decide +kernel
theorem d19_86 : decode prog_3_method_8_code 86 = .ok (.if_icmp .ge 42, 3) := by decide +kernel
theorem d19_128 : decode prog_3_method_8_code 128 = .ok (.iload_n 3, 1) := by decide +kernel
theorem d19_129 : decode prog_3_method_8_code 129 = .ok (.ireturn, 1) := by decide +kernel
theorem own_pf4 : plainFor (⟨"com/example/lean_limiter/leanlimiter/ExactLog", "countLeft", "(J)I"⟩ : MethodName) = true := by first | exact plainFor_of_name (by first | (simp [plainName, overriddenIn]; done) | decide +kernel) | decide +kernel
set_option maxRecDepth 65536 in
set_option maxHeartbeats 40000000 in
theorem rmCL0 (l : Launch) (Z : State) (a0 : Array Value) (hw : ∀ d ∈ tables_1, d.before a0 Z = true) (ws : List Jvm.Cond) (p1 a : Addr) (N : Int32) (S : Int64) (hd : Int32) (w : Int64) (h0 : Heap) (RS : own_Log Z h0 p1 a N S hd []) (hs : own_sorted []) :
    own_Met l Z (⟨"com/example/lean_limiter/leanlimiter/ExactLog", "countLeft", "(J)I"⟩ : MethodName) prog_3_method_8_code 9 (some .int) ws ({ frames := 1, cells := 0, slots := 0, locals := 20 } : Room) #[(.ref p1), (.long w)] h0 (own_some (fun v h => v = .int (Int32.ofNat (own_left w [])) ∧ h = h0)) := by
  obtain ⟨cc, fu, ⟨g1, ga⟩, EX, FC, FSp, FT, FH, FS, FU, AR, hN, hh, hxl, SZ, EL⟩ := id RS
  have hxl' : (0 : Int) ≤ N.toInt := hxl
  have FS : Fld Z h0 p1 "com/example/lean_limiter/leanlimiter/ExactLog" "size" "I" (.int (0 : Int32)) := FS
  refine own_met (ls0 := #[.val (.ref p1), .val (.long w), .second, .unset, .unset, .unset, .unset, .unset, .unset]) own_pf4 (fun m => by first | rfl | (simp [entryFrame, mkF, argsToLocals, Value.category, maxLocals]; done)) ?_
  intro p e s m below meth c
  refine own_old (fun O0 => ?_)
  refine own_iconst 1 rfl (0 : Int32) d19_0 rfl ?_
  refine own_istoreN 2 rfl #[.val (.ref p1), .val (.long w), .second, .val (.int (0 : Int32)), .unset, .unset, .unset, .unset, .unset] d19_1 rfl ?_
  refine own_aloadN 3 rfl d19_2 rfl rfl ?_
  refine own_getF 6 rfl (host := "") (Or.inl (hw _ (List.mem_of_getElem? (i := 101) rfl))) Via.refl FS d19_3 ?_
  refine own_istore 8 rfl #[.val (.ref p1), .val (.long w), .second, .val (.int (0 : Int32)), .val (.int (0 : Int32)), .unset, .unset, .unset, .unset] d19_6 rfl ?_
  refine own_lconst 9 rfl (1 : Int64) d19_8 rfl ?_
  refine own_lstore 11 rfl #[.val (.ref p1), .val (.long w), .second, .val (.int (0 : Int32)), .val (.int (0 : Int32)), .val (.long (1 : Int64)), .second, .unset, .unset] d19_9 rfl ?_
  refine own_iconst 12 rfl (0 : Int32) d19_11 rfl ?_
  refine own_istore 14 rfl #[.val (.ref p1), .val (.long w), .second, .val (.int (0 : Int32)), .val (.int (0 : Int32)), .val (.long (1 : Int64)), .second, .val (.int (0 : Int32)), .unset] d19_12 rfl ?_
  refine own_iloadN 15 rfl d19_14 rfl ?_
  refine own_iload 17 rfl d19_15 rfl ?_
  refine own_icmpYes 83 d19_17 (flt (by decide : ¬ ((0 : Int32) < (0 : Int32)))).2.1 (by decide) (by decide) ?_
  refine own_iloadN 84 rfl d19_83 rfl ?_
  refine own_iload 86 rfl d19_84 rfl ?_
  refine own_icmpYes 128 d19_86 (flt (by decide : ¬ ((0 : Int32) < (0 : Int32)))).2.1 (by decide) (by decide) ?_
  refine own_iloadN 129 rfl d19_128 rfl ?_
  refine own_retI rfl d19_129 (by decide) (by decide) ?_
  have hl : own_left w [] = 0 := by rw [own_left]
  exact ⟨_, rfl, by rw [hl]; rfl, rfl⟩
theorem d19_20 : decode prog_3_method_8_code 20 = .ok (.iload 7, 2) := by decide +kernel
theorem d19_22 : decode prog_3_method_8_code 22 = .ok (.ifCond .ne 61, 3) := by decide +kernel
theorem d19_25 : decode prog_3_method_8_code 25 = .ok (.iload_n 3, 1) := by decide +kernel
theorem d19_26 : decode prog_3_method_8_code 26 = .ok (.i2l, 1) := by decide +kernel
theorem d19_27 : decode prog_3_method_8_code 27 = .ok (.lload 5, 2) := by decide +kernel
theorem d19_29 : decode prog_3_method_8_code 29 = .ok (.ladd, 1) := by decide +kernel
theorem d19_30 : decode prog_3_method_8_code 30 = .ok (.iload 4, 2) := by decide +kernel
theorem d19_32 : decode prog_3_method_8_code 32 = .ok (.i2l, 1) := by decide +kernel
theorem d19_33 : decode prog_3_method_8_code 33 = .ok (.invokestatic 85, 3) := by decide +kernel
theorem own_pd1 : parseMethodDescriptor "(JJ)J" = some ⟨[.long, .long], some .long⟩ := by decide +kernel
theorem d19_36 : decode prog_3_method_8_code 36 = .ok (.l2i, 1) := by decide +kernel
theorem d19_37 : decode prog_3_method_8_code 37 = .ok (.iconst 1, 1) := by decide +kernel
theorem d19_38 : decode prog_3_method_8_code 38 = .ok (.isub, 1) := by decide +kernel
theorem d19_39 : decode prog_3_method_8_code 39 = .ok (.istore 8, 2) := by decide +kernel
theorem d19_41 : decode prog_3_method_8_code 41 = .ok (.aload_n 0, 1) := by decide +kernel
theorem d19_42 : decode prog_3_method_8_code 42 = .ok (.getfield 34, 3) := by decide +kernel
theorem d19_45 : decode prog_3_method_8_code 45 = .ok (.aload_n 0, 1) := by decide +kernel
theorem d19_46 : decode prog_3_method_8_code 46 = .ok (.iload 8, 2) := by decide +kernel
theorem d19_48 : decode prog_3_method_8_code 48 = .ok (.invokevirtual 59, 3) := by decide +kernel
theorem d19_51 : decode prog_3_method_8_code 51 = .ok (.laload, 1) := by decide +kernel
theorem d19_52 : decode prog_3_method_8_code 52 = .ok (.lload_n 1, 1) := by decide +kernel
theorem d19_53 : decode prog_3_method_8_code 53 = .ok (.lcmp, 1) := by decide +kernel
theorem d19_54 : decode prog_3_method_8_code 54 = .ok (.ifCond .gt 19, 3) := by decide +kernel
theorem d19_73 : decode prog_3_method_8_code 73 = .ok (.iload 8, 2) := by decide +kernel
theorem d19_75 : decode prog_3_method_8_code 75 = .ok (.istore 4, 2) := by decide +kernel
theorem d19_77 : decode prog_3_method_8_code 77 = .ok (.iconst 1, 1) := by decide +kernel
theorem d19_78 : decode prog_3_method_8_code 78 = .ok (.istore 7, 2) := by decide +kernel
theorem d19_80 : decode prog_3_method_8_code 80 = .ok (.goto (-66), 3) := by decide +kernel
theorem d19_57 : decode prog_3_method_8_code 57 = .ok (.iload 8, 2) := by decide +kernel
theorem d19_59 : decode prog_3_method_8_code 59 = .ok (.iconst 1, 1) := by decide +kernel
theorem d19_60 : decode prog_3_method_8_code 60 = .ok (.iadd, 1) := by decide +kernel
theorem d19_61 : decode prog_3_method_8_code 61 = .ok (.istore_n 3, 1) := by decide +kernel
theorem d19_62 : decode prog_3_method_8_code 62 = .ok (.lload 5, 2) := by decide +kernel
theorem d19_64 : decode prog_3_method_8_code 64 = .ok (.ldc2_w 87, 3) := by decide +kernel
theorem d19_67 : decode prog_3_method_8_code 67 = .ok (.lmul, 1) := by decide +kernel
theorem d19_68 : decode prog_3_method_8_code 68 = .ok (.lstore 5, 2) := by decide +kernel
theorem d19_70 : decode prog_3_method_8_code 70 = .ok (.goto 10, 3) := by decide +kernel
set_option maxRecDepth 65536 in
set_option maxHeartbeats 40000000 in
theorem rmCL1 (l : Launch) (Z : State) (a0 : Array Value) (hw : ∀ d ∈ tables_1, d.before a0 Z = true) (ws : List Jvm.Cond) (p1 a : Addr) (N : Int32) (S : Int64) (hd : Int32) (x0 : Int64) (w : Int64) (h0 : Heap) (RS : own_Log Z h0 p1 a N S hd [x0]) (hs : own_sorted [x0]) :
    own_Met l Z (⟨"com/example/lean_limiter/leanlimiter/ExactLog", "countLeft", "(J)I"⟩ : MethodName) prog_3_method_8_code 9 (some .int) ws ({ frames := 1, cells := 0, slots := 0, locals := 20 } : Room) #[(.ref p1), (.long w)] h0 (own_some (fun v h => v = .int (Int32.ofNat (own_left w [x0])) ∧ h = h0)) := by
  obtain ⟨cc, fu, ⟨g1, ga⟩, EX, FC, FSp, FT, FH, FS, FU, AR, hN, hh, hxl, SZ, EL⟩ := id RS
  have hxl' : (1 : Int) ≤ N.toInt := hxl
  have FS : Fld Z h0 p1 "com/example/lean_limiter/leanlimiter/ExactLog" "size" "I" (.int (1 : Int32)) := FS
  refine own_met (ls0 := #[.val (.ref p1), .val (.long w), .second, .unset, .unset, .unset, .unset, .unset, .unset]) own_pf4 (fun m => by first | rfl | (simp [entryFrame, mkF, argsToLocals, Value.category, maxLocals]; done)) ?_
  intro p e s m below meth c
  refine own_old (fun O0 => ?_)
  refine own_iconst 1 rfl (0 : Int32) d19_0 rfl ?_
  refine own_istoreN 2 rfl #[.val (.ref p1), .val (.long w), .second, .val (.int (0 : Int32)), .unset, .unset, .unset, .unset, .unset] d19_1 rfl ?_
  refine own_aloadN 3 rfl d19_2 rfl rfl ?_
  refine own_getF 6 rfl (host := "") (Or.inl (hw _ (List.mem_of_getElem? (i := 101) rfl))) Via.refl FS d19_3 ?_
  refine own_istore 8 rfl #[.val (.ref p1), .val (.long w), .second, .val (.int (0 : Int32)), .val (.int (1 : Int32)), .unset, .unset, .unset, .unset] d19_6 rfl ?_
  refine own_lconst 9 rfl (1 : Int64) d19_8 rfl ?_
  refine own_lstore 11 rfl #[.val (.ref p1), .val (.long w), .second, .val (.int (0 : Int32)), .val (.int (1 : Int32)), .val (.long (1 : Int64)), .second, .unset, .unset] d19_9 rfl ?_
  refine own_iconst 12 rfl (0 : Int32) d19_11 rfl ?_
  refine own_istore 14 rfl #[.val (.ref p1), .val (.long w), .second, .val (.int (0 : Int32)), .val (.int (1 : Int32)), .val (.long (1 : Int64)), .second, .val (.int (0 : Int32)), .unset] d19_12 rfl ?_
  refine own_iloadN 15 rfl d19_14 rfl ?_
  refine own_iload 17 rfl d19_15 rfl ?_
  refine own_icmpNo 20 rfl d19_17 (tlt (by decide : (0 : Int32) < (1 : Int32))).2.1 ?_
  refine own_iload 22 rfl d19_20 rfl ?_
  refine own_ifNo 25 rfl d19_22 (teq (rfl : (0 : Int32) = (0 : Int32))).2 ?_
  refine own_iloadN 26 rfl d19_25 rfl ?_
  refine own_i2l 27 rfl d19_26 ?_
  rw [show (0 : Int32).toInt64 = (0 : Int64) from by decide]
  refine own_lload 29 rfl d19_27 rfl ?_
  refine own_ladd 30 rfl d19_29 ?_
  rw [show ((0 : Int64) + (1 : Int64)) = (1 : Int64) from by decide]
  refine own_iload 32 rfl d19_30 rfl ?_
  refine own_i2l 33 rfl d19_32 ?_
  rw [show (1 : Int32).toInt64 = (1 : Int64) from by decide]
  refine own_callS 36 rfl 0 0 0 [(.long (1 : Int64)), (.long (1 : Int64))] [] (y := (⟨"java/lang/Math", "min", "(JJ)J"⟩ : MethodName)) (hw _ (List.mem_of_getElem? (i := 145) rfl)) (hw _ (List.mem_of_getElem? (i := 146) rfl)) (hw _ (List.mem_of_getElem? (i := 2) rfl)) (hw _ (List.mem_of_getElem? (i := 147) rfl)) (by decide) (rmminJ l Z a0 hw [] (1 : Int64) (1 : Int64) h0) d19_33 rfl (lenOf own_pd1 rfl) rfl rfl rfl (by decide) (by decide) rfl rfl (by decide) (by decide) (own_kv fun v1 h1 q1 => ?_)
  obtain ⟨rfl, e1⟩ := q1
  rw [e1]
  rw [show own_minJ (1 : Int64) (1 : Int64) = (1 : Int64) from by decide]
  refine own_l2i 37 rfl d19_36 ?_
  rw [show (1 : Int64).toInt32 = (1 : Int32) from by decide]
  refine own_iconst 38 rfl (1 : Int32) d19_37 rfl ?_
  refine own_isub 39 rfl d19_38 ?_
  rw [show ((1 : Int32) - (1 : Int32)) = (0 : Int32) from by decide]
  refine own_istore 41 rfl #[.val (.ref p1), .val (.long w), .second, .val (.int (0 : Int32)), .val (.int (1 : Int32)), .val (.long (1 : Int64)), .second, .val (.int (0 : Int32)), .val (.int (0 : Int32))] d19_39 rfl ?_
  refine own_aloadN 42 rfl d19_41 rfl rfl ?_
  refine own_getF 45 rfl (host := "") (Or.inl (hw _ (List.mem_of_getElem? (i := 94) rfl))) Via.refl FT d19_42 ?_
  refine own_aloadN 46 rfl d19_45 rfl rfl ?_
  refine own_iload 48 rfl d19_46 rfl ?_
  refine own_callQ 51 rfl 0 0 1 [(.int (0 : Int32))] [(.ref a)] (y := (⟨"com/example/lean_limiter/leanlimiter/ExactLog", "indexOf", "(I)I"⟩ : MethodName)) (y2 := (⟨"com/example/lean_limiter/leanlimiter/ExactLog", "isIdleAt", "(J)Z"⟩ : MethodName)) (hw _ (List.mem_of_getElem? (i := 123) rfl)) (hw _ (List.mem_of_getElem? (i := 124) rfl)) (hw _ (List.mem_of_getElem? (i := 99) rfl)) (hw _ (List.mem_of_getElem? (i := 98) rfl)) rfl (hw _ (List.mem_of_getElem? (i := 125) rfl)) (hw _ (List.mem_of_getElem? (i := 13) rfl)) (hw _ (List.mem_of_getElem? (i := 126) rfl)) (by decide) EX (rmIx l Z a0 hw [] p1 a N S hd [x0] (0 : Int32) h0 RS) d19_48 rfl (lenOf own_pd0 rfl) rfl rfl rfl (by decide) (by decide) rfl rfl (by decide) (by decide) (own_kv fun v2 h2 q2 => ?_)
  obtain ⟨rfl, e2⟩ := q2
  rw [e2]
  refine own_laload 52 rfl AR (own_hin SZ hN hh (by decide) (by show (0 : Int) ≤ _; omega)) (EL 0 x0 rfl) d19_51 ?_
  refine own_lloadN 53 rfl d19_52 rfl ?_
  refine own_lcmp 54 rfl d19_53 ?_
  by_cases hc54 : w < x0
  · have ihc54 : w.toInt < x0.toInt := own_ltL hc54
    refine own_ifYes 73 d19_54 (tlt ((lw_gt _ _).mpr hc54)).2.2.1 (by decide) (by decide) ?_
    refine own_iload 75 rfl d19_73 rfl ?_
    refine own_istore 77 rfl #[.val (.ref p1), .val (.long w), .second, .val (.int (0 : Int32)), .val (.int (0 : Int32)), .val (.long (1 : Int64)), .second, .val (.int (0 : Int32)), .val (.int (0 : Int32))] d19_75 rfl ?_
    refine own_iconst 78 rfl (1 : Int32) d19_77 rfl ?_
    refine own_istore 80 rfl #[.val (.ref p1), .val (.long w), .second, .val (.int (0 : Int32)), .val (.int (0 : Int32)), .val (.long (1 : Int64)), .second, .val (.int (1 : Int32)), .val (.int (0 : Int32))] d19_78 rfl ?_
    refine own_goto 14 d19_80 (by decide) (by decide) ?_
    refine own_iloadN 15 rfl d19_14 rfl ?_
    refine own_iload 17 rfl d19_15 rfl ?_
    refine own_icmpYes 83 d19_17 (flt (by decide : ¬ ((0 : Int32) < (0 : Int32)))).2.1 (by decide) (by decide) ?_
    refine own_iloadN 84 rfl d19_83 rfl ?_
    refine own_iload 86 rfl d19_84 rfl ?_
    refine own_icmpYes 128 d19_86 (flt (by decide : ¬ ((0 : Int32) < (0 : Int32)))).2.1 (by decide) (by decide) ?_
    refine own_iloadN 129 rfl d19_128 rfl ?_
    refine own_retI rfl d19_129 (by decide) (by decide) ?_
    have hl : own_left w [x0] = 0 := by rw [own_left, if_pos (own_ltL' (by omega : w.toInt < x0.toInt))]
    exact ⟨_, rfl, by rw [hl]; rfl, rfl⟩
  · have ihc54 : x0.toInt ≤ w.toInt := own_nltL hc54
    refine own_ifNo 57 rfl d19_54 (flt (fun q => hc54 ((lw_gt _ _).mp q))).2.2.1 ?_
    refine own_iload 59 rfl d19_57 rfl ?_
    refine own_iconst 60 rfl (1 : Int32) d19_59 rfl ?_
    refine own_iadd 61 rfl d19_60 ?_
    rw [show ((0 : Int32) + (1 : Int32)) = (1 : Int32) from by decide]
    refine own_istoreN 62 rfl #[.val (.ref p1), .val (.long w), .second, .val (.int (1 : Int32)), .val (.int (1 : Int32)), .val (.long (1 : Int64)), .second, .val (.int (0 : Int32)), .val (.int (0 : Int32))] d19_61 rfl ?_
    refine own_lload 64 rfl d19_62 rfl ?_
    refine own_ldc2Long 67 rfl (hw _ (List.mem_of_getElem? (i := 149) rfl)) d19_64 ?_
    refine own_lmul 68 rfl d19_67 ?_
    rw [show ((1 : Int64) * (2 : Int64)) = (2 : Int64) from by decide]
    refine own_lstore 70 rfl #[.val (.ref p1), .val (.long w), .second, .val (.int (1 : Int32)), .val (.int (1 : Int32)), .val (.long (2 : Int64)), .second, .val (.int (0 : Int32)), .val (.int (0 : Int32))] d19_68 rfl ?_
    refine own_goto 80 d19_70 (by decide) (by decide) ?_
    refine own_goto 14 d19_80 (by decide) (by decide) ?_
    refine own_iloadN 15 rfl d19_14 rfl ?_
    refine own_iload 17 rfl d19_15 rfl ?_
    refine own_icmpYes 83 d19_17 (flt (by decide : ¬ ((1 : Int32) < (1 : Int32)))).2.1 (by decide) (by decide) ?_
    refine own_iloadN 84 rfl d19_83 rfl ?_
    refine own_iload 86 rfl d19_84 rfl ?_
    refine own_icmpYes 128 d19_86 (flt (by decide : ¬ ((1 : Int32) < (1 : Int32)))).2.1 (by decide) (by decide) ?_
    refine own_iloadN 129 rfl d19_128 rfl ?_
    refine own_retI rfl d19_129 (by decide) (by decide) ?_
    have hl : own_left w [x0] = 1 := by rw [own_left, if_neg (own_nltL' (by omega : x0.toInt ≤ w.toInt)), own_left]
    exact ⟨_, rfl, by rw [hl]; rfl, rfl⟩
set_option maxRecDepth 65536 in
set_option maxHeartbeats 40000000 in
theorem rmCL2 (l : Launch) (Z : State) (a0 : Array Value) (hw : ∀ d ∈ tables_1, d.before a0 Z = true) (ws : List Jvm.Cond) (p1 a : Addr) (N : Int32) (S : Int64) (hd : Int32) (x0 x1 : Int64) (w : Int64) (h0 : Heap) (RS : own_Log Z h0 p1 a N S hd [x0, x1]) (hs : own_sorted [x0, x1]) :
    own_Met l Z (⟨"com/example/lean_limiter/leanlimiter/ExactLog", "countLeft", "(J)I"⟩ : MethodName) prog_3_method_8_code 9 (some .int) ws ({ frames := 1, cells := 0, slots := 0, locals := 20 } : Room) #[(.ref p1), (.long w)] h0 (own_some (fun v h => v = .int (Int32.ofNat (own_left w [x0, x1])) ∧ h = h0)) := by
  obtain ⟨cc, fu, ⟨g1, ga⟩, EX, FC, FSp, FT, FH, FS, FU, AR, hN, hh, hxl, SZ, EL⟩ := id RS
  have hxl' : (2 : Int) ≤ N.toInt := hxl
  have FS : Fld Z h0 p1 "com/example/lean_limiter/leanlimiter/ExactLog" "size" "I" (.int (2 : Int32)) := FS
  have hs' : x0.toInt ≤ x1.toInt := by simpa [own_sorted] using hs
  refine own_met (ls0 := #[.val (.ref p1), .val (.long w), .second, .unset, .unset, .unset, .unset, .unset, .unset]) own_pf4 (fun m => by first | rfl | (simp [entryFrame, mkF, argsToLocals, Value.category, maxLocals]; done)) ?_
  intro p e s m below meth c
  refine own_old (fun O0 => ?_)
  refine own_iconst 1 rfl (0 : Int32) d19_0 rfl ?_
  refine own_istoreN 2 rfl #[.val (.ref p1), .val (.long w), .second, .val (.int (0 : Int32)), .unset, .unset, .unset, .unset, .unset] d19_1 rfl ?_
  refine own_aloadN 3 rfl d19_2 rfl rfl ?_
  refine own_getF 6 rfl (host := "") (Or.inl (hw _ (List.mem_of_getElem? (i := 101) rfl))) Via.refl FS d19_3 ?_
  refine own_istore 8 rfl #[.val (.ref p1), .val (.long w), .second, .val (.int (0 : Int32)), .val (.int (2 : Int32)), .unset, .unset, .unset, .unset] d19_6 rfl ?_
  refine own_lconst 9 rfl (1 : Int64) d19_8 rfl ?_
  refine own_lstore 11 rfl #[.val (.ref p1), .val (.long w), .second, .val (.int (0 : Int32)), .val (.int (2 : Int32)), .val (.long (1 : Int64)), .second, .unset, .unset] d19_9 rfl ?_
  refine own_iconst 12 rfl (0 : Int32) d19_11 rfl ?_
  refine own_istore 14 rfl #[.val (.ref p1), .val (.long w), .second, .val (.int (0 : Int32)), .val (.int (2 : Int32)), .val (.long (1 : Int64)), .second, .val (.int (0 : Int32)), .unset] d19_12 rfl ?_
  refine own_iloadN 15 rfl d19_14 rfl ?_
  refine own_iload 17 rfl d19_15 rfl ?_
  refine own_icmpNo 20 rfl d19_17 (tlt (by decide : (0 : Int32) < (2 : Int32))).2.1 ?_
  refine own_iload 22 rfl d19_20 rfl ?_
  refine own_ifNo 25 rfl d19_22 (teq (rfl : (0 : Int32) = (0 : Int32))).2 ?_
  refine own_iloadN 26 rfl d19_25 rfl ?_
  refine own_i2l 27 rfl d19_26 ?_
  rw [show (0 : Int32).toInt64 = (0 : Int64) from by decide]
  refine own_lload 29 rfl d19_27 rfl ?_
  refine own_ladd 30 rfl d19_29 ?_
  rw [show ((0 : Int64) + (1 : Int64)) = (1 : Int64) from by decide]
  refine own_iload 32 rfl d19_30 rfl ?_
  refine own_i2l 33 rfl d19_32 ?_
  rw [show (2 : Int32).toInt64 = (2 : Int64) from by decide]
  refine own_callS 36 rfl 0 0 0 [(.long (1 : Int64)), (.long (2 : Int64))] [] (y := (⟨"java/lang/Math", "min", "(JJ)J"⟩ : MethodName)) (hw _ (List.mem_of_getElem? (i := 145) rfl)) (hw _ (List.mem_of_getElem? (i := 146) rfl)) (hw _ (List.mem_of_getElem? (i := 2) rfl)) (hw _ (List.mem_of_getElem? (i := 147) rfl)) (by decide) (rmminJ l Z a0 hw [] (1 : Int64) (2 : Int64) h0) d19_33 rfl (lenOf own_pd1 rfl) rfl rfl rfl (by decide) (by decide) rfl rfl (by decide) (by decide) (own_kv fun v1 h1 q1 => ?_)
  obtain ⟨rfl, e1⟩ := q1
  rw [e1]
  rw [show own_minJ (1 : Int64) (2 : Int64) = (1 : Int64) from by decide]
  refine own_l2i 37 rfl d19_36 ?_
  rw [show (1 : Int64).toInt32 = (1 : Int32) from by decide]
  refine own_iconst 38 rfl (1 : Int32) d19_37 rfl ?_
  refine own_isub 39 rfl d19_38 ?_
  rw [show ((1 : Int32) - (1 : Int32)) = (0 : Int32) from by decide]
  refine own_istore 41 rfl #[.val (.ref p1), .val (.long w), .second, .val (.int (0 : Int32)), .val (.int (2 : Int32)), .val (.long (1 : Int64)), .second, .val (.int (0 : Int32)), .val (.int (0 : Int32))] d19_39 rfl ?_
  refine own_aloadN 42 rfl d19_41 rfl rfl ?_
  refine own_getF 45 rfl (host := "") (Or.inl (hw _ (List.mem_of_getElem? (i := 94) rfl))) Via.refl FT d19_42 ?_
  refine own_aloadN 46 rfl d19_45 rfl rfl ?_
  refine own_iload 48 rfl d19_46 rfl ?_
  refine own_callQ 51 rfl 0 0 1 [(.int (0 : Int32))] [(.ref a)] (y := (⟨"com/example/lean_limiter/leanlimiter/ExactLog", "indexOf", "(I)I"⟩ : MethodName)) (y2 := (⟨"com/example/lean_limiter/leanlimiter/ExactLog", "isIdleAt", "(J)Z"⟩ : MethodName)) (hw _ (List.mem_of_getElem? (i := 123) rfl)) (hw _ (List.mem_of_getElem? (i := 124) rfl)) (hw _ (List.mem_of_getElem? (i := 99) rfl)) (hw _ (List.mem_of_getElem? (i := 98) rfl)) rfl (hw _ (List.mem_of_getElem? (i := 125) rfl)) (hw _ (List.mem_of_getElem? (i := 13) rfl)) (hw _ (List.mem_of_getElem? (i := 126) rfl)) (by decide) EX (rmIx l Z a0 hw [] p1 a N S hd [x0, x1] (0 : Int32) h0 RS) d19_48 rfl (lenOf own_pd0 rfl) rfl rfl rfl (by decide) (by decide) rfl rfl (by decide) (by decide) (own_kv fun v2 h2 q2 => ?_)
  obtain ⟨rfl, e2⟩ := q2
  rw [e2]
  refine own_laload 52 rfl AR (own_hin SZ hN hh (by decide) (by show (0 : Int) ≤ _; omega)) (EL 0 x0 rfl) d19_51 ?_
  refine own_lloadN 53 rfl d19_52 rfl ?_
  refine own_lcmp 54 rfl d19_53 ?_
  by_cases hc54 : w < x0
  · have ihc54 : w.toInt < x0.toInt := own_ltL hc54
    refine own_ifYes 73 d19_54 (tlt ((lw_gt _ _).mpr hc54)).2.2.1 (by decide) (by decide) ?_
    refine own_iload 75 rfl d19_73 rfl ?_
    refine own_istore 77 rfl #[.val (.ref p1), .val (.long w), .second, .val (.int (0 : Int32)), .val (.int (0 : Int32)), .val (.long (1 : Int64)), .second, .val (.int (0 : Int32)), .val (.int (0 : Int32))] d19_75 rfl ?_
    refine own_iconst 78 rfl (1 : Int32) d19_77 rfl ?_
    refine own_istore 80 rfl #[.val (.ref p1), .val (.long w), .second, .val (.int (0 : Int32)), .val (.int (0 : Int32)), .val (.long (1 : Int64)), .second, .val (.int (1 : Int32)), .val (.int (0 : Int32))] d19_78 rfl ?_
    refine own_goto 14 d19_80 (by decide) (by decide) ?_
    refine own_iloadN 15 rfl d19_14 rfl ?_
    refine own_iload 17 rfl d19_15 rfl ?_
    refine own_icmpYes 83 d19_17 (flt (by decide : ¬ ((0 : Int32) < (0 : Int32)))).2.1 (by decide) (by decide) ?_
    refine own_iloadN 84 rfl d19_83 rfl ?_
    refine own_iload 86 rfl d19_84 rfl ?_
    refine own_icmpYes 128 d19_86 (flt (by decide : ¬ ((0 : Int32) < (0 : Int32)))).2.1 (by decide) (by decide) ?_
    refine own_iloadN 129 rfl d19_128 rfl ?_
    refine own_retI rfl d19_129 (by decide) (by decide) ?_
    have hl : own_left w [x0, x1] = 0 := by rw [own_left, if_pos (own_ltL' (by omega : w.toInt < x0.toInt))]
    exact ⟨_, rfl, by rw [hl]; rfl, rfl⟩
  · have ihc54 : x0.toInt ≤ w.toInt := own_nltL hc54
    refine own_ifNo 57 rfl d19_54 (flt (fun q => hc54 ((lw_gt _ _).mp q))).2.2.1 ?_
    refine own_iload 59 rfl d19_57 rfl ?_
    refine own_iconst 60 rfl (1 : Int32) d19_59 rfl ?_
    refine own_iadd 61 rfl d19_60 ?_
    rw [show ((0 : Int32) + (1 : Int32)) = (1 : Int32) from by decide]
    refine own_istoreN 62 rfl #[.val (.ref p1), .val (.long w), .second, .val (.int (1 : Int32)), .val (.int (2 : Int32)), .val (.long (1 : Int64)), .second, .val (.int (0 : Int32)), .val (.int (0 : Int32))] d19_61 rfl ?_
    refine own_lload 64 rfl d19_62 rfl ?_
    refine own_ldc2Long 67 rfl (hw _ (List.mem_of_getElem? (i := 149) rfl)) d19_64 ?_
    refine own_lmul 68 rfl d19_67 ?_
    rw [show ((1 : Int64) * (2 : Int64)) = (2 : Int64) from by decide]
    refine own_lstore 70 rfl #[.val (.ref p1), .val (.long w), .second, .val (.int (1 : Int32)), .val (.int (2 : Int32)), .val (.long (2 : Int64)), .second, .val (.int (0 : Int32)), .val (.int (0 : Int32))] d19_68 rfl ?_
    refine own_goto 80 d19_70 (by decide) (by decide) ?_
    refine own_goto 14 d19_80 (by decide) (by decide) ?_
    refine own_iloadN 15 rfl d19_14 rfl ?_
    refine own_iload 17 rfl d19_15 rfl ?_
    refine own_icmpNo 20 rfl d19_17 (tlt (by decide : (1 : Int32) < (2 : Int32))).2.1 ?_
    refine own_iload 22 rfl d19_20 rfl ?_
    refine own_ifNo 25 rfl d19_22 (teq (rfl : (0 : Int32) = (0 : Int32))).2 ?_
    refine own_iloadN 26 rfl d19_25 rfl ?_
    refine own_i2l 27 rfl d19_26 ?_
    rw [show (1 : Int32).toInt64 = (1 : Int64) from by decide]
    refine own_lload 29 rfl d19_27 rfl ?_
    refine own_ladd 30 rfl d19_29 ?_
    rw [show ((1 : Int64) + (2 : Int64)) = (3 : Int64) from by decide]
    refine own_iload 32 rfl d19_30 rfl ?_
    refine own_i2l 33 rfl d19_32 ?_
    rw [show (2 : Int32).toInt64 = (2 : Int64) from by decide]
    refine own_callS 36 rfl 0 0 0 [(.long (3 : Int64)), (.long (2 : Int64))] [] (y := (⟨"java/lang/Math", "min", "(JJ)J"⟩ : MethodName)) (hw _ (List.mem_of_getElem? (i := 145) rfl)) (hw _ (List.mem_of_getElem? (i := 146) rfl)) (hw _ (List.mem_of_getElem? (i := 2) rfl)) (hw _ (List.mem_of_getElem? (i := 147) rfl)) (by decide) (rmminJ l Z a0 hw [] (3 : Int64) (2 : Int64) h0) d19_33 rfl (lenOf own_pd1 rfl) rfl rfl rfl (by decide) (by decide) rfl rfl (by decide) (by decide) (own_kv fun v3 h3 q3 => ?_)
    obtain ⟨rfl, e3⟩ := q3
    rw [e3]
    rw [show own_minJ (3 : Int64) (2 : Int64) = (2 : Int64) from by decide]
    refine own_l2i 37 rfl d19_36 ?_
    rw [show (2 : Int64).toInt32 = (2 : Int32) from by decide]
    refine own_iconst 38 rfl (1 : Int32) d19_37 rfl ?_
    refine own_isub 39 rfl d19_38 ?_
    rw [show ((2 : Int32) - (1 : Int32)) = (1 : Int32) from by decide]
    refine own_istore 41 rfl #[.val (.ref p1), .val (.long w), .second, .val (.int (1 : Int32)), .val (.int (2 : Int32)), .val (.long (2 : Int64)), .second, .val (.int (0 : Int32)), .val (.int (1 : Int32))] d19_39 rfl ?_
    refine own_aloadN 42 rfl d19_41 rfl rfl ?_
    refine own_getF 45 rfl (host := "") (Or.inl (hw _ (List.mem_of_getElem? (i := 94) rfl))) Via.refl FT d19_42 ?_
    refine own_aloadN 46 rfl d19_45 rfl rfl ?_
    refine own_iload 48 rfl d19_46 rfl ?_
    refine own_callQ 51 rfl 0 0 1 [(.int (1 : Int32))] [(.ref a)] (y := (⟨"com/example/lean_limiter/leanlimiter/ExactLog", "indexOf", "(I)I"⟩ : MethodName)) (y2 := (⟨"com/example/lean_limiter/leanlimiter/ExactLog", "isIdleAt", "(J)Z"⟩ : MethodName)) (hw _ (List.mem_of_getElem? (i := 123) rfl)) (hw _ (List.mem_of_getElem? (i := 124) rfl)) (hw _ (List.mem_of_getElem? (i := 99) rfl)) (hw _ (List.mem_of_getElem? (i := 98) rfl)) rfl (hw _ (List.mem_of_getElem? (i := 125) rfl)) (hw _ (List.mem_of_getElem? (i := 13) rfl)) (hw _ (List.mem_of_getElem? (i := 126) rfl)) (by decide) EX (rmIx l Z a0 hw [] p1 a N S hd [x0, x1] (1 : Int32) h0 RS) d19_48 rfl (lenOf own_pd0 rfl) rfl rfl rfl (by decide) (by decide) rfl rfl (by decide) (by decide) (own_kv fun v4 h4 q4 => ?_)
    obtain ⟨rfl, e4⟩ := q4
    rw [e4]
    refine own_laload 52 rfl AR (own_hin SZ hN hh (by decide) (by show (1 : Int) ≤ _; omega)) (EL 1 x1 rfl) d19_51 ?_
    refine own_lloadN 53 rfl d19_52 rfl ?_
    refine own_lcmp 54 rfl d19_53 ?_
    by_cases hc54_5 : w < x1
    · have ihc54_5 : w.toInt < x1.toInt := own_ltL hc54_5
      refine own_ifYes 73 d19_54 (tlt ((lw_gt _ _).mpr hc54_5)).2.2.1 (by decide) (by decide) ?_
      refine own_iload 75 rfl d19_73 rfl ?_
      refine own_istore 77 rfl #[.val (.ref p1), .val (.long w), .second, .val (.int (1 : Int32)), .val (.int (1 : Int32)), .val (.long (2 : Int64)), .second, .val (.int (0 : Int32)), .val (.int (1 : Int32))] d19_75 rfl ?_
      refine own_iconst 78 rfl (1 : Int32) d19_77 rfl ?_
      refine own_istore 80 rfl #[.val (.ref p1), .val (.long w), .second, .val (.int (1 : Int32)), .val (.int (1 : Int32)), .val (.long (2 : Int64)), .second, .val (.int (1 : Int32)), .val (.int (1 : Int32))] d19_78 rfl ?_
      refine own_goto 14 d19_80 (by decide) (by decide) ?_
      refine own_iloadN 15 rfl d19_14 rfl ?_
      refine own_iload 17 rfl d19_15 rfl ?_
      refine own_icmpYes 83 d19_17 (flt (by decide : ¬ ((1 : Int32) < (1 : Int32)))).2.1 (by decide) (by decide) ?_
      refine own_iloadN 84 rfl d19_83 rfl ?_
      refine own_iload 86 rfl d19_84 rfl ?_
      refine own_icmpYes 128 d19_86 (flt (by decide : ¬ ((1 : Int32) < (1 : Int32)))).2.1 (by decide) (by decide) ?_
      refine own_iloadN 129 rfl d19_128 rfl ?_
      refine own_retI rfl d19_129 (by decide) (by decide) ?_
      have hl : own_left w [x0, x1] = 1 := by rw [own_left, if_neg (own_nltL' (by omega : x0.toInt ≤ w.toInt)), own_left, if_pos (own_ltL' (by omega : w.toInt < x1.toInt))]
      exact ⟨_, rfl, by rw [hl]; rfl, rfl⟩
    · have ihc54_5 : x1.toInt ≤ w.toInt := own_nltL hc54_5
      refine own_ifNo 57 rfl d19_54 (flt (fun q => hc54_5 ((lw_gt _ _).mp q))).2.2.1 ?_
      refine own_iload 59 rfl d19_57 rfl ?_
      refine own_iconst 60 rfl (1 : Int32) d19_59 rfl ?_
      refine own_iadd 61 rfl d19_60 ?_
      rw [show ((1 : Int32) + (1 : Int32)) = (2 : Int32) from by decide]
      refine own_istoreN 62 rfl #[.val (.ref p1), .val (.long w), .second, .val (.int (2 : Int32)), .val (.int (2 : Int32)), .val (.long (2 : Int64)), .second, .val (.int (0 : Int32)), .val (.int (1 : Int32))] d19_61 rfl ?_
      refine own_lload 64 rfl d19_62 rfl ?_
      refine own_ldc2Long 67 rfl (hw _ (List.mem_of_getElem? (i := 149) rfl)) d19_64 ?_
      refine own_lmul 68 rfl d19_67 ?_
      rw [show ((2 : Int64) * (2 : Int64)) = (4 : Int64) from by decide]
      refine own_lstore 70 rfl #[.val (.ref p1), .val (.long w), .second, .val (.int (2 : Int32)), .val (.int (2 : Int32)), .val (.long (4 : Int64)), .second, .val (.int (0 : Int32)), .val (.int (1 : Int32))] d19_68 rfl ?_
      refine own_goto 80 d19_70 (by decide) (by decide) ?_
      refine own_goto 14 d19_80 (by decide) (by decide) ?_
      refine own_iloadN 15 rfl d19_14 rfl ?_
      refine own_iload 17 rfl d19_15 rfl ?_
      refine own_icmpYes 83 d19_17 (flt (by decide : ¬ ((2 : Int32) < (2 : Int32)))).2.1 (by decide) (by decide) ?_
      refine own_iloadN 84 rfl d19_83 rfl ?_
      refine own_iload 86 rfl d19_84 rfl ?_
      refine own_icmpYes 128 d19_86 (flt (by decide : ¬ ((2 : Int32) < (2 : Int32)))).2.1 (by decide) (by decide) ?_
      refine own_iloadN 129 rfl d19_128 rfl ?_
      refine own_retI rfl d19_129 (by decide) (by decide) ?_
      have hl : own_left w [x0, x1] = 2 := by rw [own_left, if_neg (own_nltL' (by omega : x0.toInt ≤ w.toInt)), own_left, if_neg (own_nltL' (by omega : x1.toInt ≤ w.toInt)), own_left]
      exact ⟨_, rfl, by rw [hl]; rfl, rfl⟩
theorem d19_89 : decode prog_3_method_8_code 89 = .ok (.iload_n 3, 1) := by decide +kernel
theorem d19_90 : decode prog_3_method_8_code 90 = .ok (.iload 4, 2) := by decide +kernel
theorem d19_92 : decode prog_3_method_8_code 92 = .ok (.iadd, 1) := by decide +kernel
theorem d19_93 : decode prog_3_method_8_code 93 = .ok (.iconst 1, 1) := by decide +kernel
theorem d19_94 : decode prog_3_method_8_code 94 = .ok (.iushr, 1) := by decide +kernel
theorem d19_95 : decode prog_3_method_8_code 95 = .ok (.istore 8, 2) := by decide +kernel
theorem d19_97 : decode prog_3_method_8_code 97 = .ok (.aload_n 0, 1) := by decide +kernel
theorem d19_98 : decode prog_3_method_8_code 98 = .ok (.getfield 34, 3) := by decide +kernel
theorem d19_101 : decode prog_3_method_8_code 101 = .ok (.aload_n 0, 1) := by decide +kernel
theorem d19_102 : decode prog_3_method_8_code 102 = .ok (.iload 8, 2) := by decide +kernel
theorem d19_104 : decode prog_3_method_8_code 104 = .ok (.invokevirtual 59, 3) := by decide +kernel
theorem d19_107 : decode prog_3_method_8_code 107 = .ok (.laload, 1) := by decide +kernel
theorem d19_108 : decode prog_3_method_8_code 108 = .ok (.lload_n 1, 1) := by decide +kernel
theorem d19_109 : decode prog_3_method_8_code 109 = .ok (.lcmp, 1) := by decide +kernel
theorem d19_110 : decode prog_3_method_8_code 110 = .ok (.ifCond .gt 11, 3) := by decide +kernel
theorem d19_121 : decode prog_3_method_8_code 121 = .ok (.iload 8, 2) := by decide +kernel
theorem d19_123 : decode prog_3_method_8_code 123 = .ok (.istore 4, 2) := by decide +kernel
theorem d19_125 : decode prog_3_method_8_code 125 = .ok (.goto (-42), 3) := by decide +kernel
theorem d19_113 : decode prog_3_method_8_code 113 = .ok (.iload 8, 2) := by decide +kernel
theorem d19_115 : decode prog_3_method_8_code 115 = .ok (.iconst 1, 1) := by decide +kernel
theorem d19_116 : decode prog_3_method_8_code 116 = .ok (.iadd, 1) := by decide +kernel
theorem d19_117 : decode prog_3_method_8_code 117 = .ok (.istore_n 3, 1) := by decide +kernel
theorem d19_118 : decode prog_3_method_8_code 118 = .ok (.goto 7, 3) := by decide +kernel
set_option maxRecDepth 65536 in
set_option maxHeartbeats 40000000 in
theorem rmCL3 (l : Launch) (Z : State) (a0 : Array Value) (hw : ∀ d ∈ tables_1, d.before a0 Z = true) (ws : List Jvm.Cond) (p1 a : Addr) (N : Int32) (S : Int64) (hd : Int32) (x0 x1 x2 : Int64) (w : Int64) (h0 : Heap) (RS : own_Log Z h0 p1 a N S hd [x0, x1, x2]) (hs : own_sorted [x0, x1, x2]) :
    own_Met l Z (⟨"com/example/lean_limiter/leanlimiter/ExactLog", "countLeft", "(J)I"⟩ : MethodName) prog_3_method_8_code 9 (some .int) ws ({ frames := 1, cells := 0, slots := 0, locals := 20 } : Room) #[(.ref p1), (.long w)] h0 (own_some (fun v h => v = .int (Int32.ofNat (own_left w [x0, x1, x2])) ∧ h = h0)) := by
  obtain ⟨cc, fu, ⟨g1, ga⟩, EX, FC, FSp, FT, FH, FS, FU, AR, hN, hh, hxl, SZ, EL⟩ := id RS
  have hxl' : (3 : Int) ≤ N.toInt := hxl
  have FS : Fld Z h0 p1 "com/example/lean_limiter/leanlimiter/ExactLog" "size" "I" (.int (3 : Int32)) := FS
  have hs' : x0.toInt ≤ x1.toInt ∧ x1.toInt ≤ x2.toInt := by simpa [own_sorted] using hs
  refine own_met (ls0 := #[.val (.ref p1), .val (.long w), .second, .unset, .unset, .unset, .unset, .unset, .unset]) own_pf4 (fun m => by first | rfl | (simp [entryFrame, mkF, argsToLocals, Value.category, maxLocals]; done)) ?_
  intro p e s m below meth c
  refine own_old (fun O0 => ?_)
  refine own_iconst 1 rfl (0 : Int32) d19_0 rfl ?_
  refine own_istoreN 2 rfl #[.val (.ref p1), .val (.long w), .second, .val (.int (0 : Int32)), .unset, .unset, .unset, .unset, .unset] d19_1 rfl ?_
  refine own_aloadN 3 rfl d19_2 rfl rfl ?_
  refine own_getF 6 rfl (host := "") (Or.inl (hw _ (List.mem_of_getElem? (i := 101) rfl))) Via.refl FS d19_3 ?_
  refine own_istore 8 rfl #[.val (.ref p1), .val (.long w), .second, .val (.int (0 : Int32)), .val (.int (3 : Int32)), .unset, .unset, .unset, .unset] d19_6 rfl ?_
  refine own_lconst 9 rfl (1 : Int64) d19_8 rfl ?_
  refine own_lstore 11 rfl #[.val (.ref p1), .val (.long w), .second, .val (.int (0 : Int32)), .val (.int (3 : Int32)), .val (.long (1 : Int64)), .second, .unset, .unset] d19_9 rfl ?_
  refine own_iconst 12 rfl (0 : Int32) d19_11 rfl ?_
  refine own_istore 14 rfl #[.val (.ref p1), .val (.long w), .second, .val (.int (0 : Int32)), .val (.int (3 : Int32)), .val (.long (1 : Int64)), .second, .val (.int (0 : Int32)), .unset] d19_12 rfl ?_
  refine own_iloadN 15 rfl d19_14 rfl ?_
  refine own_iload 17 rfl d19_15 rfl ?_
  refine own_icmpNo 20 rfl d19_17 (tlt (by decide : (0 : Int32) < (3 : Int32))).2.1 ?_
  refine own_iload 22 rfl d19_20 rfl ?_
  refine own_ifNo 25 rfl d19_22 (teq (rfl : (0 : Int32) = (0 : Int32))).2 ?_
  refine own_iloadN 26 rfl d19_25 rfl ?_
  refine own_i2l 27 rfl d19_26 ?_
  rw [show (0 : Int32).toInt64 = (0 : Int64) from by decide]
  refine own_lload 29 rfl d19_27 rfl ?_
  refine own_ladd 30 rfl d19_29 ?_
  rw [show ((0 : Int64) + (1 : Int64)) = (1 : Int64) from by decide]
  refine own_iload 32 rfl d19_30 rfl ?_
  refine own_i2l 33 rfl d19_32 ?_
  rw [show (3 : Int32).toInt64 = (3 : Int64) from by decide]
  refine own_callS 36 rfl 0 0 0 [(.long (1 : Int64)), (.long (3 : Int64))] [] (y := (⟨"java/lang/Math", "min", "(JJ)J"⟩ : MethodName)) (hw _ (List.mem_of_getElem? (i := 145) rfl)) (hw _ (List.mem_of_getElem? (i := 146) rfl)) (hw _ (List.mem_of_getElem? (i := 2) rfl)) (hw _ (List.mem_of_getElem? (i := 147) rfl)) (by decide) (rmminJ l Z a0 hw [] (1 : Int64) (3 : Int64) h0) d19_33 rfl (lenOf own_pd1 rfl) rfl rfl rfl (by decide) (by decide) rfl rfl (by decide) (by decide) (own_kv fun v1 h1 q1 => ?_)
  obtain ⟨rfl, e1⟩ := q1
  rw [e1]
  rw [show own_minJ (1 : Int64) (3 : Int64) = (1 : Int64) from by decide]
  refine own_l2i 37 rfl d19_36 ?_
  rw [show (1 : Int64).toInt32 = (1 : Int32) from by decide]
  refine own_iconst 38 rfl (1 : Int32) d19_37 rfl ?_
  refine own_isub 39 rfl d19_38 ?_
  rw [show ((1 : Int32) - (1 : Int32)) = (0 : Int32) from by decide]
  refine own_istore 41 rfl #[.val (.ref p1), .val (.long w), .second, .val (.int (0 : Int32)), .val (.int (3 : Int32)), .val (.long (1 : Int64)), .second, .val (.int (0 : Int32)), .val (.int (0 : Int32))] d19_39 rfl ?_
  refine own_aloadN 42 rfl d19_41 rfl rfl ?_
  refine own_getF 45 rfl (host := "") (Or.inl (hw _ (List.mem_of_getElem? (i := 94) rfl))) Via.refl FT d19_42 ?_
  refine own_aloadN 46 rfl d19_45 rfl rfl ?_
  refine own_iload 48 rfl d19_46 rfl ?_
  refine own_callQ 51 rfl 0 0 1 [(.int (0 : Int32))] [(.ref a)] (y := (⟨"com/example/lean_limiter/leanlimiter/ExactLog", "indexOf", "(I)I"⟩ : MethodName)) (y2 := (⟨"com/example/lean_limiter/leanlimiter/ExactLog", "isIdleAt", "(J)Z"⟩ : MethodName)) (hw _ (List.mem_of_getElem? (i := 123) rfl)) (hw _ (List.mem_of_getElem? (i := 124) rfl)) (hw _ (List.mem_of_getElem? (i := 99) rfl)) (hw _ (List.mem_of_getElem? (i := 98) rfl)) rfl (hw _ (List.mem_of_getElem? (i := 125) rfl)) (hw _ (List.mem_of_getElem? (i := 13) rfl)) (hw _ (List.mem_of_getElem? (i := 126) rfl)) (by decide) EX (rmIx l Z a0 hw [] p1 a N S hd [x0, x1, x2] (0 : Int32) h0 RS) d19_48 rfl (lenOf own_pd0 rfl) rfl rfl rfl (by decide) (by decide) rfl rfl (by decide) (by decide) (own_kv fun v2 h2 q2 => ?_)
  obtain ⟨rfl, e2⟩ := q2
  rw [e2]
  refine own_laload 52 rfl AR (own_hin SZ hN hh (by decide) (by show (0 : Int) ≤ _; omega)) (EL 0 x0 rfl) d19_51 ?_
  refine own_lloadN 53 rfl d19_52 rfl ?_
  refine own_lcmp 54 rfl d19_53 ?_
  by_cases hc54 : w < x0
  · have ihc54 : w.toInt < x0.toInt := own_ltL hc54
    refine own_ifYes 73 d19_54 (tlt ((lw_gt _ _).mpr hc54)).2.2.1 (by decide) (by decide) ?_
    refine own_iload 75 rfl d19_73 rfl ?_
    refine own_istore 77 rfl #[.val (.ref p1), .val (.long w), .second, .val (.int (0 : Int32)), .val (.int (0 : Int32)), .val (.long (1 : Int64)), .second, .val (.int (0 : Int32)), .val (.int (0 : Int32))] d19_75 rfl ?_
    refine own_iconst 78 rfl (1 : Int32) d19_77 rfl ?_
    refine own_istore 80 rfl #[.val (.ref p1), .val (.long w), .second, .val (.int (0 : Int32)), .val (.int (0 : Int32)), .val (.long (1 : Int64)), .second, .val (.int (1 : Int32)), .val (.int (0 : Int32))] d19_78 rfl ?_
    refine own_goto 14 d19_80 (by decide) (by decide) ?_
    refine own_iloadN 15 rfl d19_14 rfl ?_
    refine own_iload 17 rfl d19_15 rfl ?_
    refine own_icmpYes 83 d19_17 (flt (by decide : ¬ ((0 : Int32) < (0 : Int32)))).2.1 (by decide) (by decide) ?_
    refine own_iloadN 84 rfl d19_83 rfl ?_
    refine own_iload 86 rfl d19_84 rfl ?_
    refine own_icmpYes 128 d19_86 (flt (by decide : ¬ ((0 : Int32) < (0 : Int32)))).2.1 (by decide) (by decide) ?_
    refine own_iloadN 129 rfl d19_128 rfl ?_
    refine own_retI rfl d19_129 (by decide) (by decide) ?_
    have hl : own_left w [x0, x1, x2] = 0 := by rw [own_left, if_pos (own_ltL' (by omega : w.toInt < x0.toInt))]
    exact ⟨_, rfl, by rw [hl]; rfl, rfl⟩
  · have ihc54 : x0.toInt ≤ w.toInt := own_nltL hc54
    refine own_ifNo 57 rfl d19_54 (flt (fun q => hc54 ((lw_gt _ _).mp q))).2.2.1 ?_
    refine own_iload 59 rfl d19_57 rfl ?_
    refine own_iconst 60 rfl (1 : Int32) d19_59 rfl ?_
    refine own_iadd 61 rfl d19_60 ?_
    rw [show ((0 : Int32) + (1 : Int32)) = (1 : Int32) from by decide]
    refine own_istoreN 62 rfl #[.val (.ref p1), .val (.long w), .second, .val (.int (1 : Int32)), .val (.int (3 : Int32)), .val (.long (1 : Int64)), .second, .val (.int (0 : Int32)), .val (.int (0 : Int32))] d19_61 rfl ?_
    refine own_lload 64 rfl d19_62 rfl ?_
    refine own_ldc2Long 67 rfl (hw _ (List.mem_of_getElem? (i := 149) rfl)) d19_64 ?_
    refine own_lmul 68 rfl d19_67 ?_
    rw [show ((1 : Int64) * (2 : Int64)) = (2 : Int64) from by decide]
    refine own_lstore 70 rfl #[.val (.ref p1), .val (.long w), .second, .val (.int (1 : Int32)), .val (.int (3 : Int32)), .val (.long (2 : Int64)), .second, .val (.int (0 : Int32)), .val (.int (0 : Int32))] d19_68 rfl ?_
    refine own_goto 80 d19_70 (by decide) (by decide) ?_
    refine own_goto 14 d19_80 (by decide) (by decide) ?_
    refine own_iloadN 15 rfl d19_14 rfl ?_
    refine own_iload 17 rfl d19_15 rfl ?_
    refine own_icmpNo 20 rfl d19_17 (tlt (by decide : (1 : Int32) < (3 : Int32))).2.1 ?_
    refine own_iload 22 rfl d19_20 rfl ?_
    refine own_ifNo 25 rfl d19_22 (teq (rfl : (0 : Int32) = (0 : Int32))).2 ?_
    refine own_iloadN 26 rfl d19_25 rfl ?_
    refine own_i2l 27 rfl d19_26 ?_
    rw [show (1 : Int32).toInt64 = (1 : Int64) from by decide]
    refine own_lload 29 rfl d19_27 rfl ?_
    refine own_ladd 30 rfl d19_29 ?_
    rw [show ((1 : Int64) + (2 : Int64)) = (3 : Int64) from by decide]
    refine own_iload 32 rfl d19_30 rfl ?_
    refine own_i2l 33 rfl d19_32 ?_
    rw [show (3 : Int32).toInt64 = (3 : Int64) from by decide]
    refine own_callS 36 rfl 0 0 0 [(.long (3 : Int64)), (.long (3 : Int64))] [] (y := (⟨"java/lang/Math", "min", "(JJ)J"⟩ : MethodName)) (hw _ (List.mem_of_getElem? (i := 145) rfl)) (hw _ (List.mem_of_getElem? (i := 146) rfl)) (hw _ (List.mem_of_getElem? (i := 2) rfl)) (hw _ (List.mem_of_getElem? (i := 147) rfl)) (by decide) (rmminJ l Z a0 hw [] (3 : Int64) (3 : Int64) h0) d19_33 rfl (lenOf own_pd1 rfl) rfl rfl rfl (by decide) (by decide) rfl rfl (by decide) (by decide) (own_kv fun v3 h3 q3 => ?_)
    obtain ⟨rfl, e3⟩ := q3
    rw [e3]
    rw [show own_minJ (3 : Int64) (3 : Int64) = (3 : Int64) from by decide]
    refine own_l2i 37 rfl d19_36 ?_
    rw [show (3 : Int64).toInt32 = (3 : Int32) from by decide]
    refine own_iconst 38 rfl (1 : Int32) d19_37 rfl ?_
    refine own_isub 39 rfl d19_38 ?_
    rw [show ((3 : Int32) - (1 : Int32)) = (2 : Int32) from by decide]
    refine own_istore 41 rfl #[.val (.ref p1), .val (.long w), .second, .val (.int (1 : Int32)), .val (.int (3 : Int32)), .val (.long (2 : Int64)), .second, .val (.int (0 : Int32)), .val (.int (2 : Int32))] d19_39 rfl ?_
    refine own_aloadN 42 rfl d19_41 rfl rfl ?_
    refine own_getF 45 rfl (host := "") (Or.inl (hw _ (List.mem_of_getElem? (i := 94) rfl))) Via.refl FT d19_42 ?_
    refine own_aloadN 46 rfl d19_45 rfl rfl ?_
    refine own_iload 48 rfl d19_46 rfl ?_
    refine own_callQ 51 rfl 0 0 1 [(.int (2 : Int32))] [(.ref a)] (y := (⟨"com/example/lean_limiter/leanlimiter/ExactLog", "indexOf", "(I)I"⟩ : MethodName)) (y2 := (⟨"com/example/lean_limiter/leanlimiter/ExactLog", "isIdleAt", "(J)Z"⟩ : MethodName)) (hw _ (List.mem_of_getElem? (i := 123) rfl)) (hw _ (List.mem_of_getElem? (i := 124) rfl)) (hw _ (List.mem_of_getElem? (i := 99) rfl)) (hw _ (List.mem_of_getElem? (i := 98) rfl)) rfl (hw _ (List.mem_of_getElem? (i := 125) rfl)) (hw _ (List.mem_of_getElem? (i := 13) rfl)) (hw _ (List.mem_of_getElem? (i := 126) rfl)) (by decide) EX (rmIx l Z a0 hw [] p1 a N S hd [x0, x1, x2] (2 : Int32) h0 RS) d19_48 rfl (lenOf own_pd0 rfl) rfl rfl rfl (by decide) (by decide) rfl rfl (by decide) (by decide) (own_kv fun v4 h4 q4 => ?_)
    obtain ⟨rfl, e4⟩ := q4
    rw [e4]
    refine own_laload 52 rfl AR (own_hin SZ hN hh (by decide) (by show (2 : Int) ≤ _; omega)) (EL 2 x2 rfl) d19_51 ?_
    refine own_lloadN 53 rfl d19_52 rfl ?_
    refine own_lcmp 54 rfl d19_53 ?_
    by_cases hc54_5 : w < x2
    · have ihc54_5 : w.toInt < x2.toInt := own_ltL hc54_5
      refine own_ifYes 73 d19_54 (tlt ((lw_gt _ _).mpr hc54_5)).2.2.1 (by decide) (by decide) ?_
      refine own_iload 75 rfl d19_73 rfl ?_
      refine own_istore 77 rfl #[.val (.ref p1), .val (.long w), .second, .val (.int (1 : Int32)), .val (.int (2 : Int32)), .val (.long (2 : Int64)), .second, .val (.int (0 : Int32)), .val (.int (2 : Int32))] d19_75 rfl ?_
      refine own_iconst 78 rfl (1 : Int32) d19_77 rfl ?_
      refine own_istore 80 rfl #[.val (.ref p1), .val (.long w), .second, .val (.int (1 : Int32)), .val (.int (2 : Int32)), .val (.long (2 : Int64)), .second, .val (.int (1 : Int32)), .val (.int (2 : Int32))] d19_78 rfl ?_
      refine own_goto 14 d19_80 (by decide) (by decide) ?_
      refine own_iloadN 15 rfl d19_14 rfl ?_
      refine own_iload 17 rfl d19_15 rfl ?_
      refine own_icmpNo 20 rfl d19_17 (tlt (by decide : (1 : Int32) < (2 : Int32))).2.1 ?_
      refine own_iload 22 rfl d19_20 rfl ?_
      refine own_ifYes 83 d19_22 (feq (by decide : ¬ ((1 : Int32) = (0 : Int32)))).2 (by decide) (by decide) ?_
      refine own_iloadN 84 rfl d19_83 rfl ?_
      refine own_iload 86 rfl d19_84 rfl ?_
      refine own_icmpNo 89 rfl d19_86 (tlt (by decide : (1 : Int32) < (2 : Int32))).2.1 ?_
      refine own_iloadN 90 rfl d19_89 rfl ?_
      refine own_iload 92 rfl d19_90 rfl ?_
      refine own_iadd 93 rfl d19_92 ?_
      rw [show ((1 : Int32) + (2 : Int32)) = (3 : Int32) from by decide]
      refine own_iconst 94 rfl (1 : Int32) d19_93 rfl ?_
      refine own_iushr 95 rfl d19_94 ?_
      rw [show (((3 : Int32).toUInt32 >>> ((1 : Int32) &&& 31).toUInt32).toInt32) = (1 : Int32) from by decide]
      refine own_istore 97 rfl #[.val (.ref p1), .val (.long w), .second, .val (.int (1 : Int32)), .val (.int (2 : Int32)), .val (.long (2 : Int64)), .second, .val (.int (1 : Int32)), .val (.int (1 : Int32))] d19_95 rfl ?_
      refine own_aloadN 98 rfl d19_97 rfl rfl ?_
      refine own_getF 101 rfl (host := "") (Or.inl (hw _ (List.mem_of_getElem? (i := 94) rfl))) Via.refl FT d19_98 ?_
      refine own_aloadN 102 rfl d19_101 rfl rfl ?_
      refine own_iload 104 rfl d19_102 rfl ?_
      refine own_callQ 107 rfl 0 0 1 [(.int (1 : Int32))] [(.ref a)] (y := (⟨"com/example/lean_limiter/leanlimiter/ExactLog", "indexOf", "(I)I"⟩ : MethodName)) (y2 := (⟨"com/example/lean_limiter/leanlimiter/ExactLog", "isIdleAt", "(J)Z"⟩ : MethodName)) (hw _ (List.mem_of_getElem? (i := 123) rfl)) (hw _ (List.mem_of_getElem? (i := 124) rfl)) (hw _ (List.mem_of_getElem? (i := 99) rfl)) (hw _ (List.mem_of_getElem? (i := 98) rfl)) rfl (hw _ (List.mem_of_getElem? (i := 125) rfl)) (hw _ (List.mem_of_getElem? (i := 13) rfl)) (hw _ (List.mem_of_getElem? (i := 126) rfl)) (by decide) EX (rmIx l Z a0 hw [] p1 a N S hd [x0, x1, x2] (1 : Int32) h0 RS) d19_104 rfl (lenOf own_pd0 rfl) rfl rfl rfl (by decide) (by decide) rfl rfl (by decide) (by decide) (own_kv fun v6 h6 q6 => ?_)
      obtain ⟨rfl, e6⟩ := q6
      rw [e6]
      refine own_laload 108 rfl AR (own_hin SZ hN hh (by decide) (by show (1 : Int) ≤ _; omega)) (EL 1 x1 rfl) d19_107 ?_
      refine own_lloadN 109 rfl d19_108 rfl ?_
      refine own_lcmp 110 rfl d19_109 ?_
      by_cases hc110 : w < x1
      · have ihc110 : w.toInt < x1.toInt := own_ltL hc110
        refine own_ifYes 121 d19_110 (tlt ((lw_gt _ _).mpr hc110)).2.2.1 (by decide) (by decide) ?_
        refine own_iload 123 rfl d19_121 rfl ?_
        refine own_istore 125 rfl #[.val (.ref p1), .val (.long w), .second, .val (.int (1 : Int32)), .val (.int (1 : Int32)), .val (.long (2 : Int64)), .second, .val (.int (1 : Int32)), .val (.int (1 : Int32))] d19_123 rfl ?_
        refine own_goto 83 d19_125 (by decide) (by decide) ?_
        refine own_iloadN 84 rfl d19_83 rfl ?_
        refine own_iload 86 rfl d19_84 rfl ?_
        refine own_icmpYes 128 d19_86 (flt (by decide : ¬ ((1 : Int32) < (1 : Int32)))).2.1 (by decide) (by decide) ?_
        refine own_iloadN 129 rfl d19_128 rfl ?_
        refine own_retI rfl d19_129 (by decide) (by decide) ?_
        have hl : own_left w [x0, x1, x2] = 1 := by rw [own_left, if_neg (own_nltL' (by omega : x0.toInt ≤ w.toInt)), own_left, if_pos (own_ltL' (by omega : w.toInt < x1.toInt))]
        exact ⟨_, rfl, by rw [hl]; rfl, rfl⟩
      · have ihc110 : x1.toInt ≤ w.toInt := own_nltL hc110
        refine own_ifNo 113 rfl d19_110 (flt (fun q => hc110 ((lw_gt _ _).mp q))).2.2.1 ?_
        refine own_iload 115 rfl d19_113 rfl ?_
        refine own_iconst 116 rfl (1 : Int32) d19_115 rfl ?_
        refine own_iadd 117 rfl d19_116 ?_
        rw [show ((1 : Int32) + (1 : Int32)) = (2 : Int32) from by decide]
        refine own_istoreN 118 rfl #[.val (.ref p1), .val (.long w), .second, .val (.int (2 : Int32)), .val (.int (2 : Int32)), .val (.long (2 : Int64)), .second, .val (.int (1 : Int32)), .val (.int (1 : Int32))] d19_117 rfl ?_
        refine own_goto 125 d19_118 (by decide) (by decide) ?_
        refine own_goto 83 d19_125 (by decide) (by decide) ?_
        refine own_iloadN 84 rfl d19_83 rfl ?_
        refine own_iload 86 rfl d19_84 rfl ?_
        refine own_icmpYes 128 d19_86 (flt (by decide : ¬ ((2 : Int32) < (2 : Int32)))).2.1 (by decide) (by decide) ?_
        refine own_iloadN 129 rfl d19_128 rfl ?_
        refine own_retI rfl d19_129 (by decide) (by decide) ?_
        have hl : own_left w [x0, x1, x2] = 2 := by rw [own_left, if_neg (own_nltL' (by omega : x0.toInt ≤ w.toInt)), own_left, if_neg (own_nltL' (by omega : x1.toInt ≤ w.toInt)), own_left, if_pos (own_ltL' (by omega : w.toInt < x2.toInt))]
        exact ⟨_, rfl, by rw [hl]; rfl, rfl⟩
    · have ihc54_5 : x2.toInt ≤ w.toInt := own_nltL hc54_5
      refine own_ifNo 57 rfl d19_54 (flt (fun q => hc54_5 ((lw_gt _ _).mp q))).2.2.1 ?_
      refine own_iload 59 rfl d19_57 rfl ?_
      refine own_iconst 60 rfl (1 : Int32) d19_59 rfl ?_
      refine own_iadd 61 rfl d19_60 ?_
      rw [show ((2 : Int32) + (1 : Int32)) = (3 : Int32) from by decide]
      refine own_istoreN 62 rfl #[.val (.ref p1), .val (.long w), .second, .val (.int (3 : Int32)), .val (.int (3 : Int32)), .val (.long (2 : Int64)), .second, .val (.int (0 : Int32)), .val (.int (2 : Int32))] d19_61 rfl ?_
      refine own_lload 64 rfl d19_62 rfl ?_
      refine own_ldc2Long 67 rfl (hw _ (List.mem_of_getElem? (i := 149) rfl)) d19_64 ?_
      refine own_lmul 68 rfl d19_67 ?_
      rw [show ((2 : Int64) * (2 : Int64)) = (4 : Int64) from by decide]
      refine own_lstore 70 rfl #[.val (.ref p1), .val (.long w), .second, .val (.int (3 : Int32)), .val (.int (3 : Int32)), .val (.long (4 : Int64)), .second, .val (.int (0 : Int32)), .val (.int (2 : Int32))] d19_68 rfl ?_
      refine own_goto 80 d19_70 (by decide) (by decide) ?_
      refine own_goto 14 d19_80 (by decide) (by decide) ?_
      refine own_iloadN 15 rfl d19_14 rfl ?_
      refine own_iload 17 rfl d19_15 rfl ?_
      refine own_icmpYes 83 d19_17 (flt (by decide : ¬ ((3 : Int32) < (3 : Int32)))).2.1 (by decide) (by decide) ?_
      refine own_iloadN 84 rfl d19_83 rfl ?_
      refine own_iload 86 rfl d19_84 rfl ?_
      refine own_icmpYes 128 d19_86 (flt (by decide : ¬ ((3 : Int32) < (3 : Int32)))).2.1 (by decide) (by decide) ?_
      refine own_iloadN 129 rfl d19_128 rfl ?_
      refine own_retI rfl d19_129 (by decide) (by decide) ?_
      have hl : own_left w [x0, x1, x2] = 3 := by rw [own_left, if_neg (own_nltL' (by omega : x0.toInt ≤ w.toInt)), own_left, if_neg (own_nltL' (by omega : x1.toInt ≤ w.toInt)), own_left, if_neg (own_nltL' (by omega : x2.toInt ≤ w.toInt)), own_left]
      exact ⟨_, rfl, by rw [hl]; rfl, rfl⟩
theorem own_ix0 {N hd : Int32} (hN : 1 ≤ N.toInt ∧ N.toInt ≤ 8) (hh : 0 ≤ hd.toInt ∧ hd.toInt < N.toInt) : own_ix N hd (Int32.ofNat 0) = hd := by
  apply own_eq'
  have z : (Int32.ofNat 0).toInt = 0 := rfl
  rw [own_ix_int hN.2 hh.1 hh.2 (by omega) (by omega), z]
  unfold own_ixI
  rw [if_pos (by omega)]; omega
theorem own_hin0 {c : Cell} {N hd : Int32} (SZ : c.slots.size = N.toNatClampNeg) (hN : 1 ≤ N.toInt ∧ N.toInt ≤ 8) (hh : 0 ≤ hd.toInt ∧ hd.toInt < N.toInt) : ¬ (hd < 0 ∨ c.slots.size ≤ hd.toNatClampNeg) := fun q => by
  have a := own_nat hh.1
  have b := own_nat (x := N) (by omega)
  exact q.elim (own_nlt' hh.1) (by omega)
theorem own_at0 {c : Cell} {N hd : Int32} {xs : List Int64} {x : Int64} (hN : 1 ≤ N.toInt ∧ N.toInt ≤ 8) (hh : 0 ≤ hd.toInt ∧ hd.toInt < N.toInt) (EL : ∀ i x, xs[i]? = some x → c.slots[(own_ix N hd (Int32.ofNat i)).toNatClampNeg]? = some (.long x)) (h : xs[0]? = some x) : c.slots[hd.toNatClampNeg]? = some (.long x) := by
  have q := EL 0 x h
  rwa [own_ix0 hN hh] at q
theorem own_left_le (w : Int64) : ∀ xs, own_left w xs ≤ xs.length
  | [] => Nat.le_refl _
  | x :: r => by
    unfold own_left
    split
    · exact Nat.zero_le _
    · exact Nat.succ_le_succ (own_left_le w r)
theorem own_log_facts {Z : State} {h : Heap} {p a : Addr} {N : Int32} {S : Int64} {hd : Int32} {xs : List Int64} (L : own_Log Z h p a N S hd xs) : Z.heap.size ≤ p ∧ Exa Z h p "com/example/lean_limiter/leanlimiter/ExactLog" ∧ (1 ≤ N.toInt ∧ N.toInt ≤ 8) ∧ (xs.length : Int) ≤ N.toInt := by
  obtain ⟨c, fu, ⟨g1, ga⟩, EX, -, -, -, -, -, -, -, hN, -, hx, -⟩ := L
  exact ⟨g1, EX, hN, hx⟩

theorem rmNewest (l : Launch) (Z : State) (a0 : Array Value) (hw : ∀ d ∈ tables_1, d.before a0 Z = true) (ws : List Jvm.Cond) (p1 a : Addr) (N : Int32) (S : Int64) (hd : Int32) (xs : List Int64) (h0 : Heap) (RS : own_Log Z h0 p1 a N S hd xs) (hl3 : xs.length ≤ 3) (hne : xs ≠ []) :
    own_Met l Z (⟨"com/example/lean_limiter/leanlimiter/ExactLog", "newest", "()J"⟩ : MethodName) prog_3_method_9_code 1 (some .long) ws ({ frames := 1, cells := 0, slots := 0, locals := 15 } : Room) #[(.ref p1)] h0 (own_some (fun v h => v = .long (xs.getLastD 0) ∧ h = h0)) := by
  rcases xs with _ | ⟨x0, _ | ⟨x1, _ | ⟨x2, _ | ⟨x3, r⟩⟩⟩⟩
  · exact absurd rfl hne
  · exact rmNew1 l Z a0 hw ws p1 a N S hd x0 h0 RS
  · exact rmNew2 l Z a0 hw ws p1 a N S hd x0 x1 h0 RS
  · exact rmNew3 l Z a0 hw ws p1 a N S hd x0 x1 x2 h0 RS
  · exact absurd hl3 (by simp only [List.length_cons]; omega)
theorem rmCL (l : Launch) (Z : State) (a0 : Array Value) (hw : ∀ d ∈ tables_1, d.before a0 Z = true) (ws : List Jvm.Cond) (p1 a : Addr) (N : Int32) (S : Int64) (hd : Int32) (xs : List Int64) (w : Int64) (h0 : Heap) (RS : own_Log Z h0 p1 a N S hd xs) (hl3 : xs.length ≤ 3) (hs : own_sorted xs) :
    own_Met l Z (⟨"com/example/lean_limiter/leanlimiter/ExactLog", "countLeft", "(J)I"⟩ : MethodName) prog_3_method_8_code 9 (some .int) ws ({ frames := 1, cells := 0, slots := 0, locals := 20 } : Room) #[(.ref p1), (.long w)] h0 (own_some (fun v h => v = .int (Int32.ofNat (own_left w xs)) ∧ h = h0)) := by
  rcases xs with _ | ⟨x0, _ | ⟨x1, _ | ⟨x2, _ | ⟨x3, r⟩⟩⟩⟩
  · exact rmCL0 l Z a0 hw ws p1 a N S hd  w h0 RS hs
  · exact rmCL1 l Z a0 hw ws p1 a N S hd x0 w h0 RS hs
  · exact rmCL2 l Z a0 hw ws p1 a N S hd x0 x1 w h0 RS hs
  · exact rmCL3 l Z a0 hw ws p1 a N S hd x0 x1 x2 w h0 RS hs
  · exact absurd hl3 (by simp only [List.length_cons]; omega)
theorem d16_0 : decode prog_3_method_6_code 0 = .ok (.aload_n 0, 1) := by decide +kernel
theorem d16_1 : decode prog_3_method_6_code 1 = .ok (.getfield 38, 3) := by decide +kernel
theorem d16_4 : decode prog_3_method_6_code 4 = .ok (.ifCond .ne 7, 3) := by decide +kernel
theorem d16_7 : decode prog_3_method_6_code 7 = .ok (.lload_n 1, 1) := by decide +kernel
theorem d16_8 : decode prog_3_method_6_code 8 = .ok (.goto 11, 3) := by decide +kernel
theorem d16_19 : decode prog_3_method_6_code 19 = .ok (.lreturn, 1) := by decide +kernel
theorem own_pf5 : plainFor (⟨"com/example/lean_limiter/leanlimiter/ExactLog", "decidedAt", "(J)J"⟩ : MethodName) = true := by first | exact plainFor_of_name (by first | (simp [plainName, overriddenIn]; done) | decide +kernel) | decide +kernel
set_option maxRecDepth 65536 in
set_option maxHeartbeats 40000000 in
theorem rmDec0 (l : Launch) (Z : State) (a0 : Array Value) (hw : ∀ d ∈ tables_1, d.before a0 Z = true) (ws : List Jvm.Cond) (p1 a : Addr) (N : Int32) (S : Int64) (hd : Int32) (t : Int64) (h0 : Heap) (RS : own_Log Z h0 p1 a N S hd []) :
    own_Met l Z (⟨"com/example/lean_limiter/leanlimiter/ExactLog", "decidedAt", "(J)J"⟩ : MethodName) prog_3_method_6_code 3 (some .long) ws ({ frames := 2, cells := 0, slots := 0, locals := 30 } : Room) #[(.ref p1), (.long t)] h0 (own_some (fun v h => v = .long t ∧ h = h0)) := by
  obtain ⟨cc, fu, ⟨g1, ga⟩, EX, FC, FSp, FT, FH, FS, FU, AR, hN, hh, hxl, SZ, EL⟩ := id RS
  have FS : Fld Z h0 p1 "com/example/lean_limiter/leanlimiter/ExactLog" "size" "I" (.int (0 : Int32)) := FS
  refine own_met (ls0 := #[.val (.ref p1), .val (.long t), .second]) own_pf5 (fun m => by first | rfl | (simp [entryFrame, mkF, argsToLocals, Value.category, maxLocals]; done)) ?_
  intro p e s m below meth c
  refine own_old (fun O0 => ?_)
  refine own_aloadN 1 rfl d16_0 rfl rfl ?_
  refine own_getF 4 rfl (host := "") (Or.inl (hw _ (List.mem_of_getElem? (i := 101) rfl))) Via.refl FS d16_1 ?_
  refine own_ifNo 7 rfl d16_4 (teq (rfl : (0 : Int32) = (0 : Int32))).2 ?_
  refine own_lloadN 8 rfl d16_7 rfl ?_
  refine own_goto 19 d16_8 (by decide) (by decide) ?_
  refine own_retJ rfl d16_19 (by decide) (by decide) ?_
  exact ⟨_, rfl, rfl, rfl⟩
theorem d16_11 : decode prog_3_method_6_code 11 = .ok (.lload_n 1, 1) := by decide +kernel
theorem d16_12 : decode prog_3_method_6_code 12 = .ok (.aload_n 0, 1) := by decide +kernel
theorem d16_13 : decode prog_3_method_6_code 13 = .ok (.invokevirtual 76, 3) := by decide +kernel
theorem own_pd2 : parseMethodDescriptor "()J" = some ⟨[], some .long⟩ := by decide +kernel
theorem d16_16 : decode prog_3_method_6_code 16 = .ok (.invokestatic 79, 3) := by decide +kernel
set_option maxRecDepth 65536 in
set_option maxHeartbeats 40000000 in
theorem rmDecC (l : Launch) (Z : State) (a0 : Array Value) (hw : ∀ d ∈ tables_1, d.before a0 Z = true) (ws : List Jvm.Cond) (p1 a : Addr) (N : Int32) (S : Int64) (hd : Int32) (x : Int64) (r : List Int64) (t : Int64) (h0 : Heap) (RS : own_Log Z h0 p1 a N S hd (x :: r)) (hl3 : (x :: r).length ≤ 3) :
    own_Met l Z (⟨"com/example/lean_limiter/leanlimiter/ExactLog", "decidedAt", "(J)J"⟩ : MethodName) prog_3_method_6_code 3 (some .long) ws ({ frames := 2, cells := 0, slots := 0, locals := 30 } : Room) #[(.ref p1), (.long t)] h0 (own_some (fun v h => v = .long (own_maxJ t ((x :: r).getLastD 0)) ∧ h = h0)) := by
  obtain ⟨cc, fu, ⟨g1, ga⟩, EX, FC, FSp, FT, FH, FS, FU, AR, hN, hh, hxl, SZ, EL⟩ := id RS
  have hsz : (Int32.ofNat (x :: r).length).toInt = (x :: r).length := own_len0 (by omega)
  have hlc : 0 < (x :: r).length := Nat.succ_pos _
  refine own_met (ls0 := #[.val (.ref p1), .val (.long t), .second]) own_pf5 (fun m => by first | rfl | (simp [entryFrame, mkF, argsToLocals, Value.category, maxLocals]; done)) ?_
  intro p e s m below meth c
  refine own_old (fun O0 => ?_)
  refine own_aloadN 1 rfl d16_0 rfl rfl ?_
  refine own_getF 4 rfl (host := "") (Or.inl (hw _ (List.mem_of_getElem? (i := 101) rfl))) Via.refl FS d16_1 ?_
  have ihc4 : ¬ (Int32.ofNat (x :: r).length).toInt = (0 : Int) := by omega
  have hc4 : ¬ ((Int32.ofNat (x :: r).length) = (0 : Int32)) := own_neq' ihc4
  refine own_ifYes 11 d16_4 (feq hc4).2 (by decide) (by decide) ?_
  refine own_lloadN 12 rfl d16_11 rfl ?_
  refine own_aloadN 13 rfl d16_12 rfl rfl ?_
  refine own_callQ 16 rfl 0 0 2 [] [(.long t)] (y := (⟨"com/example/lean_limiter/leanlimiter/ExactLog", "newest", "()J"⟩ : MethodName)) (y2 := (⟨"com/example/lean_limiter/leanlimiter/ExactLog", "isIdleAt", "(J)Z"⟩ : MethodName)) (hw _ (List.mem_of_getElem? (i := 140) rfl)) (hw _ (List.mem_of_getElem? (i := 141) rfl)) (hw _ (List.mem_of_getElem? (i := 99) rfl)) (hw _ (List.mem_of_getElem? (i := 98) rfl)) rfl (hw _ (List.mem_of_getElem? (i := 142) rfl)) (hw _ (List.mem_of_getElem? (i := 13) rfl)) (hw _ (List.mem_of_getElem? (i := 143) rfl)) (by decide) EX (rmNewest l Z a0 hw [] p1 a N S hd (x :: r) h0 RS hl3 (List.cons_ne_nil _ _)) d16_13 rfl (lenOf own_pd2 rfl) rfl rfl rfl (by decide) (by decide) rfl rfl (by decide) (by decide) (own_kv fun v1 h1 q1 => ?_)
  obtain ⟨rfl, e1⟩ := q1
  rw [e1]
  refine own_callS 19 rfl 0 0 0 [(.long t), (.long ((x :: r).getLastD 0))] [] (y := (⟨"java/lang/Math", "max", "(JJ)J"⟩ : MethodName)) (hw _ (List.mem_of_getElem? (i := 144) rfl)) (hw _ (List.mem_of_getElem? (i := 9) rfl)) (hw _ (List.mem_of_getElem? (i := 2) rfl)) (hw _ (List.mem_of_getElem? (i := 10) rfl)) (by decide) (rmmaxJ l Z a0 hw [] t ((x :: r).getLastD 0)  h0 ) d16_16 rfl (lenOf own_pd1 rfl) rfl rfl rfl (by decide) (by decide) rfl rfl (by decide) (by decide) (own_kv fun v2 h2 q2 => ?_)
  obtain ⟨rfl, e2⟩ := q2
  rw [e2]
  refine own_retJ rfl d16_19 (by decide) (by decide) ?_
  exact ⟨_, rfl, rfl, rfl⟩
theorem rmDec (l : Launch) (Z : State) (a0 : Array Value) (hw : ∀ d ∈ tables_1, d.before a0 Z = true) (ws : List Jvm.Cond) (p1 a : Addr) (N : Int32) (S : Int64) (hd : Int32) (xs : List Int64) (t : Int64) (h0 : Heap) (RS : own_Log Z h0 p1 a N S hd xs) (hl3 : xs.length ≤ 3) :
    own_Met l Z (⟨"com/example/lean_limiter/leanlimiter/ExactLog", "decidedAt", "(J)J"⟩ : MethodName) prog_3_method_6_code 3 (some .long) ws ({ frames := 2, cells := 0, slots := 0, locals := 30 } : Room) #[(.ref p1), (.long t)] h0 (own_some (fun v h => v = .long (own_dec t xs) ∧ h = h0)) := by
  rcases xs with _ | ⟨x, r⟩
  · exact rmDec0 l Z a0 hw ws p1 a N S hd t h0 RS
  · exact rmDecC l Z a0 hw ws p1 a N S hd x r t h0 RS hl3
theorem d18_0 : decode jdk_29_method_27_code 0 = .ok (.lload_n 0, 1) := by decide +kernel
theorem d18_1 : decode jdk_29_method_27_code 1 = .ok (.lload_n 2, 1) := by decide +kernel
theorem d18_2 : decode jdk_29_method_27_code 2 = .ok (.lsub, 1) := by decide +kernel
theorem d18_3 : decode jdk_29_method_27_code 3 = .ok (.lstore 4, 2) := by decide +kernel
theorem d18_5 : decode jdk_29_method_27_code 5 = .ok (.lload_n 0, 1) := by decide +kernel
theorem d18_6 : decode jdk_29_method_27_code 6 = .ok (.lload_n 2, 1) := by decide +kernel
theorem d18_7 : decode jdk_29_method_27_code 7 = .ok (.lxor, 1) := by decide +kernel
theorem d18_8 : decode jdk_29_method_27_code 8 = .ok (.lload_n 0, 1) := by decide +kernel
theorem d18_9 : decode jdk_29_method_27_code 9 = .ok (.lload 4, 2) := by decide +kernel
theorem d18_11 : decode jdk_29_method_27_code 11 = .ok (.lxor, 1) := by decide +kernel
theorem d18_12 : decode jdk_29_method_27_code 12 = .ok (.land, 1) := by decide +kernel
theorem d18_13 : decode jdk_29_method_27_code 13 = .ok (.lconst 0, 1) := by decide +kernel
theorem d18_14 : decode jdk_29_method_27_code 14 = .ok (.lcmp, 1) := by decide +kernel
theorem d18_15 : decode jdk_29_method_27_code 15 = .ok (.ifCond .ge 13, 3) := by decide +kernel
theorem d18_28 : decode jdk_29_method_27_code 28 = .ok (.lload 4, 2) := by decide +kernel
theorem d18_30 : decode jdk_29_method_27_code 30 = .ok (.lreturn, 1) := by decide +kernel
theorem own_pf6 : plainFor (⟨"java/lang/Math", "subtractExact", "(JJ)J"⟩ : MethodName) = true := by first | exact plainFor_of_name (by first | (simp [plainName, overriddenIn]; done) | decide +kernel) | decide +kernel
set_option maxRecDepth 65536 in
set_option maxHeartbeats 40000000 in
theorem rmsubtractExact (l : Launch) (Z : State) (a0 : Array Value) (hw : ∀ d ∈ tables_1, d.before a0 Z = true) (ws : List Jvm.Cond) (x y : Int64) (h0 : Heap) (hf : Jvm.Free.XT.fits64 (x.toInt - y.toInt)) :
    own_Met l Z (⟨"java/lang/Math", "subtractExact", "(JJ)J"⟩ : MethodName) jdk_29_method_27_code 6 (some .long) ws ({ frames := 0, cells := 0, slots := 0, locals := 0 } : Room) #[(.long x), (.long y)] h0 (own_some (fun v h => v = .long (x - y) ∧ h = h0)) := by
  refine own_met (ls0 := #[.val (.long x), .second, .val (.long y), .second, .unset, .unset]) own_pf6 (fun m => by first | rfl | (simp [entryFrame, mkF, argsToLocals, Value.category, maxLocals]; done)) ?_
  intro p e s m below meth c
  refine own_old (fun O0 => ?_)
  refine own_lloadN 1 rfl d18_0 rfl ?_
  refine own_lloadN 2 rfl d18_1 rfl ?_
  refine own_lsub 3 rfl d18_2 ?_
  refine own_lstore 5 rfl #[.val (.long x), .second, .val (.long y), .second, .val (.long (x - y)), .second] d18_3 rfl ?_
  refine own_lloadN 6 rfl d18_5 rfl ?_
  refine own_lloadN 7 rfl d18_6 rfl ?_
  refine own_lxor 8 rfl d18_7 ?_
  refine own_lloadN 9 rfl d18_8 rfl ?_
  refine own_lload 11 rfl d18_9 rfl ?_
  refine own_lxor 12 rfl d18_11 ?_
  refine own_land 13 rfl d18_12 ?_
  refine own_lconst 14 rfl (0 : Int64) d18_13 rfl ?_
  refine own_lcmp 15 rfl d18_14 ?_
  have ihc15 : (0 : Int) ≤ ((x ^^^ y) &&& (x ^^^ (x - y))).toInt := own_nltL (Jvm.Free.XT.subOk64 hf)
  have hc15 : ¬ (((x ^^^ y) &&& (x ^^^ (x - y))) < (0 : Int64)) := own_nltL' ihc15
  refine own_ifYes 28 d18_15 (flt (fun q => hc15 ((lw_lt _ _).mp q))).2.1 (by decide) (by decide) ?_
  refine own_lload 30 rfl d18_28 rfl ?_
  refine own_retJ rfl d18_30 (by decide) (by decide) ?_
  exact ⟨_, rfl, rfl, rfl⟩
theorem d17_0 : decode prog_3_method_7_code 0 = .ok (.lload_n 1, 1) := by decide +kernel
theorem d17_1 : decode prog_3_method_7_code 1 = .ok (.aload_n 0, 1) := by decide +kernel
theorem d17_2 : decode prog_3_method_7_code 2 = .ok (.getfield 24, 3) := by decide +kernel
theorem d17_5 : decode prog_3_method_7_code 5 = .ok (.invokestatic 82, 3) := by decide +kernel
theorem d17_8 : decode prog_3_method_7_code 8 = .ok (.lreturn, 1) := by decide +kernel
theorem own_pf7 : plainFor (⟨"com/example/lean_limiter/leanlimiter/ExactLog", "windowStart", "(J)J"⟩ : MethodName) = true := by first | exact plainFor_of_name (by first | (simp [plainName, overriddenIn]; done) | decide +kernel) | decide +kernel
set_option maxRecDepth 65536 in
set_option maxHeartbeats 40000000 in
theorem rmWin (l : Launch) (Z : State) (a0 : Array Value) (hw : ∀ d ∈ tables_1, d.before a0 Z = true) (ws : List Jvm.Cond) (p1 a : Addr) (N : Int32) (S : Int64) (hd : Int32) (xs : List Int64) (t : Int64) (h0 : Heap) (RS : own_Log Z h0 p1 a N S hd xs) (hf : Jvm.Free.XT.fits64 (t.toInt - S.toInt)) :
    own_Met l Z (⟨"com/example/lean_limiter/leanlimiter/ExactLog", "windowStart", "(J)J"⟩ : MethodName) prog_3_method_7_code 3 (some .long) ws ({ frames := 1, cells := 0, slots := 0, locals := 17 } : Room) #[(.ref p1), (.long t)] h0 (own_some (fun v h => v = .long (t - S) ∧ h = h0)) := by
  obtain ⟨cc, fu, ⟨g1, ga⟩, EX, FC, FSp, FT, FH, FS, FU, AR, hN, hh, hxl, SZ, EL⟩ := id RS
  refine own_met (ls0 := #[.val (.ref p1), .val (.long t), .second]) own_pf7 (fun m => by first | rfl | (simp [entryFrame, mkF, argsToLocals, Value.category, maxLocals]; done)) ?_
  intro p e s m below meth c
  refine own_old (fun O0 => ?_)
  refine own_lloadN 1 rfl d17_0 rfl ?_
  refine own_aloadN 2 rfl d17_1 rfl rfl ?_
  refine own_getF 5 rfl (host := "") (Or.inl (hw _ (List.mem_of_getElem? (i := 88) rfl))) Via.refl FSp d17_2 ?_
  refine own_callS 8 rfl 0 0 0 [(.long t), (.long S)] [] (y := (⟨"java/lang/Math", "subtractExact", "(JJ)J"⟩ : MethodName)) (hw _ (List.mem_of_getElem? (i := 116) rfl)) (hw _ (List.mem_of_getElem? (i := 117) rfl)) (hw _ (List.mem_of_getElem? (i := 2) rfl)) (hw _ (List.mem_of_getElem? (i := 118) rfl)) (by decide) (rmsubtractExact l Z a0 hw [] t S h0 hf) d17_5 rfl (lenOf own_pd1 rfl) rfl rfl rfl (by decide) (by decide) rfl rfl (by decide) (by decide) (own_kv fun v1 h1 q1 => ?_)
  obtain ⟨rfl, e1⟩ := q1
  rw [e1]
  refine own_retJ rfl d17_8 (by decide) (by decide) ?_
  exact ⟨_, rfl, rfl, rfl⟩
theorem own_ofNat1 (n : Nat) : Int32.ofNat n + 1 = Int32.ofNat (n + 1) := by
  rw [Int32.ofNat_add]; rfl
theorem own_set_get {c : Cell} {s i : Nat} {v : Value} (h : s < c.slots.size) : (c.setSlot s v).slots[i]? = if i = s then some v else c.slots[i]? := by
  by_cases q : i = s
  · subst q
    simp [Cell.setSlot, h]
  · rw [if_neg q]
    exact Array.getElem?_setIfInBounds_ne (Ne.symm q)
theorem own_get_lt {xs : List Int64} {i : Nat} {x : Int64} (h : xs[i]? = some x) : i < xs.length := (List.getElem?_eq_some_iff.mp h).1
theorem own_appEL {c : Cell} {N hd : Int32} {xs : List Int64} {t : Int64} (SZ : c.slots.size = N.toNatClampNeg) (hN : 1 ≤ N.toInt ∧ N.toInt ≤ 8) (hh : 0 ≤ hd.toInt ∧ hd.toInt < N.toInt) (hr : (xs.length : Int) < N.toInt) (EL : ∀ i x, xs[i]? = some x → c.slots[(own_ix N hd (Int32.ofNat i)).toNatClampNeg]? = some (.long x)) :
    ∀ i x, (xs ++ [t])[i]? = some x → (c.setSlot (own_ix N hd (Int32.ofNat xs.length)).toNatClampNeg (.long t)).slots[(own_ix N hd (Int32.ofNat i)).toNatClampNeg]? = some (.long x) := fun i x h => by
  have hi : i < (xs ++ [t]).length := own_get_lt h
  rw [List.length_append] at hi
  have hi' : i ≤ xs.length := by simpa using Nat.lt_succ_iff.mp hi
  have e1 := own_len0 (n := xs.length) (by omega)
  have e2 := own_len0 (n := i) (by omega)
  have r := own_ix_rng hN.2 hh.1 hh.2 (i := Int32.ofNat xs.length) (by omega) (by omega)
  have a := own_nat r.1
  have b := own_nat (x := N) (by omega)
  rw [own_set_get (by omega)]
  by_cases q : i = xs.length
  · subst q
    rw [if_pos rfl]
    rw [List.getElem?_append_right (Nat.le_refl _), Nat.sub_self] at h
    cases h; rfl
  · rw [if_neg (own_ix_ne hN.2 hh.1 hh.2 (by omega) (by omega) (by omega) (by omega) (by omega))]
    rw [List.getElem?_append_left (by omega)] at h
    exact EL i x h
theorem own_dropEL {c : Cell} {N hd : Int32} {xs : List Int64} {k : Nat} (hN : 1 ≤ N.toInt ∧ N.toInt ≤ 8) (hh : 0 ≤ hd.toInt ∧ hd.toInt < N.toInt) (hx : (xs.length : Int) ≤ N.toInt) (h3 : xs.length ≤ 3) (EL : ∀ i x, xs[i]? = some x → c.slots[(own_ix N hd (Int32.ofNat i)).toNatClampNeg]? = some (.long x)) :
    ∀ i x, (xs.drop k)[i]? = some x → c.slots[(own_ix N (own_ix N hd (Int32.ofNat k)) (Int32.ofNat i)).toNatClampNeg]? = some (.long x) := fun i x h => by
  rw [List.getElem?_drop] at h
  have hi := own_get_lt h
  have e1 := own_len0 (n := k) (by omega)
  have e2 := own_len0 (n := i) (by omega)
  have e3 := own_len0 (n := k + i) (by omega)
  rw [own_ix_ix hN.2 hh.1 hh.2 (s := Int32.ofNat (k + i)) (by omega) (by omega) (by omega) (by omega)]
  exact EL (k + i) x h
theorem own_lensub {n k : Nat} (h : k ≤ n) (h3 : n ≤ 3) : Int32.ofNat n - Int32.ofNat k = Int32.ofNat (n - k) := by
  have e1 := own_len0 (n := n) (by omega)
  have e2 := own_len0 (n := k) (by omega)
  have e3 := own_len0 (n := n - k) (by omega)
  have c := c_isub (Int32.ofNat n) (Int32.ofNat k)
  have r := rng32 (Int32.ofNat n - Int32.ofNat k)
  exact own_eq' (by omega)
theorem own_first {xs : List Int64} {t : Int64} : ∃ z, (xs ++ [t])[0]? = some z := by
  cases xs with
  | nil => exact ⟨t, rfl⟩
  | cons x r => exact ⟨x, rfl⟩

theorem d21_0 : decode prog_3_method_10_code 0 = .ok (.aload_n 0, 1) := by decide +kernel
theorem d21_1 : decode prog_3_method_10_code 1 = .ok (.getfield 38, 3) := by decide +kernel
theorem d21_4 : decode prog_3_method_10_code 4 = .ok (.aload_n 0, 1) := by decide +kernel
theorem d21_5 : decode prog_3_method_10_code 5 = .ok (.getfield 34, 3) := by decide +kernel
theorem d21_8 : decode prog_3_method_10_code 8 = .ok (.arraylength, 1) := by decide +kernel
theorem d21_9 : decode prog_3_method_10_code 9 = .ok (.if_icmp .ne 7, 3) := by decide +kernel
theorem d21_16 : decode prog_3_method_10_code 16 = .ok (.aload_n 0, 1) := by decide +kernel
theorem d21_17 : decode prog_3_method_10_code 17 = .ok (.getfield 34, 3) := by decide +kernel
theorem d21_20 : decode prog_3_method_10_code 20 = .ok (.aload_n 0, 1) := by decide +kernel
theorem d21_21 : decode prog_3_method_10_code 21 = .ok (.aload_n 0, 1) := by decide +kernel
theorem d21_22 : decode prog_3_method_10_code 22 = .ok (.getfield 38, 3) := by decide +kernel
theorem d21_25 : decode prog_3_method_10_code 25 = .ok (.invokevirtual 59, 3) := by decide +kernel
theorem d21_28 : decode prog_3_method_10_code 28 = .ok (.lload_n 1, 1) := by decide +kernel
theorem d21_29 : decode prog_3_method_10_code 29 = .ok (.lastore, 1) := by decide +kernel
theorem d21_30 : decode prog_3_method_10_code 30 = .ok (.aload_n 0, 1) := by decide +kernel
theorem d21_31 : decode prog_3_method_10_code 31 = .ok (.dup, 1) := by decide +kernel
theorem d21_32 : decode prog_3_method_10_code 32 = .ok (.getfield 38, 3) := by decide +kernel
theorem d21_35 : decode prog_3_method_10_code 35 = .ok (.iconst 1, 1) := by decide +kernel
theorem d21_36 : decode prog_3_method_10_code 36 = .ok (.iadd, 1) := by decide +kernel
theorem d21_37 : decode prog_3_method_10_code 37 = .ok (.putfield 38, 3) := by decide +kernel
theorem d21_40 : decode prog_3_method_10_code 40 = .ok (.return_, 1) := by decide +kernel
theorem own_pf8 : plainFor (⟨"com/example/lean_limiter/leanlimiter/ExactLog", "append", "(J)V"⟩ : MethodName) = true := by first | exact plainFor_of_name (by first | (simp [plainName, overriddenIn]; done) | decide +kernel) | decide +kernel
set_option maxRecDepth 65536 in
set_option maxHeartbeats 40000000 in
theorem rmApp (l : Launch) (Z : State) (a0 : Array Value) (hw : ∀ d ∈ tables_1, d.before a0 Z = true) (ws : List Jvm.Cond) (p1 a : Addr) (N : Int32) (S : Int64) (hd : Int32) (xs : List Int64) (t : Int64) (h0 : Heap) (RS : own_Log Z h0 p1 a N S hd xs) (hroom : (xs.length : Int) < N.toInt) :
    own_Met l Z (⟨"com/example/lean_limiter/leanlimiter/ExactLog", "append", "(J)V"⟩ : MethodName) prog_3_method_10_code 3 none ws ({ frames := 1, cells := 0, slots := 0, locals := 15 } : Room) #[(.ref p1), (.long t)] h0 (own_none (fun h => own_Log Z h p1 a N S hd (xs ++ [t]))) := by
  obtain ⟨cc, fu, ⟨g1, ga⟩, EX, FC, FSp, FT, FH, FS, FU, AR, hN, hh, hxl, SZ, EL⟩ := id RS
  have npa : p1 ≠ a := ne_arr EX (hw _ (List.mem_of_getElem? (i := 12) rfl)) AR
  have hsz : (Int32.ofNat xs.length).toInt = xs.length := own_len0 (by omega)
  refine own_met (ls0 := #[.val (.ref p1), .val (.long t), .second]) own_pf8 (fun m => by first | rfl | (simp [entryFrame, mkF, argsToLocals, Value.category, maxLocals]; done)) ?_
  intro p e s m below meth c
  refine own_old (fun O0 => ?_)
  refine own_aloadN 1 rfl d21_0 rfl rfl ?_
  refine own_getF 4 rfl (host := "") (Or.inl (hw _ (List.mem_of_getElem? (i := 101) rfl))) Via.refl FS d21_1 ?_
  refine own_aloadN 5 rfl d21_4 rfl rfl ?_
  refine own_getF 8 rfl (host := "") (Or.inl (hw _ (List.mem_of_getElem? (i := 94) rfl))) Via.refl FT d21_5 ?_
  refine own_alen 9 rfl AR N (own_lenN SZ hN.1) d21_8 ?_
  have ihc9 : ¬ (Int32.ofNat xs.length).toInt = N.toInt := by omega
  have hc9 : ¬ ((Int32.ofNat xs.length) = N) := own_neq' ihc9
  refine own_icmpYes 16 d21_9 (feq hc9).2 (by decide) (by decide) ?_
  refine own_aloadN 17 rfl d21_16 rfl rfl ?_
  refine own_getF 20 rfl (host := "") (Or.inl (hw _ (List.mem_of_getElem? (i := 94) rfl))) Via.refl FT d21_17 ?_
  refine own_aloadN 21 rfl d21_20 rfl rfl ?_
  refine own_aloadN 22 rfl d21_21 rfl rfl ?_
  refine own_getF 25 rfl (host := "") (Or.inl (hw _ (List.mem_of_getElem? (i := 101) rfl))) Via.refl FS d21_22 ?_
  refine own_callQ 28 rfl 0 0 1 [(.int (Int32.ofNat xs.length))] [(.ref a)] (y := (⟨"com/example/lean_limiter/leanlimiter/ExactLog", "indexOf", "(I)I"⟩ : MethodName)) (y2 := (⟨"com/example/lean_limiter/leanlimiter/ExactLog", "isIdleAt", "(J)Z"⟩ : MethodName)) (hw _ (List.mem_of_getElem? (i := 123) rfl)) (hw _ (List.mem_of_getElem? (i := 124) rfl)) (hw _ (List.mem_of_getElem? (i := 99) rfl)) (hw _ (List.mem_of_getElem? (i := 98) rfl)) rfl (hw _ (List.mem_of_getElem? (i := 125) rfl)) (hw _ (List.mem_of_getElem? (i := 13) rfl)) (hw _ (List.mem_of_getElem? (i := 126) rfl)) (by decide) EX (rmIx l Z a0 hw [] p1 a N S hd xs (Int32.ofNat xs.length) h0 RS) d21_25 rfl (lenOf own_pd0 rfl) rfl rfl rfl (by decide) (by decide) rfl rfl (by decide) (by decide) (own_kv fun v1 h1 q1 => ?_)
  obtain ⟨rfl, e1⟩ := q1
  rw [e1]
  refine own_lloadN 29 rfl d21_28 rfl ?_
  refine own_lastore 30 rfl ga AR (own_hin SZ hN hh (by omega) (by omega)) d21_29 (fun h2 W2 => ?_)
  refine own_aloadN 31 rfl d21_30 rfl rfl ?_
  refine own_dup 32 rfl d21_31 rfl ?_
  refine own_getF 35 rfl (host := "") (Or.inl (hw _ (List.mem_of_getElem? (i := 101) rfl))) Via.refl (FS.other W2 (Or.inl npa)) d21_32 ?_
  refine own_iconst 36 rfl (1 : Int32) d21_35 rfl ?_
  refine own_iadd 37 rfl d21_36 ?_
  refine own_putF 40 rfl (host := "") (Or.inl (hw _ (List.mem_of_getElem? (i := 101) rfl))) Via.refl g1 (FS.other W2 (Or.inl npa)) (EX.wr W2) (Or.inl (hw _ (List.mem_of_getElem? (i := 102) rfl))) (hw _ (List.mem_of_getElem? (i := 12) rfl)) (ty := .int) (by decide) rfl rfl d21_37 (fun h3 W3 => ?_)
  refine own_ret rfl d21_40 (by decide) (by decide) ?_
  exact ⟨rfl, ⟨_, _, ⟨g1, ga⟩, ((EX.wr W2).wr W3), ((FC.other W2 (Or.inl npa)).other W3 (Or.inr (slot_ne (a0 := a0) (Or.inr (hw _ (List.mem_of_getElem? (i := 81) rfl))) (Or.inl (hw _ (List.mem_of_getElem? (i := 102) rfl))) (by decide) (t := .int) (t' := .int) (by decide) (by decide)))), ((FSp.other W2 (Or.inl npa)).other W3 (Or.inr (slot_ne (a0 := a0) (Or.inr (hw _ (List.mem_of_getElem? (i := 89) rfl))) (Or.inl (hw _ (List.mem_of_getElem? (i := 102) rfl))) (by decide) (t := .long) (t' := .int) (by decide) (by decide)))), ((FT.other W2 (Or.inl npa)).other W3 (Or.inr (slot_ne (a0 := a0) (Or.inl (hw _ (List.mem_of_getElem? (i := 95) rfl))) (Or.inl (hw _ (List.mem_of_getElem? (i := 102) rfl))) (by decide) (t := (.array .long)) (t' := .int) (by decide) (by decide)))), ((FH.other W2 (Or.inl npa)).other W3 (Or.inr (slot_ne (a0 := a0) (Or.inl (hw _ (List.mem_of_getElem? (i := 128) rfl))) (Or.inl (hw _ (List.mem_of_getElem? (i := 102) rfl))) (by decide) (t := .int) (t' := .int) (by decide) (by decide)))), (by rw [List.length_append]; show Fld _ _ _ _ _ _ (.int (Int32.ofNat (xs.length + 1))); rw [← own_ofNat1]; exact (Fld.same W3 (FS.other W2 (Or.inl npa)))), ((FU.other W2 (Or.inl npa)).other W3 (Or.inr (slot_ne (a0 := a0) (Or.inl (hw _ (List.mem_of_getElem? (i := 70) rfl))) (Or.inl (hw _ (List.mem_of_getElem? (i := 102) rfl))) (by decide) (t := .long) (t' := .int) (by decide) (by decide)))), ((AR.same W2).other W3 (Ne.symm npa)), hN, hh, (by rw [List.length_append]; show ((xs.length + 1 : Nat) : Int) ≤ _; omega), (by rw [sz_set]; exact SZ), (own_appEL SZ hN hh hroom EL)⟩⟩
theorem d22_0 : decode prog_15_method_12_code 0 = .ok (.aload_n 0, 1) := by decide +kernel
theorem d22_1 : decode prog_15_method_12_code 1 = .ok (.lload_n 1, 1) := by decide +kernel
theorem d22_2 : decode prog_15_method_12_code 2 = .ok (.putfield 11, 3) := by decide +kernel
theorem d22_5 : decode prog_15_method_12_code 5 = .ok (.return_, 1) := by decide +kernel
theorem own_pf9 : plainFor (⟨"com/example/lean_limiter/leanlimiter/Tally", "publishFullUntil", "(J)V"⟩ : MethodName) = true := by first | exact plainFor_of_name (by first | (simp [plainName, overriddenIn]; done) | decide +kernel) | decide +kernel
set_option maxRecDepth 65536 in
set_option maxHeartbeats 40000000 in
theorem rmPub (l : Launch) (Z : State) (a0 : Array Value) (hw : ∀ d ∈ tables_1, d.before a0 Z = true) (ws : List Jvm.Cond) (p1 a : Addr) (N : Int32) (S : Int64) (hd : Int32) (xs : List Int64) (t : Int64) (h0 : Heap) (RS : own_Log Z h0 p1 a N S hd xs) :
    own_Met l Z (⟨"com/example/lean_limiter/leanlimiter/Tally", "publishFullUntil", "(J)V"⟩ : MethodName) prog_15_method_12_code 3 none ws ({ frames := 0, cells := 0, slots := 0, locals := 0 } : Room) #[(.ref p1), (.long t)] h0 (own_none (fun h => own_Log Z h p1 a N S hd xs)) := by
  obtain ⟨cc, fu, ⟨g1, ga⟩, EX, FC, FSp, FT, FH, FS, FU, AR, hN, hh, hxl, SZ, EL⟩ := id RS
  have npa : p1 ≠ a := ne_arr EX (hw _ (List.mem_of_getElem? (i := 12) rfl)) AR
  refine own_met (ls0 := #[.val (.ref p1), .val (.long t), .second]) own_pf9 (fun m => by first | rfl | (simp [entryFrame, mkF, argsToLocals, Value.category, maxLocals]; done)) ?_
  intro p e s m below meth c
  refine own_old (fun O0 => ?_)
  refine own_aloadN 1 rfl d22_0 rfl rfl ?_
  refine own_lloadN 2 rfl d22_1 rfl ?_
  refine own_putF 5 rfl (host := "") (Or.inl (hw _ (List.mem_of_getElem? (i := 69) rfl))) Via.refl g1 FU EX (Or.inl (hw _ (List.mem_of_getElem? (i := 70) rfl))) (hw _ (List.mem_of_getElem? (i := 12) rfl)) (ty := .long) (by decide) rfl rfl d22_2 (fun h1 W1 => ?_)
  refine own_ret rfl d22_5 (by decide) (by decide) ?_
  exact ⟨rfl, ⟨cc, _, ⟨g1, ga⟩, (EX.wr W1), (FC.other W1 (Or.inr (slot_ne (a0 := a0) (Or.inr (hw _ (List.mem_of_getElem? (i := 81) rfl))) (Or.inl (hw _ (List.mem_of_getElem? (i := 70) rfl))) (by decide) (t := .int) (t' := .long) (by decide) (by decide)))), (FSp.other W1 (Or.inr (slot_ne (a0 := a0) (Or.inr (hw _ (List.mem_of_getElem? (i := 89) rfl))) (Or.inl (hw _ (List.mem_of_getElem? (i := 70) rfl))) (by decide) (t := .long) (t' := .long) (by decide) (by decide)))), (FT.other W1 (Or.inr (slot_ne (a0 := a0) (Or.inl (hw _ (List.mem_of_getElem? (i := 95) rfl))) (Or.inl (hw _ (List.mem_of_getElem? (i := 70) rfl))) (by decide) (t := (.array .long)) (t' := .long) (by decide) (by decide)))), (FH.other W1 (Or.inr (slot_ne (a0 := a0) (Or.inl (hw _ (List.mem_of_getElem? (i := 128) rfl))) (Or.inl (hw _ (List.mem_of_getElem? (i := 70) rfl))) (by decide) (t := .int) (t' := .long) (by decide) (by decide)))), (FS.other W1 (Or.inr (slot_ne (a0 := a0) (Or.inl (hw _ (List.mem_of_getElem? (i := 102) rfl))) (Or.inl (hw _ (List.mem_of_getElem? (i := 70) rfl))) (by decide) (t := .int) (t' := .long) (by decide) (by decide)))), (Fld.same W1 FU), (AR.other W1 (Ne.symm npa)), hN, hh, hxl, SZ, EL⟩⟩
theorem d15_0 : decode prog_3_method_4_code 0 = .ok (.aload_n 0, 1) := by decide +kernel
theorem d15_1 : decode prog_3_method_4_code 1 = .ok (.lload_n 1, 1) := by decide +kernel
theorem d15_2 : decode prog_3_method_4_code 2 = .ok (.invokevirtual 41, 3) := by decide +kernel
theorem own_pd3 : parseMethodDescriptor "(J)J" = some ⟨[.long], some .long⟩ := by decide +kernel
theorem d15_5 : decode prog_3_method_4_code 5 = .ok (.lstore_n 3, 1) := by decide +kernel
theorem d15_6 : decode prog_3_method_4_code 6 = .ok (.aload_n 0, 1) := by decide +kernel
theorem d15_7 : decode prog_3_method_4_code 7 = .ok (.aload_n 0, 1) := by decide +kernel
theorem d15_8 : decode prog_3_method_4_code 8 = .ok (.lload_n 3, 1) := by decide +kernel
theorem d15_9 : decode prog_3_method_4_code 9 = .ok (.invokevirtual 45, 3) := by decide +kernel
theorem d15_12 : decode prog_3_method_4_code 12 = .ok (.invokevirtual 48, 3) := by decide +kernel
theorem own_pd4 : parseMethodDescriptor "(J)I" = some ⟨[.long], some .int⟩ := by decide +kernel
theorem d15_15 : decode prog_3_method_4_code 15 = .ok (.istore 5, 2) := by decide +kernel
theorem d15_17 : decode prog_3_method_4_code 17 = .ok (.aload_n 0, 1) := by decide +kernel
theorem d15_18 : decode prog_3_method_4_code 18 = .ok (.aload_n 0, 1) := by decide +kernel
theorem d15_19 : decode prog_3_method_4_code 19 = .ok (.iload 5, 2) := by decide +kernel
theorem d15_21 : decode prog_3_method_4_code 21 = .ok (.invokevirtual 59, 3) := by decide +kernel
theorem d15_24 : decode prog_3_method_4_code 24 = .ok (.putfield 52, 3) := by decide +kernel
theorem d15_27 : decode prog_3_method_4_code 27 = .ok (.aload_n 0, 1) := by decide +kernel
theorem d15_28 : decode prog_3_method_4_code 28 = .ok (.dup, 1) := by decide +kernel
theorem d15_29 : decode prog_3_method_4_code 29 = .ok (.getfield 38, 3) := by decide +kernel
theorem d15_32 : decode prog_3_method_4_code 32 = .ok (.iload 5, 2) := by decide +kernel
theorem d15_34 : decode prog_3_method_4_code 34 = .ok (.isub, 1) := by decide +kernel
theorem d15_35 : decode prog_3_method_4_code 35 = .ok (.putfield 38, 3) := by decide +kernel
theorem d15_38 : decode prog_3_method_4_code 38 = .ok (.aload_n 0, 1) := by decide +kernel
theorem d15_39 : decode prog_3_method_4_code 39 = .ok (.lload_n 3, 1) := by decide +kernel
theorem d15_40 : decode prog_3_method_4_code 40 = .ok (.invokevirtual 63, 3) := by decide +kernel
theorem own_pd5 : parseMethodDescriptor "(J)V" = some ⟨[.long], none⟩ := by decide +kernel
theorem d15_43 : decode prog_3_method_4_code 43 = .ok (.aload_n 0, 1) := by decide +kernel
theorem d15_44 : decode prog_3_method_4_code 44 = .ok (.getfield 34, 3) := by decide +kernel
theorem d15_47 : decode prog_3_method_4_code 47 = .ok (.aload_n 0, 1) := by decide +kernel
theorem d15_48 : decode prog_3_method_4_code 48 = .ok (.getfield 52, 3) := by decide +kernel
theorem d15_51 : decode prog_3_method_4_code 51 = .ok (.laload, 1) := by decide +kernel
theorem d15_52 : decode prog_3_method_4_code 52 = .ok (.lstore 6, 2) := by decide +kernel
theorem d15_54 : decode prog_3_method_4_code 54 = .ok (.aload_n 0, 1) := by decide +kernel
theorem d15_55 : decode prog_3_method_4_code 55 = .ok (.getfield 38, 3) := by decide +kernel
theorem d15_58 : decode prog_3_method_4_code 58 = .ok (.aload_n 0, 1) := by decide +kernel
theorem d15_59 : decode prog_3_method_4_code 59 = .ok (.getfield 13, 3) := by decide +kernel
theorem d15_62 : decode prog_3_method_4_code 62 = .ok (.if_icmp .ne 21, 3) := by decide +kernel
theorem d15_65 : decode prog_3_method_4_code 65 = .ok (.lload 6, 2) := by decide +kernel
theorem d15_67 : decode prog_3_method_4_code 67 = .ok (.ldc2_w 69, 3) := by decide +kernel
theorem d15_70 : decode prog_3_method_4_code 70 = .ok (.aload_n 0, 1) := by decide +kernel
theorem d15_71 : decode prog_3_method_4_code 71 = .ok (.getfield 24, 3) := by decide +kernel
theorem d15_74 : decode prog_3_method_4_code 74 = .ok (.lsub, 1) := by decide +kernel
theorem d15_75 : decode prog_3_method_4_code 75 = .ok (.lcmp, 1) := by decide +kernel
theorem d15_76 : decode prog_3_method_4_code 76 = .ok (.ifCond .gt 7, 3) := by decide +kernel
theorem d15_83 : decode prog_3_method_4_code 83 = .ok (.iconst 0, 1) := by decide +kernel
theorem d15_84 : decode prog_3_method_4_code 84 = .ok (.istore 8, 2) := by decide +kernel
theorem d15_86 : decode prog_3_method_4_code 86 = .ok (.aload_n 0, 1) := by decide +kernel
theorem d15_87 : decode prog_3_method_4_code 87 = .ok (.iload 8, 2) := by decide +kernel
theorem d15_89 : decode prog_3_method_4_code 89 = .ok (.ifCond .eq 13, 3) := by decide +kernel
theorem d15_102 : decode prog_3_method_4_code 102 = .ok (.ldc2_w 71, 3) := by decide +kernel
theorem d15_105 : decode prog_3_method_4_code 105 = .ok (.invokevirtual 73, 3) := by decide +kernel
theorem d15_108 : decode prog_3_method_4_code 108 = .ok (.return_, 1) := by decide +kernel
theorem d15_79 : decode prog_3_method_4_code 79 = .ok (.iconst 1, 1) := by decide +kernel
theorem d15_80 : decode prog_3_method_4_code 80 = .ok (.goto 4, 3) := by decide +kernel
theorem d15_92 : decode prog_3_method_4_code 92 = .ok (.lload 6, 2) := by decide +kernel
theorem d15_94 : decode prog_3_method_4_code 94 = .ok (.aload_n 0, 1) := by decide +kernel
theorem d15_95 : decode prog_3_method_4_code 95 = .ok (.getfield 24, 3) := by decide +kernel
theorem d15_98 : decode prog_3_method_4_code 98 = .ok (.ladd, 1) := by decide +kernel
theorem d15_99 : decode prog_3_method_4_code 99 = .ok (.goto 6, 3) := by decide +kernel
theorem own_pf10 : plainFor (⟨"com/example/lean_limiter/leanlimiter/ExactLog", "record", "(J)V"⟩ : MethodName) = true := by first | exact plainFor_of_name (by first | (simp [plainName, overriddenIn]; done) | decide +kernel) | decide +kernel
set_option maxRecDepth 65536 in
set_option maxHeartbeats 40000000 in
theorem rmRec (l : Launch) (Z : State) (a0 : Array Value) (hw : ∀ d ∈ tables_1, d.before a0 Z = true) (ws : List Jvm.Cond) (p1 a : Addr) (N : Int32) (S : Int64) (hd : Int32) (xs : List Int64) (t : Int64) (h0 : Heap) (RS : own_Log Z h0 p1 a N S hd xs) (hl3 : xs.length ≤ 3) (hs : own_sorted xs) (hf : Jvm.Free.XT.fits64 ((own_dec t xs).toInt - S.toInt)) (hroom : (xs.length : Int) - (own_left (own_dec t xs - S) xs : Nat) < N.toInt) :
    own_Met l Z (⟨"com/example/lean_limiter/leanlimiter/ExactLog", "record", "(J)V"⟩ : MethodName) prog_3_method_4_code 9 none ws ({ frames := 3, cells := 0, slots := 0, locals := 44 } : Room) #[(.ref p1), (.long t)] h0 (own_none (fun h => ∃ hd2, own_Log Z h p1 a N S hd2 (xs.drop (own_left (own_dec t xs - S) xs) ++ [own_dec t xs]))) := by
  obtain ⟨cc, fu, ⟨g1, ga⟩, EX, FC, FSp, FT, FH, FS, FU, AR, hN, hh, hxl, SZ, EL⟩ := id RS
  have npa : p1 ≠ a := ne_arr EX (hw _ (List.mem_of_getElem? (i := 12) rfl)) AR
  have hsz : (Int32.ofNat xs.length).toInt = xs.length := own_len0 (by omega)
  have hlp := own_left_le (own_dec t xs - S) xs
  refine own_met (ls0 := #[.val (.ref p1), .val (.long t), .second, .unset, .unset, .unset, .unset, .unset, .unset]) own_pf10 (fun m => by first | rfl | (simp [entryFrame, mkF, argsToLocals, Value.category, maxLocals]; done)) ?_
  intro p e s m below meth c
  refine own_old (fun O0 => ?_)
  refine own_aloadN 1 rfl d15_0 rfl rfl ?_
  refine own_lloadN 2 rfl d15_1 rfl ?_
  refine own_callQ 5 rfl 0 0 0 [(.long t)] [] (y := (⟨"com/example/lean_limiter/leanlimiter/ExactLog", "decidedAt", "(J)J"⟩ : MethodName)) (y2 := (⟨"com/example/lean_limiter/leanlimiter/ExactLog", "isIdleAt", "(J)Z"⟩ : MethodName)) (hw _ (List.mem_of_getElem? (i := 108) rfl)) (hw _ (List.mem_of_getElem? (i := 109) rfl)) (hw _ (List.mem_of_getElem? (i := 99) rfl)) (hw _ (List.mem_of_getElem? (i := 98) rfl)) rfl (hw _ (List.mem_of_getElem? (i := 110) rfl)) (hw _ (List.mem_of_getElem? (i := 13) rfl)) (hw _ (List.mem_of_getElem? (i := 111) rfl)) (by decide) EX (rmDec l Z a0 hw [] p1 a N S hd xs t h0 RS hl3) d15_2 rfl (lenOf own_pd3 rfl) rfl rfl rfl (by decide) (by decide) rfl rfl (by decide) (by decide) (own_kv fun v1 h1 q1 => ?_)
  obtain ⟨rfl, e1⟩ := q1
  rw [e1]
  refine own_lstoreN 6 rfl #[.val (.ref p1), .val (.long t), .second, .val (.long (own_dec t xs)), .second, .unset, .unset, .unset, .unset] d15_5 rfl ?_
  refine own_aloadN 7 rfl d15_6 rfl rfl ?_
  refine own_aloadN 8 rfl d15_7 rfl rfl ?_
  refine own_lloadN 9 rfl d15_8 rfl ?_
  refine own_callQ 12 rfl 0 0 1 [(.long (own_dec t xs))] [(.ref p1)] (y := (⟨"com/example/lean_limiter/leanlimiter/ExactLog", "windowStart", "(J)J"⟩ : MethodName)) (y2 := (⟨"com/example/lean_limiter/leanlimiter/ExactLog", "isIdleAt", "(J)Z"⟩ : MethodName)) (hw _ (List.mem_of_getElem? (i := 112) rfl)) (hw _ (List.mem_of_getElem? (i := 113) rfl)) (hw _ (List.mem_of_getElem? (i := 99) rfl)) (hw _ (List.mem_of_getElem? (i := 98) rfl)) rfl (hw _ (List.mem_of_getElem? (i := 114) rfl)) (hw _ (List.mem_of_getElem? (i := 13) rfl)) (hw _ (List.mem_of_getElem? (i := 115) rfl)) (by decide) EX (rmWin l Z a0 hw [] p1 a N S hd xs (own_dec t xs) h0 RS hf) d15_9 rfl (lenOf own_pd3 rfl) rfl rfl rfl (by decide) (by decide) rfl rfl (by decide) (by decide) (own_kv fun v2 h2 q2 => ?_)
  obtain ⟨rfl, e2⟩ := q2
  rw [e2]
  refine own_callQ 15 rfl 0 0 0 [(.long ((own_dec t xs) - S))] [] (y := (⟨"com/example/lean_limiter/leanlimiter/ExactLog", "countLeft", "(J)I"⟩ : MethodName)) (y2 := (⟨"com/example/lean_limiter/leanlimiter/ExactLog", "isIdleAt", "(J)Z"⟩ : MethodName)) (hw _ (List.mem_of_getElem? (i := 119) rfl)) (hw _ (List.mem_of_getElem? (i := 120) rfl)) (hw _ (List.mem_of_getElem? (i := 99) rfl)) (hw _ (List.mem_of_getElem? (i := 98) rfl)) rfl (hw _ (List.mem_of_getElem? (i := 121) rfl)) (hw _ (List.mem_of_getElem? (i := 13) rfl)) (hw _ (List.mem_of_getElem? (i := 122) rfl)) (by decide) EX (rmCL l Z a0 hw [] p1 a N S hd xs ((own_dec t xs) - S) h0 RS hl3 hs) d15_12 rfl (lenOf own_pd4 rfl) rfl rfl rfl (by decide) (by decide) rfl rfl (by decide) (by decide) (own_kv fun v3 h3 q3 => ?_)
  obtain ⟨rfl, e3⟩ := q3
  rw [e3]
  obtain ⟨k, hk⟩ : ∃ k, k = own_left (own_dec t xs - S) xs := ⟨_, rfl⟩
  rw [← hk]
  rw [← hk] at hlp hroom
  refine own_istore 17 rfl #[.val (.ref p1), .val (.long t), .second, .val (.long (own_dec t xs)), .second, .val (.int (Int32.ofNat k)), .unset, .unset, .unset] d15_15 rfl ?_
  refine own_aloadN 18 rfl d15_17 rfl rfl ?_
  refine own_aloadN 19 rfl d15_18 rfl rfl ?_
  refine own_iload 21 rfl d15_19 rfl ?_
  refine own_callQ 24 rfl 0 0 1 [(.int (Int32.ofNat k))] [(.ref p1)] (y := (⟨"com/example/lean_limiter/leanlimiter/ExactLog", "indexOf", "(I)I"⟩ : MethodName)) (y2 := (⟨"com/example/lean_limiter/leanlimiter/ExactLog", "isIdleAt", "(J)Z"⟩ : MethodName)) (hw _ (List.mem_of_getElem? (i := 123) rfl)) (hw _ (List.mem_of_getElem? (i := 124) rfl)) (hw _ (List.mem_of_getElem? (i := 99) rfl)) (hw _ (List.mem_of_getElem? (i := 98) rfl)) rfl (hw _ (List.mem_of_getElem? (i := 125) rfl)) (hw _ (List.mem_of_getElem? (i := 13) rfl)) (hw _ (List.mem_of_getElem? (i := 126) rfl)) (by decide) EX (rmIx l Z a0 hw [] p1 a N S hd xs (Int32.ofNat k) h0 RS) d15_21 rfl (lenOf own_pd0 rfl) rfl rfl rfl (by decide) (by decide) rfl rfl (by decide) (by decide) (own_kv fun v4 h4 q4 => ?_)
  obtain ⟨rfl, e4⟩ := q4
  rw [e4]
  refine own_putF 27 rfl (host := "") (Or.inl (hw _ (List.mem_of_getElem? (i := 127) rfl))) Via.refl g1 FH EX (Or.inl (hw _ (List.mem_of_getElem? (i := 128) rfl))) (hw _ (List.mem_of_getElem? (i := 12) rfl)) (ty := .int) (by decide) rfl rfl d15_24 (fun h5 W5 => ?_)
  refine own_aloadN 28 rfl d15_27 rfl rfl ?_
  refine own_dup 29 rfl d15_28 rfl ?_
  refine own_getF 32 rfl (host := "") (Or.inl (hw _ (List.mem_of_getElem? (i := 101) rfl))) Via.refl (FS.other W5 (Or.inr (slot_ne (a0 := a0) (Or.inl (hw _ (List.mem_of_getElem? (i := 102) rfl))) (Or.inl (hw _ (List.mem_of_getElem? (i := 128) rfl))) (by decide) (t := .int) (t' := .int) (by decide) (by decide)))) d15_29 ?_
  refine own_iload 34 rfl d15_32 rfl ?_
  refine own_isub 35 rfl d15_34 ?_
  refine own_putF 38 rfl (host := "") (Or.inl (hw _ (List.mem_of_getElem? (i := 101) rfl))) Via.refl g1 (FS.other W5 (Or.inr (slot_ne (a0 := a0) (Or.inl (hw _ (List.mem_of_getElem? (i := 102) rfl))) (Or.inl (hw _ (List.mem_of_getElem? (i := 128) rfl))) (by decide) (t := .int) (t' := .int) (by decide) (by decide)))) (EX.wr W5) (Or.inl (hw _ (List.mem_of_getElem? (i := 102) rfl))) (hw _ (List.mem_of_getElem? (i := 12) rfl)) (ty := .int) (by decide) rfl rfl d15_35 (fun h6 W6 => ?_)
  have ek := own_len0 (n := k) (by omega)
  have rk := own_ix_rng hN.2 hh.1 hh.2 (i := Int32.ofNat k) (by omega) (by omega)
  obtain ⟨ys, hys⟩ : ∃ ys, ys = xs.drop k := ⟨_, rfl⟩
  have hyl : ys.length = xs.length - k := by rw [hys, List.length_drop]
  have RS : own_Log Z h6 p1 a N S (own_ix N hd (Int32.ofNat k)) ys := ⟨cc, _, ⟨g1, ga⟩, ((EX.wr W5).wr W6), ((FC.other W5 (Or.inr (slot_ne (a0 := a0) (Or.inr (hw _ (List.mem_of_getElem? (i := 81) rfl))) (Or.inl (hw _ (List.mem_of_getElem? (i := 128) rfl))) (by decide) (t := .int) (t' := .int) (by decide) (by decide)))).other W6 (Or.inr (slot_ne (a0 := a0) (Or.inr (hw _ (List.mem_of_getElem? (i := 81) rfl))) (Or.inl (hw _ (List.mem_of_getElem? (i := 102) rfl))) (by decide) (t := .int) (t' := .int) (by decide) (by decide)))), ((FSp.other W5 (Or.inr (slot_ne (a0 := a0) (Or.inr (hw _ (List.mem_of_getElem? (i := 89) rfl))) (Or.inl (hw _ (List.mem_of_getElem? (i := 128) rfl))) (by decide) (t := .long) (t' := .int) (by decide) (by decide)))).other W6 (Or.inr (slot_ne (a0 := a0) (Or.inr (hw _ (List.mem_of_getElem? (i := 89) rfl))) (Or.inl (hw _ (List.mem_of_getElem? (i := 102) rfl))) (by decide) (t := .long) (t' := .int) (by decide) (by decide)))), ((FT.other W5 (Or.inr (slot_ne (a0 := a0) (Or.inl (hw _ (List.mem_of_getElem? (i := 95) rfl))) (Or.inl (hw _ (List.mem_of_getElem? (i := 128) rfl))) (by decide) (t := (.array .long)) (t' := .int) (by decide) (by decide)))).other W6 (Or.inr (slot_ne (a0 := a0) (Or.inl (hw _ (List.mem_of_getElem? (i := 95) rfl))) (Or.inl (hw _ (List.mem_of_getElem? (i := 102) rfl))) (by decide) (t := (.array .long)) (t' := .int) (by decide) (by decide)))), ((Fld.same W5 FH).other W6 (Or.inr (slot_ne (a0 := a0) (Or.inl (hw _ (List.mem_of_getElem? (i := 128) rfl))) (Or.inl (hw _ (List.mem_of_getElem? (i := 102) rfl))) (by decide) (t := .int) (t' := .int) (by decide) (by decide)))), (by rw [hyl, ← own_lensub hlp hl3]; exact (Fld.same W6 (FS.other W5 (Or.inr (slot_ne (a0 := a0) (Or.inl (hw _ (List.mem_of_getElem? (i := 102) rfl))) (Or.inl (hw _ (List.mem_of_getElem? (i := 128) rfl))) (by decide) (t := .int) (t' := .int) (by decide) (by decide)))))), ((FU.other W5 (Or.inr (slot_ne (a0 := a0) (Or.inl (hw _ (List.mem_of_getElem? (i := 70) rfl))) (Or.inl (hw _ (List.mem_of_getElem? (i := 128) rfl))) (by decide) (t := .long) (t' := .int) (by decide) (by decide)))).other W6 (Or.inr (slot_ne (a0 := a0) (Or.inl (hw _ (List.mem_of_getElem? (i := 70) rfl))) (Or.inl (hw _ (List.mem_of_getElem? (i := 102) rfl))) (by decide) (t := .long) (t' := .int) (by decide) (by decide)))), ((AR.other W5 (Ne.symm npa)).other W6 (Ne.symm npa)), hN, rk, (by omega), SZ, (hys ▸ own_dropEL hN hh hxl hl3 EL)⟩
  generalize own_ix N hd (Int32.ofNat k) = hd at RS ⊢
  obtain ⟨cc, fu, ⟨g1, ga⟩, EX, FC, FSp, FT, FH, FS, FU, AR, hN, hh, hxl, SZ, EL⟩ := id RS
  have npa : p1 ≠ a := ne_arr EX (hw _ (List.mem_of_getElem? (i := 12) rfl)) AR
  refine own_old (fun O38 => ?_)
  refine own_aloadN 39 rfl d15_38 rfl rfl ?_
  refine own_lloadN 40 rfl d15_39 rfl ?_
  refine own_callQ 43 rfl 0 0 0 [(.long (own_dec t xs))] [] (y := (⟨"com/example/lean_limiter/leanlimiter/ExactLog", "append", "(J)V"⟩ : MethodName)) (y2 := (⟨"com/example/lean_limiter/leanlimiter/ExactLog", "isIdleAt", "(J)Z"⟩ : MethodName)) (hw _ (List.mem_of_getElem? (i := 129) rfl)) (hw _ (List.mem_of_getElem? (i := 130) rfl)) (hw _ (List.mem_of_getElem? (i := 99) rfl)) (hw _ (List.mem_of_getElem? (i := 98) rfl)) rfl (hw _ (List.mem_of_getElem? (i := 131) rfl)) (hw _ (List.mem_of_getElem? (i := 13) rfl)) (hw _ (List.mem_of_getElem? (i := 132) rfl)) (by decide) EX (rmApp l Z a0 hw [] p1 a N S hd ys (own_dec t xs) h6 RS (by omega)) d15_40 rfl (lenOf own_pd5 rfl) rfl rfl rfl (by decide) (by decide) rfl rfl (by decide) (by decide) (own_k0 fun h7 q7 => ?_)
  have RS := q7
  obtain ⟨cc, fu, ⟨g1, ga⟩, EX, FC, FSp, FT, FH, FS, FU, AR, hN, hh, hxl, SZ, EL⟩ := id RS
  have npa : p1 ≠ a := ne_arr EX (hw _ (List.mem_of_getElem? (i := 12) rfl)) AR
  refine own_old (fun O7 => ?_)
  obtain ⟨z, hz⟩ := own_first (xs := ys) (t := (own_dec t xs))
  refine own_aloadN 44 rfl d15_43 rfl rfl ?_
  refine own_getF 47 rfl (host := "") (Or.inl (hw _ (List.mem_of_getElem? (i := 94) rfl))) Via.refl FT d15_44 ?_
  refine own_aloadN 48 rfl d15_47 rfl rfl ?_
  refine own_getF 51 rfl (host := "") (Or.inl (hw _ (List.mem_of_getElem? (i := 127) rfl))) Via.refl FH d15_48 ?_
  refine own_laload 52 rfl AR (own_hin0 SZ hN hh) (own_at0 hN hh EL hz) d15_51 ?_
  refine own_lstore 54 rfl #[.val (.ref p1), .val (.long t), .second, .val (.long (own_dec t xs)), .second, .val (.int (Int32.ofNat k)), .val (.long z), .second, .unset] d15_52 rfl ?_
  refine own_aloadN 55 rfl d15_54 rfl rfl ?_
  refine own_getF 58 rfl (host := "") (Or.inl (hw _ (List.mem_of_getElem? (i := 101) rfl))) Via.refl FS d15_55 ?_
  refine own_aloadN 59 rfl d15_58 rfl rfl ?_
  refine own_getF 62 rfl (host := "") (Or.inl (hw _ (List.mem_of_getElem? (i := 80) rfl))) Via.refl FC d15_59 ?_
  by_cases hc62 : (Int32.ofNat (ys ++ [(own_dec t xs)]).length) = N
  · have ihc62 : (Int32.ofNat (ys ++ [(own_dec t xs)]).length).toInt = N.toInt := own_eq hc62
    refine own_icmpNo 65 rfl d15_62 (teq hc62).2 ?_
    refine own_lload 67 rfl d15_65 rfl ?_
    refine own_ldc2Long 70 rfl (hw _ (List.mem_of_getElem? (i := 148) rfl)) d15_67 ?_
    refine own_aloadN 71 rfl d15_70 rfl rfl ?_
    refine own_getF 74 rfl (host := "") (Or.inl (hw _ (List.mem_of_getElem? (i := 88) rfl))) Via.refl FSp d15_71 ?_
    refine own_lsub 75 rfl d15_74 ?_
    refine own_lcmp 76 rfl d15_75 ?_
    by_cases hc76 : ((9223372036854775807 : Int64) - S) < z
    · have ihc76 : ((9223372036854775807 : Int64) - S).toInt < z.toInt := own_ltL hc76
      refine own_ifYes 83 d15_76 (tlt ((lw_gt _ _).mpr hc76)).2.2.1 (by decide) (by decide) ?_
      refine own_iconst 84 rfl (0 : Int32) d15_83 rfl ?_
      refine own_istore 86 rfl #[.val (.ref p1), .val (.long t), .second, .val (.long (own_dec t xs)), .second, .val (.int (Int32.ofNat k)), .val (.long z), .second, .val (.int (0 : Int32))] d15_84 rfl ?_
      refine own_aloadN 87 rfl d15_86 rfl rfl ?_
      refine own_iload 89 rfl d15_87 rfl ?_
      refine own_ifYes 102 d15_89 (teq (rfl : (0 : Int32) = (0 : Int32))).1 (by decide) (by decide) ?_
      refine own_ldc2Long 105 rfl (hw _ (List.mem_of_getElem? (i := 133) rfl)) d15_102 ?_
      refine own_callU 108 rfl 0 0 0 [(.long (-9223372036854775808 : Int64))] [] (y := (⟨"com/example/lean_limiter/leanlimiter/ExactLog", "publishFullUntil", "(J)V"⟩ : MethodName)) (z := (⟨"com/example/lean_limiter/leanlimiter/Tally", "publishFullUntil", "(J)V"⟩ : MethodName)) (owner := "com/example/lean_limiter/leanlimiter/Tally") (hw _ (List.mem_of_getElem? (i := 134) rfl)) (hw _ (List.mem_of_getElem? (i := 135) rfl)) (hw _ (List.mem_of_getElem? (i := 136) rfl)) (hw _ (List.mem_of_getElem? (i := 138) rfl)) (hw _ (List.mem_of_getElem? (i := 137) rfl)) (hw _ (List.mem_of_getElem? (i := 65) rfl)) (hw _ (List.mem_of_getElem? (i := 139) rfl)) (by decide) EX (rmPub l Z a0 hw [] p1 a N S hd (ys ++ [(own_dec t xs)]) (-9223372036854775808 : Int64) h7 RS) d15_105 rfl (lenOf own_pd5 rfl) rfl rfl rfl (by decide) (by decide) rfl rfl (by decide) (by decide) (own_k0 fun h8 q8 => ?_)
      have RS := q8
      refine own_ret rfl d15_108 (by decide) (by decide) ?_
      exact ⟨rfl, _, by rw [← hys]; exact RS⟩
    · have ihc76 : z.toInt ≤ ((9223372036854775807 : Int64) - S).toInt := own_nltL hc76
      refine own_ifNo 79 rfl d15_76 (flt (fun q => hc76 ((lw_gt _ _).mp q))).2.2.1 ?_
      refine own_iconst 80 rfl (1 : Int32) d15_79 rfl ?_
      refine own_goto 84 d15_80 (by decide) (by decide) ?_
      refine own_istore 86 rfl #[.val (.ref p1), .val (.long t), .second, .val (.long (own_dec t xs)), .second, .val (.int (Int32.ofNat k)), .val (.long z), .second, .val (.int (1 : Int32))] d15_84 rfl ?_
      refine own_aloadN 87 rfl d15_86 rfl rfl ?_
      refine own_iload 89 rfl d15_87 rfl ?_
      refine own_ifNo 92 rfl d15_89 (feq (by decide : ¬ ((1 : Int32) = (0 : Int32)))).1 ?_
      refine own_lload 94 rfl d15_92 rfl ?_
      refine own_aloadN 95 rfl d15_94 rfl rfl ?_
      refine own_getF 98 rfl (host := "") (Or.inl (hw _ (List.mem_of_getElem? (i := 88) rfl))) Via.refl FSp d15_95 ?_
      refine own_ladd 99 rfl d15_98 ?_
      refine own_goto 105 d15_99 (by decide) (by decide) ?_
      refine own_callU 108 rfl 0 0 0 [(.long (z + S))] [] (y := (⟨"com/example/lean_limiter/leanlimiter/ExactLog", "publishFullUntil", "(J)V"⟩ : MethodName)) (z := (⟨"com/example/lean_limiter/leanlimiter/Tally", "publishFullUntil", "(J)V"⟩ : MethodName)) (owner := "com/example/lean_limiter/leanlimiter/Tally") (hw _ (List.mem_of_getElem? (i := 134) rfl)) (hw _ (List.mem_of_getElem? (i := 135) rfl)) (hw _ (List.mem_of_getElem? (i := 136) rfl)) (hw _ (List.mem_of_getElem? (i := 138) rfl)) (hw _ (List.mem_of_getElem? (i := 137) rfl)) (hw _ (List.mem_of_getElem? (i := 65) rfl)) (hw _ (List.mem_of_getElem? (i := 139) rfl)) (by decide) EX (rmPub l Z a0 hw [] p1 a N S hd (ys ++ [(own_dec t xs)]) (z + S) h7 RS) d15_105 rfl (lenOf own_pd5 rfl) rfl rfl rfl (by decide) (by decide) rfl rfl (by decide) (by decide) (own_k0 fun h9 q9 => ?_)
      have RS := q9
      refine own_ret rfl d15_108 (by decide) (by decide) ?_
      exact ⟨rfl, _, by rw [← hys]; exact RS⟩
  · have ihc62 : ¬ (Int32.ofNat (ys ++ [(own_dec t xs)]).length).toInt = N.toInt := own_neq hc62
    refine own_icmpYes 83 d15_62 (feq hc62).2 (by decide) (by decide) ?_
    refine own_iconst 84 rfl (0 : Int32) d15_83 rfl ?_
    refine own_istore 86 rfl #[.val (.ref p1), .val (.long t), .second, .val (.long (own_dec t xs)), .second, .val (.int (Int32.ofNat k)), .val (.long z), .second, .val (.int (0 : Int32))] d15_84 rfl ?_
    refine own_aloadN 87 rfl d15_86 rfl rfl ?_
    refine own_iload 89 rfl d15_87 rfl ?_
    refine own_ifYes 102 d15_89 (teq (rfl : (0 : Int32) = (0 : Int32))).1 (by decide) (by decide) ?_
    refine own_ldc2Long 105 rfl (hw _ (List.mem_of_getElem? (i := 133) rfl)) d15_102 ?_
    refine own_callU 108 rfl 0 0 0 [(.long (-9223372036854775808 : Int64))] [] (y := (⟨"com/example/lean_limiter/leanlimiter/ExactLog", "publishFullUntil", "(J)V"⟩ : MethodName)) (z := (⟨"com/example/lean_limiter/leanlimiter/Tally", "publishFullUntil", "(J)V"⟩ : MethodName)) (owner := "com/example/lean_limiter/leanlimiter/Tally") (hw _ (List.mem_of_getElem? (i := 134) rfl)) (hw _ (List.mem_of_getElem? (i := 135) rfl)) (hw _ (List.mem_of_getElem? (i := 136) rfl)) (hw _ (List.mem_of_getElem? (i := 138) rfl)) (hw _ (List.mem_of_getElem? (i := 137) rfl)) (hw _ (List.mem_of_getElem? (i := 65) rfl)) (hw _ (List.mem_of_getElem? (i := 139) rfl)) (by decide) EX (rmPub l Z a0 hw [] p1 a N S hd (ys ++ [(own_dec t xs)]) (-9223372036854775808 : Int64) h7 RS) d15_105 rfl (lenOf own_pd5 rfl) rfl rfl rfl (by decide) (by decide) rfl rfl (by decide) (by decide) (own_k0 fun h10 q10 => ?_)
    have RS := q10
    refine own_ret rfl d15_108 (by decide) (by decide) ?_
    exact ⟨rfl, _, by rw [← hys]; exact RS⟩
theorem own_eqL0 {args : Array Value} {first s : State} {t : Term} {k : Int64} {o : Option Outcome} {idx : List Nat} (hq : (Jvm.Cond.eq t (.long k)).value args first o s idx = some true) : t.eval args first o idx s = some (.long k) := by
  simp only [Jvm.Cond.value, Term.eval] at hq
  cases ht : t.eval args first o idx s with
  | none => simp [ht] at hq
  | some x => cases x <;> simp [ht] at hq ⊢; exact hq
theorem own_wS {Z : State} {a0 : Array Value} (hw : ∀ d ∈ tables_1, d.before a0 Z = true) : ∀ a ∈ Bundle.stringAtoms, a.before a0 Z = true := by
  intro d hd
  simp only [Bundle.stringAtoms, List.mem_cons, List.not_mem_nil, or_false] at hd
  rcases hd with rfl | rfl | rfl | rfl | rfl | rfl | rfl
  · exact hw _ (List.mem_of_getElem? (i := 38) rfl)
  · exact hw _ (List.mem_of_getElem? (i := 39) rfl)
  · exact hw _ (List.mem_of_getElem? (i := 40) rfl)
  · exact hw _ (List.mem_of_getElem? (i := 41) rfl)
  · exact hw _ (List.mem_of_getElem? (i := 42) rfl)
  · exact hw _ (List.mem_of_getElem? (i := 43) rfl)
  · exact hw _ (List.mem_of_getElem? (i := 44) rfl)
def own_Ini (Z : State) (w_KEY : Addr) : Prop := (Sta Z Z.heap "com/example/lean_limiter/leanlimiter/Scope" "KEY" "Lcom/example/lean_limiter/leanlimiter/Scope;" (.ref w_KEY)) ∧ (Exa Z Z.heap w_KEY "com/example/lean_limiter/leanlimiter/Scope") ∧ (Sta Z Z.heap "com/example/lean_limiter/leanlimiter/Rule" "MAX_SPAN_MILLIS" "J" (.long (31622400000 : Int64)))
theorem d6_0 : decode jdk_30_method_1_code 0 = .ok (.aload_n 0, 1) := by decide +kernel
theorem d6_1 : decode jdk_30_method_1_code 1 = .ok (.invokespecial 1, 3) := by decide +kernel
theorem d6_4 : decode jdk_30_method_1_code 4 = .ok (.return_, 1) := by decide +kernel
theorem own_pf11 : plainFor (⟨"java/lang/Record", "<init>", "()V"⟩ : MethodName) = true := by first | exact plainFor_of_name (by first | (simp [plainName, overriddenIn]; done) | decide +kernel) | decide +kernel
set_option maxRecDepth 65536 in
set_option maxHeartbeats 40000000 in
theorem rmRecord (l : Launch) (Z : State) (a0 : Array Value) (hw : ∀ d ∈ tables_1, d.before a0 Z = true) (ws : List Jvm.Cond) (p1 : Addr) (h0 : Heap)  :
    own_Met l Z (⟨"java/lang/Record", "<init>", "()V"⟩ : MethodName) jdk_30_method_1_code 1 none ws ({ frames := 1, cells := 0, slots := 0, locals := 12 } : Room) #[(.ref p1)] h0 (own_none (fun h => h = h0)) := by
  refine own_met (ls0 := #[.val (.ref p1)]) own_pf11 (fun m => by first | rfl | (simp [entryFrame, mkF, argsToLocals, Value.category, maxLocals]; done)) ?_
  intro p e s m below meth c
  refine own_old (fun O0 => ?_)
  refine own_aloadN 1 rfl d6_0 rfl rfl ?_
  refine own_initO 4 rfl (hw _ (List.mem_of_getElem? (i := 34) rfl)) (hw _ (List.mem_of_getElem? (i := 35) rfl)) (hw _ (List.mem_of_getElem? (i := 36) rfl)) d6_1 rfl (by decide) 0 (Nat.le_of_eq rfl) (by decide) ?_
  refine own_ret rfl d6_4 (by decide) (by decide) ?_
  exact ⟨rfl, rfl⟩
theorem d8_0 : decode jdk_31_method_11_code 0 = .ok (.aload_n 0, 1) := by decide +kernel
theorem d8_1 : decode jdk_31_method_11_code 1 = .ok (.ifnonnull 12, 3) := by decide +kernel
theorem d8_13 : decode jdk_31_method_11_code 13 = .ok (.aload_n 0, 1) := by decide +kernel
theorem d8_14 : decode jdk_31_method_11_code 14 = .ok (.areturn, 1) := by decide +kernel
theorem own_pf12 : plainFor (⟨"java/util/Objects", "requireNonNull", "(Ljava/lang/Object;Ljava/lang/String;)Ljava/lang/Object;"⟩ : MethodName) = true := by first | exact plainFor_of_name (by first | (simp [plainName, overriddenIn]; done) | decide +kernel) | decide +kernel
set_option maxRecDepth 65536 in
set_option maxHeartbeats 40000000 in
theorem rmNN (l : Launch) (Z : State) (a0 : Array Value) (hw : ∀ d ∈ tables_1, d.before a0 Z = true) (ws : List Jvm.Cond) (p1 p2 : Addr) (h0 : Heap)  :
    own_Met l Z (⟨"java/util/Objects", "requireNonNull", "(Ljava/lang/Object;Ljava/lang/String;)Ljava/lang/Object;"⟩ : MethodName) jdk_31_method_11_code 2 (some (.object "java/lang/Object")) ws ({ frames := 0, cells := 0, slots := 0, locals := 0 } : Room) #[(.ref p1), (.ref p2)] h0 (own_some (fun v h => v = .ref p1 ∧ h = h0)) := by
  refine own_met (ls0 := #[.val (.ref p1), .val (.ref p2)]) own_pf12 (fun m => by first | rfl | (simp [entryFrame, mkF, argsToLocals, Value.category, maxLocals]; done)) ?_
  intro p e s m below meth c
  refine own_old (fun O0 => ?_)
  refine own_aloadN 1 rfl d8_0 rfl rfl ?_
  refine own_ifnonnullYes 13 d8_1 (by decide) (by decide) ?_
  refine own_aloadN 14 rfl d8_13 rfl rfl ?_
  refine own_retA rfl rfl rfl d8_14 (by decide) (by decide) ?_
  exact ⟨_, rfl, rfl, rfl⟩
theorem d5_0 : decode prog_10_method_1_code 0 = .ok (.aload_n 0, 1) := by decide +kernel
theorem d5_1 : decode prog_10_method_1_code 1 = .ok (.invokespecial 1, 3) := by decide +kernel
theorem own_pd6 : parseMethodDescriptor "()V" = some ⟨[], none⟩ := by decide +kernel
theorem d5_4 : decode prog_10_method_1_code 4 = .ok (.aload 4, 2) := by decide +kernel
theorem d5_6 : decode prog_10_method_1_code 6 = .ok (.ldc 7, 2) := by decide +kernel
theorem d5_8 : decode prog_10_method_1_code 8 = .ok (.invokestatic 9, 3) := by decide +kernel
theorem own_pd7 : parseMethodDescriptor "(Ljava/lang/Object;Ljava/lang/String;)Ljava/lang/Object;" = some ⟨[(.object "java/lang/Object"), (.object "java/lang/String")], some (.object "java/lang/Object")⟩ := by decide +kernel
theorem d5_11 : decode prog_10_method_1_code 11 = .ok (.pop, 1) := by decide +kernel
theorem d5_12 : decode prog_10_method_1_code 12 = .ok (.iload_n 1, 1) := by decide +kernel
theorem d5_13 : decode prog_10_method_1_code 13 = .ok (.iconst 1, 1) := by decide +kernel
theorem d5_14 : decode prog_10_method_1_code 14 = .ok (.if_icmp .ge 17, 3) := by decide +kernel
theorem d5_31 : decode prog_10_method_1_code 31 = .ok (.lload_n 2, 1) := by decide +kernel
theorem d5_32 : decode prog_10_method_1_code 32 = .ok (.lconst 1, 1) := by decide +kernel
theorem d5_33 : decode prog_10_method_1_code 33 = .ok (.lcmp, 1) := by decide +kernel
theorem d5_34 : decode prog_10_method_1_code 34 = .ok (.ifCond .lt 11, 3) := by decide +kernel
theorem d5_37 : decode prog_10_method_1_code 37 = .ok (.lload_n 2, 1) := by decide +kernel
theorem d5_38 : decode prog_10_method_1_code 38 = .ok (.getstatic 26, 3) := by decide +kernel
theorem d5_41 : decode prog_10_method_1_code 41 = .ok (.lcmp, 1) := by decide +kernel
theorem d5_42 : decode prog_10_method_1_code 42 = .ok (.ifCond .le 13, 3) := by decide +kernel
theorem d5_55 : decode prog_10_method_1_code 55 = .ok (.iload 5, 2) := by decide +kernel
theorem d5_57 : decode prog_10_method_1_code 57 = .ok (.ifCond .lt 11, 3) := by decide +kernel
theorem d5_60 : decode prog_10_method_1_code 60 = .ok (.iload 5, 2) := by decide +kernel
theorem d5_62 : decode prog_10_method_1_code 62 = .ok (.sipush 1000, 3) := by decide +kernel
theorem d5_65 : decode prog_10_method_1_code 65 = .ok (.if_icmp .le 18, 3) := by decide +kernel
theorem d5_83 : decode prog_10_method_1_code 83 = .ok (.iload 5, 2) := by decide +kernel
theorem d5_85 : decode prog_10_method_1_code 85 = .ok (.ifCond .eq 29, 3) := by decide +kernel
theorem d5_114 : decode prog_10_method_1_code 114 = .ok (.aload_n 0, 1) := by decide +kernel
theorem d5_115 : decode prog_10_method_1_code 115 = .ok (.iload_n 1, 1) := by decide +kernel
theorem d5_116 : decode prog_10_method_1_code 116 = .ok (.putfield 41, 3) := by decide +kernel
theorem d5_119 : decode prog_10_method_1_code 119 = .ok (.aload_n 0, 1) := by decide +kernel
theorem d5_120 : decode prog_10_method_1_code 120 = .ok (.lload_n 2, 1) := by decide +kernel
theorem d5_121 : decode prog_10_method_1_code 121 = .ok (.putfield 45, 3) := by decide +kernel
theorem d5_124 : decode prog_10_method_1_code 124 = .ok (.aload_n 0, 1) := by decide +kernel
theorem d5_125 : decode prog_10_method_1_code 125 = .ok (.aload 4, 2) := by decide +kernel
theorem d5_127 : decode prog_10_method_1_code 127 = .ok (.putfield 48, 3) := by decide +kernel
theorem d5_130 : decode prog_10_method_1_code 130 = .ok (.aload_n 0, 1) := by decide +kernel
theorem d5_131 : decode prog_10_method_1_code 131 = .ok (.iload 5, 2) := by decide +kernel
theorem d5_133 : decode prog_10_method_1_code 133 = .ok (.putfield 51, 3) := by decide +kernel
theorem d5_136 : decode prog_10_method_1_code 136 = .ok (.return_, 1) := by decide +kernel
theorem own_pf13 : plainFor (⟨"com/example/lean_limiter/leanlimiter/Rule", "<init>", "(IJLcom/example/lean_limiter/leanlimiter/Scope;I)V"⟩ : MethodName) = true := by first | exact plainFor_of_name (by first | (simp [plainName, overriddenIn]; done) | decide +kernel) | decide +kernel
set_option maxRecDepth 65536 in
set_option maxHeartbeats 40000000 in
theorem rmRule1 (l : Launch) (Z : State) (a0 : Array Value) (hw : ∀ d ∈ tables_1, d.before a0 Z = true) (ws : List Jvm.Cond) (p1 : Addr) (p2 : Int32) (p3 : Int64) (w_KEY : Addr) (h0 : Heap) (I : own_Ini Z w_KEY) (g1 : Z.heap.size ≤ p1) (Ep1 : Exa Z h0 p1 "com/example/lean_limiter/leanlimiter/Rule") (Fp1_count : Fld Z h0 p1 "com/example/lean_limiter/leanlimiter/Rule" "count" "I" (.int (0 : Int32))) (Fp1_spanMillis : Fld Z h0 p1 "com/example/lean_limiter/leanlimiter/Rule" "spanMillis" "J" (.long (0 : Int64))) (Fp1_scope : Fld Z h0 p1 "com/example/lean_limiter/leanlimiter/Rule" "scope" "Lcom/example/lean_limiter/leanlimiter/Scope;" .null) (Fp1_slots : Fld Z h0 p1 "com/example/lean_limiter/leanlimiter/Rule" "slots" "I" (.int (0 : Int32))) (hn1 : 1 ≤ p2.toInt) (hs1 : 1 ≤ p3.toInt) (hs2 : p3.toInt ≤ 31622400000) :
    own_Met l Z (⟨"com/example/lean_limiter/leanlimiter/Rule", "<init>", "(IJLcom/example/lean_limiter/leanlimiter/Scope;I)V"⟩ : MethodName) prog_10_method_1_code 6 none ws ({ frames := 2, cells := 2, slots := 24, locals := 24 } : Room) #[(.ref p1), (.int p2), (.long p3), (.ref w_KEY), (.int (0 : Int32))] h0 (own_none (fun h => Keep h0 h [p1] ∧ Fld Z h p1 "com/example/lean_limiter/leanlimiter/Rule" "count" "I" (.int p2) ∧ Fld Z h p1 "com/example/lean_limiter/leanlimiter/Rule" "spanMillis" "J" (.long p3))) := by
  have I' := I
  obtain ⟨S_w_KEY, E_w_KEY, S_MAX_SPAN_MILLIS⟩ := I'
  refine own_met (ls0 := #[.val (.ref p1), .val (.int p2), .val (.long p3), .second, .val (.ref w_KEY), .val (.int (0 : Int32))]) own_pf13 (fun m => by first | rfl | (simp [entryFrame, mkF, argsToLocals, Value.category, maxLocals]; done)) ?_
  intro p e s m below meth c
  refine own_old (fun O0 => ?_)
  refine own_aloadN 1 rfl d5_0 rfl rfl ?_
  refine own_callI 4 rfl 0 0 0 [] [] (y := (⟨"java/lang/Record", "<init>", "()V"⟩ : MethodName)) rfl (hw _ (List.mem_of_getElem? (i := 29) rfl)) (hw _ (List.mem_of_getElem? (i := 30) rfl)) (hw _ (List.mem_of_getElem? (i := 32) rfl)) (hw _ (List.mem_of_getElem? (i := 33) rfl)) (by decide) (rmRecord l Z a0 hw [] p1 h0) d5_1 rfl (lenOf own_pd6 rfl) rfl rfl rfl (by decide) (by decide) rfl rfl (by decide) (by decide) (own_k0 fun h1 q1 => ?_)
  rw [q1]
  refine own_aload 6 rfl d5_4 rfl rfl ?_
  refine own_ldcS 8 rfl 2 24 20 (text := "scope") (hw _ (List.mem_of_getElem? (i := 37) rfl)) (own_wS hw) d5_6 (by decide) (by decide) rfl rfl (by decide) (by decide) (fun h2 b2 E2 => ?_)
  have kp3 : Keep h0 h2 [p1] := Keep.ext (Keep.refl h0 [p1]) E2
  refine own_callS 11 rfl 2 24 0 [(.ref w_KEY), (.ref b2)] [] (y := (⟨"java/util/Objects", "requireNonNull", "(Ljava/lang/Object;Ljava/lang/String;)Ljava/lang/Object;"⟩ : MethodName)) (hw _ (List.mem_of_getElem? (i := 45) rfl)) (hw _ (List.mem_of_getElem? (i := 46) rfl)) (hw _ (List.mem_of_getElem? (i := 47) rfl)) (hw _ (List.mem_of_getElem? (i := 48) rfl)) (by decide) (rmNN l Z a0 hw [] w_KEY b2 h2) d5_8 rfl (lenOf own_pd7 rfl) rfl rfl rfl (by decide) (by decide) rfl rfl (by decide) (by decide) (own_kv fun v4 h4 q4 => ?_)
  obtain ⟨rfl, e4⟩ := q4
  rw [e4]
  refine own_pop 12 rfl d5_11 rfl ?_
  refine own_iloadN 13 rfl d5_12 rfl ?_
  refine own_iconst 14 rfl (1 : Int32) d5_13 rfl ?_
  have ihc14 : (1 : Int) ≤ p2.toInt := by omega
  have hc14 : ¬ (p2 < (1 : Int32)) := own_nlt' ihc14
  refine own_icmpYes 31 d5_14 (flt hc14).2.1 (by decide) (by decide) ?_
  refine own_lloadN 32 rfl d5_31 rfl ?_
  refine own_lconst 33 rfl (1 : Int64) d5_32 rfl ?_
  refine own_lcmp 34 rfl d5_33 ?_
  have ihc34 : (1 : Int) ≤ p3.toInt := by omega
  have hc34 : ¬ (p3 < (1 : Int64)) := own_nltL' ihc34
  refine own_ifNo 37 rfl d5_34 (flt (fun q => hc34 ((lw_lt _ _).mp q))).1 ?_
  refine own_lloadN 38 rfl d5_37 rfl ?_
  refine own_getS 41 rfl (host := "") (Or.inl (hw _ (List.mem_of_getElem? (i := 49) rfl))) Via.refl S_MAX_SPAN_MILLIS d5_38 ?_
  refine own_lcmp 42 rfl d5_41 ?_
  have ihc42 : p3.toInt ≤ (31622400000 : Int) := by omega
  have hc42 : ¬ ((31622400000 : Int64) < p3) := own_nltL' ihc42
  refine own_ifYes 55 d5_42 (flt (fun q => hc42 ((lw_gt _ _).mp q))).2.2.2 (by decide) (by decide) ?_
  refine own_iload 57 rfl d5_55 rfl ?_
  refine own_ifNo 60 rfl d5_57 (flt (by decide : ¬ ((0 : Int32) < (0 : Int32)))).1 ?_
  refine own_iload 62 rfl d5_60 rfl ?_
  refine own_sipush 65 rfl (1000 : Int32) d5_62 rfl ?_
  refine own_icmpYes 83 d5_65 (flt (by decide : ¬ ((1000 : Int32) < (0 : Int32)))).2.2.2 (by decide) (by decide) ?_
  refine own_iload 85 rfl d5_83 rfl ?_
  refine own_ifYes 114 d5_85 (teq (rfl : (0 : Int32) = (0 : Int32))).1 (by decide) (by decide) ?_
  refine own_aloadN 115 rfl d5_114 rfl rfl ?_
  refine own_iloadN 116 rfl d5_115 rfl ?_
  refine own_putF 119 rfl (host := "") (Or.inl (hw _ (List.mem_of_getElem? (i := 51) rfl))) Via.refl g1 (Fp1_count.ext E2) (Ep1.ext E2) (Or.inr ⟨(hw _ (List.mem_of_getElem? (i := 52) rfl)), rfl, rfl⟩) (hw _ (List.mem_of_getElem? (i := 15) rfl)) (ty := .int) (by decide) rfl rfl d5_116 (fun h5 W5 => ?_)
  have kp6 : Keep h0 h5 [p1] := Keep.wr kp3 W5 (Or.inl (List.mem_of_getElem? (i := 0) rfl))
  refine own_aloadN 120 rfl d5_119 rfl rfl ?_
  refine own_lloadN 121 rfl d5_120 rfl ?_
  refine own_putF 124 rfl (host := "") (Or.inl (hw _ (List.mem_of_getElem? (i := 53) rfl))) Via.refl g1 ((Fp1_spanMillis.ext E2).other W5 (Or.inr (slot_ne (a0 := a0) (Or.inr (hw _ (List.mem_of_getElem? (i := 54) rfl))) (Or.inr (hw _ (List.mem_of_getElem? (i := 52) rfl))) (by decide) (t := .long) (t' := .int) (by decide) (by decide)))) ((Ep1.ext E2).wr W5) (Or.inr ⟨(hw _ (List.mem_of_getElem? (i := 54) rfl)), rfl, rfl⟩) (hw _ (List.mem_of_getElem? (i := 15) rfl)) (ty := .long) (by decide) rfl rfl d5_121 (fun h7 W7 => ?_)
  have kp8 : Keep h0 h7 [p1] := Keep.wr kp6 W7 (Or.inl (List.mem_of_getElem? (i := 0) rfl))
  refine own_aloadN 125 rfl d5_124 rfl rfl ?_
  refine own_aload 127 rfl d5_125 rfl rfl ?_
  refine own_putF 130 rfl (host := "") (Or.inl (hw _ (List.mem_of_getElem? (i := 55) rfl))) Via.refl g1 (((Fp1_scope.ext E2).other W5 (Or.inr (slot_ne (a0 := a0) (Or.inr (hw _ (List.mem_of_getElem? (i := 56) rfl))) (Or.inr (hw _ (List.mem_of_getElem? (i := 52) rfl))) (by decide) (t := (.object "com/example/lean_limiter/leanlimiter/Scope")) (t' := .int) (by decide) (by decide)))).other W7 (Or.inr (slot_ne (a0 := a0) (Or.inr (hw _ (List.mem_of_getElem? (i := 56) rfl))) (Or.inr (hw _ (List.mem_of_getElem? (i := 54) rfl))) (by decide) (t := (.object "com/example/lean_limiter/leanlimiter/Scope")) (t' := .long) (by decide) (by decide)))) (((Ep1.ext E2).wr W5).wr W7) (Or.inr ⟨(hw _ (List.mem_of_getElem? (i := 56) rfl)), rfl, rfl⟩) (hw _ (List.mem_of_getElem? (i := 15) rfl)) (ty := (.object "com/example/lean_limiter/leanlimiter/Scope")) (by decide) rfl rfl d5_127 (fun h9 W9 => ?_)
  have kp10 : Keep h0 h9 [p1] := Keep.wr kp8 W9 (Or.inl (List.mem_of_getElem? (i := 0) rfl))
  refine own_aloadN 131 rfl d5_130 rfl rfl ?_
  refine own_iload 133 rfl d5_131 rfl ?_
  refine own_putF 136 rfl (host := "") (Or.inl (hw _ (List.mem_of_getElem? (i := 57) rfl))) Via.refl g1 ((((Fp1_slots.ext E2).other W5 (Or.inr (slot_ne (a0 := a0) (Or.inr (hw _ (List.mem_of_getElem? (i := 58) rfl))) (Or.inr (hw _ (List.mem_of_getElem? (i := 52) rfl))) (by decide) (t := .int) (t' := .int) (by decide) (by decide)))).other W7 (Or.inr (slot_ne (a0 := a0) (Or.inr (hw _ (List.mem_of_getElem? (i := 58) rfl))) (Or.inr (hw _ (List.mem_of_getElem? (i := 54) rfl))) (by decide) (t := .int) (t' := .long) (by decide) (by decide)))).other W9 (Or.inr (slot_ne (a0 := a0) (Or.inr (hw _ (List.mem_of_getElem? (i := 58) rfl))) (Or.inr (hw _ (List.mem_of_getElem? (i := 56) rfl))) (by decide) (t := .int) (t' := (.object "com/example/lean_limiter/leanlimiter/Scope")) (by decide) (by decide)))) ((((Ep1.ext E2).wr W5).wr W7).wr W9) (Or.inr ⟨(hw _ (List.mem_of_getElem? (i := 58) rfl)), rfl, rfl⟩) (hw _ (List.mem_of_getElem? (i := 15) rfl)) (ty := .int) (by decide) rfl rfl d5_133 (fun h11 W11 => ?_)
  have kp12 : Keep h0 h11 [p1] := Keep.wr kp10 W11 (Or.inl (List.mem_of_getElem? (i := 0) rfl))
  refine own_ret rfl d5_136 (by decide) (by decide) ?_
  exact ⟨rfl, kp12, ((((Fld.same W5 (Fp1_count.ext E2)).other W7 (Or.inr (slot_ne (a0 := a0) (Or.inr (hw _ (List.mem_of_getElem? (i := 52) rfl))) (Or.inr (hw _ (List.mem_of_getElem? (i := 54) rfl))) (by decide) (t := .int) (t' := .long) (by decide) (by decide)))).other W9 (Or.inr (slot_ne (a0 := a0) (Or.inr (hw _ (List.mem_of_getElem? (i := 52) rfl))) (Or.inr (hw _ (List.mem_of_getElem? (i := 56) rfl))) (by decide) (t := .int) (t' := (.object "com/example/lean_limiter/leanlimiter/Scope")) (by decide) (by decide)))).other W11 (Or.inr (slot_ne (a0 := a0) (Or.inr (hw _ (List.mem_of_getElem? (i := 52) rfl))) (Or.inr (hw _ (List.mem_of_getElem? (i := 58) rfl))) (by decide) (t := .int) (t' := .int) (by decide) (by decide)))), (((Fld.same W7 ((Fp1_spanMillis.ext E2).other W5 (Or.inr (slot_ne (a0 := a0) (Or.inr (hw _ (List.mem_of_getElem? (i := 54) rfl))) (Or.inr (hw _ (List.mem_of_getElem? (i := 52) rfl))) (by decide) (t := .long) (t' := .int) (by decide) (by decide))))).other W9 (Or.inr (slot_ne (a0 := a0) (Or.inr (hw _ (List.mem_of_getElem? (i := 54) rfl))) (Or.inr (hw _ (List.mem_of_getElem? (i := 56) rfl))) (by decide) (t := .long) (t' := (.object "com/example/lean_limiter/leanlimiter/Scope")) (by decide) (by decide)))).other W11 (Or.inr (slot_ne (a0 := a0) (Or.inr (hw _ (List.mem_of_getElem? (i := 54) rfl))) (Or.inr (hw _ (List.mem_of_getElem? (i := 58) rfl))) (by decide) (t := .long) (t' := .int) (by decide) (by decide))))⟩
theorem d4_0 : decode prog_10_method_2_code 0 = .ok (.aload_n 0, 1) := by decide +kernel
theorem d4_1 : decode prog_10_method_2_code 1 = .ok (.iload_n 1, 1) := by decide +kernel
theorem d4_2 : decode prog_10_method_2_code 2 = .ok (.lload_n 2, 1) := by decide +kernel
theorem d4_3 : decode prog_10_method_2_code 3 = .ok (.aload 4, 2) := by decide +kernel
theorem d4_5 : decode prog_10_method_2_code 5 = .ok (.iconst 0, 1) := by decide +kernel
theorem d4_6 : decode prog_10_method_2_code 6 = .ok (.invokespecial 54, 3) := by decide +kernel
theorem own_pd8 : parseMethodDescriptor "(IJLcom/example/lean_limiter/leanlimiter/Scope;I)V" = some ⟨[.int, .long, (.object "com/example/lean_limiter/leanlimiter/Scope"), .int], none⟩ := by decide +kernel
theorem d4_9 : decode prog_10_method_2_code 9 = .ok (.return_, 1) := by decide +kernel
theorem own_pf14 : plainFor (⟨"com/example/lean_limiter/leanlimiter/Rule", "<init>", "(IJLcom/example/lean_limiter/leanlimiter/Scope;)V"⟩ : MethodName) = true := by first | exact plainFor_of_name (by first | (simp [plainName, overriddenIn]; done) | decide +kernel) | decide +kernel
set_option maxRecDepth 65536 in
set_option maxHeartbeats 40000000 in
theorem rmRule2 (l : Launch) (Z : State) (a0 : Array Value) (hw : ∀ d ∈ tables_1, d.before a0 Z = true) (ws : List Jvm.Cond) (p1 : Addr) (p2 : Int32) (p3 : Int64) (w_KEY : Addr) (h0 : Heap) (I : own_Ini Z w_KEY) (g1 : Z.heap.size ≤ p1) (Ep1 : Exa Z h0 p1 "com/example/lean_limiter/leanlimiter/Rule") (Fp1_count : Fld Z h0 p1 "com/example/lean_limiter/leanlimiter/Rule" "count" "I" (.int (0 : Int32))) (Fp1_spanMillis : Fld Z h0 p1 "com/example/lean_limiter/leanlimiter/Rule" "spanMillis" "J" (.long (0 : Int64))) (Fp1_scope : Fld Z h0 p1 "com/example/lean_limiter/leanlimiter/Rule" "scope" "Lcom/example/lean_limiter/leanlimiter/Scope;" .null) (Fp1_slots : Fld Z h0 p1 "com/example/lean_limiter/leanlimiter/Rule" "slots" "I" (.int (0 : Int32))) (hn1 : 1 ≤ p2.toInt) (hs1 : 1 ≤ p3.toInt) (hs2 : p3.toInt ≤ 31622400000) :
    own_Met l Z (⟨"com/example/lean_limiter/leanlimiter/Rule", "<init>", "(IJLcom/example/lean_limiter/leanlimiter/Scope;)V"⟩ : MethodName) prog_10_method_2_code 5 none ws ({ frames := 3, cells := 2, slots := 24, locals := 41 } : Room) #[(.ref p1), (.int p2), (.long p3), (.ref w_KEY)] h0 (own_none (fun h => Keep h0 h [p1] ∧ Fld Z h p1 "com/example/lean_limiter/leanlimiter/Rule" "count" "I" (.int p2) ∧ Fld Z h p1 "com/example/lean_limiter/leanlimiter/Rule" "spanMillis" "J" (.long p3))) := by
  have I' := I
  obtain ⟨S_w_KEY, E_w_KEY, S_MAX_SPAN_MILLIS⟩ := I'
  refine own_met (ls0 := #[.val (.ref p1), .val (.int p2), .val (.long p3), .second, .val (.ref w_KEY)]) own_pf14 (fun m => by first | rfl | (simp [entryFrame, mkF, argsToLocals, Value.category, maxLocals]; done)) ?_
  intro p e s m below meth c
  refine own_old (fun O0 => ?_)
  refine own_aloadN 1 rfl d4_0 rfl rfl ?_
  refine own_iloadN 2 rfl d4_1 rfl ?_
  refine own_lloadN 3 rfl d4_2 rfl ?_
  refine own_aload 5 rfl d4_3 rfl rfl ?_
  refine own_iconst 6 rfl (0 : Int32) d4_5 rfl ?_
  refine own_callI 9 rfl 2 24 0 [(.int p2), (.long p3), (.ref w_KEY), (.int (0 : Int32))] [] (y := (⟨"com/example/lean_limiter/leanlimiter/Rule", "<init>", "(IJLcom/example/lean_limiter/leanlimiter/Scope;I)V"⟩ : MethodName)) rfl (hw _ (List.mem_of_getElem? (i := 26) rfl)) (hw _ (List.mem_of_getElem? (i := 27) rfl)) (hw _ (List.mem_of_getElem? (i := 16) rfl)) (hw _ (List.mem_of_getElem? (i := 28) rfl)) (by decide) (rmRule1 l Z a0 hw [] p1 p2 p3 w_KEY h0 I g1 Ep1 Fp1_count Fp1_spanMillis Fp1_scope Fp1_slots hn1 hs1 hs2) d4_6 rfl (lenOf own_pd8 rfl) rfl rfl rfl (by decide) (by decide) rfl rfl (by decide) (by decide) (own_k0 fun h1 q1 => ?_)
  obtain ⟨K1, Gc1, Gs1⟩ := q1
  have kp2 : Keep h0 h1 [p1] := Keep.trans (Keep.refl h0 [p1]) K1 (allS (Or.inl (List.mem_of_getElem? (i := 0) rfl)) all0)
  refine own_ret rfl d4_9 (by decide) (by decide) ?_
  exact ⟨rfl, kp2, Gc1, Gs1⟩
theorem d3_0 : decode prog_10_method_3_code 0 = .ok (.aload_n 0, 1) := by decide +kernel
theorem d3_1 : decode prog_10_method_3_code 1 = .ok (.iload_n 1, 1) := by decide +kernel
theorem d3_2 : decode prog_10_method_3_code 2 = .ok (.lload_n 2, 1) := by decide +kernel
theorem d3_3 : decode prog_10_method_3_code 3 = .ok (.getstatic 57, 3) := by decide +kernel
theorem d3_6 : decode prog_10_method_3_code 6 = .ok (.invokespecial 62, 3) := by decide +kernel
theorem own_pd9 : parseMethodDescriptor "(IJLcom/example/lean_limiter/leanlimiter/Scope;)V" = some ⟨[.int, .long, (.object "com/example/lean_limiter/leanlimiter/Scope")], none⟩ := by decide +kernel
theorem d3_9 : decode prog_10_method_3_code 9 = .ok (.return_, 1) := by decide +kernel
theorem own_pf15 : plainFor (⟨"com/example/lean_limiter/leanlimiter/Rule", "<init>", "(IJ)V"⟩ : MethodName) = true := by first | exact plainFor_of_name (by first | (simp [plainName, overriddenIn]; done) | decide +kernel) | decide +kernel
set_option maxRecDepth 65536 in
set_option maxHeartbeats 40000000 in
theorem rmRule (l : Launch) (Z : State) (a0 : Array Value) (hw : ∀ d ∈ tables_1, d.before a0 Z = true) (ws : List Jvm.Cond) (p1 : Addr) (p2 : Int32) (p3 : Int64) (w_KEY : Addr) (h0 : Heap) (I : own_Ini Z w_KEY) (g1 : Z.heap.size ≤ p1) (Ep1 : Exa Z h0 p1 "com/example/lean_limiter/leanlimiter/Rule") (Fp1_count : Fld Z h0 p1 "com/example/lean_limiter/leanlimiter/Rule" "count" "I" (.int (0 : Int32))) (Fp1_spanMillis : Fld Z h0 p1 "com/example/lean_limiter/leanlimiter/Rule" "spanMillis" "J" (.long (0 : Int64))) (Fp1_scope : Fld Z h0 p1 "com/example/lean_limiter/leanlimiter/Rule" "scope" "Lcom/example/lean_limiter/leanlimiter/Scope;" .null) (Fp1_slots : Fld Z h0 p1 "com/example/lean_limiter/leanlimiter/Rule" "slots" "I" (.int (0 : Int32))) (hn1 : 1 ≤ p2.toInt) (hs1 : 1 ≤ p3.toInt) (hs2 : p3.toInt ≤ 31622400000) :
    own_Met l Z (⟨"com/example/lean_limiter/leanlimiter/Rule", "<init>", "(IJ)V"⟩ : MethodName) prog_10_method_3_code 4 none ws ({ frames := 4, cells := 2, slots := 24, locals := 57 } : Room) #[(.ref p1), (.int p2), (.long p3)] h0 (own_none (fun h => Keep h0 h [p1] ∧ Fld Z h p1 "com/example/lean_limiter/leanlimiter/Rule" "count" "I" (.int p2) ∧ Fld Z h p1 "com/example/lean_limiter/leanlimiter/Rule" "spanMillis" "J" (.long p3))) := by
  have I' := I
  obtain ⟨S_w_KEY, E_w_KEY, S_MAX_SPAN_MILLIS⟩ := I'
  refine own_met (ls0 := #[.val (.ref p1), .val (.int p2), .val (.long p3), .second]) own_pf15 (fun m => by first | rfl | (simp [entryFrame, mkF, argsToLocals, Value.category, maxLocals]; done)) ?_
  intro p e s m below meth c
  refine own_old (fun O0 => ?_)
  refine own_aloadN 1 rfl d3_0 rfl rfl ?_
  refine own_iloadN 2 rfl d3_1 rfl ?_
  refine own_lloadN 3 rfl d3_2 rfl ?_
  refine own_getS 6 rfl (host := "") (Or.inl (hw _ (List.mem_of_getElem? (i := 20) rfl))) Via.refl S_w_KEY d3_3 ?_
  refine own_callI 9 rfl 2 24 0 [(.int p2), (.long p3), (.ref w_KEY)] [] (y := (⟨"com/example/lean_limiter/leanlimiter/Rule", "<init>", "(IJLcom/example/lean_limiter/leanlimiter/Scope;)V"⟩ : MethodName)) rfl (hw _ (List.mem_of_getElem? (i := 23) rfl)) (hw _ (List.mem_of_getElem? (i := 24) rfl)) (hw _ (List.mem_of_getElem? (i := 16) rfl)) (hw _ (List.mem_of_getElem? (i := 25) rfl)) (by decide) (rmRule2 l Z a0 hw [] p1 p2 p3 w_KEY h0 I g1 Ep1 Fp1_count Fp1_spanMillis Fp1_scope Fp1_slots hn1 hs1 hs2) d3_6 rfl (lenOf own_pd9 rfl) rfl rfl rfl (by decide) (by decide) rfl rfl (by decide) (by decide) (own_k0 fun h1 q1 => ?_)
  obtain ⟨K1, Gc1, Gs1⟩ := q1
  have kp2 : Keep h0 h1 [p1] := Keep.trans (Keep.refl h0 [p1]) K1 (allS (Or.inl (List.mem_of_getElem? (i := 0) rfl)) all0)
  refine own_ret rfl d3_9 (by decide) (by decide) ?_
  exact ⟨rfl, kp2, Gc1, Gs1⟩
theorem d11_0 : decode prog_10_method_11_code 0 = .ok (.aload_n 0, 1) := by decide +kernel
theorem d11_1 : decode prog_10_method_11_code 1 = .ok (.getfield 41, 3) := by decide +kernel
theorem d11_4 : decode prog_10_method_11_code 4 = .ok (.ireturn, 1) := by decide +kernel
theorem own_pf16 : plainFor (⟨"com/example/lean_limiter/leanlimiter/Rule", "count", "()I"⟩ : MethodName) = true := by first | exact plainFor_of_name (by first | (simp [plainName, overriddenIn]; done) | decide +kernel) | decide +kernel
set_option maxRecDepth 65536 in
set_option maxHeartbeats 40000000 in
theorem rmGet_count (l : Launch) (Z : State) (a0 : Array Value) (hw : ∀ d ∈ tables_1, d.before a0 Z = true) (ws : List Jvm.Cond) (p1 : Addr) (z : Int32) (h0 : Heap) (Fp1 : Fld Z h0 p1 "com/example/lean_limiter/leanlimiter/Rule" "count" "I" (.int z)) :
    own_Met l Z (⟨"com/example/lean_limiter/leanlimiter/Rule", "count", "()I"⟩ : MethodName) prog_10_method_11_code 1 (some .int) ws ({ frames := 0, cells := 0, slots := 0, locals := 0 } : Room) #[(.ref p1)] h0 (own_some (fun v h => v = (.int z) ∧ h = h0)) := by
  refine own_met (ls0 := #[.val (.ref p1)]) own_pf16 (fun m => by first | rfl | (simp [entryFrame, mkF, argsToLocals, Value.category, maxLocals]; done)) ?_
  intro p e s m below meth c
  refine own_old (fun O0 => ?_)
  refine own_aloadN 1 rfl d11_0 rfl rfl ?_
  refine own_getF 4 rfl (host := "") (Or.inl (hw _ (List.mem_of_getElem? (i := 51) rfl))) Via.refl Fp1 d11_1 ?_
  refine own_retI rfl d11_4 (by decide) (by decide) ?_
  exact ⟨_, rfl, rfl, rfl⟩
theorem d12_0 : decode prog_10_method_12_code 0 = .ok (.aload_n 0, 1) := by decide +kernel
theorem d12_1 : decode prog_10_method_12_code 1 = .ok (.getfield 45, 3) := by decide +kernel
theorem d12_4 : decode prog_10_method_12_code 4 = .ok (.lreturn, 1) := by decide +kernel
theorem own_pf17 : plainFor (⟨"com/example/lean_limiter/leanlimiter/Rule", "spanMillis", "()J"⟩ : MethodName) = true := by first | exact plainFor_of_name (by first | (simp [plainName, overriddenIn]; done) | decide +kernel) | decide +kernel
set_option maxRecDepth 65536 in
set_option maxHeartbeats 40000000 in
theorem rmGet_spanMillis (l : Launch) (Z : State) (a0 : Array Value) (hw : ∀ d ∈ tables_1, d.before a0 Z = true) (ws : List Jvm.Cond) (p1 : Addr) (z : Int64) (h0 : Heap) (Fp1 : Fld Z h0 p1 "com/example/lean_limiter/leanlimiter/Rule" "spanMillis" "J" (.long z)) :
    own_Met l Z (⟨"com/example/lean_limiter/leanlimiter/Rule", "spanMillis", "()J"⟩ : MethodName) prog_10_method_12_code 1 (some .long) ws ({ frames := 0, cells := 0, slots := 0, locals := 0 } : Room) #[(.ref p1)] h0 (own_some (fun v h => v = (.long z) ∧ h = h0)) := by
  refine own_met (ls0 := #[.val (.ref p1)]) own_pf17 (fun m => by first | rfl | (simp [entryFrame, mkF, argsToLocals, Value.category, maxLocals]; done)) ?_
  intro p e s m below meth c
  refine own_old (fun O0 => ?_)
  refine own_aloadN 1 rfl d12_0 rfl rfl ?_
  refine own_getF 4 rfl (host := "") (Or.inl (hw _ (List.mem_of_getElem? (i := 53) rfl))) Via.refl Fp1 d12_1 ?_
  refine own_retJ rfl d12_4 (by decide) (by decide) ?_
  exact ⟨_, rfl, rfl, rfl⟩
theorem d13_0 : decode jdk_29_method_69_code 0 = .ok (.iload_n 0, 1) := by decide +kernel
theorem d13_1 : decode jdk_29_method_69_code 1 = .ok (.iload_n 1, 1) := by decide +kernel
theorem d13_2 : decode jdk_29_method_69_code 2 = .ok (.if_icmp .gt 7, 3) := by decide +kernel
theorem d13_5 : decode jdk_29_method_69_code 5 = .ok (.iload_n 0, 1) := by decide +kernel
theorem d13_6 : decode jdk_29_method_69_code 6 = .ok (.goto 4, 3) := by decide +kernel
theorem d13_10 : decode jdk_29_method_69_code 10 = .ok (.ireturn, 1) := by decide +kernel
theorem own_pf18 : plainFor (⟨"java/lang/Math", "min", "(II)I"⟩ : MethodName) = true := by first | exact plainFor_of_name (by first | (simp [plainName, overriddenIn]; done) | decide +kernel) | decide +kernel
set_option maxRecDepth 65536 in
set_option maxHeartbeats 40000000 in
theorem rmMinI (l : Launch) (Z : State) (a0 : Array Value) (hw : ∀ d ∈ tables_1, d.before a0 Z = true) (ws : List Jvm.Cond) (x : Int32) (h0 : Heap) (hx8 : x.toInt ≤ 8) :
    own_Met l Z (⟨"java/lang/Math", "min", "(II)I"⟩ : MethodName) jdk_29_method_69_code 2 (some .int) ws ({ frames := 0, cells := 0, slots := 0, locals := 0 } : Room) #[(.int x), (.int (8 : Int32))] h0 (own_some (fun v h => v = .int x ∧ h = h0)) := by
  refine own_met (ls0 := #[.val (.int x), .val (.int (8 : Int32))]) own_pf18 (fun m => by first | rfl | (simp [entryFrame, mkF, argsToLocals, Value.category, maxLocals]; done)) ?_
  intro p e s m below meth c
  refine own_old (fun O0 => ?_)
  refine own_iloadN 1 rfl d13_0 rfl ?_
  refine own_iloadN 2 rfl d13_1 rfl ?_
  have ihc2 : x.toInt ≤ (8 : Int) := by omega
  have hc2 : ¬ ((8 : Int32) < x) := own_nlt' ihc2
  refine own_icmpNo 5 rfl d13_2 (flt hc2).2.2.1 ?_
  refine own_iloadN 6 rfl d13_5 rfl ?_
  refine own_goto 10 d13_6 (by decide) (by decide) ?_
  refine own_retI rfl d13_10 (by decide) (by decide) ?_
  exact ⟨_, rfl, rfl, rfl⟩
theorem d10_0 : decode prog_15_method_1_code 0 = .ok (.aload_n 0, 1) := by decide +kernel
theorem d10_1 : decode prog_15_method_1_code 1 = .ok (.invokespecial 1, 3) := by decide +kernel
theorem d10_4 : decode prog_15_method_1_code 4 = .ok (.aload_n 0, 1) := by decide +kernel
theorem d10_5 : decode prog_15_method_1_code 5 = .ok (.ldc2_w 9, 3) := by decide +kernel
theorem d10_8 : decode prog_15_method_1_code 8 = .ok (.putfield 11, 3) := by decide +kernel
theorem d10_11 : decode prog_15_method_1_code 11 = .ok (.aload_n 0, 1) := by decide +kernel
theorem d10_12 : decode prog_15_method_1_code 12 = .ok (.aload_n 1, 1) := by decide +kernel
theorem d10_13 : decode prog_15_method_1_code 13 = .ok (.putfield 17, 3) := by decide +kernel
theorem d10_16 : decode prog_15_method_1_code 16 = .ok (.aload_n 0, 1) := by decide +kernel
theorem d10_17 : decode prog_15_method_1_code 17 = .ok (.lload_n 2, 1) := by decide +kernel
theorem d10_18 : decode prog_15_method_1_code 18 = .ok (.putfield 21, 3) := by decide +kernel
theorem d10_21 : decode prog_15_method_1_code 21 = .ok (.return_, 1) := by decide +kernel
theorem own_pf19 : plainFor (⟨"com/example/lean_limiter/leanlimiter/Tally", "<init>", "(Lcom/example/lean_limiter/leanlimiter/Rule;J)V"⟩ : MethodName) = true := by first | exact plainFor_of_name (by first | (simp [plainName, overriddenIn]; done) | decide +kernel) | decide +kernel
set_option maxRecDepth 65536 in
set_option maxHeartbeats 40000000 in
theorem rmTally (l : Launch) (Z : State) (a0 : Array Value) (hw : ∀ d ∈ tables_1, d.before a0 Z = true) (ws : List Jvm.Cond) (p1 : Addr) (p2 : Addr) (h0 : Heap) (g1 : Z.heap.size ≤ p1) (Ep1 : Exa Z h0 p1 "com/example/lean_limiter/leanlimiter/ExactLog") (Fp1_fullUntil : Fld Z h0 p1 "com/example/lean_limiter/leanlimiter/Tally" "fullUntil" "J" (.long (0 : Int64))) (Fp1_rule : Fld Z h0 p1 "com/example/lean_limiter/leanlimiter/Tally" "rule" "Lcom/example/lean_limiter/leanlimiter/Rule;" .null) (Fp1_serial : Fld Z h0 p1 "com/example/lean_limiter/leanlimiter/Tally" "serial" "J" (.long (0 : Int64))) (Fp1_count : Fld Z h0 p1 "com/example/lean_limiter/leanlimiter/ExactLog" "count" "I" (.int (0 : Int32))) (Fp1_spanMicros : Fld Z h0 p1 "com/example/lean_limiter/leanlimiter/ExactLog" "spanMicros" "J" (.long (0 : Int64))) (Fp1_times : Fld Z h0 p1 "com/example/lean_limiter/leanlimiter/ExactLog" "times" "[J" .null) (Fp1_head : Fld Z h0 p1 "com/example/lean_limiter/leanlimiter/ExactLog" "head" "I" (.int (0 : Int32))) (Fp1_size : Fld Z h0 p1 "com/example/lean_limiter/leanlimiter/ExactLog" "size" "I" (.int (0 : Int32))) :
    own_Met l Z (⟨"com/example/lean_limiter/leanlimiter/Tally", "<init>", "(Lcom/example/lean_limiter/leanlimiter/Rule;J)V"⟩ : MethodName) prog_15_method_1_code 4 none ws ({ frames := 1, cells := 0, slots := 0, locals := 12 } : Room) #[(.ref p1), (.ref p2), (.long (0 : Int64))] h0 (own_none (fun h => Keep h0 h [p1] ∧ Fld Z h p1 "com/example/lean_limiter/leanlimiter/Tally" "fullUntil" "J" (.long (-9223372036854775808 : Int64)) ∧ Fld Z h p1 "com/example/lean_limiter/leanlimiter/ExactLog" "count" "I" (.int (0 : Int32)) ∧ Fld Z h p1 "com/example/lean_limiter/leanlimiter/ExactLog" "spanMicros" "J" (.long (0 : Int64)) ∧ Fld Z h p1 "com/example/lean_limiter/leanlimiter/ExactLog" "times" "[J" .null ∧ Fld Z h p1 "com/example/lean_limiter/leanlimiter/ExactLog" "head" "I" (.int (0 : Int32)) ∧ Fld Z h p1 "com/example/lean_limiter/leanlimiter/ExactLog" "size" "I" (.int (0 : Int32)))) := by
  refine own_met (ls0 := #[.val (.ref p1), .val (.ref p2), .val (.long (0 : Int64)), .second]) own_pf19 (fun m => by first | rfl | (simp [entryFrame, mkF, argsToLocals, Value.category, maxLocals]; done)) ?_
  intro p e s m below meth c
  refine own_old (fun O0 => ?_)
  refine own_aloadN 1 rfl d10_0 rfl rfl ?_
  refine own_initO 4 rfl (hw _ (List.mem_of_getElem? (i := 67) rfl)) (hw _ (List.mem_of_getElem? (i := 35) rfl)) (hw _ (List.mem_of_getElem? (i := 36) rfl)) d10_1 rfl (by decide) 0 (Nat.le_of_eq rfl) (by decide) ?_
  refine own_aloadN 5 rfl d10_4 rfl rfl ?_
  refine own_ldc2Long 8 rfl (hw _ (List.mem_of_getElem? (i := 68) rfl)) d10_5 ?_
  refine own_putF 11 rfl (host := "") (Or.inl (hw _ (List.mem_of_getElem? (i := 69) rfl))) Via.refl g1 Fp1_fullUntil Ep1 (Or.inl (hw _ (List.mem_of_getElem? (i := 70) rfl))) (hw _ (List.mem_of_getElem? (i := 12) rfl)) (ty := .long) (by decide) rfl rfl d10_8 (fun h1 W1 => ?_)
  have kp2 : Keep h0 h1 [p1] := Keep.wr (Keep.refl h0 [p1]) W1 (Or.inl (List.mem_of_getElem? (i := 0) rfl))
  refine own_aloadN 12 rfl d10_11 rfl rfl ?_
  refine own_aloadN 13 rfl d10_12 rfl rfl ?_
  refine own_putF 16 rfl (host := "") (Or.inl (hw _ (List.mem_of_getElem? (i := 71) rfl))) Via.refl g1 (Fp1_rule.other W1 (Or.inr (slot_ne (a0 := a0) (Or.inr (hw _ (List.mem_of_getElem? (i := 72) rfl))) (Or.inl (hw _ (List.mem_of_getElem? (i := 70) rfl))) (by decide) (t := (.object "com/example/lean_limiter/leanlimiter/Rule")) (t' := .long) (by decide) (by decide)))) (Ep1.wr W1) (Or.inr ⟨(hw _ (List.mem_of_getElem? (i := 72) rfl)), rfl, rfl⟩) (hw _ (List.mem_of_getElem? (i := 12) rfl)) (ty := (.object "com/example/lean_limiter/leanlimiter/Rule")) (by decide) rfl rfl d10_13 (fun h3 W3 => ?_)
  have kp4 : Keep h0 h3 [p1] := Keep.wr kp2 W3 (Or.inl (List.mem_of_getElem? (i := 0) rfl))
  refine own_aloadN 17 rfl d10_16 rfl rfl ?_
  refine own_lloadN 18 rfl d10_17 rfl ?_
  refine own_putF 21 rfl (host := "") (Or.inl (hw _ (List.mem_of_getElem? (i := 73) rfl))) Via.refl g1 ((Fp1_serial.other W1 (Or.inr (slot_ne (a0 := a0) (Or.inr (hw _ (List.mem_of_getElem? (i := 74) rfl))) (Or.inl (hw _ (List.mem_of_getElem? (i := 70) rfl))) (by decide) (t := .long) (t' := .long) (by decide) (by decide)))).other W3 (Or.inr (slot_ne (a0 := a0) (Or.inr (hw _ (List.mem_of_getElem? (i := 74) rfl))) (Or.inr (hw _ (List.mem_of_getElem? (i := 72) rfl))) (by decide) (t := .long) (t' := (.object "com/example/lean_limiter/leanlimiter/Rule")) (by decide) (by decide)))) ((Ep1.wr W1).wr W3) (Or.inr ⟨(hw _ (List.mem_of_getElem? (i := 74) rfl)), rfl, rfl⟩) (hw _ (List.mem_of_getElem? (i := 12) rfl)) (ty := .long) (by decide) rfl rfl d10_18 (fun h5 W5 => ?_)
  have kp6 : Keep h0 h5 [p1] := Keep.wr kp4 W5 (Or.inl (List.mem_of_getElem? (i := 0) rfl))
  refine own_ret rfl d10_21 (by decide) (by decide) ?_
  exact ⟨rfl, kp6, (((Fld.same W1 Fp1_fullUntil).other W3 (Or.inr (slot_ne (a0 := a0) (Or.inl (hw _ (List.mem_of_getElem? (i := 70) rfl))) (Or.inr (hw _ (List.mem_of_getElem? (i := 72) rfl))) (by decide) (t := .long) (t' := (.object "com/example/lean_limiter/leanlimiter/Rule")) (by decide) (by decide)))).other W5 (Or.inr (slot_ne (a0 := a0) (Or.inl (hw _ (List.mem_of_getElem? (i := 70) rfl))) (Or.inr (hw _ (List.mem_of_getElem? (i := 74) rfl))) (by decide) (t := .long) (t' := .long) (by decide) (by decide)))), (((Fp1_count.other W1 (Or.inr (slot_ne (a0 := a0) (Or.inr (hw _ (List.mem_of_getElem? (i := 81) rfl))) (Or.inl (hw _ (List.mem_of_getElem? (i := 70) rfl))) (by decide) (t := .int) (t' := .long) (by decide) (by decide)))).other W3 (Or.inr (slot_ne (a0 := a0) (Or.inr (hw _ (List.mem_of_getElem? (i := 81) rfl))) (Or.inr (hw _ (List.mem_of_getElem? (i := 72) rfl))) (by decide) (t := .int) (t' := (.object "com/example/lean_limiter/leanlimiter/Rule")) (by decide) (by decide)))).other W5 (Or.inr (slot_ne (a0 := a0) (Or.inr (hw _ (List.mem_of_getElem? (i := 81) rfl))) (Or.inr (hw _ (List.mem_of_getElem? (i := 74) rfl))) (by decide) (t := .int) (t' := .long) (by decide) (by decide)))), (((Fp1_spanMicros.other W1 (Or.inr (slot_ne (a0 := a0) (Or.inr (hw _ (List.mem_of_getElem? (i := 89) rfl))) (Or.inl (hw _ (List.mem_of_getElem? (i := 70) rfl))) (by decide) (t := .long) (t' := .long) (by decide) (by decide)))).other W3 (Or.inr (slot_ne (a0 := a0) (Or.inr (hw _ (List.mem_of_getElem? (i := 89) rfl))) (Or.inr (hw _ (List.mem_of_getElem? (i := 72) rfl))) (by decide) (t := .long) (t' := (.object "com/example/lean_limiter/leanlimiter/Rule")) (by decide) (by decide)))).other W5 (Or.inr (slot_ne (a0 := a0) (Or.inr (hw _ (List.mem_of_getElem? (i := 89) rfl))) (Or.inr (hw _ (List.mem_of_getElem? (i := 74) rfl))) (by decide) (t := .long) (t' := .long) (by decide) (by decide)))), (((Fp1_times.other W1 (Or.inr (slot_ne (a0 := a0) (Or.inl (hw _ (List.mem_of_getElem? (i := 95) rfl))) (Or.inl (hw _ (List.mem_of_getElem? (i := 70) rfl))) (by decide) (t := (.array .long)) (t' := .long) (by decide) (by decide)))).other W3 (Or.inr (slot_ne (a0 := a0) (Or.inl (hw _ (List.mem_of_getElem? (i := 95) rfl))) (Or.inr (hw _ (List.mem_of_getElem? (i := 72) rfl))) (by decide) (t := (.array .long)) (t' := (.object "com/example/lean_limiter/leanlimiter/Rule")) (by decide) (by decide)))).other W5 (Or.inr (slot_ne (a0 := a0) (Or.inl (hw _ (List.mem_of_getElem? (i := 95) rfl))) (Or.inr (hw _ (List.mem_of_getElem? (i := 74) rfl))) (by decide) (t := (.array .long)) (t' := .long) (by decide) (by decide)))), (((Fp1_head.other W1 (Or.inr (slot_ne (a0 := a0) (Or.inl (hw _ (List.mem_of_getElem? (i := 128) rfl))) (Or.inl (hw _ (List.mem_of_getElem? (i := 70) rfl))) (by decide) (t := .int) (t' := .long) (by decide) (by decide)))).other W3 (Or.inr (slot_ne (a0 := a0) (Or.inl (hw _ (List.mem_of_getElem? (i := 128) rfl))) (Or.inr (hw _ (List.mem_of_getElem? (i := 72) rfl))) (by decide) (t := .int) (t' := (.object "com/example/lean_limiter/leanlimiter/Rule")) (by decide) (by decide)))).other W5 (Or.inr (slot_ne (a0 := a0) (Or.inl (hw _ (List.mem_of_getElem? (i := 128) rfl))) (Or.inr (hw _ (List.mem_of_getElem? (i := 74) rfl))) (by decide) (t := .int) (t' := .long) (by decide) (by decide)))), (((Fp1_size.other W1 (Or.inr (slot_ne (a0 := a0) (Or.inl (hw _ (List.mem_of_getElem? (i := 102) rfl))) (Or.inl (hw _ (List.mem_of_getElem? (i := 70) rfl))) (by decide) (t := .int) (t' := .long) (by decide) (by decide)))).other W3 (Or.inr (slot_ne (a0 := a0) (Or.inl (hw _ (List.mem_of_getElem? (i := 102) rfl))) (Or.inr (hw _ (List.mem_of_getElem? (i := 72) rfl))) (by decide) (t := .int) (t' := (.object "com/example/lean_limiter/leanlimiter/Rule")) (by decide) (by decide)))).other W5 (Or.inr (slot_ne (a0 := a0) (Or.inl (hw _ (List.mem_of_getElem? (i := 102) rfl))) (Or.inr (hw _ (List.mem_of_getElem? (i := 74) rfl))) (by decide) (t := .int) (t' := .long) (by decide) (by decide))))⟩
theorem own_log_new {Z : State} {h : Heap} {p a : Addr} {N : Int32} {S fu : Int64} {k : ClassId} {vs : List Value} {dv : Value} (g : Z.heap.size ≤ p ∧ Z.heap.size ≤ a) (hN : 1 ≤ N.toInt ∧ N.toInt ≤ 8) (E : Exa Z h p "com/example/lean_limiter/leanlimiter/ExactLog") (F1 : Fld Z h p "com/example/lean_limiter/leanlimiter/ExactLog" "count" "I" (.int N)) (F2 : Fld Z h p "com/example/lean_limiter/leanlimiter/ExactLog" "spanMicros" "J" (.long S)) (F3 : Fld Z h p "com/example/lean_limiter/leanlimiter/ExactLog" "times" "[J" (.ref a)) (F4 : Fld Z h p "com/example/lean_limiter/leanlimiter/ExactLog" "head" "I" (.int (0 : Int32))) (F5 : Fld Z h p "com/example/lean_limiter/leanlimiter/ExactLog" "size" "I" (.int (0 : Int32))) (F6 : Fld Z h p "com/example/lean_limiter/leanlimiter/Tally" "fullUntil" "J" (.long fu)) (V : Arv Z h a k .long N vs dv) : own_Log Z h p a N S 0 [] := by
  obtain ⟨c, A, -, SZ, -⟩ := V
  exact ⟨c, fu, g, E, F1, F2, F3, F4, F5, F6, A, hN, ⟨by decide, by show (0 : Int) < _; omega⟩, by show (0 : Int) ≤ _; omega, SZ, fun i x q => by simp at q⟩
theorem d9_0 : decode prog_3_method_1_code 0 = .ok (.aload_n 0, 1) := by decide +kernel
theorem d9_1 : decode prog_3_method_1_code 1 = .ok (.aload_n 1, 1) := by decide +kernel
theorem d9_2 : decode prog_3_method_1_code 2 = .ok (.lload_n 2, 1) := by decide +kernel
theorem d9_3 : decode prog_3_method_1_code 3 = .ok (.invokespecial 1, 3) := by decide +kernel
theorem own_pd10 : parseMethodDescriptor "(Lcom/example/lean_limiter/leanlimiter/Rule;J)V" = some ⟨[(.object "com/example/lean_limiter/leanlimiter/Rule"), .long], none⟩ := by decide +kernel
theorem d9_6 : decode prog_3_method_1_code 6 = .ok (.aload_n 0, 1) := by decide +kernel
theorem d9_7 : decode prog_3_method_1_code 7 = .ok (.aload_n 1, 1) := by decide +kernel
theorem d9_8 : decode prog_3_method_1_code 8 = .ok (.invokevirtual 7, 3) := by decide +kernel
theorem own_pd11 : parseMethodDescriptor "()I" = some ⟨[], some .int⟩ := by decide +kernel
theorem d9_11 : decode prog_3_method_1_code 11 = .ok (.putfield 13, 3) := by decide +kernel
theorem d9_14 : decode prog_3_method_1_code 14 = .ok (.aload_n 0, 1) := by decide +kernel
theorem d9_15 : decode prog_3_method_1_code 15 = .ok (.aload_n 1, 1) := by decide +kernel
theorem d9_16 : decode prog_3_method_1_code 16 = .ok (.invokevirtual 18, 3) := by decide +kernel
theorem d9_19 : decode prog_3_method_1_code 19 = .ok (.ldc2_w 22, 3) := by decide +kernel
theorem d9_22 : decode prog_3_method_1_code 22 = .ok (.lmul, 1) := by decide +kernel
theorem d9_23 : decode prog_3_method_1_code 23 = .ok (.putfield 24, 3) := by decide +kernel
theorem d9_26 : decode prog_3_method_1_code 26 = .ok (.aload_n 0, 1) := by decide +kernel
theorem d9_27 : decode prog_3_method_1_code 27 = .ok (.aload_n 0, 1) := by decide +kernel
theorem d9_28 : decode prog_3_method_1_code 28 = .ok (.getfield 13, 3) := by decide +kernel
theorem d9_31 : decode prog_3_method_1_code 31 = .ok (.bipush 8, 2) := by decide +kernel
theorem d9_33 : decode prog_3_method_1_code 33 = .ok (.invokestatic 28, 3) := by decide +kernel
theorem own_pd12 : parseMethodDescriptor "(II)I" = some ⟨[.int, .int], some .int⟩ := by decide +kernel
theorem d9_36 : decode prog_3_method_1_code 36 = .ok (.newarray .long, 2) := by decide +kernel
theorem d9_38 : decode prog_3_method_1_code 38 = .ok (.putfield 34, 3) := by decide +kernel
theorem d9_41 : decode prog_3_method_1_code 41 = .ok (.return_, 1) := by decide +kernel
theorem own_pf20 : plainFor (⟨"com/example/lean_limiter/leanlimiter/ExactLog", "<init>", "(Lcom/example/lean_limiter/leanlimiter/Rule;J)V"⟩ : MethodName) = true := by first | exact plainFor_of_name (by first | (simp [plainName, overriddenIn]; done) | decide +kernel) | decide +kernel
set_option maxRecDepth 65536 in
set_option maxHeartbeats 40000000 in
theorem rmLog (l : Launch) (Z : State) (a0 : Array Value) (hw : ∀ d ∈ tables_1, d.before a0 Z = true) (ws : List Jvm.Cond) (p1 p2 : Addr) (N : Int32) (sp : Int64) (h0 : Heap) (g1 : Z.heap.size ≤ p1) (Ep1 : Exa Z h0 p1 "com/example/lean_limiter/leanlimiter/ExactLog") (Fp1_fullUntil : Fld Z h0 p1 "com/example/lean_limiter/leanlimiter/Tally" "fullUntil" "J" (.long (0 : Int64))) (Fp1_rule : Fld Z h0 p1 "com/example/lean_limiter/leanlimiter/Tally" "rule" "Lcom/example/lean_limiter/leanlimiter/Rule;" .null) (Fp1_serial : Fld Z h0 p1 "com/example/lean_limiter/leanlimiter/Tally" "serial" "J" (.long (0 : Int64))) (Fp1_count : Fld Z h0 p1 "com/example/lean_limiter/leanlimiter/ExactLog" "count" "I" (.int (0 : Int32))) (Fp1_spanMicros : Fld Z h0 p1 "com/example/lean_limiter/leanlimiter/ExactLog" "spanMicros" "J" (.long (0 : Int64))) (Fp1_times : Fld Z h0 p1 "com/example/lean_limiter/leanlimiter/ExactLog" "times" "[J" .null) (Fp1_head : Fld Z h0 p1 "com/example/lean_limiter/leanlimiter/ExactLog" "head" "I" (.int (0 : Int32))) (Fp1_size : Fld Z h0 p1 "com/example/lean_limiter/leanlimiter/ExactLog" "size" "I" (.int (0 : Int32))) (Ep2 : Exa Z h0 p2 "com/example/lean_limiter/leanlimiter/Rule") (Fp2_c : Fld Z h0 p2 "com/example/lean_limiter/leanlimiter/Rule" "count" "I" (.int N)) (Fp2_s : Fld Z h0 p2 "com/example/lean_limiter/leanlimiter/Rule" "spanMillis" "J" (.long sp)) (hne : p2 ≠ p1) (hn1 : 1 ≤ N.toInt) (hn8 : N.toInt ≤ 8) :
    own_Met l Z (⟨"com/example/lean_limiter/leanlimiter/ExactLog", "<init>", "(Lcom/example/lean_limiter/leanlimiter/Rule;J)V"⟩ : MethodName) prog_3_method_1_code 4 none ws ({ frames := 2, cells := 1, slots := 8, locals := 27 } : Room) #[(.ref p1), (.ref p2), (.long (0 : Int64))] h0 (own_none (fun h => ∃ a, own_Log Z h p1 a N (sp * (1000 : Int64)) 0 [])) := by
  refine own_met (ls0 := #[.val (.ref p1), .val (.ref p2), .val (.long (0 : Int64)), .second]) own_pf20 (fun m => by first | rfl | (simp [entryFrame, mkF, argsToLocals, Value.category, maxLocals]; done)) ?_
  intro p e s m below meth c
  refine own_old (fun O0 => ?_)
  refine own_aloadN 1 rfl d9_0 rfl rfl ?_
  refine own_aloadN 2 rfl d9_1 rfl rfl ?_
  refine own_lloadN 3 rfl d9_2 rfl ?_
  refine own_callI 6 rfl 0 0 0 [(.ref p2), (.long (0 : Int64))] [] (y := (⟨"com/example/lean_limiter/leanlimiter/Tally", "<init>", "(Lcom/example/lean_limiter/leanlimiter/Rule;J)V"⟩ : MethodName)) rfl (hw _ (List.mem_of_getElem? (i := 62) rfl)) (hw _ (List.mem_of_getElem? (i := 63) rfl)) (hw _ (List.mem_of_getElem? (i := 65) rfl)) (hw _ (List.mem_of_getElem? (i := 66) rfl)) (by decide) (rmTally l Z a0 hw [] p1 p2 h0 g1 Ep1 Fp1_fullUntil Fp1_rule Fp1_serial Fp1_count Fp1_spanMicros Fp1_times Fp1_head Fp1_size) d9_3 rfl (lenOf own_pd10 rfl) rfl rfl rfl (by decide) (by decide) rfl rfl (by decide) (by decide) (own_k0 fun h1 q1 => ?_)
  obtain ⟨K1, G1_fullUntil, G1_count, G1_spanMicros, G1_times, G1_head, G1_size⟩ := q1
  refine own_aloadN 7 rfl d9_6 rfl rfl ?_
  refine own_aloadN 8 rfl d9_7 rfl rfl ?_
  refine own_callV 11 rfl 0 0 1 [] [(.ref p1)] (y := (⟨"com/example/lean_limiter/leanlimiter/Rule", "count", "()I"⟩ : MethodName)) (z := (⟨"com/example/lean_limiter/leanlimiter/Rule", "count", "()I"⟩ : MethodName)) (hw _ (List.mem_of_getElem? (i := 75) rfl)) (hw _ (List.mem_of_getElem? (i := 76) rfl)) (fun hZ => notFace_of_selects (args := #[]) (mvT hZ (hw _ (List.mem_of_getElem? (i := 78) rfl)))) (hw _ (List.mem_of_getElem? (i := 78) rfl)) (hw _ (List.mem_of_getElem? (i := 77) rfl)) (hw _ (List.mem_of_getElem? (i := 16) rfl)) (hw _ (List.mem_of_getElem? (i := 79) rfl)) (by decide) (Ep2.keep K1) (rmGet_count l Z a0 hw [] p2 N h1 (Fp2_c.keep K1 (ninS hne nin0))) d9_8 rfl (lenOf own_pd11 rfl) rfl rfl rfl (by decide) (by decide) rfl rfl (by decide) (by decide) (own_kv fun v2 h2 q2 => ?_)
  obtain ⟨rfl, e2⟩ := q2
  rw [e2]
  refine own_putF 14 rfl (host := "") (Or.inl (hw _ (List.mem_of_getElem? (i := 80) rfl))) Via.refl g1 G1_count (Ep1.keep K1) (Or.inr ⟨(hw _ (List.mem_of_getElem? (i := 81) rfl)), rfl, rfl⟩) (hw _ (List.mem_of_getElem? (i := 12) rfl)) (ty := .int) (by decide) rfl rfl d9_11 (fun h3 W3 => ?_)
  refine own_aloadN 15 rfl d9_14 rfl rfl ?_
  refine own_aloadN 16 rfl d9_15 rfl rfl ?_
  refine own_callV 19 rfl 0 0 1 [] [(.ref p1)] (y := (⟨"com/example/lean_limiter/leanlimiter/Rule", "spanMillis", "()J"⟩ : MethodName)) (z := (⟨"com/example/lean_limiter/leanlimiter/Rule", "spanMillis", "()J"⟩ : MethodName)) (hw _ (List.mem_of_getElem? (i := 82) rfl)) (hw _ (List.mem_of_getElem? (i := 83) rfl)) (fun hZ => notFace_of_selects (args := #[]) (mvT hZ (hw _ (List.mem_of_getElem? (i := 85) rfl)))) (hw _ (List.mem_of_getElem? (i := 85) rfl)) (hw _ (List.mem_of_getElem? (i := 84) rfl)) (hw _ (List.mem_of_getElem? (i := 16) rfl)) (hw _ (List.mem_of_getElem? (i := 86) rfl)) (by decide) ((Ep2.keep K1).wr W3) (rmGet_spanMillis l Z a0 hw [] p2 sp h3 ((Fp2_s.keep K1 (ninS hne nin0)).other W3 (Or.inl hne))) d9_16 rfl (lenOf own_pd2 rfl) rfl rfl rfl (by decide) (by decide) rfl rfl (by decide) (by decide) (own_kv fun v4 h4 q4 => ?_)
  obtain ⟨rfl, e4⟩ := q4
  rw [e4]
  refine own_ldc2Long 22 rfl (hw _ (List.mem_of_getElem? (i := 87) rfl)) d9_19 ?_
  refine own_lmul 23 rfl d9_22 ?_
  refine own_putF 26 rfl (host := "") (Or.inl (hw _ (List.mem_of_getElem? (i := 88) rfl))) Via.refl g1 (G1_spanMicros.other W3 (Or.inr (slot_ne (a0 := a0) (Or.inr (hw _ (List.mem_of_getElem? (i := 89) rfl))) (Or.inr (hw _ (List.mem_of_getElem? (i := 81) rfl))) (by decide) (t := .long) (t' := .int) (by decide) (by decide)))) ((Ep1.keep K1).wr W3) (Or.inr ⟨(hw _ (List.mem_of_getElem? (i := 89) rfl)), rfl, rfl⟩) (hw _ (List.mem_of_getElem? (i := 12) rfl)) (ty := .long) (by decide) rfl rfl d9_23 (fun h5 W5 => ?_)
  refine own_aloadN 27 rfl d9_26 rfl rfl ?_
  refine own_aloadN 28 rfl d9_27 rfl rfl ?_
  refine own_getF 31 rfl (host := "") (Or.inl (hw _ (List.mem_of_getElem? (i := 80) rfl))) Via.refl ((Fld.same W3 G1_count).other W5 (Or.inr (slot_ne (a0 := a0) (Or.inr (hw _ (List.mem_of_getElem? (i := 81) rfl))) (Or.inr (hw _ (List.mem_of_getElem? (i := 89) rfl))) (by decide) (t := .int) (t' := .long) (by decide) (by decide)))) d9_28 ?_
  refine own_bipush 33 rfl (8 : Int32) d9_31 rfl ?_
  refine own_callS 36 rfl 0 0 1 [(.int N), (.int (8 : Int32))] [(.ref p1)] (y := (⟨"java/lang/Math", "min", "(II)I"⟩ : MethodName)) (hw _ (List.mem_of_getElem? (i := 90) rfl)) (hw _ (List.mem_of_getElem? (i := 91) rfl)) (hw _ (List.mem_of_getElem? (i := 2) rfl)) (hw _ (List.mem_of_getElem? (i := 92) rfl)) (by decide) (rmMinI l Z a0 hw [] N h5 hn8) d9_33 rfl (lenOf own_pd12 rfl) rfl rfl rfl (by decide) (by decide) rfl rfl (by decide) (by decide) (own_kv fun v6 h6 q6 => ?_)
  obtain ⟨rfl, e6⟩ := q6
  rw [e6]
  refine own_newP 38 rfl 1 8 8 "[J" (by decide) (hw _ (List.mem_of_getElem? (i := 93) rfl)) d9_36 (own_nlt' (by show (0 : Int) ≤ _; omega)) (by have := own_nat (x := N) (by omega); omega) (by decide) rfl rfl (by decide) (by decide) (fun h7 b7 k7 z7 g_b7 E7 V7 X_b7 => ?_)
  have ne_p1_b7 : p1 ≠ b7 := Nat.ne_of_lt (Nat.lt_of_lt_of_le (((Ep1.keep K1).wr W3).wr W5).lt (Nat.le_of_eq z7.symm))
  have ne_p2_b7 : p2 ≠ b7 := Nat.ne_of_lt (Nat.lt_of_lt_of_le (((Ep2.keep K1).wr W3).wr W5).lt (Nat.le_of_eq z7.symm))
  refine own_putF 41 rfl (host := "") (Or.inl (hw _ (List.mem_of_getElem? (i := 94) rfl))) Via.refl g1 (((G1_times.other W3 (Or.inr (slot_ne (a0 := a0) (Or.inl (hw _ (List.mem_of_getElem? (i := 95) rfl))) (Or.inr (hw _ (List.mem_of_getElem? (i := 81) rfl))) (by decide) (t := (.array .long)) (t' := .int) (by decide) (by decide)))).other W5 (Or.inr (slot_ne (a0 := a0) (Or.inl (hw _ (List.mem_of_getElem? (i := 95) rfl))) (Or.inr (hw _ (List.mem_of_getElem? (i := 89) rfl))) (by decide) (t := (.array .long)) (t' := .long) (by decide) (by decide)))).ext E7) ((((Ep1.keep K1).wr W3).wr W5).ext E7) (Or.inl (hw _ (List.mem_of_getElem? (i := 95) rfl))) (hw _ (List.mem_of_getElem? (i := 12) rfl)) (ty := (.array .long)) (by decide) rfl rfl d9_38 (fun h8 W8 => ?_)
  refine own_ret rfl d9_41 (by decide) (by decide) ?_
  exact ⟨rfl, _, own_log_new ⟨g1, g_b7⟩ ⟨hn1, hn8⟩ (((((Ep1.keep K1).wr W3).wr W5).ext E7).wr W8) ((((Fld.same W3 G1_count).other W5 (Or.inr (slot_ne (a0 := a0) (Or.inr (hw _ (List.mem_of_getElem? (i := 81) rfl))) (Or.inr (hw _ (List.mem_of_getElem? (i := 89) rfl))) (by decide) (t := .int) (t' := .long) (by decide) (by decide)))).ext E7).other W8 (Or.inr (slot_ne (a0 := a0) (Or.inr (hw _ (List.mem_of_getElem? (i := 81) rfl))) (Or.inl (hw _ (List.mem_of_getElem? (i := 95) rfl))) (by decide) (t := .int) (t' := (.array .long)) (by decide) (by decide)))) (((Fld.same W5 (G1_spanMicros.other W3 (Or.inr (slot_ne (a0 := a0) (Or.inr (hw _ (List.mem_of_getElem? (i := 89) rfl))) (Or.inr (hw _ (List.mem_of_getElem? (i := 81) rfl))) (by decide) (t := .long) (t' := .int) (by decide) (by decide))))).ext E7).other W8 (Or.inr (slot_ne (a0 := a0) (Or.inr (hw _ (List.mem_of_getElem? (i := 89) rfl))) (Or.inl (hw _ (List.mem_of_getElem? (i := 95) rfl))) (by decide) (t := .long) (t' := (.array .long)) (by decide) (by decide)))) (Fld.same W8 (((G1_times.other W3 (Or.inr (slot_ne (a0 := a0) (Or.inl (hw _ (List.mem_of_getElem? (i := 95) rfl))) (Or.inr (hw _ (List.mem_of_getElem? (i := 81) rfl))) (by decide) (t := (.array .long)) (t' := .int) (by decide) (by decide)))).other W5 (Or.inr (slot_ne (a0 := a0) (Or.inl (hw _ (List.mem_of_getElem? (i := 95) rfl))) (Or.inr (hw _ (List.mem_of_getElem? (i := 89) rfl))) (by decide) (t := (.array .long)) (t' := .long) (by decide) (by decide)))).ext E7)) ((((G1_head.other W3 (Or.inr (slot_ne (a0 := a0) (Or.inl (hw _ (List.mem_of_getElem? (i := 128) rfl))) (Or.inr (hw _ (List.mem_of_getElem? (i := 81) rfl))) (by decide) (t := .int) (t' := .int) (by decide) (by decide)))).other W5 (Or.inr (slot_ne (a0 := a0) (Or.inl (hw _ (List.mem_of_getElem? (i := 128) rfl))) (Or.inr (hw _ (List.mem_of_getElem? (i := 89) rfl))) (by decide) (t := .int) (t' := .long) (by decide) (by decide)))).ext E7).other W8 (Or.inr (slot_ne (a0 := a0) (Or.inl (hw _ (List.mem_of_getElem? (i := 128) rfl))) (Or.inl (hw _ (List.mem_of_getElem? (i := 95) rfl))) (by decide) (t := .int) (t' := (.array .long)) (by decide) (by decide)))) ((((G1_size.other W3 (Or.inr (slot_ne (a0 := a0) (Or.inl (hw _ (List.mem_of_getElem? (i := 102) rfl))) (Or.inr (hw _ (List.mem_of_getElem? (i := 81) rfl))) (by decide) (t := .int) (t' := .int) (by decide) (by decide)))).other W5 (Or.inr (slot_ne (a0 := a0) (Or.inl (hw _ (List.mem_of_getElem? (i := 102) rfl))) (Or.inr (hw _ (List.mem_of_getElem? (i := 89) rfl))) (by decide) (t := .int) (t' := .long) (by decide) (by decide)))).ext E7).other W8 (Or.inr (slot_ne (a0 := a0) (Or.inl (hw _ (List.mem_of_getElem? (i := 102) rfl))) (Or.inl (hw _ (List.mem_of_getElem? (i := 95) rfl))) (by decide) (t := .int) (t' := (.array .long)) (by decide) (by decide)))) ((((G1_fullUntil.other W3 (Or.inr (slot_ne (a0 := a0) (Or.inl (hw _ (List.mem_of_getElem? (i := 70) rfl))) (Or.inr (hw _ (List.mem_of_getElem? (i := 81) rfl))) (by decide) (t := .long) (t' := .int) (by decide) (by decide)))).other W5 (Or.inr (slot_ne (a0 := a0) (Or.inl (hw _ (List.mem_of_getElem? (i := 70) rfl))) (Or.inr (hw _ (List.mem_of_getElem? (i := 89) rfl))) (by decide) (t := .long) (t' := .long) (by decide) (by decide)))).ext E7).other W8 (Or.inr (slot_ne (a0 := a0) (Or.inl (hw _ (List.mem_of_getElem? (i := 70) rfl))) (Or.inl (hw _ (List.mem_of_getElem? (i := 95) rfl))) (by decide) (t := .long) (t' := (.array .long)) (by decide) (by decide)))) (V7.other W8 (Ne.symm ne_p1_b7))⟩
/-! the plain law -/
def own_PW (xs : List Int64) : Prop := xs.Pairwise fun a b => a.toInt ≤ b.toInt
theorem own_sorted_of : ∀ xs, own_PW xs → own_sorted xs
  | [], _ => trivial
  | [_], _ => trivial
  | x :: y :: r, h => ⟨(List.pairwise_cons.mp h).1 y (List.mem_cons_self ..), own_sorted_of (y :: r) (List.pairwise_cons.mp h).2⟩
theorem own_last_mem : ∀ (x : Int64) r, (x :: r).getLastD 0 ∈ x :: r
  | x, [] => by simp
  | x, y :: r => by
    have := own_last_mem y r
    simp only [List.getLastD_cons] at this ⊢
    exact List.mem_cons_of_mem _ this
theorem own_last_max : ∀ (x : Int64) r, own_PW (x :: r) → ∀ z ∈ x :: r, z.toInt ≤ ((x :: r).getLastD 0).toInt
  | x, [], _, z, hz => by
    simp at hz; subst hz; simp
  | x, y :: r, h, z, hz => by
    have ih := own_last_max y r (List.pairwise_cons.mp h).2
    have e : (x :: y :: r).getLastD 0 = (y :: r).getLastD 0 := by simp only [List.getLastD_cons]
    rw [e]
    rcases List.mem_cons.mp hz with rfl | hz
    · exact Int.le_trans ((List.pairwise_cons.mp h).1 y (List.mem_cons_self ..)) (ih y (List.mem_cons_self ..))
    · exact ih z hz
theorem own_maxI (a b : Int64) : a.toInt ≤ (own_maxJ a b).toInt ∧ b.toInt ≤ (own_maxJ a b).toInt ∧ ((own_maxJ a b).toInt = a.toInt ∨ (own_maxJ a b).toInt = b.toInt) ∧ (b.toInt ≤ a.toInt → own_maxJ a b = a) := by
  unfold own_maxJ
  by_cases q : a < b
  · have := own_ltL q
    rw [if_pos q]; exact ⟨by omega, by omega, Or.inr rfl, fun h => absurd this (by omega)⟩
  · have := own_nltL q
    rw [if_neg q]; exact ⟨by omega, by omega, Or.inl rfl, fun _ => rfl⟩
def own_P (lo hi : Int) (xs : List Int64) : Prop := own_PW xs ∧ ∀ x ∈ xs, lo ≤ x.toInt ∧ x.toInt ≤ hi
theorem own_decB {lo hi : Int} {xs : List Int64} {t : Int64} (P : own_P lo hi xs) (ht : lo ≤ t.toInt ∧ t.toInt ≤ hi) : (lo ≤ (own_dec t xs).toInt ∧ (own_dec t xs).toInt ≤ hi) ∧ t.toInt ≤ (own_dec t xs).toInt ∧ ∀ x ∈ xs, x.toInt ≤ (own_dec t xs).toInt := by
  cases xs with
  | nil => exact ⟨ht, Int.le_refl _, fun x hx => by simp at hx⟩
  | cons x r =>
    have m := own_maxI t ((x :: r).getLastD 0)
    have b := P.2 _ (own_last_mem x r)
    have q := own_last_max x r P.1
    show (lo ≤ (own_maxJ t ((x :: r).getLastD 0)).toInt ∧ (own_maxJ t ((x :: r).getLastD 0)).toInt ≤ hi) ∧ t.toInt ≤ (own_maxJ t ((x :: r).getLastD 0)).toInt ∧ ∀ y ∈ x :: r, y.toInt ≤ (own_maxJ t ((x :: r).getLastD 0)).toInt
    refine ⟨⟨by omega, by omega⟩, m.1, fun y hy => Int.le_trans (q y hy) m.2.1⟩
theorem own_step {lo hi : Int} {xs : List Int64} {t : Int64} {k : Nat} (P : own_P lo hi xs) (ht : lo ≤ t.toInt ∧ t.toInt ≤ hi) : own_P lo hi (xs.drop k ++ [own_dec t xs]) := by
  have b := own_decB P ht
  refine ⟨List.pairwise_append.mpr ⟨P.1.sublist (List.drop_sublist _ _), List.pairwise_singleton _ _, fun a ha c hc => ?_⟩, fun x hx => ?_⟩
  · have : c = own_dec t xs := by simpa using hc
    subst this
    exact b.2.2 a (List.mem_of_mem_drop ha)
  · rcases List.mem_append.mp hx with h | h
    · exact P.2 x (List.mem_of_mem_drop h)
    · have : x = own_dec t xs := by simpa using h
      subst this; exact b.1
theorem own_fit {lo hi : Int} {S : Int64} {xs : List Int64} {t : Int64} (P : own_P lo hi xs) (ht : lo ≤ t.toInt ∧ t.toInt ≤ hi) (hS : 0 ≤ S.toInt) (h1 : -9223372036854775808 + S.toInt ≤ lo) (h2 : hi < 9223372036854775808) : Jvm.Free.XT.fits64 ((own_dec t xs).toInt - S.toInt) := by
  have b := (own_decB P ht).1
  unfold Jvm.Free.XT.fits64
  omega
theorem own_roomI {N : Int32} {n k : Nat} (hN : 1 ≤ N.toInt ∧ N.toInt ≤ 8) (hn : (n : Int) ≤ N.toInt) (h3 : n ≤ 3) (hk : k ≤ n) : (N - (Int32.ofNat n - Int32.ofNat k)).toInt = N.toInt - ((n : Int) - k) := by
  rw [own_lensub hk h3]
  have e := own_len0 (n := n - k) (by omega)
  have c := c_isub N (Int32.ofNat (n - k))
  have r := rng32 (N - Int32.ofNat (n - k))
  omega
theorem own_left0 {w x : Int64} {r : List Int64} (h : own_left w (x :: r) = 0) : w.toInt < x.toInt := by
  unfold own_left at h
  by_cases q : w < x
  · exact own_ltL q
  · rw [if_neg q] at h; cases h
theorem own_left0' {w x : Int64} {r : List Int64} (h : w.toInt < x.toInt) : own_left w (x :: r) = 0 := by
  unfold own_left; rw [if_pos (own_ltL' h)]
theorem own_left1 {w x : Int64} {r : List Int64} (h : x.toInt ≤ w.toInt) : 1 ≤ own_left w (x :: r) := by
  unfold own_left; rw [if_neg (own_nltL' h)]; omega
theorem own_subI {x y : Int64} (h : Jvm.Free.XT.fits64 (x.toInt - y.toInt)) : (x - y).toInt = x.toInt - y.toInt := by
  have c := c_lsub x y
  have r := rng64 (x - y)
  unfold Jvm.Free.XT.fits64 at h
  omega
theorem own_addI {x y : Int64} (h : Jvm.Free.XT.fits64 (x.toInt + y.toInt)) : (x + y).toInt = x.toInt + y.toInt := by
  have c := c_ladd x y
  have r := rng64 (x + y)
  unfold Jvm.Free.XT.fits64 at h
  omega
/-- what the law asks at its end -/
theorem own_fin {N : Int32} {S t4 x : Int64} {r : List Int64} {lo hi : Int} (hN : 1 ≤ N.toInt ∧ N.toInt ≤ 3) (hS : 1 ≤ S.toInt) (hn : ((x :: r).length : Int) ≤ N.toInt) (P : own_P lo hi (x :: r)) (ht : lo ≤ t4.toInt ∧ t4.toInt ≤ hi) (h1 : -9223372036854775808 + 2 * S.toInt ≤ lo) (h2 : hi + 2 * S.toInt < 9223372036854775807)
    (h0 : (N - (Int32.ofNat (x :: r).length - Int32.ofNat (own_left (own_dec t4 (x :: r) - S) (x :: r)))).toInt = 0) :
    Jvm.Free.XT.fits64 (x.toInt + S.toInt) ∧ t4.toInt < (x + S).toInt ∧ own_dec (x + S - 1) (x :: r) = x + S - 1 ∧ own_dec (x + S) (x :: r) = x + S ∧ Jvm.Free.XT.fits64 ((x + S - 1).toInt - S.toInt) ∧ Jvm.Free.XT.fits64 ((x + S).toInt - S.toInt) ∧
      (N - (Int32.ofNat (x :: r).length - Int32.ofNat (own_left (x + S - 1 - S) (x :: r)))).toInt = 0 ∧ 1 ≤ (N - (Int32.ofNat (x :: r).length - Int32.ofNat (own_left (x + S - S) (x :: r)))).toInt ∧ (N - (Int32.ofNat (x :: r).length - Int32.ofNat (own_left (x + S - S) (x :: r)))).toInt ≤ N.toInt := by
  have hb := own_decB P ht
  have hx := P.2 x (List.mem_cons_self ..)
  have f4 := own_fit (S := S) P ht (by omega) (by omega) (by omega)
  have e4 := own_subI f4
  have hl := own_left_le (own_dec t4 (x :: r) - S) (x :: r)
  rw [own_roomI ⟨hN.1, by omega⟩ hn (by omega) hl] at h0
  have hlen : ((x :: r).length : Int) = N.toInt := by omega
  have hz := own_left0 (r := r) (by omega : own_left (own_dec t4 (x :: r) - S) (x :: r) = 0)
  have fa : Jvm.Free.XT.fits64 (x.toInt + S.toInt) := by unfold Jvm.Free.XT.fits64; omega
  have ea := own_addI fa
  have o1 : (1 : Int64).toInt = 1 := rfl
  have fb : Jvm.Free.XT.fits64 ((x + S).toInt - (1 : Int64).toInt) := by unfold Jvm.Free.XT.fits64; omega
  have eb := own_subI fb
  have hlast := hb.2.2 _ (own_last_mem x r)
  have d1 : own_dec (x + S - 1) (x :: r) = x + S - 1 := (own_maxI _ _).2.2.2 (by omega)
  have d2 : own_dec (x + S) (x :: r) = x + S := (own_maxI _ _).2.2.2 (by omega)
  have fc : Jvm.Free.XT.fits64 ((x + S - 1).toInt - S.toInt) := by unfold Jvm.Free.XT.fits64; omega
  have fd : Jvm.Free.XT.fits64 ((x + S).toInt - S.toInt) := by unfold Jvm.Free.XT.fits64; omega
  have ec := own_subI fc
  have ed := own_subI fd
  have l1 : own_left (x + S - 1 - S) (x :: r) = 0 := own_left0' (by omega)
  have l2 : 1 ≤ own_left (x + S - S) (x :: r) := own_left1 (by omega)
  have l3 := own_left_le (x + S - S) (x :: r)
  refine ⟨fa, by omega, d1, d2, fc, fd, ?_, ?_, ?_⟩
  · rw [own_roomI ⟨hN.1, by omega⟩ hn (by omega) (own_left_le _ _), l1]; omega
  · rw [own_roomI ⟨hN.1, by omega⟩ hn (by omega) l3]; omega
  · rw [own_roomI ⟨hN.1, by omega⟩ hn (by omega) l3]; omega

theorem d14_0 : decode prog_3_method_5_code 0 = .ok (.aload_n 0, 1) := by decide +kernel
theorem d14_1 : decode prog_3_method_5_code 1 = .ok (.getfield 38, 3) := by decide +kernel
theorem d14_4 : decode prog_3_method_5_code 4 = .ok (.ifCond .eq 30, 3) := by decide +kernel
theorem d14_34 : decode prog_3_method_5_code 34 = .ok (.iconst 1, 1) := by decide +kernel
theorem d14_35 : decode prog_3_method_5_code 35 = .ok (.goto 4, 3) := by decide +kernel
theorem d14_39 : decode prog_3_method_5_code 39 = .ok (.ireturn, 1) := by decide +kernel
theorem own_pf21 : plainFor (⟨"com/example/lean_limiter/leanlimiter/ExactLog", "isIdleAt", "(J)Z"⟩ : MethodName) = true := by first | exact plainFor_of_name (by first | (simp [plainName, overriddenIn]; done) | decide +kernel) | decide +kernel
set_option maxRecDepth 65536 in
set_option maxHeartbeats 40000000 in
theorem rmIdle0 (l : Launch) (Z : State) (a0 : Array Value) (hw : ∀ d ∈ tables_1, d.before a0 Z = true) (ws : List Jvm.Cond) (p1 a : Addr) (N : Int32) (S : Int64) (hd : Int32) (t : Int64) (h0 : Heap) (RS : own_Log Z h0 p1 a N S hd []) :
    own_Met l Z (⟨"com/example/lean_limiter/leanlimiter/ExactLog", "isIdleAt", "(J)Z"⟩ : MethodName) prog_3_method_5_code 3 (some .boolean) ws ({ frames := 0, cells := 0, slots := 0, locals := 0 } : Room) #[(.ref p1), (.long t)] h0 (own_some (fun v h => v = .int 1 ∧ h = h0)) := by
  obtain ⟨cc, fu, ⟨g1, ga⟩, EX, FC, FSp, FT, FH, FS, FU, AR, hN, hh, hxl, SZ, EL⟩ := id RS
  have FS : Fld Z h0 p1 "com/example/lean_limiter/leanlimiter/ExactLog" "size" "I" (.int (0 : Int32)) := FS
  refine own_met (ls0 := #[.val (.ref p1), .val (.long t), .second]) own_pf21 (fun m => by first | rfl | (simp [entryFrame, mkF, argsToLocals, Value.category, maxLocals]; done)) ?_
  intro p e s m below meth c
  refine own_old (fun O0 => ?_)
  refine own_aloadN 1 rfl d14_0 rfl rfl ?_
  refine own_getF 4 rfl (host := "") (Or.inl (hw _ (List.mem_of_getElem? (i := 101) rfl))) Via.refl FS d14_1 ?_
  refine own_ifYes 34 d14_4 (teq (rfl : (0 : Int32) = (0 : Int32))).1 (by decide) (by decide) ?_
  refine own_iconst 35 rfl (1 : Int32) d14_34 rfl ?_
  refine own_goto 39 d14_35 (by decide) (by decide) ?_
  refine own_retN rfl (by simp) d14_39 (by decide) (by decide) ?_
  exact ⟨_, rfl, rfl, rfl⟩
def own_idle (S last t : Int64) : Int32 := if t < (-9223372036854775808 : Int64) + S then 0 else if t - S < last then 0 else 1
theorem d14_7 : decode prog_3_method_5_code 7 = .ok (.lload_n 1, 1) := by decide +kernel
theorem d14_8 : decode prog_3_method_5_code 8 = .ok (.ldc2_w 71, 3) := by decide +kernel
theorem d14_11 : decode prog_3_method_5_code 11 = .ok (.aload_n 0, 1) := by decide +kernel
theorem d14_12 : decode prog_3_method_5_code 12 = .ok (.getfield 24, 3) := by decide +kernel
theorem d14_15 : decode prog_3_method_5_code 15 = .ok (.ladd, 1) := by decide +kernel
theorem d14_16 : decode prog_3_method_5_code 16 = .ok (.lcmp, 1) := by decide +kernel
theorem d14_17 : decode prog_3_method_5_code 17 = .ok (.ifCond .lt 21, 3) := by decide +kernel
theorem d14_38 : decode prog_3_method_5_code 38 = .ok (.iconst 0, 1) := by decide +kernel
theorem d14_20 : decode prog_3_method_5_code 20 = .ok (.aload_n 0, 1) := by decide +kernel
theorem d14_21 : decode prog_3_method_5_code 21 = .ok (.invokevirtual 76, 3) := by decide +kernel
theorem d14_24 : decode prog_3_method_5_code 24 = .ok (.lload_n 1, 1) := by decide +kernel
theorem d14_25 : decode prog_3_method_5_code 25 = .ok (.aload_n 0, 1) := by decide +kernel
theorem d14_26 : decode prog_3_method_5_code 26 = .ok (.getfield 24, 3) := by decide +kernel
theorem d14_29 : decode prog_3_method_5_code 29 = .ok (.lsub, 1) := by decide +kernel
theorem d14_30 : decode prog_3_method_5_code 30 = .ok (.lcmp, 1) := by decide +kernel
theorem d14_31 : decode prog_3_method_5_code 31 = .ok (.ifCond .gt 7, 3) := by decide +kernel
set_option maxRecDepth 65536 in
set_option maxHeartbeats 40000000 in
theorem rmIdle (l : Launch) (Z : State) (a0 : Array Value) (hw : ∀ d ∈ tables_1, d.before a0 Z = true) (ws : List Jvm.Cond) (p1 a : Addr) (N : Int32) (S : Int64) (hd : Int32) (x : Int64) (r : List Int64) (t : Int64) (h0 : Heap) (RS : own_Log Z h0 p1 a N S hd (x :: r)) (hl3 : (x :: r).length ≤ 3) :
    own_Met l Z (⟨"com/example/lean_limiter/leanlimiter/ExactLog", "isIdleAt", "(J)Z"⟩ : MethodName) prog_3_method_5_code 3 (some .boolean) ws ({ frames := 2, cells := 0, slots := 0, locals := 27 } : Room) #[(.ref p1), (.long t)] h0 (own_some (fun v h => v = .int (own_idle S ((x :: r).getLastD 0) t) ∧ h = h0)) := by
  obtain ⟨cc, fu, ⟨g1, ga⟩, EX, FC, FSp, FT, FH, FS, FU, AR, hN, hh, hxl, SZ, EL⟩ := id RS
  have hsz : (Int32.ofNat (x :: r).length).toInt = (x :: r).length := own_len0 (by omega)
  have hlc : 0 < (x :: r).length := Nat.succ_pos _
  refine own_met (ls0 := #[.val (.ref p1), .val (.long t), .second]) own_pf21 (fun m => by first | rfl | (simp [entryFrame, mkF, argsToLocals, Value.category, maxLocals]; done)) ?_
  intro p e s m below meth c
  refine own_old (fun O0 => ?_)
  refine own_aloadN 1 rfl d14_0 rfl rfl ?_
  refine own_getF 4 rfl (host := "") (Or.inl (hw _ (List.mem_of_getElem? (i := 101) rfl))) Via.refl FS d14_1 ?_
  have ihc4 : ¬ (Int32.ofNat (x :: r).length).toInt = (0 : Int) := by omega
  have hc4 : ¬ ((Int32.ofNat (x :: r).length) = (0 : Int32)) := own_neq' ihc4
  refine own_ifNo 7 rfl d14_4 (feq hc4).1 ?_
  refine own_lloadN 8 rfl d14_7 rfl ?_
  refine own_ldc2Long 11 rfl (hw _ (List.mem_of_getElem? (i := 133) rfl)) d14_8 ?_
  refine own_aloadN 12 rfl d14_11 rfl rfl ?_
  refine own_getF 15 rfl (host := "") (Or.inl (hw _ (List.mem_of_getElem? (i := 88) rfl))) Via.refl FSp d14_12 ?_
  refine own_ladd 16 rfl d14_15 ?_
  refine own_lcmp 17 rfl d14_16 ?_
  by_cases hc17 : t < ((-9223372036854775808 : Int64) + S)
  · have ihc17 : t.toInt < ((-9223372036854775808 : Int64) + S).toInt := own_ltL hc17
    refine own_ifYes 38 d14_17 (tlt ((lw_lt _ _).mpr hc17)).1 (by decide) (by decide) ?_
    refine own_iconst 39 rfl (0 : Int32) d14_38 rfl ?_
    refine own_retN rfl (by simp) d14_39 (by decide) (by decide) ?_
    exact ⟨_, rfl, by unfold own_idle; rw [if_pos hc17]; first | done | rfl, rfl⟩
  · have ihc17 : ((-9223372036854775808 : Int64) + S).toInt ≤ t.toInt := own_nltL hc17
    refine own_ifNo 20 rfl d14_17 (flt (fun q => hc17 ((lw_lt _ _).mp q))).1 ?_
    refine own_aloadN 21 rfl d14_20 rfl rfl ?_
    refine own_callQ 24 rfl 0 0 0 [] [] (y := (⟨"com/example/lean_limiter/leanlimiter/ExactLog", "newest", "()J"⟩ : MethodName)) (y2 := (⟨"com/example/lean_limiter/leanlimiter/ExactLog", "isIdleAt", "(J)Z"⟩ : MethodName)) (hw _ (List.mem_of_getElem? (i := 140) rfl)) (hw _ (List.mem_of_getElem? (i := 141) rfl)) (hw _ (List.mem_of_getElem? (i := 99) rfl)) (hw _ (List.mem_of_getElem? (i := 98) rfl)) rfl (hw _ (List.mem_of_getElem? (i := 142) rfl)) (hw _ (List.mem_of_getElem? (i := 13) rfl)) (hw _ (List.mem_of_getElem? (i := 143) rfl)) (by decide) EX (rmNewest l Z a0 hw [] p1 a N S hd (x :: r) h0 RS hl3 (List.cons_ne_nil _ _)) d14_21 rfl (lenOf own_pd2 rfl) rfl rfl rfl (by decide) (by decide) rfl rfl (by decide) (by decide) (own_kv fun v1 h1 q1 => ?_)
    obtain ⟨rfl, e1⟩ := q1
    rw [e1]
    refine own_lloadN 25 rfl d14_24 rfl ?_
    refine own_aloadN 26 rfl d14_25 rfl rfl ?_
    refine own_getF 29 rfl (host := "") (Or.inl (hw _ (List.mem_of_getElem? (i := 88) rfl))) Via.refl FSp d14_26 ?_
    refine own_lsub 30 rfl d14_29 ?_
    refine own_lcmp 31 rfl d14_30 ?_
    by_cases hc31 : (t - S) < ((x :: r).getLastD 0)
    · have ihc31 : (t - S).toInt < ((x :: r).getLastD 0).toInt := own_ltL hc31
      refine own_ifYes 38 d14_31 (tlt ((lw_gt _ _).mpr hc31)).2.2.1 (by decide) (by decide) ?_
      refine own_iconst 39 rfl (0 : Int32) d14_38 rfl ?_
      refine own_retN rfl (by simp) d14_39 (by decide) (by decide) ?_
      exact ⟨_, rfl, by unfold own_idle; rw [if_neg hc17, if_pos hc31]; first | done | rfl, rfl⟩
    · have ihc31 : ((x :: r).getLastD 0).toInt ≤ (t - S).toInt := own_nltL hc31
      refine own_ifNo 34 rfl d14_31 (flt (fun q => hc31 ((lw_gt _ _).mp q))).2.2.1 ?_
      refine own_iconst 35 rfl (1 : Int32) d14_34 rfl ?_
      refine own_goto 39 d14_35 (by decide) (by decide) ?_
      refine own_retN rfl (by simp) d14_39 (by decide) (by decide) ?_
      exact ⟨_, rfl, by unfold own_idle; rw [if_neg hc17, if_neg hc31]; first | done | rfl, rfl⟩
def own_maxI32 (a b : Int32) : Int32 := if a < b then b else a
theorem d1_0 : decode jdk_29_method_65_code 0 = .ok (.iload_n 0, 1) := by decide +kernel
theorem d1_1 : decode jdk_29_method_65_code 1 = .ok (.iload_n 1, 1) := by decide +kernel
theorem d1_2 : decode jdk_29_method_65_code 2 = .ok (.if_icmp .lt 7, 3) := by decide +kernel
theorem d1_9 : decode jdk_29_method_65_code 9 = .ok (.iload_n 1, 1) := by decide +kernel
theorem d1_10 : decode jdk_29_method_65_code 10 = .ok (.ireturn, 1) := by decide +kernel
theorem d1_5 : decode jdk_29_method_65_code 5 = .ok (.iload_n 0, 1) := by decide +kernel
theorem d1_6 : decode jdk_29_method_65_code 6 = .ok (.goto 4, 3) := by decide +kernel
theorem own_pf22 : plainFor (⟨"java/lang/Math", "max", "(II)I"⟩ : MethodName) = true := by first | exact plainFor_of_name (by first | (simp [plainName, overriddenIn]; done) | decide +kernel) | decide +kernel
set_option maxRecDepth 65536 in
set_option maxHeartbeats 40000000 in
theorem rmMaxI (l : Launch) (Z : State) (a0 : Array Value) (hw : ∀ d ∈ tables_1, d.before a0 Z = true) (ws : List Jvm.Cond) (x y : Int32) (h0 : Heap)  :
    own_Met l Z (⟨"java/lang/Math", "max", "(II)I"⟩ : MethodName) jdk_29_method_65_code 2 (some .int) ws ({ frames := 0, cells := 0, slots := 0, locals := 0 } : Room) #[(.int x), (.int y)] h0 (own_some (fun v h => v = .int (own_maxI32 x y) ∧ h = h0)) := by
  refine own_met (ls0 := #[.val (.int x), .val (.int y)]) own_pf22 (fun m => by first | rfl | (simp [entryFrame, mkF, argsToLocals, Value.category, maxLocals]; done)) ?_
  intro p e s m below meth c
  refine own_old (fun O0 => ?_)
  refine own_iloadN 1 rfl d1_0 rfl ?_
  refine own_iloadN 2 rfl d1_1 rfl ?_
  by_cases hc2 : x < y
  · have ihc2 : x.toInt < y.toInt := own_lt hc2
    refine own_icmpYes 9 d1_2 (tlt hc2).1 (by decide) (by decide) ?_
    refine own_iloadN 10 rfl d1_9 rfl ?_
    refine own_retI rfl d1_10 (by decide) (by decide) ?_
    exact ⟨_, rfl, by unfold own_maxI32; first | rw [if_pos hc2] | rw [if_neg hc2], rfl⟩
  · have ihc2 : y.toInt ≤ x.toInt := own_nlt hc2
    refine own_icmpNo 5 rfl d1_2 (flt hc2).1 ?_
    refine own_iloadN 6 rfl d1_5 rfl ?_
    refine own_goto 10 d1_6 (by decide) (by decide) ?_
    refine own_retI rfl d1_10 (by decide) (by decide) ?_
    exact ⟨_, rfl, by unfold own_maxI32; first | rw [if_pos hc2] | rw [if_neg hc2], rfl⟩
theorem own_remB {x y : Int64} (h : 0 < y.toInt) : -y.toInt < (x % y).toInt ∧ (x % y).toInt < y.toInt ∧ (0 ≤ x.toInt → 0 ≤ (x % y).toInt) := by
  have e := c_lrem x y y.toInt rfl
  rw [lrem_mod] at e
  have m1 := Int.emod_nonneg x.toInt (by omega : y.toInt ≠ 0)
  have m2 := Int.emod_lt_of_pos x.toInt h
  have m3 := Int.emod_nonneg (-x.toInt) (by omega : y.toInt ≠ 0)
  have m4 := Int.emod_lt_of_pos (-x.toInt) h
  by_cases q : 0 ≤ x.toInt
  · have := e.1 q; exact ⟨by omega, by omega, fun _ => by omega⟩
  · have := e.2 (by omega); exact ⟨by omega, by omega, fun z => absurd z q⟩
theorem own_nB (c : Int32) : 1 ≤ ((1 : Int32) + ((c &&& (2147483647 : Int32)) % (3 : Int32))).toInt ∧ ((1 : Int32) + ((c &&& (2147483647 : Int32)) % (3 : Int32))).toInt ≤ 3 := by
  have c1 := c_mask c 2147483647 31 (by decide) (by decide)
  have c2 := (c_irem (c &&& (2147483647 : Int32)) 3 3 rfl).1 (by rw [c1]; omega)
  have c3 := c_iadd 1 ((c &&& (2147483647 : Int32)) % (3 : Int32))
  have c4 := rng32 ((1 : Int32) + ((c &&& (2147483647 : Int32)) % (3 : Int32)))
  have o1 : (1 : Int32).toInt = 1 := rfl
  omega
theorem own_spB (a : Int64) : 1 ≤ ((1 : Int64) + ((a &&& (9223372036854775807 : Int64)) % (31622400000 : Int64))).toInt ∧ ((1 : Int64) + ((a &&& (9223372036854775807 : Int64)) % (31622400000 : Int64))).toInt ≤ 31622400000 := by
  have c1 := c_maskL a 9223372036854775807 63 (by decide) (by decide)
  have o2 : (31622400000 : Int64).toInt = 31622400000 := rfl
  have c2 := own_remB (x := a &&& (9223372036854775807 : Int64)) (y := 31622400000) (by omega)
  have c3 := c_ladd 1 ((a &&& (9223372036854775807 : Int64)) % (31622400000 : Int64))
  have c4 := rng64 ((1 : Int64) + ((a &&& (9223372036854775807 : Int64)) % (31622400000 : Int64)))
  have o1 : (1 : Int64).toInt = 1 := rfl
  have c5 := c2.2.2 (by rw [c1]; omega)
  omega
theorem own_mulI {x : Int64} {k : Int64} {n : Int} (hk : k.toInt = n) (h1 : -9223372036854775808 ≤ x.toInt * n) (h2 : x.toInt * n < 9223372036854775808) : (x * k).toInt = x.toInt * n := by
  have c := c_lmul x k
  have r := rng64 (x * k)
  rw [hk] at c
  omega
theorem own_mulI' {x : Int64} {k : Int64} {n : Int} (hk : k.toInt = n) (h1 : -9223372036854775808 ≤ n * x.toInt) (h2 : n * x.toInt < 9223372036854775808) : (k * x).toInt = n * x.toInt := by
  have c := c_lmul k x
  have r := rng64 (k * x)
  rw [hk] at c
  omega
theorem own_tB {t g S : Int64} {d : Int} (hS : 1 ≤ S.toInt ∧ S.toInt ≤ 31622400000000) (h1 : -9223372036854775808 ≤ t.toInt - 2 * S.toInt) (h2 : t.toInt + 2 * S.toInt < 9223372036854775808) : t.toInt - 2 * S.toInt ≤ (t + (g % ((2 : Int64) * S))).toInt ∧ (t + (g % ((2 : Int64) * S))).toInt ≤ t.toInt + 2 * S.toInt := by
  have m := own_mulI' (x := S) (k := 2) (n := 2) rfl (by omega) (by omega)
  have r := own_remB (x := g) (y := (2 : Int64) * S) (by omega)
  have c := c_ladd t (g % ((2 : Int64) * S))
  have q := rng64 (t + (g % ((2 : Int64) * S)))
  omega
theorem own_NB {n z : Int32} (h : 0 ≤ n.toInt ∧ n.toInt ≤ 3) : 1 ≤ (own_maxI32 1 n + (z &&& (3 : Int32))).toInt ∧ (own_maxI32 1 n + (z &&& (3 : Int32))).toInt ≤ 6 ∧ n.toInt ≤ (own_maxI32 1 n + (z &&& (3 : Int32))).toInt := by
  have c1 := c_mask z 3 2 (by decide) (by decide)
  have c2 := c_iadd (own_maxI32 1 n) (z &&& (3 : Int32))
  have c3 := rng32 (own_maxI32 1 n + (z &&& (3 : Int32)))
  have o1 : (1 : Int32).toInt = 1 := rfl
  have m : 1 ≤ (own_maxI32 1 n).toInt ∧ n.toInt ≤ (own_maxI32 1 n).toInt ∧ (own_maxI32 1 n).toInt ≤ 3 := by
    unfold own_maxI32
    by_cases q : (1 : Int32) < n
    · have := own_lt q; rw [if_pos q]; omega
    · have := own_nlt q; rw [if_neg q]; omega
  omega
theorem own_maxC (a b : Int64) : own_maxJ a b = own_maxJ b a := by
  unfold own_maxJ
  by_cases q : a < b
  · have := own_ltL q
    rw [if_pos q, if_neg (own_nltL' (by omega))]
  · have q' := own_nltL q
    rw [if_neg q]
    by_cases q2 : b < a
    · rw [if_pos q2]
    · have := own_nltL q2
      rw [if_neg q2]; exact own_eqL' (by omega)
theorem own_lastA {xs : List Int64} {t : Int64} {k : Nat} : (List.drop k xs ++ [own_dec t xs]).getLastD 0 = own_dec t xs := by simp
theorem own_decL {xs : List Int64} {t : Int64} (h : xs ≠ []) : own_dec t xs = own_maxJ (xs.getLastD 0) t := by
  cases xs with
  | nil => exact absurd rfl h
  | cons x r => exact own_maxC _ _
theorem own_idleE {S nw q : Int64} {k : Int32} (hS : 1 ≤ S.toInt ∧ S.toInt ≤ 31622400000000) (h : (k = 1 ∧ nw.toInt + S.toInt ≤ q.toInt ∧ -9223372036854775808 ≤ nw.toInt) ∨ (k = 0 ∧ q.toInt < nw.toInt + S.toInt)) : own_idle S nw q = k := by
  have c := c_ladd (-9223372036854775808 : Int64) S
  have r := rng64 ((-9223372036854775808 : Int64) + S)
  have o : (-9223372036854775808 : Int64).toInt = -9223372036854775808 := rfl
  have c2 := c_lsub q S
  have r2 := rng64 (q - S)
  have r3 := rng64 q
  have r4 := rng64 nw
  unfold own_idle
  by_cases q1 : q < (-9223372036854775808 : Int64) + S
  · have := own_ltL q1
    rw [if_pos q1]
    rcases h with ⟨-, h, -⟩ | ⟨h, -⟩
    · omega
    · exact h.symm
  · have := own_nltL q1
    rw [if_neg q1]
    by_cases q2 : q - S < nw
    · have := own_ltL q2
      rw [if_pos q2]
      rcases h with ⟨-, h, -⟩ | ⟨h, -⟩
      · omega
      · exact h.symm
    · have := own_nltL q2
      rw [if_neg q2]
      rcases h with ⟨h, -⟩ | ⟨-, h⟩
      · exact h.symm
      · omega
theorem own_pd13 : parseMethodDescriptor "(IJ)V" = some ⟨[.int, .long], none⟩ := by decide +kernel
theorem own_pd14 : parseMethodDescriptor "(J)Z" = some ⟨[.long], some .boolean⟩ := by decide +kernel
theorem own_pf23 : plainFor (⟨"com/example/lean_limiter/leanlimiter/ExactLogIsIdleAtPinLaw", "law", "(IJJJJJ)Z"⟩ : MethodName) = true := by first | exact plainFor_of_name (by first | (simp [plainName, overriddenIn]; done) | decide +kernel) | decide +kernel
set_option maxRecDepth 65536 in
set_option maxHeartbeats 40000000 in
theorem rm0 (l : Launch) (Z : State) (a0 : Array Value) (hw : ∀ d ∈ tables_1, d.before a0 Z = true) (ws : List Jvm.Cond) (ac : Int32) (asp tt1 tt2 tt3 qq : Int64) (w_KEY : Addr) (h0 : Heap) (I : own_Ini Z w_KEY)  :
    own_Met l Z x code maxLocals ret ws room_1 #[(.int ac), (.long asp), (.long tt1), (.long tt2), (.long tt3), (.long qq)] h0 (own_some (fun v h => v = .int 1)) := by
  have I' := I
  obtain ⟨S_w_KEY, E_w_KEY, S_MAX_SPAN_MILLIS⟩ := I'
  refine own_met (ls0 := #[.val (.int ac), .val (.long asp), .second, .val (.long tt1), .second, .val (.long tt2), .second, .val (.long tt3), .second, .val (.long qq), .second, .unset, .unset, .unset, .unset, .unset, .unset, .unset, .unset, .unset, .unset, .unset, .unset, .unset, .unset, .unset, .unset, .unset, .unset, .unset]) own_pf23 (fun m => by simp [entryFrame, mkF, argsToLocals, Value.category, maxLocals]) ?_
  intro p e s m below meth c
  refine own_old (fun O0 => ?_)
  refine own_iloadN 1 rfl at_0 rfl ?_
  refine own_iconst 2 rfl (3 : Int32) at_1 rfl ?_
  refine own_iand 3 rfl at_2 ?_
  have hn0 := c_mask ac 3 2 (by decide) (by decide)
  have hnb : 0 ≤ (ac &&& (3 : Int32)).toInt ∧ (ac &&& (3 : Int32)).toInt ≤ 3 := by omega
  generalize (ac &&& (3 : Int32)) = n at hnb ⊢
  refine own_istore 5 rfl #[.val (.int ac), .val (.long asp), .second, .val (.long tt1), .second, .val (.long tt2), .second, .val (.long tt3), .second, .val (.long qq), .second, .val (.int n), .unset, .unset, .unset, .unset, .unset, .unset, .unset, .unset, .unset, .unset, .unset, .unset, .unset, .unset, .unset, .unset, .unset, .unset] at_3 rfl ?_
  refine own_iconst 6 rfl (1 : Int32) at_5 rfl ?_
  refine own_iload 8 rfl at_6 rfl ?_
  refine own_callS 11 rfl 0 0 0 [(.int (1 : Int32)), (.int n)] [] (y := (⟨"java/lang/Math", "max", "(II)I"⟩ : MethodName)) (hw _ (List.mem_of_getElem? (i := 0) rfl)) (hw _ (List.mem_of_getElem? (i := 1) rfl)) (hw _ (List.mem_of_getElem? (i := 2) rfl)) (hw _ (List.mem_of_getElem? (i := 3) rfl)) (by decide) (rmMaxI l Z a0 hw [] (1 : Int32) n h0) at_8 rfl (lenOf own_pd12 rfl) rfl rfl rfl (by decide) (by decide) rfl rfl (by decide) (by decide) (own_kv fun v1 h1 q1 => ?_)
  obtain ⟨rfl, e1⟩ := q1
  rw [e1]
  refine own_iloadN 12 rfl at_11 rfl ?_
  refine own_iconst 13 rfl (2 : Int32) at_12 rfl ?_
  refine own_iushr 14 rfl at_13 ?_
  refine own_iconst 15 rfl (3 : Int32) at_14 rfl ?_
  refine own_iand 16 rfl at_15 ?_
  refine own_iadd 17 rfl at_16 ?_
  obtain ⟨N, hNe⟩ : ∃ N, N = ((own_maxI32 1 n) + (((ac.toUInt32 >>> ((2 : Int32) &&& 31).toUInt32).toInt32) &&& (3 : Int32))) := ⟨_, rfl⟩
  have hN3 : 1 ≤ N.toInt ∧ N.toInt ≤ 6 ∧ n.toInt ≤ N.toInt := by rw [hNe]; exact own_NB hnb
  rw [← hNe]
  have hN : 1 ≤ N.toInt ∧ N.toInt ≤ 6 := ⟨hN3.1, hN3.2.1⟩
  refine own_istore 19 rfl #[.val (.int ac), .val (.long asp), .second, .val (.long tt1), .second, .val (.long tt2), .second, .val (.long tt3), .second, .val (.long qq), .second, .val (.int n), .val (.int N), .unset, .unset, .unset, .unset, .unset, .unset, .unset, .unset, .unset, .unset, .unset, .unset, .unset, .unset, .unset, .unset, .unset] at_17 rfl ?_
  refine own_lconst 20 rfl (1 : Int64) at_19 rfl ?_
  refine own_lloadN 21 rfl at_20 rfl ?_
  refine own_ldc2Long 24 rfl (hw _ (List.mem_of_getElem? (i := 4) rfl)) at_21 ?_
  refine own_land 25 rfl at_24 ?_
  refine own_ldc2Long 28 rfl (hw _ (List.mem_of_getElem? (i := 5) rfl)) at_25 ?_
  refine own_lrem 29 rfl at_28 (by decide) ?_
  refine own_ladd 30 rfl at_29 ?_
  have hsp := own_spB asp
  generalize ((1 : Int64) + ((asp &&& (9223372036854775807 : Int64)) % (31622400000 : Int64))) = sp at hsp ⊢
  refine own_lstore 32 rfl #[.val (.int ac), .val (.long asp), .second, .val (.long tt1), .second, .val (.long tt2), .second, .val (.long tt3), .second, .val (.long qq), .second, .val (.int n), .val (.int N), .val (.long sp), .second, .unset, .unset, .unset, .unset, .unset, .unset, .unset, .unset, .unset, .unset, .unset, .unset, .unset, .unset, .unset] at_30 rfl ?_
  refine own_lload 34 rfl at_32 rfl ?_
  refine own_ldc2Long 37 rfl (hw _ (List.mem_of_getElem? (i := 6) rfl)) at_34 ?_
  refine own_lmul 38 rfl at_37 ?_
  have hSI := own_mulI (x := sp) (k := 1000) (n := 1000) rfl (by omega) (by omega)
  obtain ⟨S, hS⟩ : ∃ S, S = sp * (1000 : Int64) := ⟨_, rfl⟩
  rw [← hS] at hSI
  rw [← hS]
  have hSB : 1 ≤ S.toInt ∧ S.toInt ≤ 31622400000000 := by omega
  refine own_lstore 40 rfl #[.val (.int ac), .val (.long asp), .second, .val (.long tt1), .second, .val (.long tt2), .second, .val (.long tt3), .second, .val (.long qq), .second, .val (.int n), .val (.int N), .val (.long sp), .second, .val (.long S), .second, .unset, .unset, .unset, .unset, .unset, .unset, .unset, .unset, .unset, .unset, .unset, .unset, .unset] at_38 rfl ?_
  refine own_ldc2Long 43 rfl (hw _ (List.mem_of_getElem? (i := 7) rfl)) at_40 ?_
  refine own_lload 45 rfl at_43 rfl ?_
  refine own_ladd 46 rfl at_45 ?_
  have hA : ((-9223372036854775808 : Int64) + S).toInt = -9223372036854775808 + S.toInt := by have c := c_ladd (-9223372036854775808 : Int64) S; have r := rng64 ((-9223372036854775808 : Int64) + S); have o : (-9223372036854775808 : Int64).toInt = -9223372036854775808 := rfl; omega
  generalize ((-9223372036854775808 : Int64) + S) = L0 at hA ⊢
  refine own_lstore 48 rfl #[.val (.int ac), .val (.long asp), .second, .val (.long tt1), .second, .val (.long tt2), .second, .val (.long tt3), .second, .val (.long qq), .second, .val (.int n), .val (.int N), .val (.long sp), .second, .val (.long S), .second, .val (.long L0), .second, .unset, .unset, .unset, .unset, .unset, .unset, .unset, .unset, .unset, .unset, .unset] at_46 rfl ?_
  refine own_lloadN 49 rfl at_48 rfl ?_
  refine own_lload 51 rfl at_49 rfl ?_
  refine own_callS 54 rfl 0 0 0 [(.long tt1), (.long L0)] [] (y := (⟨"java/lang/Math", "max", "(JJ)J"⟩ : MethodName)) (hw _ (List.mem_of_getElem? (i := 8) rfl)) (hw _ (List.mem_of_getElem? (i := 9) rfl)) (hw _ (List.mem_of_getElem? (i := 2) rfl)) (hw _ (List.mem_of_getElem? (i := 10) rfl)) (by decide) (rmmaxJ l Z a0 hw [] tt1 L0  h0 ) at_51 rfl (lenOf own_pd1 rfl) rfl rfl rfl (by decide) (by decide) rfl rfl (by decide) (by decide) (own_kv fun v2 h2 q2 => ?_)
  obtain ⟨rfl, e2⟩ := q2
  rw [e2]
  have hm1 := own_maxI tt1 L0
  have hq1 := rng64 (own_maxJ tt1 L0)
  generalize (own_maxJ tt1 L0) = r1 at hm1 hq1 ⊢
  have hr1 : L0.toInt ≤ r1.toInt ∧ r1.toInt ≤ 9223372036854775807 := by omega
  refine own_lstore 56 rfl #[.val (.int ac), .val (.long asp), .second, .val (.long tt1), .second, .val (.long tt2), .second, .val (.long tt3), .second, .val (.long qq), .second, .val (.int n), .val (.int N), .val (.long sp), .second, .val (.long S), .second, .val (.long L0), .second, .val (.long r1), .second, .unset, .unset, .unset, .unset, .unset, .unset, .unset, .unset, .unset] at_54 rfl ?_
  refine own_lload 58 rfl at_56 rfl ?_
  refine own_lload 60 rfl at_58 rfl ?_
  refine own_callS 63 rfl 0 0 0 [(.long tt2), (.long L0)] [] (y := (⟨"java/lang/Math", "max", "(JJ)J"⟩ : MethodName)) (hw _ (List.mem_of_getElem? (i := 8) rfl)) (hw _ (List.mem_of_getElem? (i := 9) rfl)) (hw _ (List.mem_of_getElem? (i := 2) rfl)) (hw _ (List.mem_of_getElem? (i := 10) rfl)) (by decide) (rmmaxJ l Z a0 hw [] tt2 L0  h0 ) at_60 rfl (lenOf own_pd1 rfl) rfl rfl rfl (by decide) (by decide) rfl rfl (by decide) (by decide) (own_kv fun v3 h3 q3 => ?_)
  obtain ⟨rfl, e3⟩ := q3
  rw [e3]
  have hm2 := own_maxI tt2 L0
  have hq2 := rng64 (own_maxJ tt2 L0)
  generalize (own_maxJ tt2 L0) = r2 at hm2 hq2 ⊢
  have hr2 : L0.toInt ≤ r2.toInt ∧ r2.toInt ≤ 9223372036854775807 := by omega
  refine own_lstore 65 rfl #[.val (.int ac), .val (.long asp), .second, .val (.long tt1), .second, .val (.long tt2), .second, .val (.long tt3), .second, .val (.long qq), .second, .val (.int n), .val (.int N), .val (.long sp), .second, .val (.long S), .second, .val (.long L0), .second, .val (.long r1), .second, .val (.long r2), .second, .unset, .unset, .unset, .unset, .unset, .unset, .unset] at_63 rfl ?_
  refine own_lload 67 rfl at_65 rfl ?_
  refine own_lload 69 rfl at_67 rfl ?_
  refine own_callS 72 rfl 0 0 0 [(.long tt3), (.long L0)] [] (y := (⟨"java/lang/Math", "max", "(JJ)J"⟩ : MethodName)) (hw _ (List.mem_of_getElem? (i := 8) rfl)) (hw _ (List.mem_of_getElem? (i := 9) rfl)) (hw _ (List.mem_of_getElem? (i := 2) rfl)) (hw _ (List.mem_of_getElem? (i := 10) rfl)) (by decide) (rmmaxJ l Z a0 hw [] tt3 L0  h0 ) at_69 rfl (lenOf own_pd1 rfl) rfl rfl rfl (by decide) (by decide) rfl rfl (by decide) (by decide) (own_kv fun v4 h4 q4 => ?_)
  obtain ⟨rfl, e4⟩ := q4
  rw [e4]
  have hm3 := own_maxI tt3 L0
  have hq3 := rng64 (own_maxJ tt3 L0)
  generalize (own_maxJ tt3 L0) = r3 at hm3 hq3 ⊢
  have hr3 : L0.toInt ≤ r3.toInt ∧ r3.toInt ≤ 9223372036854775807 := by omega
  refine own_lstore 74 rfl #[.val (.int ac), .val (.long asp), .second, .val (.long tt1), .second, .val (.long tt2), .second, .val (.long tt3), .second, .val (.long qq), .second, .val (.int n), .val (.int N), .val (.long sp), .second, .val (.long S), .second, .val (.long L0), .second, .val (.long r1), .second, .val (.long r2), .second, .val (.long r3), .second, .unset, .unset, .unset, .unset, .unset] at_72 rfl ?_
  refine own_newO 77 rfl 1 9 (hw _ (List.mem_of_getElem? (i := 11) rfl)) (hw _ (List.mem_of_getElem? (i := 12) rfl)) (hw _ (List.mem_of_getElem? (i := 13) rfl)) at_74 rfl rfl (by decide) (by decide) (fun h5 b5 z5 g_b5 E5 X_b5 D5 => ?_)
  have ne_w_KEY_b5 : w_KEY ≠ b5 := Nat.ne_of_lt (Nat.lt_of_lt_of_le (E_w_KEY.ext O0.2).lt (Nat.le_of_eq z5.symm))
  have F5_fullUntil : Fld Z h5 b5 "com/example/lean_limiter/leanlimiter/Tally" "fullUntil" "J" (.long (0 : Int64)) := D5 (Or.inl (hw _ (List.mem_of_getElem? (i := 70) rfl))) (ty := .long) (by decide)
  have F5_rule : Fld Z h5 b5 "com/example/lean_limiter/leanlimiter/Tally" "rule" "Lcom/example/lean_limiter/leanlimiter/Rule;" .null := D5 (Or.inr (hw _ (List.mem_of_getElem? (i := 72) rfl))) (ty := (.object "com/example/lean_limiter/leanlimiter/Rule")) (by decide)
  have F5_serial : Fld Z h5 b5 "com/example/lean_limiter/leanlimiter/Tally" "serial" "J" (.long (0 : Int64)) := D5 (Or.inr (hw _ (List.mem_of_getElem? (i := 74) rfl))) (ty := .long) (by decide)
  have F5_count : Fld Z h5 b5 "com/example/lean_limiter/leanlimiter/ExactLog" "count" "I" (.int (0 : Int32)) := D5 (Or.inr (hw _ (List.mem_of_getElem? (i := 81) rfl))) (ty := .int) (by decide)
  have F5_spanMicros : Fld Z h5 b5 "com/example/lean_limiter/leanlimiter/ExactLog" "spanMicros" "J" (.long (0 : Int64)) := D5 (Or.inr (hw _ (List.mem_of_getElem? (i := 89) rfl))) (ty := .long) (by decide)
  have F5_times : Fld Z h5 b5 "com/example/lean_limiter/leanlimiter/ExactLog" "times" "[J" .null := D5 (Or.inl (hw _ (List.mem_of_getElem? (i := 95) rfl))) (ty := (.array .long)) (by decide)
  have F5_size : Fld Z h5 b5 "com/example/lean_limiter/leanlimiter/ExactLog" "size" "I" (.int (0 : Int32)) := D5 (Or.inl (hw _ (List.mem_of_getElem? (i := 102) rfl))) (ty := .int) (by decide)
  have F5_head : Fld Z h5 b5 "com/example/lean_limiter/leanlimiter/ExactLog" "head" "I" (.int (0 : Int32)) := D5 (Or.inl (hw _ (List.mem_of_getElem? (i := 128) rfl))) (ty := .int) (by decide)
  refine own_dup 78 rfl at_77 rfl ?_
  refine own_newO 81 rfl 2 13 (hw _ (List.mem_of_getElem? (i := 14) rfl)) (hw _ (List.mem_of_getElem? (i := 15) rfl)) (hw _ (List.mem_of_getElem? (i := 16) rfl)) at_78 rfl rfl (by decide) (by decide) (fun h6 b6 z6 g_b6 E6 X_b6 D6 => ?_)
  have ne_w_KEY_b6 : w_KEY ≠ b6 := Nat.ne_of_lt (Nat.lt_of_lt_of_le ((E_w_KEY.ext O0.2).ext E5).lt (Nat.le_of_eq z6.symm))
  have ne_b5_b6 : b5 ≠ b6 := Nat.ne_of_lt (Nat.lt_of_lt_of_le X_b5.lt (Nat.le_of_eq z6.symm))
  have F6_count : Fld Z h6 b6 "com/example/lean_limiter/leanlimiter/Rule" "count" "I" (.int (0 : Int32)) := D6 (Or.inr (hw _ (List.mem_of_getElem? (i := 52) rfl))) (ty := .int) (by decide)
  have F6_spanMillis : Fld Z h6 b6 "com/example/lean_limiter/leanlimiter/Rule" "spanMillis" "J" (.long (0 : Int64)) := D6 (Or.inr (hw _ (List.mem_of_getElem? (i := 54) rfl))) (ty := .long) (by decide)
  have F6_scope : Fld Z h6 b6 "com/example/lean_limiter/leanlimiter/Rule" "scope" "Lcom/example/lean_limiter/leanlimiter/Scope;" .null := D6 (Or.inr (hw _ (List.mem_of_getElem? (i := 56) rfl))) (ty := (.object "com/example/lean_limiter/leanlimiter/Scope")) (by decide)
  have F6_slots : Fld Z h6 b6 "com/example/lean_limiter/leanlimiter/Rule" "slots" "I" (.int (0 : Int32)) := D6 (Or.inr (hw _ (List.mem_of_getElem? (i := 58) rfl))) (ty := .int) (by decide)
  refine own_dup 82 rfl at_81 rfl ?_
  have hn1 := hN.1
  have hs1 := hsp.1
  have hs2 := hsp.2
  refine own_iload 84 rfl at_82 rfl ?_
  refine own_lload 86 rfl at_84 rfl ?_
  refine own_callI 89 rfl 4 37 3 [(.int N), (.long sp)] [(.ref b6), (.ref b5), (.ref b5)] (y := (⟨"com/example/lean_limiter/leanlimiter/Rule", "<init>", "(IJ)V"⟩ : MethodName)) rfl (hw _ (List.mem_of_getElem? (i := 17) rfl)) (hw _ (List.mem_of_getElem? (i := 18) rfl)) (hw _ (List.mem_of_getElem? (i := 16) rfl)) (hw _ (List.mem_of_getElem? (i := 19) rfl)) (by decide) (rmRule l Z a0 hw [] b6 N sp w_KEY h6 I g_b6 X_b6 F6_count F6_spanMillis F6_scope F6_slots hn1 hs1 hs2) at_86 rfl (lenOf own_pd13 rfl) rfl rfl rfl (by decide) (by decide) rfl rfl (by decide) (by decide) (own_k0 fun h7 q7 => ?_)
  obtain ⟨K7, Gc7, Gs7⟩ := q7
  refine own_lconst 90 rfl (0 : Int64) at_89 rfl ?_
  refine own_callI 93 rfl 5 45 1 [(.ref b6), (.long (0 : Int64))] [(.ref b5)] (y := (⟨"com/example/lean_limiter/leanlimiter/ExactLog", "<init>", "(Lcom/example/lean_limiter/leanlimiter/Rule;J)V"⟩ : MethodName)) rfl (hw _ (List.mem_of_getElem? (i := 59) rfl)) (hw _ (List.mem_of_getElem? (i := 60) rfl)) (hw _ (List.mem_of_getElem? (i := 13) rfl)) (hw _ (List.mem_of_getElem? (i := 61) rfl)) (by decide) (rmLog l Z a0 hw [] b5 b6 N sp h7 g_b5 ((X_b5.ext E6).keep K7) ((F5_fullUntil.ext E6).keep K7 (ninS ne_b5_b6 nin0)) ((F5_rule.ext E6).keep K7 (ninS ne_b5_b6 nin0)) ((F5_serial.ext E6).keep K7 (ninS ne_b5_b6 nin0)) ((F5_count.ext E6).keep K7 (ninS ne_b5_b6 nin0)) ((F5_spanMicros.ext E6).keep K7 (ninS ne_b5_b6 nin0)) ((F5_times.ext E6).keep K7 (ninS ne_b5_b6 nin0)) ((F5_head.ext E6).keep K7 (ninS ne_b5_b6 nin0)) ((F5_size.ext E6).keep K7 (ninS ne_b5_b6 nin0)) (X_b6.keep K7) Gc7 Gs7 (Ne.symm ne_b5_b6) hN.1 (by omega)) at_90 rfl (lenOf own_pd10 rfl) rfl rfl rfl (by decide) (by decide) rfl rfl (by decide) (by decide) (own_k0 fun h8 q8 => ?_)
  obtain ⟨a, RS⟩ := q8
  obtain ⟨hd, hhd⟩ : ∃ z : Int32, z = 0 := ⟨_, rfl⟩
  obtain ⟨xs, hxs⟩ : ∃ z : List Int64, z = [] := ⟨_, rfl⟩
  rw [← hS, ← hhd, ← hxs] at RS
  have PX : own_P L0.toInt 9223372036854775807 xs := by rw [hxs]; exact ⟨List.Pairwise.nil, fun x hx => by simp at hx⟩
  have hxl : xs.length ≤ 0 := by rw [hxs]; exact Nat.le_refl _
  refine own_astore 95 rfl #[.val (.int ac), .val (.long asp), .second, .val (.long tt1), .second, .val (.long tt2), .second, .val (.long tt3), .second, .val (.long qq), .second, .val (.int n), .val (.int N), .val (.long sp), .second, .val (.long S), .second, .val (.long L0), .second, .val (.long r1), .second, .val (.long r2), .second, .val (.long r3), .second, .val (.ref b5), .unset, .unset, .unset, .unset] at_93 rfl rfl ?_
  refine own_ldc2Long 98 rfl (hw _ (List.mem_of_getElem? (i := 7) rfl)) at_95 ?_
  refine own_lstore 100 rfl #[.val (.int ac), .val (.long asp), .second, .val (.long tt1), .second, .val (.long tt2), .second, .val (.long tt3), .second, .val (.long qq), .second, .val (.int n), .val (.int N), .val (.long sp), .second, .val (.long S), .second, .val (.long L0), .second, .val (.long r1), .second, .val (.long r2), .second, .val (.long r3), .second, .val (.ref b5), .val (.long (-9223372036854775808 : Int64)), .second, .unset, .unset] at_98 rfl ?_
  have hr_n : n = (0 : Int32) ∨ n = (1 : Int32) ∨ n = (2 : Int32) ∨ n = (3 : Int32) := by
    have hrz : n.toInt = 0 ∨ n.toInt = 1 ∨ n.toInt = 2 ∨ n.toInt = 3 := by omega
    rcases hrz with q | q | q | q
    · exact Or.inl (own_eq' q)
    · exact Or.inr (Or.inl (own_eq' q))
    · exact Or.inr (Or.inr (Or.inl (own_eq' q)))
    · exact Or.inr (Or.inr (Or.inr (own_eq' q)))
  rcases hr_n with rfl | rfl | rfl | rfl
  · have hin_n := (rfl : (0 : Int) = 0)
    refine own_iload 102 rfl at_100 rfl ?_
    have hNk : (0 : Int) ≤ N.toInt := hN3.2.2
    refine own_iconst 103 rfl (1 : Int32) at_102 rfl ?_
    refine own_icmpYes 117 at_103 (tlt (by decide : (0 : Int32) < (1 : Int32))).1 (by decide) (by decide) ?_
    refine own_iload 119 rfl at_117 rfl ?_
    refine own_iconst 120 rfl (2 : Int32) at_119 rfl ?_
    refine own_icmpYes 139 at_120 (tlt (by decide : (0 : Int32) < (2 : Int32))).1 (by decide) (by decide) ?_
    refine own_iload 141 rfl at_139 rfl ?_
    refine own_iconst 142 rfl (3 : Int32) at_141 rfl ?_
    refine own_icmpYes 161 at_142 (tlt (by decide : (0 : Int32) < (3 : Int32))).1 (by decide) (by decide) ?_
    refine own_aload 163 rfl at_161 rfl rfl ?_
    refine own_lload 165 rfl at_163 rfl ?_
    rw [hxs] at RS
    refine own_callV 168 rfl 5 45 0 [(.long qq)] [] (y := (⟨"com/example/lean_limiter/leanlimiter/ExactLog", "isIdleAt", "(J)Z"⟩ : MethodName)) (z := (⟨"com/example/lean_limiter/leanlimiter/ExactLog", "isIdleAt", "(J)Z"⟩ : MethodName)) (hw _ (List.mem_of_getElem? (i := 96) rfl)) (hw _ (List.mem_of_getElem? (i := 97) rfl)) (fun hZ => notFace_of_selects (args := #[]) (mvT hZ (hw _ (List.mem_of_getElem? (i := 99) rfl)))) (hw _ (List.mem_of_getElem? (i := 99) rfl)) (hw _ (List.mem_of_getElem? (i := 98) rfl)) (hw _ (List.mem_of_getElem? (i := 13) rfl)) (hw _ (List.mem_of_getElem? (i := 100) rfl)) (by decide) (own_log_facts RS).2.1 (rmIdle0 l Z a0 hw [] b5 a N S hd qq h8 RS) at_165 rfl (lenOf own_pd14 rfl) rfl rfl rfl (by decide) (by decide) rfl rfl (by decide) (by decide) (own_kv fun v9 h9 q9 => ?_)
    obtain ⟨rfl, e9⟩ := q9
    rw [e9]
    refine own_istore 170 rfl #[.val (.int ac), .val (.long asp), .second, .val (.long tt1), .second, .val (.long tt2), .second, .val (.long tt3), .second, .val (.long qq), .second, .val (.int (0 : Int32)), .val (.int N), .val (.long sp), .second, .val (.long S), .second, .val (.long L0), .second, .val (.long r1), .second, .val (.long r2), .second, .val (.long r3), .second, .val (.ref b5), .val (.long (-9223372036854775808 : Int64)), .second, .val (.int (1 : Int32)), .unset] at_168 rfl ?_
    refine own_iload 172 rfl at_170 rfl ?_
    refine own_ifNo 175 rfl at_172 (teq (rfl : (0 : Int32) = (0 : Int32))).2 ?_
    refine own_iconst 176 rfl (1 : Int32) at_175 rfl ?_
    refine own_istore 178 rfl #[.val (.int ac), .val (.long asp), .second, .val (.long tt1), .second, .val (.long tt2), .second, .val (.long tt3), .second, .val (.long qq), .second, .val (.int (0 : Int32)), .val (.int N), .val (.long sp), .second, .val (.long S), .second, .val (.long L0), .second, .val (.long r1), .second, .val (.long r2), .second, .val (.long r3), .second, .val (.ref b5), .val (.long (-9223372036854775808 : Int64)), .second, .val (.int (1 : Int32)), .val (.int (1 : Int32))] at_176 rfl ?_
    refine own_goto 241 at_178 (by decide) (by decide) ?_
    refine own_iload 243 rfl at_241 rfl ?_
    refine own_iload 245 rfl at_243 rfl ?_
    refine own_icmpNo 248 rfl at_245 (teq (rfl : (1 : Int32) = (1 : Int32))).2 ?_
    refine own_iconst 249 rfl (1 : Int32) at_248 rfl ?_
    refine own_goto 253 at_249 (by decide) (by decide) ?_
    refine own_retN rfl (by simp) at_253 (by decide) (by decide) ?_
    exact ⟨_, rfl, rfl⟩
  · have hin_n := (rfl : (1 : Int) = 1)
    refine own_iload 102 rfl at_100 rfl ?_
    have hNk : (1 : Int) ≤ N.toInt := hN3.2.2
    refine own_iconst 103 rfl (1 : Int32) at_102 rfl ?_
    refine own_icmpNo 106 rfl at_103 (flt (by decide : ¬ ((1 : Int32) < (1 : Int32)))).1 ?_
    refine own_aload 108 rfl at_106 rfl rfl ?_
    refine own_lload 110 rfl at_108 rfl ?_
    have hl3 : xs.length ≤ 3 := by omega
    have hs := own_sorted_of xs PX.1
    have hf := own_fit (S := S) PX hr1 (by omega) (by omega) (by omega)
    refine own_callV 113 rfl 5 45 0 [(.long r1)] [] (y := (⟨"com/example/lean_limiter/leanlimiter/ExactLog", "record", "(J)V"⟩ : MethodName)) (z := (⟨"com/example/lean_limiter/leanlimiter/ExactLog", "record", "(J)V"⟩ : MethodName)) (hw _ (List.mem_of_getElem? (i := 103) rfl)) (hw _ (List.mem_of_getElem? (i := 104) rfl)) (fun hZ => notFace_of_selects (args := #[]) (mvT hZ (hw _ (List.mem_of_getElem? (i := 106) rfl)))) (hw _ (List.mem_of_getElem? (i := 106) rfl)) (hw _ (List.mem_of_getElem? (i := 105) rfl)) (hw _ (List.mem_of_getElem? (i := 13) rfl)) (hw _ (List.mem_of_getElem? (i := 107) rfl)) (by decide) (own_log_facts RS).2.1 (rmRec l Z a0 hw [] b5 a N S hd xs r1 h8 RS hl3 hs hf (by omega)) at_110 rfl (lenOf own_pd5 rfl) rfl rfl rfl (by decide) (by decide) rfl rfl (by decide) (by decide) (own_k0 fun h10 q10 => ?_)
    obtain ⟨hd, RS⟩ := q10
    have PX := own_step (k := own_left (own_dec r1 xs - S) xs) PX hr1
    have hlast : (List.drop (own_left (own_dec r1 xs - S) xs) xs ++ [own_dec r1 xs]).getLastD 0 = r1 := by rw [own_lastA]; rw [hxs]; rfl
    have hne : List.drop (own_left (own_dec r1 xs - S) xs) xs ++ [own_dec r1 xs] ≠ [] := by simp
    have hxl : (List.drop (own_left (own_dec r1 xs - S) xs) xs ++ [own_dec r1 xs]).length ≤ 1 := by rw [List.length_append, List.length_drop]; show _ + 1 ≤ _; omega
    generalize List.drop (own_left (own_dec r1 xs - S) xs) xs ++ [own_dec r1 xs] = xs at RS PX hne hlast hxl
    refine own_lload 115 rfl at_113 rfl ?_
    refine own_lstore 117 rfl #[.val (.int ac), .val (.long asp), .second, .val (.long tt1), .second, .val (.long tt2), .second, .val (.long tt3), .second, .val (.long qq), .second, .val (.int (1 : Int32)), .val (.int N), .val (.long sp), .second, .val (.long S), .second, .val (.long L0), .second, .val (.long r1), .second, .val (.long r2), .second, .val (.long r3), .second, .val (.ref b5), .val (.long r1), .second, .unset, .unset] at_115 rfl ?_
    refine own_iload 119 rfl at_117 rfl ?_
    refine own_iconst 120 rfl (2 : Int32) at_119 rfl ?_
    refine own_icmpYes 139 at_120 (tlt (by decide : (1 : Int32) < (2 : Int32))).1 (by decide) (by decide) ?_
    refine own_iload 141 rfl at_139 rfl ?_
    refine own_iconst 142 rfl (3 : Int32) at_141 rfl ?_
    refine own_icmpYes 161 at_142 (tlt (by decide : (1 : Int32) < (3 : Int32))).1 (by decide) (by decide) ?_
    refine own_aload 163 rfl at_161 rfl rfl ?_
    refine own_lload 165 rfl at_163 rfl ?_
    have hlm := PX.2
    have hmx := rng64 (xs.getLastD 0)
    obtain ⟨x, r, rfl⟩ := List.exists_cons_of_ne_nil hne
    refine own_callV 168 rfl 5 45 0 [(.long qq)] [] (y := (⟨"com/example/lean_limiter/leanlimiter/ExactLog", "isIdleAt", "(J)Z"⟩ : MethodName)) (z := (⟨"com/example/lean_limiter/leanlimiter/ExactLog", "isIdleAt", "(J)Z"⟩ : MethodName)) (hw _ (List.mem_of_getElem? (i := 96) rfl)) (hw _ (List.mem_of_getElem? (i := 97) rfl)) (fun hZ => notFace_of_selects (args := #[]) (mvT hZ (hw _ (List.mem_of_getElem? (i := 99) rfl)))) (hw _ (List.mem_of_getElem? (i := 99) rfl)) (hw _ (List.mem_of_getElem? (i := 98) rfl)) (hw _ (List.mem_of_getElem? (i := 13) rfl)) (hw _ (List.mem_of_getElem? (i := 100) rfl)) (by decide) (own_log_facts RS).2.1 (rmIdle l Z a0 hw [] b5 a N S hd x r qq h10 RS (by omega)) at_165 rfl (lenOf own_pd14 rfl) rfl rfl rfl (by decide) (by decide) rfl rfl (by decide) (by decide) (own_kv fun v11 h11 q11 => ?_)
    obtain ⟨rfl, e11⟩ := q11
    rw [e11]
    rw [hlast] at hmx ⊢
    refine own_istore 170 rfl #[.val (.int ac), .val (.long asp), .second, .val (.long tt1), .second, .val (.long tt2), .second, .val (.long tt3), .second, .val (.long qq), .second, .val (.int (1 : Int32)), .val (.int N), .val (.long sp), .second, .val (.long S), .second, .val (.long L0), .second, .val (.long r1), .second, .val (.long r2), .second, .val (.long r3), .second, .val (.ref b5), .val (.long r1), .second, .val (.int (own_idle S r1 qq)), .unset] at_168 rfl ?_
    refine own_iload 172 rfl at_170 rfl ?_
    refine own_ifYes 181 at_172 (feq (by decide : ¬ ((1 : Int32) = (0 : Int32)))).2 (by decide) (by decide) ?_
    refine own_lload 183 rfl at_181 rfl ?_
    refine own_lload 185 rfl at_183 rfl ?_
    refine own_lcmp 186 rfl at_185 ?_
    by_cases hc186 : qq < r1
    · have ihc186 : qq.toInt < r1.toInt := own_ltL hc186
      refine own_ifNo 189 rfl at_186 (tlt ((lw_gt _ _).mpr hc186)).2.2.2 ?_
      refine own_iconst 190 rfl (0 : Int32) at_189 rfl ?_
      refine own_istore 192 rfl #[.val (.int ac), .val (.long asp), .second, .val (.long tt1), .second, .val (.long tt2), .second, .val (.long tt3), .second, .val (.long qq), .second, .val (.int (1 : Int32)), .val (.int N), .val (.long sp), .second, .val (.long S), .second, .val (.long L0), .second, .val (.long r1), .second, .val (.long r2), .second, .val (.long r3), .second, .val (.ref b5), .val (.long r1), .second, .val (.int (own_idle S r1 qq)), .val (.int (0 : Int32))] at_190 rfl ?_
      refine own_goto 241 at_192 (by decide) (by decide) ?_
      rw [own_idleE (k := (0 : Int32)) hSB (Or.inr ⟨rfl, by omega⟩)]
      refine own_iload 243 rfl at_241 rfl ?_
      refine own_iload 245 rfl at_243 rfl ?_
      refine own_icmpNo 248 rfl at_245 (teq (rfl : (0 : Int32) = (0 : Int32))).2 ?_
      refine own_iconst 249 rfl (1 : Int32) at_248 rfl ?_
      refine own_goto 253 at_249 (by decide) (by decide) ?_
      refine own_retN rfl (by simp) at_253 (by decide) (by decide) ?_
      exact ⟨_, rfl, rfl⟩
    · have ihc186 : r1.toInt ≤ qq.toInt := own_nltL hc186
      refine own_ifYes 195 at_186 (flt (fun q => hc186 ((lw_gt _ _).mp q))).2.2.2 (by decide) (by decide) ?_
      refine own_lload 197 rfl at_195 rfl ?_
      refine own_lconst 198 rfl (0 : Int64) at_197 rfl ?_
      refine own_lcmp 199 rfl at_198 ?_
      by_cases hc199 : qq < (0 : Int64)
      · have ihc199 : qq.toInt < (0 : Int) := own_ltL hc199
        refine own_ifYes 223 at_199 (tlt ((lw_lt _ _).mpr hc199)).1 (by decide) (by decide) ?_
        have cq := c_ladd r1 S
        have rq := rng64 (r1 + S)
        have rq2 := rng64 qq
        refine own_lload 225 rfl at_223 rfl ?_
        refine own_lload 227 rfl at_225 rfl ?_
        refine own_ladd 228 rfl at_227 ?_
        refine own_lload 230 rfl at_228 rfl ?_
        refine own_lcmp 231 rfl at_230 ?_
        by_cases hc231 : qq < (r1 + S)
        · have ihc231 : qq.toInt < (r1 + S).toInt := own_ltL hc231
          refine own_ifYes 238 at_231 (tlt ((lw_gt _ _).mpr hc231)).2.2.1 (by decide) (by decide) ?_
          refine own_iconst 239 rfl (0 : Int32) at_238 rfl ?_
          refine own_istore 241 rfl #[.val (.int ac), .val (.long asp), .second, .val (.long tt1), .second, .val (.long tt2), .second, .val (.long tt3), .second, .val (.long qq), .second, .val (.int (1 : Int32)), .val (.int N), .val (.long sp), .second, .val (.long S), .second, .val (.long L0), .second, .val (.long r1), .second, .val (.long r2), .second, .val (.long r3), .second, .val (.ref b5), .val (.long r1), .second, .val (.int (own_idle S r1 qq)), .val (.int (0 : Int32))] at_239 rfl ?_
          rw [own_idleE (k := (0 : Int32)) hSB (Or.inr ⟨rfl, by omega⟩)]
          refine own_iload 243 rfl at_241 rfl ?_
          refine own_iload 245 rfl at_243 rfl ?_
          refine own_icmpNo 248 rfl at_245 (teq (rfl : (0 : Int32) = (0 : Int32))).2 ?_
          refine own_iconst 249 rfl (1 : Int32) at_248 rfl ?_
          refine own_goto 253 at_249 (by decide) (by decide) ?_
          refine own_retN rfl (by simp) at_253 (by decide) (by decide) ?_
          exact ⟨_, rfl, rfl⟩
        · have ihc231 : (r1 + S).toInt ≤ qq.toInt := own_nltL hc231
          refine own_ifNo 234 rfl at_231 (flt (fun q => hc231 ((lw_gt _ _).mp q))).2.2.1 ?_
          refine own_iconst 235 rfl (1 : Int32) at_234 rfl ?_
          refine own_goto 239 at_235 (by decide) (by decide) ?_
          refine own_istore 241 rfl #[.val (.int ac), .val (.long asp), .second, .val (.long tt1), .second, .val (.long tt2), .second, .val (.long tt3), .second, .val (.long qq), .second, .val (.int (1 : Int32)), .val (.int N), .val (.long sp), .second, .val (.long S), .second, .val (.long L0), .second, .val (.long r1), .second, .val (.long r2), .second, .val (.long r3), .second, .val (.ref b5), .val (.long r1), .second, .val (.int (own_idle S r1 qq)), .val (.int (1 : Int32))] at_239 rfl ?_
          rw [own_idleE (k := (1 : Int32)) hSB (Or.inl ⟨rfl, by omega, by omega⟩)]
          refine own_iload 243 rfl at_241 rfl ?_
          refine own_iload 245 rfl at_243 rfl ?_
          refine own_icmpNo 248 rfl at_245 (teq (rfl : (1 : Int32) = (1 : Int32))).2 ?_
          refine own_iconst 249 rfl (1 : Int32) at_248 rfl ?_
          refine own_goto 253 at_249 (by decide) (by decide) ?_
          refine own_retN rfl (by simp) at_253 (by decide) (by decide) ?_
          exact ⟨_, rfl, rfl⟩
      · have ihc199 : (0 : Int) ≤ qq.toInt := own_nltL hc199
        refine own_ifNo 202 rfl at_199 (flt (fun q => hc199 ((lw_lt _ _).mp q))).1 ?_
        have cq := c_lsub qq S
        have rq := rng64 (qq - S)
        have rq2 := rng64 qq
        refine own_lload 204 rfl at_202 rfl ?_
        refine own_lload 206 rfl at_204 rfl ?_
        refine own_lload 208 rfl at_206 rfl ?_
        refine own_lsub 209 rfl at_208 ?_
        refine own_lcmp 210 rfl at_209 ?_
        by_cases hc210 : (qq - S) < r1
        · have ihc210 : (qq - S).toInt < r1.toInt := own_ltL hc210
          refine own_ifYes 217 at_210 (tlt ((lw_gt _ _).mpr hc210)).2.2.1 (by decide) (by decide) ?_
          refine own_iconst 218 rfl (0 : Int32) at_217 rfl ?_
          refine own_istore 220 rfl #[.val (.int ac), .val (.long asp), .second, .val (.long tt1), .second, .val (.long tt2), .second, .val (.long tt3), .second, .val (.long qq), .second, .val (.int (1 : Int32)), .val (.int N), .val (.long sp), .second, .val (.long S), .second, .val (.long L0), .second, .val (.long r1), .second, .val (.long r2), .second, .val (.long r3), .second, .val (.ref b5), .val (.long r1), .second, .val (.int (own_idle S r1 qq)), .val (.int (0 : Int32))] at_218 rfl ?_
          refine own_goto 241 at_220 (by decide) (by decide) ?_
          rw [own_idleE (k := (0 : Int32)) hSB (Or.inr ⟨rfl, by omega⟩)]
          refine own_iload 243 rfl at_241 rfl ?_
          refine own_iload 245 rfl at_243 rfl ?_
          refine own_icmpNo 248 rfl at_245 (teq (rfl : (0 : Int32) = (0 : Int32))).2 ?_
          refine own_iconst 249 rfl (1 : Int32) at_248 rfl ?_
          refine own_goto 253 at_249 (by decide) (by decide) ?_
          refine own_retN rfl (by simp) at_253 (by decide) (by decide) ?_
          exact ⟨_, rfl, rfl⟩
        · have ihc210 : r1.toInt ≤ (qq - S).toInt := own_nltL hc210
          refine own_ifNo 213 rfl at_210 (flt (fun q => hc210 ((lw_gt _ _).mp q))).2.2.1 ?_
          refine own_iconst 214 rfl (1 : Int32) at_213 rfl ?_
          refine own_goto 218 at_214 (by decide) (by decide) ?_
          refine own_istore 220 rfl #[.val (.int ac), .val (.long asp), .second, .val (.long tt1), .second, .val (.long tt2), .second, .val (.long tt3), .second, .val (.long qq), .second, .val (.int (1 : Int32)), .val (.int N), .val (.long sp), .second, .val (.long S), .second, .val (.long L0), .second, .val (.long r1), .second, .val (.long r2), .second, .val (.long r3), .second, .val (.ref b5), .val (.long r1), .second, .val (.int (own_idle S r1 qq)), .val (.int (1 : Int32))] at_218 rfl ?_
          refine own_goto 241 at_220 (by decide) (by decide) ?_
          rw [own_idleE (k := (1 : Int32)) hSB (Or.inl ⟨rfl, by omega, by omega⟩)]
          refine own_iload 243 rfl at_241 rfl ?_
          refine own_iload 245 rfl at_243 rfl ?_
          refine own_icmpNo 248 rfl at_245 (teq (rfl : (1 : Int32) = (1 : Int32))).2 ?_
          refine own_iconst 249 rfl (1 : Int32) at_248 rfl ?_
          refine own_goto 253 at_249 (by decide) (by decide) ?_
          refine own_retN rfl (by simp) at_253 (by decide) (by decide) ?_
          exact ⟨_, rfl, rfl⟩
  · have hin_n := (rfl : (2 : Int) = 2)
    refine own_iload 102 rfl at_100 rfl ?_
    have hNk : (2 : Int) ≤ N.toInt := hN3.2.2
    refine own_iconst 103 rfl (1 : Int32) at_102 rfl ?_
    refine own_icmpNo 106 rfl at_103 (flt (by decide : ¬ ((2 : Int32) < (1 : Int32)))).1 ?_
    refine own_aload 108 rfl at_106 rfl rfl ?_
    refine own_lload 110 rfl at_108 rfl ?_
    have hl3 : xs.length ≤ 3 := by omega
    have hs := own_sorted_of xs PX.1
    have hf := own_fit (S := S) PX hr1 (by omega) (by omega) (by omega)
    refine own_callV 113 rfl 5 45 0 [(.long r1)] [] (y := (⟨"com/example/lean_limiter/leanlimiter/ExactLog", "record", "(J)V"⟩ : MethodName)) (z := (⟨"com/example/lean_limiter/leanlimiter/ExactLog", "record", "(J)V"⟩ : MethodName)) (hw _ (List.mem_of_getElem? (i := 103) rfl)) (hw _ (List.mem_of_getElem? (i := 104) rfl)) (fun hZ => notFace_of_selects (args := #[]) (mvT hZ (hw _ (List.mem_of_getElem? (i := 106) rfl)))) (hw _ (List.mem_of_getElem? (i := 106) rfl)) (hw _ (List.mem_of_getElem? (i := 105) rfl)) (hw _ (List.mem_of_getElem? (i := 13) rfl)) (hw _ (List.mem_of_getElem? (i := 107) rfl)) (by decide) (own_log_facts RS).2.1 (rmRec l Z a0 hw [] b5 a N S hd xs r1 h8 RS hl3 hs hf (by omega)) at_110 rfl (lenOf own_pd5 rfl) rfl rfl rfl (by decide) (by decide) rfl rfl (by decide) (by decide) (own_k0 fun h12 q12 => ?_)
    obtain ⟨hd, RS⟩ := q12
    have PX := own_step (k := own_left (own_dec r1 xs - S) xs) PX hr1
    have hlast : (List.drop (own_left (own_dec r1 xs - S) xs) xs ++ [own_dec r1 xs]).getLastD 0 = r1 := by rw [own_lastA]; rw [hxs]; rfl
    have hne : List.drop (own_left (own_dec r1 xs - S) xs) xs ++ [own_dec r1 xs] ≠ [] := by simp
    have hxl : (List.drop (own_left (own_dec r1 xs - S) xs) xs ++ [own_dec r1 xs]).length ≤ 1 := by rw [List.length_append, List.length_drop]; show _ + 1 ≤ _; omega
    generalize List.drop (own_left (own_dec r1 xs - S) xs) xs ++ [own_dec r1 xs] = xs at RS PX hne hlast hxl
    refine own_lload 115 rfl at_113 rfl ?_
    refine own_lstore 117 rfl #[.val (.int ac), .val (.long asp), .second, .val (.long tt1), .second, .val (.long tt2), .second, .val (.long tt3), .second, .val (.long qq), .second, .val (.int (2 : Int32)), .val (.int N), .val (.long sp), .second, .val (.long S), .second, .val (.long L0), .second, .val (.long r1), .second, .val (.long r2), .second, .val (.long r3), .second, .val (.ref b5), .val (.long r1), .second, .unset, .unset] at_115 rfl ?_
    refine own_iload 119 rfl at_117 rfl ?_
    refine own_iconst 120 rfl (2 : Int32) at_119 rfl ?_
    refine own_icmpNo 123 rfl at_120 (flt (by decide : ¬ ((2 : Int32) < (2 : Int32)))).1 ?_
    refine own_aload 125 rfl at_123 rfl rfl ?_
    refine own_lload 127 rfl at_125 rfl ?_
    have hl3 : xs.length ≤ 3 := by omega
    have hs := own_sorted_of xs PX.1
    have hf := own_fit (S := S) PX hr2 (by omega) (by omega) (by omega)
    refine own_callV 130 rfl 5 45 0 [(.long r2)] [] (y := (⟨"com/example/lean_limiter/leanlimiter/ExactLog", "record", "(J)V"⟩ : MethodName)) (z := (⟨"com/example/lean_limiter/leanlimiter/ExactLog", "record", "(J)V"⟩ : MethodName)) (hw _ (List.mem_of_getElem? (i := 103) rfl)) (hw _ (List.mem_of_getElem? (i := 104) rfl)) (fun hZ => notFace_of_selects (args := #[]) (mvT hZ (hw _ (List.mem_of_getElem? (i := 106) rfl)))) (hw _ (List.mem_of_getElem? (i := 106) rfl)) (hw _ (List.mem_of_getElem? (i := 105) rfl)) (hw _ (List.mem_of_getElem? (i := 13) rfl)) (hw _ (List.mem_of_getElem? (i := 107) rfl)) (by decide) (own_log_facts RS).2.1 (rmRec l Z a0 hw [] b5 a N S hd xs r2 h12 RS hl3 hs hf (by omega)) at_127 rfl (lenOf own_pd5 rfl) rfl rfl rfl (by decide) (by decide) rfl rfl (by decide) (by decide) (own_k0 fun h13 q13 => ?_)
    obtain ⟨hd, RS⟩ := q13
    have PX := own_step (k := own_left (own_dec r2 xs - S) xs) PX hr2
    have hlast : (List.drop (own_left (own_dec r2 xs - S) xs) xs ++ [own_dec r2 xs]).getLastD 0 = (own_maxJ r1 r2) := by rw [own_lastA]; rw [own_decL hne, hlast]
    have hne : List.drop (own_left (own_dec r2 xs - S) xs) xs ++ [own_dec r2 xs] ≠ [] := by simp
    have hxl : (List.drop (own_left (own_dec r2 xs - S) xs) xs ++ [own_dec r2 xs]).length ≤ 2 := by rw [List.length_append, List.length_drop]; show _ + 1 ≤ _; omega
    generalize List.drop (own_left (own_dec r2 xs - S) xs) xs ++ [own_dec r2 xs] = xs at RS PX hne hlast hxl
    refine own_lload 132 rfl at_130 rfl ?_
    refine own_lload 134 rfl at_132 rfl ?_
    refine own_callS 137 rfl 5 45 0 [(.long r1), (.long r2)] [] (y := (⟨"java/lang/Math", "max", "(JJ)J"⟩ : MethodName)) (hw _ (List.mem_of_getElem? (i := 8) rfl)) (hw _ (List.mem_of_getElem? (i := 9) rfl)) (hw _ (List.mem_of_getElem? (i := 2) rfl)) (hw _ (List.mem_of_getElem? (i := 10) rfl)) (by decide) (rmmaxJ l Z a0 hw [] r1 r2  h13 ) at_134 rfl (lenOf own_pd1 rfl) rfl rfl rfl (by decide) (by decide) rfl rfl (by decide) (by decide) (own_kv fun v14 h14 q14 => ?_)
    obtain ⟨rfl, e14⟩ := q14
    rw [e14]
    refine own_lstore 139 rfl #[.val (.int ac), .val (.long asp), .second, .val (.long tt1), .second, .val (.long tt2), .second, .val (.long tt3), .second, .val (.long qq), .second, .val (.int (2 : Int32)), .val (.int N), .val (.long sp), .second, .val (.long S), .second, .val (.long L0), .second, .val (.long r1), .second, .val (.long r2), .second, .val (.long r3), .second, .val (.ref b5), .val (.long (own_maxJ r1 r2)), .second, .unset, .unset] at_137 rfl ?_
    refine own_iload 141 rfl at_139 rfl ?_
    refine own_iconst 142 rfl (3 : Int32) at_141 rfl ?_
    refine own_icmpYes 161 at_142 (tlt (by decide : (2 : Int32) < (3 : Int32))).1 (by decide) (by decide) ?_
    refine own_aload 163 rfl at_161 rfl rfl ?_
    refine own_lload 165 rfl at_163 rfl ?_
    have hlm := PX.2
    have hmx := rng64 (xs.getLastD 0)
    obtain ⟨x, r, rfl⟩ := List.exists_cons_of_ne_nil hne
    refine own_callV 168 rfl 5 45 0 [(.long qq)] [] (y := (⟨"com/example/lean_limiter/leanlimiter/ExactLog", "isIdleAt", "(J)Z"⟩ : MethodName)) (z := (⟨"com/example/lean_limiter/leanlimiter/ExactLog", "isIdleAt", "(J)Z"⟩ : MethodName)) (hw _ (List.mem_of_getElem? (i := 96) rfl)) (hw _ (List.mem_of_getElem? (i := 97) rfl)) (fun hZ => notFace_of_selects (args := #[]) (mvT hZ (hw _ (List.mem_of_getElem? (i := 99) rfl)))) (hw _ (List.mem_of_getElem? (i := 99) rfl)) (hw _ (List.mem_of_getElem? (i := 98) rfl)) (hw _ (List.mem_of_getElem? (i := 13) rfl)) (hw _ (List.mem_of_getElem? (i := 100) rfl)) (by decide) (own_log_facts RS).2.1 (rmIdle l Z a0 hw [] b5 a N S hd x r qq h13 RS (by omega)) at_165 rfl (lenOf own_pd14 rfl) rfl rfl rfl (by decide) (by decide) rfl rfl (by decide) (by decide) (own_kv fun v15 h15 q15 => ?_)
    obtain ⟨rfl, e15⟩ := q15
    rw [e15]
    rw [hlast] at hmx ⊢
    refine own_istore 170 rfl #[.val (.int ac), .val (.long asp), .second, .val (.long tt1), .second, .val (.long tt2), .second, .val (.long tt3), .second, .val (.long qq), .second, .val (.int (2 : Int32)), .val (.int N), .val (.long sp), .second, .val (.long S), .second, .val (.long L0), .second, .val (.long r1), .second, .val (.long r2), .second, .val (.long r3), .second, .val (.ref b5), .val (.long (own_maxJ r1 r2)), .second, .val (.int (own_idle S (own_maxJ r1 r2) qq)), .unset] at_168 rfl ?_
    refine own_iload 172 rfl at_170 rfl ?_
    refine own_ifYes 181 at_172 (feq (by decide : ¬ ((2 : Int32) = (0 : Int32)))).2 (by decide) (by decide) ?_
    refine own_lload 183 rfl at_181 rfl ?_
    refine own_lload 185 rfl at_183 rfl ?_
    refine own_lcmp 186 rfl at_185 ?_
    by_cases hc186 : qq < (own_maxJ r1 r2)
    · have ihc186 : qq.toInt < (own_maxJ r1 r2).toInt := own_ltL hc186
      refine own_ifNo 189 rfl at_186 (tlt ((lw_gt _ _).mpr hc186)).2.2.2 ?_
      refine own_iconst 190 rfl (0 : Int32) at_189 rfl ?_
      refine own_istore 192 rfl #[.val (.int ac), .val (.long asp), .second, .val (.long tt1), .second, .val (.long tt2), .second, .val (.long tt3), .second, .val (.long qq), .second, .val (.int (2 : Int32)), .val (.int N), .val (.long sp), .second, .val (.long S), .second, .val (.long L0), .second, .val (.long r1), .second, .val (.long r2), .second, .val (.long r3), .second, .val (.ref b5), .val (.long (own_maxJ r1 r2)), .second, .val (.int (own_idle S (own_maxJ r1 r2) qq)), .val (.int (0 : Int32))] at_190 rfl ?_
      refine own_goto 241 at_192 (by decide) (by decide) ?_
      rw [own_idleE (k := (0 : Int32)) hSB (Or.inr ⟨rfl, by omega⟩)]
      refine own_iload 243 rfl at_241 rfl ?_
      refine own_iload 245 rfl at_243 rfl ?_
      refine own_icmpNo 248 rfl at_245 (teq (rfl : (0 : Int32) = (0 : Int32))).2 ?_
      refine own_iconst 249 rfl (1 : Int32) at_248 rfl ?_
      refine own_goto 253 at_249 (by decide) (by decide) ?_
      refine own_retN rfl (by simp) at_253 (by decide) (by decide) ?_
      exact ⟨_, rfl, rfl⟩
    · have ihc186 : (own_maxJ r1 r2).toInt ≤ qq.toInt := own_nltL hc186
      refine own_ifYes 195 at_186 (flt (fun q => hc186 ((lw_gt _ _).mp q))).2.2.2 (by decide) (by decide) ?_
      refine own_lload 197 rfl at_195 rfl ?_
      refine own_lconst 198 rfl (0 : Int64) at_197 rfl ?_
      refine own_lcmp 199 rfl at_198 ?_
      by_cases hc199 : qq < (0 : Int64)
      · have ihc199 : qq.toInt < (0 : Int) := own_ltL hc199
        refine own_ifYes 223 at_199 (tlt ((lw_lt _ _).mpr hc199)).1 (by decide) (by decide) ?_
        have cq := c_ladd (own_maxJ r1 r2) S
        have rq := rng64 ((own_maxJ r1 r2) + S)
        have rq2 := rng64 qq
        refine own_lload 225 rfl at_223 rfl ?_
        refine own_lload 227 rfl at_225 rfl ?_
        refine own_ladd 228 rfl at_227 ?_
        refine own_lload 230 rfl at_228 rfl ?_
        refine own_lcmp 231 rfl at_230 ?_
        by_cases hc231 : qq < ((own_maxJ r1 r2) + S)
        · have ihc231 : qq.toInt < ((own_maxJ r1 r2) + S).toInt := own_ltL hc231
          refine own_ifYes 238 at_231 (tlt ((lw_gt _ _).mpr hc231)).2.2.1 (by decide) (by decide) ?_
          refine own_iconst 239 rfl (0 : Int32) at_238 rfl ?_
          refine own_istore 241 rfl #[.val (.int ac), .val (.long asp), .second, .val (.long tt1), .second, .val (.long tt2), .second, .val (.long tt3), .second, .val (.long qq), .second, .val (.int (2 : Int32)), .val (.int N), .val (.long sp), .second, .val (.long S), .second, .val (.long L0), .second, .val (.long r1), .second, .val (.long r2), .second, .val (.long r3), .second, .val (.ref b5), .val (.long (own_maxJ r1 r2)), .second, .val (.int (own_idle S (own_maxJ r1 r2) qq)), .val (.int (0 : Int32))] at_239 rfl ?_
          rw [own_idleE (k := (0 : Int32)) hSB (Or.inr ⟨rfl, by omega⟩)]
          refine own_iload 243 rfl at_241 rfl ?_
          refine own_iload 245 rfl at_243 rfl ?_
          refine own_icmpNo 248 rfl at_245 (teq (rfl : (0 : Int32) = (0 : Int32))).2 ?_
          refine own_iconst 249 rfl (1 : Int32) at_248 rfl ?_
          refine own_goto 253 at_249 (by decide) (by decide) ?_
          refine own_retN rfl (by simp) at_253 (by decide) (by decide) ?_
          exact ⟨_, rfl, rfl⟩
        · have ihc231 : ((own_maxJ r1 r2) + S).toInt ≤ qq.toInt := own_nltL hc231
          refine own_ifNo 234 rfl at_231 (flt (fun q => hc231 ((lw_gt _ _).mp q))).2.2.1 ?_
          refine own_iconst 235 rfl (1 : Int32) at_234 rfl ?_
          refine own_goto 239 at_235 (by decide) (by decide) ?_
          refine own_istore 241 rfl #[.val (.int ac), .val (.long asp), .second, .val (.long tt1), .second, .val (.long tt2), .second, .val (.long tt3), .second, .val (.long qq), .second, .val (.int (2 : Int32)), .val (.int N), .val (.long sp), .second, .val (.long S), .second, .val (.long L0), .second, .val (.long r1), .second, .val (.long r2), .second, .val (.long r3), .second, .val (.ref b5), .val (.long (own_maxJ r1 r2)), .second, .val (.int (own_idle S (own_maxJ r1 r2) qq)), .val (.int (1 : Int32))] at_239 rfl ?_
          rw [own_idleE (k := (1 : Int32)) hSB (Or.inl ⟨rfl, by omega, by omega⟩)]
          refine own_iload 243 rfl at_241 rfl ?_
          refine own_iload 245 rfl at_243 rfl ?_
          refine own_icmpNo 248 rfl at_245 (teq (rfl : (1 : Int32) = (1 : Int32))).2 ?_
          refine own_iconst 249 rfl (1 : Int32) at_248 rfl ?_
          refine own_goto 253 at_249 (by decide) (by decide) ?_
          refine own_retN rfl (by simp) at_253 (by decide) (by decide) ?_
          exact ⟨_, rfl, rfl⟩
      · have ihc199 : (0 : Int) ≤ qq.toInt := own_nltL hc199
        refine own_ifNo 202 rfl at_199 (flt (fun q => hc199 ((lw_lt _ _).mp q))).1 ?_
        have cq := c_lsub qq S
        have rq := rng64 (qq - S)
        have rq2 := rng64 qq
        refine own_lload 204 rfl at_202 rfl ?_
        refine own_lload 206 rfl at_204 rfl ?_
        refine own_lload 208 rfl at_206 rfl ?_
        refine own_lsub 209 rfl at_208 ?_
        refine own_lcmp 210 rfl at_209 ?_
        by_cases hc210 : (qq - S) < (own_maxJ r1 r2)
        · have ihc210 : (qq - S).toInt < (own_maxJ r1 r2).toInt := own_ltL hc210
          refine own_ifYes 217 at_210 (tlt ((lw_gt _ _).mpr hc210)).2.2.1 (by decide) (by decide) ?_
          refine own_iconst 218 rfl (0 : Int32) at_217 rfl ?_
          refine own_istore 220 rfl #[.val (.int ac), .val (.long asp), .second, .val (.long tt1), .second, .val (.long tt2), .second, .val (.long tt3), .second, .val (.long qq), .second, .val (.int (2 : Int32)), .val (.int N), .val (.long sp), .second, .val (.long S), .second, .val (.long L0), .second, .val (.long r1), .second, .val (.long r2), .second, .val (.long r3), .second, .val (.ref b5), .val (.long (own_maxJ r1 r2)), .second, .val (.int (own_idle S (own_maxJ r1 r2) qq)), .val (.int (0 : Int32))] at_218 rfl ?_
          refine own_goto 241 at_220 (by decide) (by decide) ?_
          rw [own_idleE (k := (0 : Int32)) hSB (Or.inr ⟨rfl, by omega⟩)]
          refine own_iload 243 rfl at_241 rfl ?_
          refine own_iload 245 rfl at_243 rfl ?_
          refine own_icmpNo 248 rfl at_245 (teq (rfl : (0 : Int32) = (0 : Int32))).2 ?_
          refine own_iconst 249 rfl (1 : Int32) at_248 rfl ?_
          refine own_goto 253 at_249 (by decide) (by decide) ?_
          refine own_retN rfl (by simp) at_253 (by decide) (by decide) ?_
          exact ⟨_, rfl, rfl⟩
        · have ihc210 : (own_maxJ r1 r2).toInt ≤ (qq - S).toInt := own_nltL hc210
          refine own_ifNo 213 rfl at_210 (flt (fun q => hc210 ((lw_gt _ _).mp q))).2.2.1 ?_
          refine own_iconst 214 rfl (1 : Int32) at_213 rfl ?_
          refine own_goto 218 at_214 (by decide) (by decide) ?_
          refine own_istore 220 rfl #[.val (.int ac), .val (.long asp), .second, .val (.long tt1), .second, .val (.long tt2), .second, .val (.long tt3), .second, .val (.long qq), .second, .val (.int (2 : Int32)), .val (.int N), .val (.long sp), .second, .val (.long S), .second, .val (.long L0), .second, .val (.long r1), .second, .val (.long r2), .second, .val (.long r3), .second, .val (.ref b5), .val (.long (own_maxJ r1 r2)), .second, .val (.int (own_idle S (own_maxJ r1 r2) qq)), .val (.int (1 : Int32))] at_218 rfl ?_
          refine own_goto 241 at_220 (by decide) (by decide) ?_
          rw [own_idleE (k := (1 : Int32)) hSB (Or.inl ⟨rfl, by omega, by omega⟩)]
          refine own_iload 243 rfl at_241 rfl ?_
          refine own_iload 245 rfl at_243 rfl ?_
          refine own_icmpNo 248 rfl at_245 (teq (rfl : (1 : Int32) = (1 : Int32))).2 ?_
          refine own_iconst 249 rfl (1 : Int32) at_248 rfl ?_
          refine own_goto 253 at_249 (by decide) (by decide) ?_
          refine own_retN rfl (by simp) at_253 (by decide) (by decide) ?_
          exact ⟨_, rfl, rfl⟩
  · have hin_n := (rfl : (3 : Int) = 3)
    refine own_iload 102 rfl at_100 rfl ?_
    have hNk : (3 : Int) ≤ N.toInt := hN3.2.2
    refine own_iconst 103 rfl (1 : Int32) at_102 rfl ?_
    refine own_icmpNo 106 rfl at_103 (flt (by decide : ¬ ((3 : Int32) < (1 : Int32)))).1 ?_
    refine own_aload 108 rfl at_106 rfl rfl ?_
    refine own_lload 110 rfl at_108 rfl ?_
    have hl3 : xs.length ≤ 3 := by omega
    have hs := own_sorted_of xs PX.1
    have hf := own_fit (S := S) PX hr1 (by omega) (by omega) (by omega)
    refine own_callV 113 rfl 5 45 0 [(.long r1)] [] (y := (⟨"com/example/lean_limiter/leanlimiter/ExactLog", "record", "(J)V"⟩ : MethodName)) (z := (⟨"com/example/lean_limiter/leanlimiter/ExactLog", "record", "(J)V"⟩ : MethodName)) (hw _ (List.mem_of_getElem? (i := 103) rfl)) (hw _ (List.mem_of_getElem? (i := 104) rfl)) (fun hZ => notFace_of_selects (args := #[]) (mvT hZ (hw _ (List.mem_of_getElem? (i := 106) rfl)))) (hw _ (List.mem_of_getElem? (i := 106) rfl)) (hw _ (List.mem_of_getElem? (i := 105) rfl)) (hw _ (List.mem_of_getElem? (i := 13) rfl)) (hw _ (List.mem_of_getElem? (i := 107) rfl)) (by decide) (own_log_facts RS).2.1 (rmRec l Z a0 hw [] b5 a N S hd xs r1 h8 RS hl3 hs hf (by omega)) at_110 rfl (lenOf own_pd5 rfl) rfl rfl rfl (by decide) (by decide) rfl rfl (by decide) (by decide) (own_k0 fun h16 q16 => ?_)
    obtain ⟨hd, RS⟩ := q16
    have PX := own_step (k := own_left (own_dec r1 xs - S) xs) PX hr1
    have hlast : (List.drop (own_left (own_dec r1 xs - S) xs) xs ++ [own_dec r1 xs]).getLastD 0 = r1 := by rw [own_lastA]; rw [hxs]; rfl
    have hne : List.drop (own_left (own_dec r1 xs - S) xs) xs ++ [own_dec r1 xs] ≠ [] := by simp
    have hxl : (List.drop (own_left (own_dec r1 xs - S) xs) xs ++ [own_dec r1 xs]).length ≤ 1 := by rw [List.length_append, List.length_drop]; show _ + 1 ≤ _; omega
    generalize List.drop (own_left (own_dec r1 xs - S) xs) xs ++ [own_dec r1 xs] = xs at RS PX hne hlast hxl
    refine own_lload 115 rfl at_113 rfl ?_
    refine own_lstore 117 rfl #[.val (.int ac), .val (.long asp), .second, .val (.long tt1), .second, .val (.long tt2), .second, .val (.long tt3), .second, .val (.long qq), .second, .val (.int (3 : Int32)), .val (.int N), .val (.long sp), .second, .val (.long S), .second, .val (.long L0), .second, .val (.long r1), .second, .val (.long r2), .second, .val (.long r3), .second, .val (.ref b5), .val (.long r1), .second, .unset, .unset] at_115 rfl ?_
    refine own_iload 119 rfl at_117 rfl ?_
    refine own_iconst 120 rfl (2 : Int32) at_119 rfl ?_
    refine own_icmpNo 123 rfl at_120 (flt (by decide : ¬ ((3 : Int32) < (2 : Int32)))).1 ?_
    refine own_aload 125 rfl at_123 rfl rfl ?_
    refine own_lload 127 rfl at_125 rfl ?_
    have hl3 : xs.length ≤ 3 := by omega
    have hs := own_sorted_of xs PX.1
    have hf := own_fit (S := S) PX hr2 (by omega) (by omega) (by omega)
    refine own_callV 130 rfl 5 45 0 [(.long r2)] [] (y := (⟨"com/example/lean_limiter/leanlimiter/ExactLog", "record", "(J)V"⟩ : MethodName)) (z := (⟨"com/example/lean_limiter/leanlimiter/ExactLog", "record", "(J)V"⟩ : MethodName)) (hw _ (List.mem_of_getElem? (i := 103) rfl)) (hw _ (List.mem_of_getElem? (i := 104) rfl)) (fun hZ => notFace_of_selects (args := #[]) (mvT hZ (hw _ (List.mem_of_getElem? (i := 106) rfl)))) (hw _ (List.mem_of_getElem? (i := 106) rfl)) (hw _ (List.mem_of_getElem? (i := 105) rfl)) (hw _ (List.mem_of_getElem? (i := 13) rfl)) (hw _ (List.mem_of_getElem? (i := 107) rfl)) (by decide) (own_log_facts RS).2.1 (rmRec l Z a0 hw [] b5 a N S hd xs r2 h16 RS hl3 hs hf (by omega)) at_127 rfl (lenOf own_pd5 rfl) rfl rfl rfl (by decide) (by decide) rfl rfl (by decide) (by decide) (own_k0 fun h17 q17 => ?_)
    obtain ⟨hd, RS⟩ := q17
    have PX := own_step (k := own_left (own_dec r2 xs - S) xs) PX hr2
    have hlast : (List.drop (own_left (own_dec r2 xs - S) xs) xs ++ [own_dec r2 xs]).getLastD 0 = (own_maxJ r1 r2) := by rw [own_lastA]; rw [own_decL hne, hlast]
    have hne : List.drop (own_left (own_dec r2 xs - S) xs) xs ++ [own_dec r2 xs] ≠ [] := by simp
    have hxl : (List.drop (own_left (own_dec r2 xs - S) xs) xs ++ [own_dec r2 xs]).length ≤ 2 := by rw [List.length_append, List.length_drop]; show _ + 1 ≤ _; omega
    generalize List.drop (own_left (own_dec r2 xs - S) xs) xs ++ [own_dec r2 xs] = xs at RS PX hne hlast hxl
    refine own_lload 132 rfl at_130 rfl ?_
    refine own_lload 134 rfl at_132 rfl ?_
    refine own_callS 137 rfl 5 45 0 [(.long r1), (.long r2)] [] (y := (⟨"java/lang/Math", "max", "(JJ)J"⟩ : MethodName)) (hw _ (List.mem_of_getElem? (i := 8) rfl)) (hw _ (List.mem_of_getElem? (i := 9) rfl)) (hw _ (List.mem_of_getElem? (i := 2) rfl)) (hw _ (List.mem_of_getElem? (i := 10) rfl)) (by decide) (rmmaxJ l Z a0 hw [] r1 r2  h17 ) at_134 rfl (lenOf own_pd1 rfl) rfl rfl rfl (by decide) (by decide) rfl rfl (by decide) (by decide) (own_kv fun v18 h18 q18 => ?_)
    obtain ⟨rfl, e18⟩ := q18
    rw [e18]
    refine own_lstore 139 rfl #[.val (.int ac), .val (.long asp), .second, .val (.long tt1), .second, .val (.long tt2), .second, .val (.long tt3), .second, .val (.long qq), .second, .val (.int (3 : Int32)), .val (.int N), .val (.long sp), .second, .val (.long S), .second, .val (.long L0), .second, .val (.long r1), .second, .val (.long r2), .second, .val (.long r3), .second, .val (.ref b5), .val (.long (own_maxJ r1 r2)), .second, .unset, .unset] at_137 rfl ?_
    refine own_iload 141 rfl at_139 rfl ?_
    refine own_iconst 142 rfl (3 : Int32) at_141 rfl ?_
    refine own_icmpNo 145 rfl at_142 (flt (by decide : ¬ ((3 : Int32) < (3 : Int32)))).1 ?_
    refine own_aload 147 rfl at_145 rfl rfl ?_
    refine own_lload 149 rfl at_147 rfl ?_
    have hl3 : xs.length ≤ 3 := by omega
    have hs := own_sorted_of xs PX.1
    have hf := own_fit (S := S) PX hr3 (by omega) (by omega) (by omega)
    refine own_callV 152 rfl 5 45 0 [(.long r3)] [] (y := (⟨"com/example/lean_limiter/leanlimiter/ExactLog", "record", "(J)V"⟩ : MethodName)) (z := (⟨"com/example/lean_limiter/leanlimiter/ExactLog", "record", "(J)V"⟩ : MethodName)) (hw _ (List.mem_of_getElem? (i := 103) rfl)) (hw _ (List.mem_of_getElem? (i := 104) rfl)) (fun hZ => notFace_of_selects (args := #[]) (mvT hZ (hw _ (List.mem_of_getElem? (i := 106) rfl)))) (hw _ (List.mem_of_getElem? (i := 106) rfl)) (hw _ (List.mem_of_getElem? (i := 105) rfl)) (hw _ (List.mem_of_getElem? (i := 13) rfl)) (hw _ (List.mem_of_getElem? (i := 107) rfl)) (by decide) (own_log_facts RS).2.1 (rmRec l Z a0 hw [] b5 a N S hd xs r3 h17 RS hl3 hs hf (by omega)) at_149 rfl (lenOf own_pd5 rfl) rfl rfl rfl (by decide) (by decide) rfl rfl (by decide) (by decide) (own_k0 fun h19 q19 => ?_)
    obtain ⟨hd, RS⟩ := q19
    have PX := own_step (k := own_left (own_dec r3 xs - S) xs) PX hr3
    have hlast : (List.drop (own_left (own_dec r3 xs - S) xs) xs ++ [own_dec r3 xs]).getLastD 0 = (own_maxJ (own_maxJ r1 r2) r3) := by rw [own_lastA]; rw [own_decL hne, hlast]
    have hne : List.drop (own_left (own_dec r3 xs - S) xs) xs ++ [own_dec r3 xs] ≠ [] := by simp
    have hxl : (List.drop (own_left (own_dec r3 xs - S) xs) xs ++ [own_dec r3 xs]).length ≤ 3 := by rw [List.length_append, List.length_drop]; show _ + 1 ≤ _; omega
    generalize List.drop (own_left (own_dec r3 xs - S) xs) xs ++ [own_dec r3 xs] = xs at RS PX hne hlast hxl
    refine own_lload 154 rfl at_152 rfl ?_
    refine own_lload 156 rfl at_154 rfl ?_
    refine own_callS 159 rfl 5 45 0 [(.long (own_maxJ r1 r2)), (.long r3)] [] (y := (⟨"java/lang/Math", "max", "(JJ)J"⟩ : MethodName)) (hw _ (List.mem_of_getElem? (i := 8) rfl)) (hw _ (List.mem_of_getElem? (i := 9) rfl)) (hw _ (List.mem_of_getElem? (i := 2) rfl)) (hw _ (List.mem_of_getElem? (i := 10) rfl)) (by decide) (rmmaxJ l Z a0 hw [] (own_maxJ r1 r2) r3  h19 ) at_156 rfl (lenOf own_pd1 rfl) rfl rfl rfl (by decide) (by decide) rfl rfl (by decide) (by decide) (own_kv fun v20 h20 q20 => ?_)
    obtain ⟨rfl, e20⟩ := q20
    rw [e20]
    refine own_lstore 161 rfl #[.val (.int ac), .val (.long asp), .second, .val (.long tt1), .second, .val (.long tt2), .second, .val (.long tt3), .second, .val (.long qq), .second, .val (.int (3 : Int32)), .val (.int N), .val (.long sp), .second, .val (.long S), .second, .val (.long L0), .second, .val (.long r1), .second, .val (.long r2), .second, .val (.long r3), .second, .val (.ref b5), .val (.long (own_maxJ (own_maxJ r1 r2) r3)), .second, .unset, .unset] at_159 rfl ?_
    refine own_aload 163 rfl at_161 rfl rfl ?_
    refine own_lload 165 rfl at_163 rfl ?_
    have hlm := PX.2
    have hmx := rng64 (xs.getLastD 0)
    obtain ⟨x, r, rfl⟩ := List.exists_cons_of_ne_nil hne
    refine own_callV 168 rfl 5 45 0 [(.long qq)] [] (y := (⟨"com/example/lean_limiter/leanlimiter/ExactLog", "isIdleAt", "(J)Z"⟩ : MethodName)) (z := (⟨"com/example/lean_limiter/leanlimiter/ExactLog", "isIdleAt", "(J)Z"⟩ : MethodName)) (hw _ (List.mem_of_getElem? (i := 96) rfl)) (hw _ (List.mem_of_getElem? (i := 97) rfl)) (fun hZ => notFace_of_selects (args := #[]) (mvT hZ (hw _ (List.mem_of_getElem? (i := 99) rfl)))) (hw _ (List.mem_of_getElem? (i := 99) rfl)) (hw _ (List.mem_of_getElem? (i := 98) rfl)) (hw _ (List.mem_of_getElem? (i := 13) rfl)) (hw _ (List.mem_of_getElem? (i := 100) rfl)) (by decide) (own_log_facts RS).2.1 (rmIdle l Z a0 hw [] b5 a N S hd x r qq h19 RS (by omega)) at_165 rfl (lenOf own_pd14 rfl) rfl rfl rfl (by decide) (by decide) rfl rfl (by decide) (by decide) (own_kv fun v21 h21 q21 => ?_)
    obtain ⟨rfl, e21⟩ := q21
    rw [e21]
    rw [hlast] at hmx ⊢
    refine own_istore 170 rfl #[.val (.int ac), .val (.long asp), .second, .val (.long tt1), .second, .val (.long tt2), .second, .val (.long tt3), .second, .val (.long qq), .second, .val (.int (3 : Int32)), .val (.int N), .val (.long sp), .second, .val (.long S), .second, .val (.long L0), .second, .val (.long r1), .second, .val (.long r2), .second, .val (.long r3), .second, .val (.ref b5), .val (.long (own_maxJ (own_maxJ r1 r2) r3)), .second, .val (.int (own_idle S (own_maxJ (own_maxJ r1 r2) r3) qq)), .unset] at_168 rfl ?_
    refine own_iload 172 rfl at_170 rfl ?_
    refine own_ifYes 181 at_172 (feq (by decide : ¬ ((3 : Int32) = (0 : Int32)))).2 (by decide) (by decide) ?_
    refine own_lload 183 rfl at_181 rfl ?_
    refine own_lload 185 rfl at_183 rfl ?_
    refine own_lcmp 186 rfl at_185 ?_
    by_cases hc186 : qq < (own_maxJ (own_maxJ r1 r2) r3)
    · have ihc186 : qq.toInt < (own_maxJ (own_maxJ r1 r2) r3).toInt := own_ltL hc186
      refine own_ifNo 189 rfl at_186 (tlt ((lw_gt _ _).mpr hc186)).2.2.2 ?_
      refine own_iconst 190 rfl (0 : Int32) at_189 rfl ?_
      refine own_istore 192 rfl #[.val (.int ac), .val (.long asp), .second, .val (.long tt1), .second, .val (.long tt2), .second, .val (.long tt3), .second, .val (.long qq), .second, .val (.int (3 : Int32)), .val (.int N), .val (.long sp), .second, .val (.long S), .second, .val (.long L0), .second, .val (.long r1), .second, .val (.long r2), .second, .val (.long r3), .second, .val (.ref b5), .val (.long (own_maxJ (own_maxJ r1 r2) r3)), .second, .val (.int (own_idle S (own_maxJ (own_maxJ r1 r2) r3) qq)), .val (.int (0 : Int32))] at_190 rfl ?_
      refine own_goto 241 at_192 (by decide) (by decide) ?_
      rw [own_idleE (k := (0 : Int32)) hSB (Or.inr ⟨rfl, by omega⟩)]
      refine own_iload 243 rfl at_241 rfl ?_
      refine own_iload 245 rfl at_243 rfl ?_
      refine own_icmpNo 248 rfl at_245 (teq (rfl : (0 : Int32) = (0 : Int32))).2 ?_
      refine own_iconst 249 rfl (1 : Int32) at_248 rfl ?_
      refine own_goto 253 at_249 (by decide) (by decide) ?_
      refine own_retN rfl (by simp) at_253 (by decide) (by decide) ?_
      exact ⟨_, rfl, rfl⟩
    · have ihc186 : (own_maxJ (own_maxJ r1 r2) r3).toInt ≤ qq.toInt := own_nltL hc186
      refine own_ifYes 195 at_186 (flt (fun q => hc186 ((lw_gt _ _).mp q))).2.2.2 (by decide) (by decide) ?_
      refine own_lload 197 rfl at_195 rfl ?_
      refine own_lconst 198 rfl (0 : Int64) at_197 rfl ?_
      refine own_lcmp 199 rfl at_198 ?_
      by_cases hc199 : qq < (0 : Int64)
      · have ihc199 : qq.toInt < (0 : Int) := own_ltL hc199
        refine own_ifYes 223 at_199 (tlt ((lw_lt _ _).mpr hc199)).1 (by decide) (by decide) ?_
        have cq := c_ladd (own_maxJ (own_maxJ r1 r2) r3) S
        have rq := rng64 ((own_maxJ (own_maxJ r1 r2) r3) + S)
        have rq2 := rng64 qq
        refine own_lload 225 rfl at_223 rfl ?_
        refine own_lload 227 rfl at_225 rfl ?_
        refine own_ladd 228 rfl at_227 ?_
        refine own_lload 230 rfl at_228 rfl ?_
        refine own_lcmp 231 rfl at_230 ?_
        by_cases hc231 : qq < ((own_maxJ (own_maxJ r1 r2) r3) + S)
        · have ihc231 : qq.toInt < ((own_maxJ (own_maxJ r1 r2) r3) + S).toInt := own_ltL hc231
          refine own_ifYes 238 at_231 (tlt ((lw_gt _ _).mpr hc231)).2.2.1 (by decide) (by decide) ?_
          refine own_iconst 239 rfl (0 : Int32) at_238 rfl ?_
          refine own_istore 241 rfl #[.val (.int ac), .val (.long asp), .second, .val (.long tt1), .second, .val (.long tt2), .second, .val (.long tt3), .second, .val (.long qq), .second, .val (.int (3 : Int32)), .val (.int N), .val (.long sp), .second, .val (.long S), .second, .val (.long L0), .second, .val (.long r1), .second, .val (.long r2), .second, .val (.long r3), .second, .val (.ref b5), .val (.long (own_maxJ (own_maxJ r1 r2) r3)), .second, .val (.int (own_idle S (own_maxJ (own_maxJ r1 r2) r3) qq)), .val (.int (0 : Int32))] at_239 rfl ?_
          rw [own_idleE (k := (0 : Int32)) hSB (Or.inr ⟨rfl, by omega⟩)]
          refine own_iload 243 rfl at_241 rfl ?_
          refine own_iload 245 rfl at_243 rfl ?_
          refine own_icmpNo 248 rfl at_245 (teq (rfl : (0 : Int32) = (0 : Int32))).2 ?_
          refine own_iconst 249 rfl (1 : Int32) at_248 rfl ?_
          refine own_goto 253 at_249 (by decide) (by decide) ?_
          refine own_retN rfl (by simp) at_253 (by decide) (by decide) ?_
          exact ⟨_, rfl, rfl⟩
        · have ihc231 : ((own_maxJ (own_maxJ r1 r2) r3) + S).toInt ≤ qq.toInt := own_nltL hc231
          refine own_ifNo 234 rfl at_231 (flt (fun q => hc231 ((lw_gt _ _).mp q))).2.2.1 ?_
          refine own_iconst 235 rfl (1 : Int32) at_234 rfl ?_
          refine own_goto 239 at_235 (by decide) (by decide) ?_
          refine own_istore 241 rfl #[.val (.int ac), .val (.long asp), .second, .val (.long tt1), .second, .val (.long tt2), .second, .val (.long tt3), .second, .val (.long qq), .second, .val (.int (3 : Int32)), .val (.int N), .val (.long sp), .second, .val (.long S), .second, .val (.long L0), .second, .val (.long r1), .second, .val (.long r2), .second, .val (.long r3), .second, .val (.ref b5), .val (.long (own_maxJ (own_maxJ r1 r2) r3)), .second, .val (.int (own_idle S (own_maxJ (own_maxJ r1 r2) r3) qq)), .val (.int (1 : Int32))] at_239 rfl ?_
          rw [own_idleE (k := (1 : Int32)) hSB (Or.inl ⟨rfl, by omega, by omega⟩)]
          refine own_iload 243 rfl at_241 rfl ?_
          refine own_iload 245 rfl at_243 rfl ?_
          refine own_icmpNo 248 rfl at_245 (teq (rfl : (1 : Int32) = (1 : Int32))).2 ?_
          refine own_iconst 249 rfl (1 : Int32) at_248 rfl ?_
          refine own_goto 253 at_249 (by decide) (by decide) ?_
          refine own_retN rfl (by simp) at_253 (by decide) (by decide) ?_
          exact ⟨_, rfl, rfl⟩
      · have ihc199 : (0 : Int) ≤ qq.toInt := own_nltL hc199
        refine own_ifNo 202 rfl at_199 (flt (fun q => hc199 ((lw_lt _ _).mp q))).1 ?_
        have cq := c_lsub qq S
        have rq := rng64 (qq - S)
        have rq2 := rng64 qq
        refine own_lload 204 rfl at_202 rfl ?_
        refine own_lload 206 rfl at_204 rfl ?_
        refine own_lload 208 rfl at_206 rfl ?_
        refine own_lsub 209 rfl at_208 ?_
        refine own_lcmp 210 rfl at_209 ?_
        by_cases hc210 : (qq - S) < (own_maxJ (own_maxJ r1 r2) r3)
        · have ihc210 : (qq - S).toInt < (own_maxJ (own_maxJ r1 r2) r3).toInt := own_ltL hc210
          refine own_ifYes 217 at_210 (tlt ((lw_gt _ _).mpr hc210)).2.2.1 (by decide) (by decide) ?_
          refine own_iconst 218 rfl (0 : Int32) at_217 rfl ?_
          refine own_istore 220 rfl #[.val (.int ac), .val (.long asp), .second, .val (.long tt1), .second, .val (.long tt2), .second, .val (.long tt3), .second, .val (.long qq), .second, .val (.int (3 : Int32)), .val (.int N), .val (.long sp), .second, .val (.long S), .second, .val (.long L0), .second, .val (.long r1), .second, .val (.long r2), .second, .val (.long r3), .second, .val (.ref b5), .val (.long (own_maxJ (own_maxJ r1 r2) r3)), .second, .val (.int (own_idle S (own_maxJ (own_maxJ r1 r2) r3) qq)), .val (.int (0 : Int32))] at_218 rfl ?_
          refine own_goto 241 at_220 (by decide) (by decide) ?_
          rw [own_idleE (k := (0 : Int32)) hSB (Or.inr ⟨rfl, by omega⟩)]
          refine own_iload 243 rfl at_241 rfl ?_
          refine own_iload 245 rfl at_243 rfl ?_
          refine own_icmpNo 248 rfl at_245 (teq (rfl : (0 : Int32) = (0 : Int32))).2 ?_
          refine own_iconst 249 rfl (1 : Int32) at_248 rfl ?_
          refine own_goto 253 at_249 (by decide) (by decide) ?_
          refine own_retN rfl (by simp) at_253 (by decide) (by decide) ?_
          exact ⟨_, rfl, rfl⟩
        · have ihc210 : (own_maxJ (own_maxJ r1 r2) r3).toInt ≤ (qq - S).toInt := own_nltL hc210
          refine own_ifNo 213 rfl at_210 (flt (fun q => hc210 ((lw_gt _ _).mp q))).2.2.1 ?_
          refine own_iconst 214 rfl (1 : Int32) at_213 rfl ?_
          refine own_goto 218 at_214 (by decide) (by decide) ?_
          refine own_istore 220 rfl #[.val (.int ac), .val (.long asp), .second, .val (.long tt1), .second, .val (.long tt2), .second, .val (.long tt3), .second, .val (.long qq), .second, .val (.int (3 : Int32)), .val (.int N), .val (.long sp), .second, .val (.long S), .second, .val (.long L0), .second, .val (.long r1), .second, .val (.long r2), .second, .val (.long r3), .second, .val (.ref b5), .val (.long (own_maxJ (own_maxJ r1 r2) r3)), .second, .val (.int (own_idle S (own_maxJ (own_maxJ r1 r2) r3) qq)), .val (.int (1 : Int32))] at_218 rfl ?_
          refine own_goto 241 at_220 (by decide) (by decide) ?_
          rw [own_idleE (k := (1 : Int32)) hSB (Or.inl ⟨rfl, by omega, by omega⟩)]
          refine own_iload 243 rfl at_241 rfl ?_
          refine own_iload 245 rfl at_243 rfl ?_
          refine own_icmpNo 248 rfl at_245 (teq (rfl : (1 : Int32) = (1 : Int32))).2 ?_
          refine own_iconst 249 rfl (1 : Int32) at_248 rfl ?_
          refine own_goto 253 at_249 (by decide) (by decide) ?_
          refine own_retN rfl (by simp) at_253 (by decide) (by decide) ?_
          exact ⟨_, rfl, rfl⟩
set_option maxRecDepth 65536 in
set_option maxHeartbeats 40000000 in
theorem comes_1 {Post : Tables → Env → Array Value → State → Outcome → State → Prop} (hpost : ∀ tb e args s v u, (limb_1_1.after args s (.returned v) u = true ∧ limb_1_2.after args s (.returned v) u = true ∧ True) → ReturnedEndW s (.returned v) u (Jvm.fieldLocs frame_1_writes args s ++ Jvm.arrayLocs frame_1_arrays args s ++ Jvm.staticLocs frame_1_statics s) 16 1152 → Post tb e args s (.returned v) u) :
    ArmFor flags0 classFile x code maxLocals ret World_1 tables_1 room_1 Calls_1 rest_1 Pre_1 Post := by
  intro l hfl _ _ p e ha hc hk s m args below hf hA hF happ hP
  obtain ⟨hcalls, hrest, hpre⟩ := hP
  obtain ⟨-, -, -, hnamed, -, -, -, hat⟩ := (Spec.applies_iff hf).mp happ
  obtain ⟨hg, hn⟩ := and_e (Cond.before_iff.mp (show (Jvm.Cond.and given_1 narrow_1).before args s = true from hpre))
  obtain ⟨g0, gr0⟩ := and_e hg
  obtain ⟨g1, gr1⟩ := and_e gr0
  obtain ⟨g2, gr2⟩ := and_e gr1
  obtain ⟨g3, gr3⟩ := and_e gr2
  obtain ⟨g4, gr4⟩ := and_e gr3
  obtain ⟨g5, gr5⟩ := and_e gr4
  have g6 := gr5
  obtain ⟨w0, w1, w2, w3, w4, w5, rfl⟩ : ∃ w0 w1 w2 w3 w4 w5 : Value, args = #[w0, w1, w2, w3, w4, w5] := by
    have hs : args.size = 6 := by simpa [Cond.value, given_1] using g0
    obtain ⟨L⟩ := args
    match L, hs with
    | [w0, w1, w2, w3, w4, w5], _ => exact ⟨w0, w1, w2, w3, w4, w5, rfl⟩
  have hw := fun d (hd : d ∈ tables_1) => atoms_spec (ws := Jvm.Cond.code x code maxLocals ret :: tables_1) hat d (List.mem_cons_of_mem _ hd)
  have hfit : Fit s := fun {y c} hc i hi => by
    obtain ⟨ha, rfl⟩ := Array.getElem?_eq_some_iff.mp hc
    have q := List.all_eq_true.mp ((Array.all_eq_true_iff_forall_mem.mp hF) _ (Array.getElem_mem ha)) i (List.mem_range.mpr hi)
    simpa [Array.getElem?_eq_getElem hi] using q
  obtain ⟨i0, ei0⟩ := is_v g1
  obtain rfl : w0 = (.int i0) := Option.some.inj ei0
  obtain ⟨i1, ei1⟩ := isL_v g2
  obtain rfl : w1 = (.long i1) := Option.some.inj ei1
  obtain ⟨i2, ei2⟩ := isL_v g3
  obtain rfl : w2 = (.long i2) := Option.some.inj ei2
  obtain ⟨i3, ei3⟩ := isL_v g4
  obtain rfl : w3 = (.long i3) := Option.some.inj ei3
  obtain ⟨i4, ei4⟩ := isL_v g5
  obtain rfl : w4 = (.long i4) := Option.some.inj ei4
  obtain ⟨i5, ei5⟩ := isL_v g6
  obtain rfl : w5 = (.long i5) := Option.some.inj ei5
  obtain ⟨n0, r0⟩ := and_e hn
  have n1 := r0
  obtain ⟨w_KEY, ev_w_KEY⟩ := exa_v n0
  have S_w_KEY : Sta s s.heap "com/example/lean_limiter/leanlimiter/Scope" "KEY" "Lcom/example/lean_limiter/leanlimiter/Scope;" (.ref w_KEY) := Sta.start ev_w_KEY (Or.inr ⟨(hw _ (List.mem_of_getElem? (i := 21) rfl)), (hw _ (List.mem_of_getElem? (i := 22) rfl))⟩)
  have E_w_KEY : Exa s s.heap w_KEY "com/example/lean_limiter/leanlimiter/Scope" := Exa.start ev_w_KEY n0
  have ev_MAX_SPAN_MILLIS := own_eqL0 n1
  have S_MAX_SPAN_MILLIS : Sta s s.heap "com/example/lean_limiter/leanlimiter/Rule" "MAX_SPAN_MILLIS" "J" (.long (31622400000 : Int64)) := Sta.start ev_MAX_SPAN_MILLIS (Or.inr ⟨(hw _ (List.mem_of_getElem? (i := 16) rfl)), (hw _ (List.mem_of_getElem? (i := 50) rfl))⟩)
  obtain ⟨n', o, h1, h2, h3, _, L, rfl, ⟨⟨_, rfl, rfl⟩, N, -⟩, hq⟩ := rm0 l s _ hw tables_1 i0 i1 i2 i3 i4 i5 w_KEY s.heap (show own_Ini s w_KEY from ⟨S_w_KEY, E_w_KEY, S_MAX_SPAN_MILLIS⟩) (Old.start s) p e ha hc hk s m _ below hf ((Spec.applies_iff_loose hf).mp happ).1 ⟨rfl, State.Warmed39.refl s, rfl⟩ trivial
  refine ⟨n', _, h1, h2, h3, hpost _ _ _ _ _ _ ⟨Cond.after_iff.mpr rfl, Cond.after_iff.mpr (eq_i res_at (Term.int_eval (1)) rfl), trivial⟩ ⟨hq.1, hq.2.1, hq.2.2.1, (hq.2.2.2.sift fun y hy => Or.inr (N y hy)).mono (by decide) (by decide)⟩⟩
theorem main_1_1 : Claimed_1_1 := comes_1 fun _ _ _ _ _ _ h hF => ⟨h.1, hF⟩
theorem main_1_2 : Claimed_1_2 := comes_1 fun _ _ _ _ _ _ h hF => ⟨h.2.1, hF⟩
end Jvm.Pilot.@@N@@
namespace Jvm.Pilot.@@N@@
open Jvm Jvm.ClassFile Sem Op Lib Jvm.Free Jvm.Stand Jvm.Pilot.@@N@@.Jvm.D
/-! MADE BY PROGRAM (witnessworld.py) out of the Statement's table words and the real class files: 23 classes; the members and pool entries that the words name. The judged class is class 1, her method 1. -/
namespace start1
open Jvm.ClassFile
def u (s : String) : CpInfo := .utf8 (stringToUtf16 s)
/-- a pool by its gaps: so many unusable entries, then the entry; so many at the end -/
def gap : Nat → List CpInfo → List CpInfo
  | 0, r => r
  | n + 1, r => .unusable :: gap n r
def poolList (es : List (Nat × CpInfo)) (last : Nat) : List CpInfo := es.foldr (fun e r => gap e.1 (e.2 :: r)) (gap last [])
def pool (es : List (Nat × CpInfo)) (last : Nat) : Array CpInfo := ⟨poolList es last⟩
def fileOf (pool : Array CpInfo) (this : Nat) (attrs : Array Attribute := #[]) (ms : Array MethodInfo := #[]) (fl : Nat := 33) (sup : Nat := 0) (ifs : Array Nat := #[]) (fds : Array FieldInfo := #[]) : ClassFile where
  minorVersion := 0
  majorVersion := 65
  constantPool := pool
  accessFlags := fl
  thisClass := this
  superClass := sup
  interfaces := ifs
  fields := fds
  methods := ms
  attributes := attrs
def plain (name : String) (sup : Option ClassId) : Class where
  name := name
  kind := .ordinary
  loader := none
  accessFlags := 33
  super := sup
  interfaces := #[]
  cf := none
  fields := #[]
  methods := #[]
  instanceTypes := #[]
  staticTypes := #[]
  resolved := #[]
  callSites := []
  init := .initialized
  statics := none
  mirror := none

def pool0 : Array CpInfo := pool [(5, u "<init>"), (0, u "()V"), (1, .class_ 10), (1, u "java/lang/Object")] 113

def k0c0 : Code := { maxStack := 0, maxLocals := 1, code := object_method_1_code, exceptionTable := #[], attributes := #[] }
def k0m0 : Method := { name := "<init>", desc := "()V", sig := { parameters := [], returnType := none }, accessFlags := 1, code := some k0c0 }
/-- java/lang/Object -/
def k0 : Class := { plain "java/lang/Object" none with
  accessFlags := 33
  interfaces := #[]
  cf := some (fileOf pool0 8 #[] #[{ accessFlags := 1, nameIndex := 5, descriptorIndex := 6, attributes := #[] }] 33 0 #[] #[])
  fields := #[]
  methods := #[k0m0]
  instanceTypes := #[]
  staticTypes := #[]
  resolved := Array.replicate 124 none
  statics := none }

def pool1 : Array CpInfo := pool [(2, .class_ 4), (1, u "java/lang/Object"), (0, u "<init>"), (0, u "()V"), (0, .methodref 8 9), (0, .class_ 10), (0, .nameAndType 11 12), (0, u "java/lang/Math"), (0, u "max"), (0, u "(II)I"), (0, .long 9223372036854775807), (1, .long 31622400000), (1, .long 1000), (3, .long 9223372036854775808), (1, .methodref 8 24), (0, .nameAndType 11 25), (0, u "(JJ)J"), (0, .class_ 27), (0, u "com/example/lean_limiter/leanlimiter/ExactLog"), (0, .class_ 29), (0, u "com/example/lean_limiter/leanlimiter/Rule"), (0, .methodref 28 31), (0, .nameAndType 5 32), (0, u "(IJ)V"), (0, .methodref 26 34), (0, .nameAndType 5 35), (0, u "(Lcom/example/lean_limiter/leanlimiter/Rule;J)V"), (0, .methodref 26 37), (0, .nameAndType 38 39), (0, u "record"), (0, u "(J)V"), (0, .methodref 26 41), (0, .nameAndType 42 43), (0, u "isIdleAt"), (0, u "(J)Z"), (0, .class_ 45), (0, u "com/example/lean_limiter/leanlimiter/ExactLogIsIdleAtPinLaw"), (2, u "law"), (0, u "(IJJJJJ)Z")] 3

def k1m0 : Method := { name := "<init>", desc := "()V", sig := { parameters := [], returnType := none }, accessFlags := 1, code := none }
def k1c1 : Code := { maxStack := 7, maxLocals := 30, code := code, exceptionTable := #[], attributes := #[] }
def k1m1 : Method := { name := "law", desc := "(IJJJJJ)Z", sig := { parameters := [.int, .long, .long, .long, .long, .long], returnType := some .boolean }, accessFlags := 9, code := some k1c1 }
/-- com/example/lean_limiter/leanlimiter/ExactLogIsIdleAtPinLaw -/
def k1 : Class := { plain "com/example/lean_limiter/leanlimiter/ExactLogIsIdleAtPinLaw" (some 0) with
  accessFlags := 49
  interfaces := #[]
  cf := some (fileOf pool1 44 #[] #[{ accessFlags := 1, nameIndex := 5, descriptorIndex := 6, attributes := #[] }, { accessFlags := 9, nameIndex := 48, descriptorIndex := 49, attributes := #[] }] 49 2 #[] #[])
  fields := #[]
  methods := #[k1m0, k1m1]
  instanceTypes := #[]
  staticTypes := #[]
  resolved := Array.replicate 53 none
  statics := none }

def pool2 : Array CpInfo := pool [(1, .class_ 2), (0, u "java/lang/Math"), (1, .class_ 6), (1, u "java/lang/Object"), (0, u "<init>"), (0, u "()V"), (89, .class_ 100), (1, u "java/lang/Math$RandomNumberGeneratorHolder"), (20, u "(JJ)J"), (50, u "negativeZeroFloatBits"), (0, u "J"), (2, u "negativeZeroDoubleBits"), (21, u "max"), (2, u "min"), (43, u "$assertionsDisabled"), (0, u "Z"), (88, u "(II)I"), (2, u "twoToTheDoubleScaleDown"), (0, u "D"), (4, u "twoToTheDoubleScaleUp"), (9, u "E"), (3, u "PI"), (2, u "TAU"), (2, u "DEGREES_TO_RADIANS"), (0, u "RADIANS_TO_DEGREES"), (28, u "subtractExact")] 65

def k2m0 : Method := { name := "<init>", desc := "()V", sig := { parameters := [], returnType := none }, accessFlags := 2, code := none }
def k2c1 : Code := { maxStack := 6, maxLocals := 6, code := jdk_29_method_27_code, exceptionTable := #[], attributes := #[] }
def k2m1 : Method := { name := "subtractExact", desc := "(JJ)J", sig := { parameters := [.long, .long], returnType := some .long }, accessFlags := 9, code := some k2c1 }
def k2c2 : Code := { maxStack := 2, maxLocals := 2, code := jdk_29_method_65_code, exceptionTable := #[], attributes := #[] }
def k2m2 : Method := { name := "max", desc := "(II)I", sig := { parameters := [.int, .int], returnType := some .int }, accessFlags := 9, code := some k2c2 }
def k2c3 : Code := { maxStack := 4, maxLocals := 4, code := jdk_29_method_66_code, exceptionTable := #[], attributes := #[] }
def k2m3 : Method := { name := "max", desc := "(JJ)J", sig := { parameters := [.long, .long], returnType := some .long }, accessFlags := 9, code := some k2c3 }
def k2c4 : Code := { maxStack := 2, maxLocals := 2, code := jdk_29_method_69_code, exceptionTable := #[], attributes := #[] }
def k2m4 : Method := { name := "min", desc := "(II)I", sig := { parameters := [.int, .int], returnType := some .int }, accessFlags := 9, code := some k2c4 }
def k2c5 : Code := { maxStack := 4, maxLocals := 4, code := jdk_29_method_70_code, exceptionTable := #[], attributes := #[] }
def k2m5 : Method := { name := "min", desc := "(JJ)J", sig := { parameters := [.long, .long], returnType := some .long }, accessFlags := 9, code := some k2c5 }
/-- java/lang/Math -/
def k2 : Class := { plain "java/lang/Math" (some 0) with
  accessFlags := 49
  interfaces := #[]
  cf := some (fileOf pool2 1 #[.nestMembers #[98]] #[{ accessFlags := 2, nameIndex := 7, descriptorIndex := 8, attributes := #[] }, { accessFlags := 9, nameIndex := 394, descriptorIndex := 121, attributes := #[] }, { accessFlags := 9, nameIndex := 198, descriptorIndex := 335, attributes := #[] }, { accessFlags := 9, nameIndex := 198, descriptorIndex := 121, attributes := #[] }, { accessFlags := 9, nameIndex := 201, descriptorIndex := 335, attributes := #[] }, { accessFlags := 9, nameIndex := 201, descriptorIndex := 121, attributes := #[] }] 49 4 #[] #[{ accessFlags := 25, nameIndex := 354, descriptorIndex := 339, attributes := #[] }, { accessFlags := 25, nameIndex := 358, descriptorIndex := 339, attributes := #[] }, { accessFlags := 25, nameIndex := 361, descriptorIndex := 339, attributes := #[] }, { accessFlags := 26, nameIndex := 364, descriptorIndex := 339, attributes := #[] }, { accessFlags := 26, nameIndex := 365, descriptorIndex := 339, attributes := #[] }, { accessFlags := 26, nameIndex := 172, descriptorIndex := 173, attributes := #[] }, { accessFlags := 26, nameIndex := 176, descriptorIndex := 173, attributes := #[] }, { accessFlags := 8, nameIndex := 344, descriptorIndex := 339, attributes := #[] }, { accessFlags := 8, nameIndex := 338, descriptorIndex := 339, attributes := #[] }, { accessFlags := 4120, nameIndex := 245, descriptorIndex := 246, attributes := #[] }])
  fields := #[{ name := "E", type := .double, accessFlags := 25, slot := 0, constantValue := 0 }, { name := "PI", type := .double, accessFlags := 25, slot := 1, constantValue := 0 }, { name := "TAU", type := .double, accessFlags := 25, slot := 2, constantValue := 0 }, { name := "DEGREES_TO_RADIANS", type := .double, accessFlags := 26, slot := 3, constantValue := 0 }, { name := "RADIANS_TO_DEGREES", type := .double, accessFlags := 26, slot := 4, constantValue := 0 }, { name := "negativeZeroFloatBits", type := .long, accessFlags := 26, slot := 5, constantValue := 0 }, { name := "negativeZeroDoubleBits", type := .long, accessFlags := 26, slot := 6, constantValue := 0 }, { name := "twoToTheDoubleScaleUp", type := .double, accessFlags := 8, slot := 7, constantValue := 0 }, { name := "twoToTheDoubleScaleDown", type := .double, accessFlags := 8, slot := 8, constantValue := 0 }, { name := "$assertionsDisabled", type := .boolean, accessFlags := 4120, slot := 9, constantValue := 0 }]
  methods := #[k2m0, k2m1, k2m2, k2m3, k2m4, k2m5]
  instanceTypes := #[]
  staticTypes := #[.double, .double, .double, .double, .double, .long, .long, .double, .double, .boolean]
  resolved := Array.replicate 460 none
  statics := none }

def pool3 : Array CpInfo := pool [(1, .methodref 2 3), (0, .class_ 4), (0, .nameAndType 5 6), (0, u "java/lang/Object"), (0, u "<init>"), (0, u "()V"), (2, .long 9223372036854775808), (1, .fieldref 12 13), (0, .class_ 14), (0, .nameAndType 15 16), (0, u "com/example/lean_limiter/leanlimiter/Tally"), (0, u "fullUntil"), (0, u "J"), (0, .fieldref 12 18), (0, .nameAndType 19 20), (0, u "rule"), (0, u "Lcom/example/lean_limiter/leanlimiter/Rule;"), (0, .fieldref 12 22), (0, .nameAndType 23 16), (0, u "serial"), (10, u "(Lcom/example/lean_limiter/leanlimiter/Rule;J)V"), (21, u "retired"), (0, u "Z"), (14, u "(J)V"), (5, u "publishFullUntil")] 3

def k3c0 : Code := { maxStack := 3, maxLocals := 4, code := prog_15_method_1_code, exceptionTable := #[], attributes := #[] }
def k3m0 : Method := { name := "<init>", desc := "(Lcom/example/lean_limiter/leanlimiter/Rule;J)V", sig := { parameters := [(.object "com/example/lean_limiter/leanlimiter/Rule"), .long], returnType := none }, accessFlags := 0, code := some k3c0 }
def k3c1 : Code := { maxStack := 3, maxLocals := 3, code := prog_15_method_12_code, exceptionTable := #[], attributes := #[] }
def k3m1 : Method := { name := "publishFullUntil", desc := "(J)V", sig := { parameters := [.long], returnType := none }, accessFlags := 16, code := some k3c1 }
/-- com/example/lean_limiter/leanlimiter/Tally -/
def k3 : Class := { plain "com/example/lean_limiter/leanlimiter/Tally" (some 0) with
  accessFlags := 1056
  interfaces := #[]
  cf := some (fileOf pool3 12 #[] #[{ accessFlags := 0, nameIndex := 5, descriptorIndex := 34, attributes := #[] }, { accessFlags := 16, nameIndex := 78, descriptorIndex := 72, attributes := #[] }] 1056 2 #[] #[{ accessFlags := 18, nameIndex := 19, descriptorIndex := 20, attributes := #[] }, { accessFlags := 18, nameIndex := 23, descriptorIndex := 16, attributes := #[] }, { accessFlags := 2, nameIndex := 56, descriptorIndex := 57, attributes := #[] }, { accessFlags := 66, nameIndex := 15, descriptorIndex := 16, attributes := #[] }])
  fields := #[{ name := "rule", type := (.object "com/example/lean_limiter/leanlimiter/Rule"), accessFlags := 18, slot := 0, constantValue := 0 }, { name := "serial", type := .long, accessFlags := 18, slot := 1, constantValue := 0 }, { name := "retired", type := .boolean, accessFlags := 2, slot := 2, constantValue := 0 }, { name := "fullUntil", type := .long, accessFlags := 66, slot := 3, constantValue := 0 }]
  methods := #[k3m0, k3m1]
  instanceTypes := #[(.object "com/example/lean_limiter/leanlimiter/Rule"), .long, .boolean, .long]
  staticTypes := #[]
  resolved := Array.replicate 82 none
  statics := none }

def pool4 : Array CpInfo := pool [(1, .methodref 2 3), (0, .class_ 4), (0, .nameAndType 5 6), (0, u "com/example/lean_limiter/leanlimiter/Tally"), (0, u "<init>"), (0, u "(Lcom/example/lean_limiter/leanlimiter/Rule;J)V"), (0, .methodref 8 9), (0, .class_ 10), (0, .nameAndType 11 12), (0, u "com/example/lean_limiter/leanlimiter/Rule"), (0, u "count"), (0, u "()I"), (0, .fieldref 14 15), (0, .class_ 16), (0, .nameAndType 11 17), (0, u "com/example/lean_limiter/leanlimiter/ExactLog"), (0, u "I"), (0, .methodref 8 19), (0, .nameAndType 20 21), (0, u "spanMillis"), (0, u "()J"), (0, .long 1000), (1, .fieldref 14 25), (0, .nameAndType 26 27), (0, u "spanMicros"), (0, u "J"), (0, .methodref 29 30), (0, .class_ 31), (0, .nameAndType 32 33), (0, u "java/lang/Math"), (0, u "min"), (0, u "(II)I"), (0, .fieldref 14 35), (0, .nameAndType 36 37), (0, u "times"), (0, u "[J"), (0, .fieldref 14 39), (0, .nameAndType 40 17), (0, u "size"), (0, .methodref 14 42), (0, .nameAndType 43 44), (0, u "decidedAt"), (0, u "(J)J"), (0, .methodref 14 46), (0, .nameAndType 47 44), (0, u "windowStart"), (0, .methodref 14 49), (0, .nameAndType 50 51), (0, u "countLeft"), (0, u "(J)I"), (0, .fieldref 14 53), (0, .nameAndType 54 17), (0, u "head"), (3, u "(JJ)J"), (0, .methodref 14 60), (0, .nameAndType 61 62), (0, u "indexOf"), (0, u "(I)I"), (0, .methodref 14 64), (0, .nameAndType 65 66), (0, u "append"), (0, u "(J)V"), (2, .long 9223372036854775807), (1, .long 9223372036854775808), (1, .methodref 14 74), (0, .nameAndType 75 66), (0, u "publishFullUntil"), (0, .methodref 14 77), (0, .nameAndType 78 21), (0, u "newest"), (0, .methodref 29 80), (0, .nameAndType 81 58), (0, u "max"), (0, .methodref 29 83), (0, .nameAndType 84 58), (0, u "subtractExact"), (0, .methodref 29 86), (0, .nameAndType 32 58), (0, .long 2), (5, u "FIRST_CAPACITY"), (2, u "MICROS_PER_MILLI"), (4, u "record"), (1, u "isIdleAt"), (0, u "(J)Z")] 3

def k4c0 : Code := { maxStack := 5, maxLocals := 4, code := prog_3_method_1_code, exceptionTable := #[], attributes := #[] }
def k4m0 : Method := { name := "<init>", desc := "(Lcom/example/lean_limiter/leanlimiter/Rule;J)V", sig := { parameters := [(.object "com/example/lean_limiter/leanlimiter/Rule"), .long], returnType := none }, accessFlags := 0, code := some k4c0 }
def k4c1 : Code := { maxStack := 6, maxLocals := 9, code := prog_3_method_4_code, exceptionTable := #[], attributes := #[] }
def k4m1 : Method := { name := "record", desc := "(J)V", sig := { parameters := [.long], returnType := none }, accessFlags := 0, code := some k4c1 }
def k4c2 : Code := { maxStack := 6, maxLocals := 3, code := prog_3_method_5_code, exceptionTable := #[], attributes := #[] }
def k4m2 : Method := { name := "isIdleAt", desc := "(J)Z", sig := { parameters := [.long], returnType := some .boolean }, accessFlags := 0, code := some k4c2 }
def k4c3 : Code := { maxStack := 4, maxLocals := 3, code := prog_3_method_6_code, exceptionTable := #[], attributes := #[] }
def k4m3 : Method := { name := "decidedAt", desc := "(J)J", sig := { parameters := [.long], returnType := some .long }, accessFlags := 2, code := some k4c3 }
def k4c4 : Code := { maxStack := 4, maxLocals := 3, code := prog_3_method_7_code, exceptionTable := #[], attributes := #[] }
def k4m4 : Method := { name := "windowStart", desc := "(J)J", sig := { parameters := [.long], returnType := some .long }, accessFlags := 2, code := some k4c4 }
def k4c5 : Code := { maxStack := 4, maxLocals := 9, code := prog_3_method_8_code, exceptionTable := #[], attributes := #[] }
def k4m5 : Method := { name := "countLeft", desc := "(J)I", sig := { parameters := [.long], returnType := some .int }, accessFlags := 2, code := some k4c5 }
def k4c6 : Code := { maxStack := 4, maxLocals := 1, code := prog_3_method_9_code, exceptionTable := #[], attributes := #[] }
def k4m6 : Method := { name := "newest", desc := "()J", sig := { parameters := [], returnType := some .long }, accessFlags := 2, code := some k4c6 }
def k4c7 : Code := { maxStack := 4, maxLocals := 3, code := prog_3_method_10_code, exceptionTable := #[], attributes := #[] }
def k4m7 : Method := { name := "append", desc := "(J)V", sig := { parameters := [.long], returnType := none }, accessFlags := 2, code := some k4c7 }
def k4c8 : Code := { maxStack := 2, maxLocals := 3, code := prog_3_method_12_code, exceptionTable := #[], attributes := #[] }
def k4m8 : Method := { name := "indexOf", desc := "(I)I", sig := { parameters := [.int], returnType := some .int }, accessFlags := 2, code := some k4c8 }
/-- com/example/lean_limiter/leanlimiter/ExactLog -/
def k4 : Class := { plain "com/example/lean_limiter/leanlimiter/ExactLog" (some 3) with
  accessFlags := 48
  interfaces := #[]
  cf := some (fileOf pool4 14 #[] #[{ accessFlags := 0, nameIndex := 5, descriptorIndex := 6, attributes := #[] }, { accessFlags := 0, nameIndex := 101, descriptorIndex := 66, attributes := #[] }, { accessFlags := 0, nameIndex := 103, descriptorIndex := 104, attributes := #[] }, { accessFlags := 2, nameIndex := 43, descriptorIndex := 44, attributes := #[] }, { accessFlags := 2, nameIndex := 47, descriptorIndex := 44, attributes := #[] }, { accessFlags := 2, nameIndex := 50, descriptorIndex := 51, attributes := #[] }, { accessFlags := 2, nameIndex := 78, descriptorIndex := 21, attributes := #[] }, { accessFlags := 2, nameIndex := 65, descriptorIndex := 66, attributes := #[] }, { accessFlags := 2, nameIndex := 61, descriptorIndex := 62, attributes := #[] }] 48 2 #[] #[{ accessFlags := 26, nameIndex := 93, descriptorIndex := 17, attributes := #[] }, { accessFlags := 26, nameIndex := 96, descriptorIndex := 27, attributes := #[] }, { accessFlags := 18, nameIndex := 11, descriptorIndex := 17, attributes := #[] }, { accessFlags := 18, nameIndex := 26, descriptorIndex := 27, attributes := #[] }, { accessFlags := 2, nameIndex := 36, descriptorIndex := 37, attributes := #[] }, { accessFlags := 2, nameIndex := 54, descriptorIndex := 17, attributes := #[] }, { accessFlags := 2, nameIndex := 40, descriptorIndex := 17, attributes := #[] }])
  fields := #[{ name := "FIRST_CAPACITY", type := .int, accessFlags := 26, slot := 0, constantValue := 0 }, { name := "MICROS_PER_MILLI", type := .long, accessFlags := 26, slot := 1, constantValue := 0 }, { name := "count", type := .int, accessFlags := 18, slot := 4, constantValue := 0 }, { name := "spanMicros", type := .long, accessFlags := 18, slot := 5, constantValue := 0 }, { name := "times", type := (.array .long), accessFlags := 2, slot := 6, constantValue := 0 }, { name := "head", type := .int, accessFlags := 2, slot := 7, constantValue := 0 }, { name := "size", type := .int, accessFlags := 2, slot := 8, constantValue := 0 }]
  methods := #[k4m0, k4m1, k4m2, k4m3, k4m4, k4m5, k4m6, k4m7, k4m8]
  instanceTypes := #[(.object "com/example/lean_limiter/leanlimiter/Rule"), .long, .boolean, .long, .int, .long, (.array .long), .int, .int]
  staticTypes := #[.int, .long]
  resolved := Array.replicate 108 none
  statics := none }

def pool5 : Array CpInfo := pool [(1, .methodref 2 3), (0, .class_ 4), (0, .nameAndType 5 6), (0, u "java/lang/Object"), (0, u "<init>"), (0, u "()V"), (0, .class_ 8), (0, u "java/lang/Record")] 13

def k5c0 : Code := { maxStack := 1, maxLocals := 1, code := jdk_30_method_1_code, exceptionTable := #[], attributes := #[] }
def k5m0 : Method := { name := "<init>", desc := "()V", sig := { parameters := [], returnType := none }, accessFlags := 4, code := some k5c0 }
/-- java/lang/Record -/
def k5 : Class := { plain "java/lang/Record" (some 0) with
  accessFlags := 1057
  interfaces := #[]
  cf := some (fileOf pool5 7 #[] #[{ accessFlags := 4, nameIndex := 5, descriptorIndex := 6, attributes := #[] }] 1057 2 #[] #[])
  fields := #[]
  methods := #[k5m0]
  instanceTypes := #[]
  staticTypes := #[]
  resolved := Array.replicate 22 none
  statics := none }

def pool6 : Array CpInfo := pool [(1, .methodref 2 3), (0, .class_ 4), (0, .nameAndType 5 6), (0, u "java/lang/Record"), (0, u "<init>"), (0, u "()V"), (0, .string 8), (0, u "scope"), (0, .methodref 10 11), (0, .class_ 12), (0, .nameAndType 13 14), (0, u "java/util/Objects"), (0, u "requireNonNull"), (0, u "(Ljava/lang/Object;Ljava/lang/String;)Ljava/lang/Object;"), (9, .class_ 25), (0, u "com/example/lean_limiter/leanlimiter/Rule"), (0, .fieldref 24 27), (0, .nameAndType 28 29), (0, u "MAX_SPAN_MILLIS"), (0, u "J"), (11, .fieldref 24 42), (0, .nameAndType 43 44), (0, u "count"), (0, u "I"), (0, .fieldref 24 46), (0, .nameAndType 47 29), (0, u "spanMillis"), (0, .fieldref 24 49), (0, .nameAndType 8 50), (0, u "Lcom/example/lean_limiter/leanlimiter/Scope;"), (0, .fieldref 24 52), (0, .nameAndType 53 44), (0, u "slots"), (0, .methodref 24 55), (0, .nameAndType 5 56), (0, u "(IJLcom/example/lean_limiter/leanlimiter/Scope;I)V"), (0, .fieldref 58 59), (0, .class_ 60), (0, .nameAndType 61 50), (0, u "com/example/lean_limiter/leanlimiter/Scope"), (0, u "KEY"), (0, .methodref 24 63), (0, .nameAndType 5 64), (0, u "(IJLcom/example/lean_limiter/leanlimiter/Scope;)V"), (7, u "()I"), (13, u "()J"), (4, u "(IJ)V"), (20, u "MIN_SPAN_MILLIS"), (3, u "MAX_SLOTS"), (1, u "EXACT_LOG"), (1, u "NANOS_PER_MILLI")] 57

def k6c0 : Code := { maxStack := 5, maxLocals := 6, code := prog_10_method_1_code, exceptionTable := #[], attributes := #[] }
def k6m0 : Method := { name := "<init>", desc := "(IJLcom/example/lean_limiter/leanlimiter/Scope;I)V", sig := { parameters := [.int, .long, (.object "com/example/lean_limiter/leanlimiter/Scope"), .int], returnType := none }, accessFlags := 1, code := some k6c0 }
def k6c1 : Code := { maxStack := 6, maxLocals := 5, code := prog_10_method_2_code, exceptionTable := #[], attributes := #[] }
def k6m1 : Method := { name := "<init>", desc := "(IJLcom/example/lean_limiter/leanlimiter/Scope;)V", sig := { parameters := [.int, .long, (.object "com/example/lean_limiter/leanlimiter/Scope")], returnType := none }, accessFlags := 1, code := some k6c1 }
def k6c2 : Code := { maxStack := 5, maxLocals := 4, code := prog_10_method_3_code, exceptionTable := #[], attributes := #[] }
def k6m2 : Method := { name := "<init>", desc := "(IJ)V", sig := { parameters := [.int, .long], returnType := none }, accessFlags := 1, code := some k6c2 }
def k6c3 : Code := { maxStack := 1, maxLocals := 1, code := prog_10_method_11_code, exceptionTable := #[], attributes := #[] }
def k6m3 : Method := { name := "count", desc := "()I", sig := { parameters := [], returnType := some .int }, accessFlags := 1, code := some k6c3 }
def k6c4 : Code := { maxStack := 2, maxLocals := 1, code := prog_10_method_12_code, exceptionTable := #[], attributes := #[] }
def k6m4 : Method := { name := "spanMillis", desc := "()J", sig := { parameters := [], returnType := some .long }, accessFlags := 1, code := some k6c4 }
/-- com/example/lean_limiter/leanlimiter/Rule -/
def k6 : Class := { plain "com/example/lean_limiter/leanlimiter/Rule" (some 5) with
  accessFlags := 49
  interfaces := #[]
  cf := some (fileOf pool6 24 #[] #[{ accessFlags := 1, nameIndex := 5, descriptorIndex := 56, attributes := #[] }, { accessFlags := 1, nameIndex := 5, descriptorIndex := 64, attributes := #[] }, { accessFlags := 1, nameIndex := 5, descriptorIndex := 91, attributes := #[] }, { accessFlags := 1, nameIndex := 43, descriptorIndex := 72, attributes := #[] }, { accessFlags := 1, nameIndex := 47, descriptorIndex := 86, attributes := #[] }] 49 2 #[] #[{ accessFlags := 18, nameIndex := 43, descriptorIndex := 44, attributes := #[] }, { accessFlags := 18, nameIndex := 47, descriptorIndex := 29, attributes := #[] }, { accessFlags := 18, nameIndex := 8, descriptorIndex := 50, attributes := #[] }, { accessFlags := 18, nameIndex := 53, descriptorIndex := 44, attributes := #[] }, { accessFlags := 26, nameIndex := 112, descriptorIndex := 29, attributes := #[] }, { accessFlags := 26, nameIndex := 28, descriptorIndex := 29, attributes := #[] }, { accessFlags := 26, nameIndex := 116, descriptorIndex := 44, attributes := #[] }, { accessFlags := 26, nameIndex := 118, descriptorIndex := 44, attributes := #[] }, { accessFlags := 26, nameIndex := 120, descriptorIndex := 44, attributes := #[] }])
  fields := #[{ name := "count", type := .int, accessFlags := 18, slot := 0, constantValue := 0 }, { name := "spanMillis", type := .long, accessFlags := 18, slot := 1, constantValue := 0 }, { name := "scope", type := (.object "com/example/lean_limiter/leanlimiter/Scope"), accessFlags := 18, slot := 2, constantValue := 0 }, { name := "slots", type := .int, accessFlags := 18, slot := 3, constantValue := 0 }, { name := "MIN_SPAN_MILLIS", type := .long, accessFlags := 26, slot := 0, constantValue := 0 }, { name := "MAX_SPAN_MILLIS", type := .long, accessFlags := 26, slot := 1, constantValue := 0 }, { name := "MAX_SLOTS", type := .int, accessFlags := 26, slot := 2, constantValue := 0 }, { name := "EXACT_LOG", type := .int, accessFlags := 26, slot := 3, constantValue := 0 }, { name := "NANOS_PER_MILLI", type := .int, accessFlags := 26, slot := 4, constantValue := 0 }]
  methods := #[k6m0, k6m1, k6m2, k6m3, k6m4]
  instanceTypes := #[.int, .long, (.object "com/example/lean_limiter/leanlimiter/Scope"), .int]
  staticTypes := #[.long, .long, .int, .int, .int]
  resolved := Array.replicate 178 none
  statics := some 0 }

def pool7 : Array CpInfo := pool [(1, .class_ 2), (0, u "java/lang/constant/Constable"), (0, .class_ 4), (0, u "java/lang/Object")] 6

/-- java/lang/constant/Constable -/
def k7 : Class := { plain "java/lang/constant/Constable" (some 0) with
  accessFlags := 1537
  interfaces := #[]
  cf := some (fileOf pool7 1 #[] #[] 1537 3 #[] #[])
  fields := #[]
  methods := #[]
  instanceTypes := #[]
  staticTypes := #[]
  resolved := Array.replicate 11 none
  statics := none }

def pool8 : Array CpInfo := pool [(1, .class_ 2), (0, u "java/lang/Comparable"), (0, .class_ 4), (0, u "java/lang/Object")] 7

/-- java/lang/Comparable -/
def k8 : Class := { plain "java/lang/Comparable" (some 0) with
  accessFlags := 1537
  interfaces := #[]
  cf := some (fileOf pool8 1 #[] #[] 1537 3 #[] #[])
  fields := #[]
  methods := #[]
  instanceTypes := #[]
  staticTypes := #[]
  resolved := Array.replicate 12 none
  statics := none }

def pool9 : Array CpInfo := pool [(1, .class_ 2), (0, u "java/io/Serializable"), (0, .class_ 4), (0, u "java/lang/Object")] 2

/-- java/io/Serializable -/
def k9 : Class := { plain "java/io/Serializable" (some 0) with
  accessFlags := 1537
  interfaces := #[]
  cf := some (fileOf pool9 1 #[] #[] 1537 3 #[] #[])
  fields := #[]
  methods := #[]
  instanceTypes := #[]
  staticTypes := #[]
  resolved := Array.replicate 7 none
  statics := none }

def pool10 : Array CpInfo := pool [(2, .class_ 4), (1, u "java/lang/Enum"), (0, u "name"), (0, u "Ljava/lang/String;"), (2, u "ordinal"), (0, u "I"), (1, .class_ 14), (1, u "java/lang/Object"), (4, u "hash"), (86, .class_ 108), (1, u "java/lang/Enum$EnumDesc"), (2, .class_ 112), (0, u "java/lang/constant/Constable"), (0, .class_ 114), (0, u "java/lang/Comparable"), (0, .class_ 116), (0, u "java/io/Serializable")] 87

/-- java/lang/Enum -/
def k10 : Class := { plain "java/lang/Enum" (some 0) with
  accessFlags := 1057
  interfaces := #[7, 8, 9]
  cf := some (fileOf pool10 2 #[.nestMembers #[106]] #[] 1057 12 #[111, 113, 115] #[{ accessFlags := 18, nameIndex := 5, descriptorIndex := 6, attributes := #[] }, { accessFlags := 18, nameIndex := 9, descriptorIndex := 10, attributes := #[] }, { accessFlags := 2, nameIndex := 19, descriptorIndex := 10, attributes := #[] }])
  fields := #[{ name := "name", type := (.object "java/lang/String"), accessFlags := 18, slot := 0, constantValue := 0 }, { name := "ordinal", type := .int, accessFlags := 18, slot := 1, constantValue := 0 }, { name := "hash", type := .int, accessFlags := 2, slot := 2, constantValue := 0 }]
  methods := #[]
  instanceTypes := #[(.object "java/lang/String"), .int, .int]
  staticTypes := #[]
  resolved := Array.replicate 204 none
  statics := none }

def pool11 : Array CpInfo := pool [(1, .class_ 2), (0, u "com/example/lean_limiter/leanlimiter/Scope"), (2, u "KEY"), (0, u "Lcom/example/lean_limiter/leanlimiter/Scope;"), (2, u "CLIENT"), (2, u "USER"), (2, u "$VALUES"), (0, u "[Lcom/example/lean_limiter/leanlimiter/Scope;"), (6, .class_ 25), (1, u "java/lang/Enum"), (8, u "label"), (0, u "Ljava/lang/String;")] 29

/-- com/example/lean_limiter/leanlimiter/Scope -/
def k11 : Class := { plain "com/example/lean_limiter/leanlimiter/Scope" (some 10) with
  accessFlags := 16433
  interfaces := #[]
  cf := some (fileOf pool11 1 #[] #[] 16433 23 #[] #[{ accessFlags := 16409, nameIndex := 5, descriptorIndex := 6, attributes := #[] }, { accessFlags := 16409, nameIndex := 9, descriptorIndex := 6, attributes := #[] }, { accessFlags := 16409, nameIndex := 12, descriptorIndex := 6, attributes := #[] }, { accessFlags := 18, nameIndex := 34, descriptorIndex := 35, attributes := #[] }, { accessFlags := 4122, nameIndex := 15, descriptorIndex := 16, attributes := #[] }])
  fields := #[{ name := "KEY", type := (.object "com/example/lean_limiter/leanlimiter/Scope"), accessFlags := 16409, slot := 0, constantValue := 0 }, { name := "CLIENT", type := (.object "com/example/lean_limiter/leanlimiter/Scope"), accessFlags := 16409, slot := 1, constantValue := 0 }, { name := "USER", type := (.object "com/example/lean_limiter/leanlimiter/Scope"), accessFlags := 16409, slot := 2, constantValue := 0 }, { name := "label", type := (.object "java/lang/String"), accessFlags := 18, slot := 3, constantValue := 0 }, { name := "$VALUES", type := (.array (.object "com/example/lean_limiter/leanlimiter/Scope")), accessFlags := 4122, slot := 3, constantValue := 0 }]
  methods := #[]
  instanceTypes := #[(.object "java/lang/String"), .int, .int, (.object "java/lang/String")]
  staticTypes := #[(.object "com/example/lean_limiter/leanlimiter/Scope"), (.object "com/example/lean_limiter/leanlimiter/Scope"), (.object "com/example/lean_limiter/leanlimiter/Scope"), (.array (.object "com/example/lean_limiter/leanlimiter/Scope"))]
  resolved := Array.replicate 65 none
  statics := some 1 }

def pool12 : Array CpInfo := pool [(2, .class_ 4), (1, u "java/lang/CharSequence"), (42, .class_ 48), (0, u "java/lang/CharSequence$1CodePointIterator"), (10, .class_ 60), (0, u "java/lang/CharSequence$1CharIterator"), (5, .class_ 67), (0, u "java/lang/Object")] 63

/-- java/lang/CharSequence -/
def k12 : Class := { plain "java/lang/CharSequence" (some 0) with
  accessFlags := 1537
  interfaces := #[]
  cf := some (fileOf pool12 2 #[.nestMembers #[47, 59]] #[] 1537 66 #[] #[])
  fields := #[]
  methods := #[]
  instanceTypes := #[]
  staticTypes := #[]
  resolved := Array.replicate 131 none
  statics := none }

def pool13 : Array CpInfo := pool [(1, .class_ 2), (0, u "java/lang/constant/ConstantDesc"), (0, .class_ 4), (0, u "java/lang/Object")] 32

/-- java/lang/constant/ConstantDesc -/
def k13 : Class := { plain "java/lang/constant/ConstantDesc" (some 0) with
  accessFlags := 1537
  interfaces := #[]
  cf := some (fileOf pool13 1 #[] #[] 1537 3 #[] #[])
  fields := #[]
  methods := #[]
  instanceTypes := #[]
  staticTypes := #[]
  resolved := Array.replicate 37 none
  statics := none }

def pool14 : Array CpInfo := pool [(2, .class_ 4), (1, u "java/lang/Object"), (0, u "<init>"), (0, u "()V"), (3, .class_ 12), (1, u "java/lang/String"), (0, u "value"), (0, u "[B"), (2, u "coder"), (0, u "B"), (2, u "hash"), (0, u "I"), (2, u "hashIsZero"), (0, u "Z"), (13, u "COMPACT_STRINGS"), (534, .class_ 576), (0, u "java/lang/CharSequence"), (22, u "CASE_INSENSITIVE_ORDER"), (0, u "Ljava/util/Comparator;"), (500, u "serialPersistentFields"), (0, u "[Ljava/io/ObjectStreamField;"), (0, .class_ 1104), (0, u "java/lang/String$CaseInsensitiveComparator"), (1, .class_ 1107), (0, u "java/io/Serializable"), (0, .class_ 1109), (0, u "java/lang/Comparable"), (0, .class_ 1111), (0, u "java/lang/constant/Constable"), (0, .class_ 1113), (0, u "java/lang/constant/ConstantDesc"), (2, u "serialVersionUID"), (0, u "J"), (3, u "REPL"), (0, u "C"), (2, u "LATIN1"), (1, u "UTF16")] 323

def k14m0 : Method := { name := "<init>", desc := "()V", sig := { parameters := [], returnType := none }, accessFlags := 1, code := none }
/-- java/lang/String -/
def k14 : Class := { plain "java/lang/String" (some 0) with
  accessFlags := 49
  interfaces := #[9, 8, 12, 7, 13]
  cf := some (fileOf pool14 10 #[.nestMembers #[1103]] #[{ accessFlags := 1, nameIndex := 5, descriptorIndex := 6, attributes := #[] }] 49 2 #[1106, 1108, 575, 1110, 1112] #[{ accessFlags := 18, nameIndex := 13, descriptorIndex := 14, attributes := #[] }, { accessFlags := 18, nameIndex := 17, descriptorIndex := 18, attributes := #[] }, { accessFlags := 2, nameIndex := 21, descriptorIndex := 22, attributes := #[] }, { accessFlags := 2, nameIndex := 25, descriptorIndex := 26, attributes := #[] }, { accessFlags := 26, nameIndex := 1116, descriptorIndex := 1117, attributes := #[] }, { accessFlags := 24, nameIndex := 40, descriptorIndex := 26, attributes := #[] }, { accessFlags := 26, nameIndex := 1101, descriptorIndex := 1102, attributes := #[] }, { accessFlags := 26, nameIndex := 1121, descriptorIndex := 1122, attributes := #[] }, { accessFlags := 25, nameIndex := 599, descriptorIndex := 600, attributes := #[] }, { accessFlags := 24, nameIndex := 1125, descriptorIndex := 18, attributes := #[] }, { accessFlags := 24, nameIndex := 1127, descriptorIndex := 18, attributes := #[] }])
  fields := #[{ name := "value", type := (.array .byte), accessFlags := 18, slot := 0, constantValue := 0 }, { name := "coder", type := .byte, accessFlags := 18, slot := 1, constantValue := 0 }, { name := "hash", type := .int, accessFlags := 2, slot := 2, constantValue := 0 }, { name := "hashIsZero", type := .boolean, accessFlags := 2, slot := 3, constantValue := 0 }, { name := "serialVersionUID", type := .long, accessFlags := 26, slot := 0, constantValue := 0 }, { name := "COMPACT_STRINGS", type := .boolean, accessFlags := 24, slot := 1, constantValue := 0 }, { name := "serialPersistentFields", type := (.array (.object "java/io/ObjectStreamField")), accessFlags := 26, slot := 2, constantValue := 0 }, { name := "REPL", type := .char, accessFlags := 26, slot := 3, constantValue := 0 }, { name := "CASE_INSENSITIVE_ORDER", type := (.object "java/util/Comparator"), accessFlags := 25, slot := 4, constantValue := 0 }, { name := "LATIN1", type := .byte, accessFlags := 24, slot := 5, constantValue := 0 }, { name := "UTF16", type := .byte, accessFlags := 24, slot := 6, constantValue := 0 }]
  methods := #[k14m0]
  instanceTypes := #[(.array .byte), .byte, .int, .boolean]
  staticTypes := #[.long, .boolean, (.array (.object "java/io/ObjectStreamField")), .char, (.object "java/util/Comparator"), .byte, .byte]
  resolved := Array.replicate 1451 none
  statics := none }

def pool15 : Array CpInfo := pool [(2, .class_ 4), (1, u "java/lang/Object"), (0, u "<init>"), (0, u "()V"), (35, .class_ 44), (1, u "java/util/Objects"), (0, u "requireNonNull"), (48, u "(Ljava/lang/Object;Ljava/lang/String;)Ljava/lang/Object;")] 89

def k15m0 : Method := { name := "<init>", desc := "()V", sig := { parameters := [], returnType := none }, accessFlags := 2, code := none }
def k15c1 : Code := { maxStack := 3, maxLocals := 2, code := jdk_31_method_11_code, exceptionTable := #[], attributes := #[] }
def k15m1 : Method := { name := "requireNonNull", desc := "(Ljava/lang/Object;Ljava/lang/String;)Ljava/lang/Object;", sig := { parameters := [(.object "java/lang/Object"), (.object "java/lang/String")], returnType := some (.object "java/lang/Object") }, accessFlags := 9, code := some k15c1 }
/-- java/util/Objects -/
def k15 : Class := { plain "java/util/Objects" (some 0) with
  accessFlags := 49
  interfaces := #[]
  cf := some (fileOf pool15 42 #[] #[{ accessFlags := 2, nameIndex := 5, descriptorIndex := 6, attributes := #[] }, { accessFlags := 9, nameIndex := 45, descriptorIndex := 94, attributes := #[] }] 49 2 #[] #[])
  fields := #[]
  methods := #[k15m0, k15m1]
  instanceTypes := #[]
  staticTypes := #[]
  resolved := Array.replicate 184 none
  statics := none }

def pool16 : Array CpInfo := pool [(1, u "java/lang/Cloneable"), (0, .class_ 1), (0, u "java/lang/Object"), (0, .class_ 3)] 3

/-- java/lang/Cloneable -/
def k16 : Class := { plain "java/lang/Cloneable" (some 0) with
  accessFlags := 1537
  interfaces := #[]
  cf := some (fileOf pool16 2 #[] #[] 1537 4 #[] #[])
  fields := #[]
  methods := #[]
  instanceTypes := #[]
  staticTypes := #[]
  resolved := Array.replicate 8 none
  statics := none }

/-- the primitive byte -/
def k17 : Class := { plain "byte" none with kind := .primitive 'B', accessFlags := 0x411 }
/-- [B -/
def k18 : Class := { plain "[B" (some 0) with kind := .array 17 .byte, interfaces := #[16, 9], accessFlags := 1041 }

/-- the primitive int -/
def k19 : Class := { plain "int" none with kind := .primitive 'I', accessFlags := 0x411 }
/-- [I -/
def k20 : Class := { plain "[I" (some 0) with kind := .array 19 .int, interfaces := #[16, 9], accessFlags := 1041 }

/-- the primitive long -/
def k21 : Class := { plain "long" none with kind := .primitive 'J', accessFlags := 0x411 }
/-- [J -/
def k22 : Class := { plain "[J" (some 0) with kind := .array 21 .long, interfaces := #[16, 9], accessFlags := 1041 }

def heap : Heap := #[{ cls := 6, slots := #[.long 0, .long 31622400000, .int 0, .int 0, .int 0], vm := .statics 6 },
  { cls := 11, slots := #[.ref 2, .null, .null, .null], vm := .statics 11 },
  { cls := 11, slots := #[.null, .int 0, .int 0, .null], vm := .none }]
def classes : Array Class := #[k0, k1, k2, k3, k4, k5, k6, k7, k8, k9, k10, k11, k12, k13, k14, k15, k16, k17, k18, k19, k20, k21, k22]
def interned : List (Array UInt16 × Addr) := []
def slotsUsed : Nat := 13
def theMethod : MethodId := ⟨1, 1⟩
def args0 : Array Value := #[.int 6, .long 5, .long 7, .long 1, .long 2, .long 3]
def aboutOver (below : List Frame) : State where
  vm := { classes := classes, interned := interned.toArray }
  heap := heap
  slotsUsed := slotsUsed
  threads := #[{ frames := .invoking theMethod args0 :: below }]
def below0 : List Frame := [.native { method := ⟨0, 0⟩, args := #[] }]
def about1 : State := aboutOver below0
def p0 : Program := .bare "" "" ""
def e0 : Env := launch0.env 0 0 0
theorem w_frames : about1.frames = Frame.invoking theMethod args0 :: below0 := rfl
set_option maxRecDepth 65536 in
theorem w_args : argsFit about1.vm theMethod args0 = true := by decide +kernel
set_option maxRecDepth 65536 in
theorem w_heap : heapFits about1 = true := by decide +kernel
set_option maxRecDepth 65536 in
theorem w_runnable : about1.curStatus? = some .runnable := by decide +kernel
set_option maxRecDepth 65536 in
theorem w_alone : about1.alone = true := by decide +kernel
set_option maxRecDepth 65536 in
theorem w_named : about1.methodNamed? x = some theMethod := by decide +kernel
set_option maxRecDepth 65536 in
theorem w_hears : about1.hears theMethod below0 = true := by decide +kernel
set_option maxRecDepth 65536 in
theorem w_ripe : about1.ripe theMethod args0 below0 = true := by decide +kernel
theorem w_running : about1.status = .running := rfl
set_option maxRecDepth 65536 in
theorem w_room : about1.hasRoom e0.platform room_1 = true :=
  launch0.hasRoom_least _ room_1 (by decide +kernel) (by decide +kernel) (by decide +kernel) (by decide +kernel) (by decide +kernel) (by decide +kernel)
theorem allAtoms_all (ts : List Jvm.Cond) (a : Array Jvm.Value) (st : Jvm.State) : (allAtoms ts).before a st = ts.all (fun c => c.before a st) := by
  induction ts with
  | nil => rfl
  | cons c t ih =>
    show (Jvm.Cond.and c (allAtoms t)).before a st = _
    rw [Jvm.Cond.before_and, ih, List.all_cons]
def words1 : List Jvm.Cond := Jvm.Cond.code x code maxLocals ret :: tables_1
/-- a 'code' word, met by the world's own term for the bytes: nothing is compared byte by byte -/
theorem code_word {y : MethodName} {bytes : ByteArray} {mx : Nat} {rt : Option FieldType} {a : Array Value} {s : State} {m : MethodId} {meth : Method} {c : Code} (h1 : s.methodNamed? y = some m) (h2 : s.vm.method? m = some meth) (h3 : meth.code = some c) (h4 : c.code = bytes)
    (h5 : (c.maxLocals == mx && c.exceptionTable.isEmpty && decide (c.maxStack ≤ mostOperands) && decide (meth.sig.returnType = rt) && !meth.locks && decide (parseMethodDescriptor y.desc = some meth.sig)) = true) : (Jvm.Cond.code y bytes mx rt).before a s = true := by
  simp only [Bool.and_eq_true, beq_iff_eq, Bool.not_eq_true', decide_eq_true_eq] at h5
  obtain ⟨⟨⟨⟨⟨g1, g2⟩, g3⟩, g4⟩, g5⟩, g6⟩ := h5
  simp [Cond.before, Cond.holds, Cond.value, h1, h2, h3, h4, g1, g2, g3, g4, g5, g6]
def isCode : Jvm.Cond → Bool
  | .code _ _ _ _ => true
  | _ => false
theorem all_split {L : List Jvm.Cond} {P : Jvm.Cond → Bool} (h1 : L.all (fun c => isCode c || P c) = true) (h2 : ∀ c ∈ L.filter isCode, P c = true) : L.all P = true := by
  refine List.all_eq_true.mpr fun c hc => ?_
  have h := List.all_eq_true.mp h1 c hc
  rcases Bool.eq_false_or_eq_true (isCode c) with hi | hi
  · exact h2 c (List.mem_filter.mpr ⟨hc, hi⟩)
  · simpa [hi] using h
set_option maxRecDepth 65536 in
theorem w_c0 : (Jvm.Cond.code x code maxLocals ret).before args0 about1 = true := code_word (m := ⟨1, 1⟩) (meth := k1m1) (c := k1c1) (by decide +kernel) rfl rfl rfl (by decide +kernel)
set_option maxRecDepth 65536 in
theorem w_c1 : (Jvm.Cond.code ({ cls := "java/lang/Math", name := "max", desc := "(II)I" } : Jvm.MethodName) jdk_29_method_65_code (2 : Nat) (Option.some Jvm.ClassFile.FieldType.int)).before args0 about1 = true := code_word (m := ⟨2, 2⟩) (meth := k2m2) (c := k2c2) (by decide +kernel) rfl rfl rfl (by decide +kernel)
set_option maxRecDepth 65536 in
theorem w_c2 : (Jvm.Cond.code ({ cls := "java/lang/Math", name := "max", desc := "(JJ)J" } : Jvm.MethodName) jdk_29_method_66_code (4 : Nat) (Option.some Jvm.ClassFile.FieldType.long)).before args0 about1 = true := code_word (m := ⟨2, 3⟩) (meth := k2m3) (c := k2c3) (by decide +kernel) rfl rfl rfl (by decide +kernel)
set_option maxRecDepth 65536 in
theorem w_c3 : (Jvm.Cond.code ({ cls := "com/example/lean_limiter/leanlimiter/Rule", name := "<init>", desc := "(IJ)V" } : Jvm.MethodName) prog_10_method_3_code (4 : Nat) (Option.none : Option Jvm.ClassFile.FieldType)).before args0 about1 = true := code_word (m := ⟨6, 2⟩) (meth := k6m2) (c := k6c2) (by decide +kernel) rfl rfl rfl (by decide +kernel)
set_option maxRecDepth 65536 in
theorem w_c4 : (Jvm.Cond.code ({ cls := "com/example/lean_limiter/leanlimiter/Rule", name := "<init>", desc := "(IJLcom/example/lean_limiter/leanlimiter/Scope;)V" } : Jvm.MethodName) prog_10_method_2_code (5 : Nat) (Option.none : Option Jvm.ClassFile.FieldType)).before args0 about1 = true := code_word (m := ⟨6, 1⟩) (meth := k6m1) (c := k6c1) (by decide +kernel) rfl rfl rfl (by decide +kernel)
set_option maxRecDepth 65536 in
theorem w_c5 : (Jvm.Cond.code ({ cls := "com/example/lean_limiter/leanlimiter/Rule", name := "<init>", desc := "(IJLcom/example/lean_limiter/leanlimiter/Scope;I)V" } : Jvm.MethodName) prog_10_method_1_code (6 : Nat) (Option.none : Option Jvm.ClassFile.FieldType)).before args0 about1 = true := code_word (m := ⟨6, 0⟩) (meth := k6m0) (c := k6c0) (by decide +kernel) rfl rfl rfl (by decide +kernel)
set_option maxRecDepth 65536 in
theorem w_c6 : (Jvm.Cond.code ({ cls := "java/lang/Record", name := "<init>", desc := "()V" } : Jvm.MethodName) jdk_30_method_1_code (1 : Nat) (Option.none : Option Jvm.ClassFile.FieldType)).before args0 about1 = true := code_word (m := ⟨5, 0⟩) (meth := k5m0) (c := k5c0) (by decide +kernel) rfl rfl rfl (by decide +kernel)
set_option maxRecDepth 65536 in
theorem w_c7 : (Jvm.Cond.code ({ cls := "java/lang/Object", name := "<init>", desc := "()V" } : Jvm.MethodName) object_method_1_code (1 : Nat) (Option.none : Option Jvm.ClassFile.FieldType)).before args0 about1 = true := code_word (m := ⟨0, 0⟩) (meth := k0m0) (c := k0c0) (by decide +kernel) rfl rfl rfl (by decide +kernel)
set_option maxRecDepth 65536 in
theorem w_c8 : (Jvm.Cond.code ({ cls := "java/util/Objects", name := "requireNonNull", desc := "(Ljava/lang/Object;Ljava/lang/String;)Ljava/lang/Object;" } : Jvm.MethodName) jdk_31_method_11_code (2 : Nat) (Option.some (Jvm.ClassFile.FieldType.object "java/lang/Object"))).before args0 about1 = true := code_word (m := ⟨15, 1⟩) (meth := k15m1) (c := k15c1) (by decide +kernel) rfl rfl rfl (by decide +kernel)
set_option maxRecDepth 65536 in
theorem w_c9 : (Jvm.Cond.code ({ cls := "com/example/lean_limiter/leanlimiter/ExactLog", name := "<init>", desc := "(Lcom/example/lean_limiter/leanlimiter/Rule;J)V" } : Jvm.MethodName) prog_3_method_1_code (4 : Nat) (Option.none : Option Jvm.ClassFile.FieldType)).before args0 about1 = true := code_word (m := ⟨4, 0⟩) (meth := k4m0) (c := k4c0) (by decide +kernel) rfl rfl rfl (by decide +kernel)
set_option maxRecDepth 65536 in
theorem w_c10 : (Jvm.Cond.code ({ cls := "com/example/lean_limiter/leanlimiter/Tally", name := "<init>", desc := "(Lcom/example/lean_limiter/leanlimiter/Rule;J)V" } : Jvm.MethodName) prog_15_method_1_code (4 : Nat) (Option.none : Option Jvm.ClassFile.FieldType)).before args0 about1 = true := code_word (m := ⟨3, 0⟩) (meth := k3m0) (c := k3c0) (by decide +kernel) rfl rfl rfl (by decide +kernel)
set_option maxRecDepth 65536 in
theorem w_c11 : (Jvm.Cond.code ({ cls := "com/example/lean_limiter/leanlimiter/Rule", name := "count", desc := "()I" } : Jvm.MethodName) prog_10_method_11_code (1 : Nat) (Option.some Jvm.ClassFile.FieldType.int)).before args0 about1 = true := code_word (m := ⟨6, 3⟩) (meth := k6m3) (c := k6c3) (by decide +kernel) rfl rfl rfl (by decide +kernel)
set_option maxRecDepth 65536 in
theorem w_c12 : (Jvm.Cond.code ({ cls := "com/example/lean_limiter/leanlimiter/Rule", name := "spanMillis", desc := "()J" } : Jvm.MethodName) prog_10_method_12_code (1 : Nat) (Option.some Jvm.ClassFile.FieldType.long)).before args0 about1 = true := code_word (m := ⟨6, 4⟩) (meth := k6m4) (c := k6c4) (by decide +kernel) rfl rfl rfl (by decide +kernel)
set_option maxRecDepth 65536 in
theorem w_c13 : (Jvm.Cond.code ({ cls := "java/lang/Math", name := "min", desc := "(II)I" } : Jvm.MethodName) jdk_29_method_69_code (2 : Nat) (Option.some Jvm.ClassFile.FieldType.int)).before args0 about1 = true := code_word (m := ⟨2, 4⟩) (meth := k2m4) (c := k2c4) (by decide +kernel) rfl rfl rfl (by decide +kernel)
set_option maxRecDepth 65536 in
theorem w_c14 : (Jvm.Cond.code ({ cls := "com/example/lean_limiter/leanlimiter/ExactLog", name := "isIdleAt", desc := "(J)Z" } : Jvm.MethodName) prog_3_method_5_code (3 : Nat) (Option.some Jvm.ClassFile.FieldType.boolean)).before args0 about1 = true := code_word (m := ⟨4, 2⟩) (meth := k4m2) (c := k4c2) (by decide +kernel) rfl rfl rfl (by decide +kernel)
set_option maxRecDepth 65536 in
theorem w_c15 : (Jvm.Cond.code ({ cls := "com/example/lean_limiter/leanlimiter/ExactLog", name := "record", desc := "(J)V" } : Jvm.MethodName) prog_3_method_4_code (9 : Nat) (Option.none : Option Jvm.ClassFile.FieldType)).before args0 about1 = true := code_word (m := ⟨4, 1⟩) (meth := k4m1) (c := k4c1) (by decide +kernel) rfl rfl rfl (by decide +kernel)
set_option maxRecDepth 65536 in
theorem w_c16 : (Jvm.Cond.code ({ cls := "com/example/lean_limiter/leanlimiter/ExactLog", name := "decidedAt", desc := "(J)J" } : Jvm.MethodName) prog_3_method_6_code (3 : Nat) (Option.some Jvm.ClassFile.FieldType.long)).before args0 about1 = true := code_word (m := ⟨4, 3⟩) (meth := k4m3) (c := k4c3) (by decide +kernel) rfl rfl rfl (by decide +kernel)
set_option maxRecDepth 65536 in
theorem w_c17 : (Jvm.Cond.code ({ cls := "com/example/lean_limiter/leanlimiter/ExactLog", name := "windowStart", desc := "(J)J" } : Jvm.MethodName) prog_3_method_7_code (3 : Nat) (Option.some Jvm.ClassFile.FieldType.long)).before args0 about1 = true := code_word (m := ⟨4, 4⟩) (meth := k4m4) (c := k4c4) (by decide +kernel) rfl rfl rfl (by decide +kernel)
set_option maxRecDepth 65536 in
theorem w_c18 : (Jvm.Cond.code ({ cls := "java/lang/Math", name := "subtractExact", desc := "(JJ)J" } : Jvm.MethodName) jdk_29_method_27_code (6 : Nat) (Option.some Jvm.ClassFile.FieldType.long)).before args0 about1 = true := code_word (m := ⟨2, 1⟩) (meth := k2m1) (c := k2c1) (by decide +kernel) rfl rfl rfl (by decide +kernel)
set_option maxRecDepth 65536 in
theorem w_c19 : (Jvm.Cond.code ({ cls := "com/example/lean_limiter/leanlimiter/ExactLog", name := "countLeft", desc := "(J)I" } : Jvm.MethodName) prog_3_method_8_code (9 : Nat) (Option.some Jvm.ClassFile.FieldType.int)).before args0 about1 = true := code_word (m := ⟨4, 5⟩) (meth := k4m5) (c := k4c5) (by decide +kernel) rfl rfl rfl (by decide +kernel)
set_option maxRecDepth 65536 in
theorem w_c20 : (Jvm.Cond.code ({ cls := "com/example/lean_limiter/leanlimiter/ExactLog", name := "indexOf", desc := "(I)I" } : Jvm.MethodName) prog_3_method_12_code (3 : Nat) (Option.some Jvm.ClassFile.FieldType.int)).before args0 about1 = true := code_word (m := ⟨4, 8⟩) (meth := k4m8) (c := k4c8) (by decide +kernel) rfl rfl rfl (by decide +kernel)
set_option maxRecDepth 65536 in
theorem w_c21 : (Jvm.Cond.code ({ cls := "com/example/lean_limiter/leanlimiter/ExactLog", name := "append", desc := "(J)V" } : Jvm.MethodName) prog_3_method_10_code (3 : Nat) (Option.none : Option Jvm.ClassFile.FieldType)).before args0 about1 = true := code_word (m := ⟨4, 7⟩) (meth := k4m7) (c := k4c7) (by decide +kernel) rfl rfl rfl (by decide +kernel)
set_option maxRecDepth 65536 in
theorem w_c22 : (Jvm.Cond.code ({ cls := "com/example/lean_limiter/leanlimiter/Tally", name := "publishFullUntil", desc := "(J)V" } : Jvm.MethodName) prog_15_method_12_code (3 : Nat) (Option.none : Option Jvm.ClassFile.FieldType)).before args0 about1 = true := code_word (m := ⟨3, 1⟩) (meth := k3m1) (c := k3c1) (by decide +kernel) rfl rfl rfl (by decide +kernel)
set_option maxRecDepth 65536 in
theorem w_c23 : (Jvm.Cond.code ({ cls := "com/example/lean_limiter/leanlimiter/ExactLog", name := "newest", desc := "()J" } : Jvm.MethodName) prog_3_method_9_code (1 : Nat) (Option.some Jvm.ClassFile.FieldType.long)).before args0 about1 = true := code_word (m := ⟨4, 6⟩) (meth := k4m6) (c := k4c6) (by decide +kernel) rfl rfl rfl (by decide +kernel)
set_option maxRecDepth 65536 in
theorem w_c24 : (Jvm.Cond.code ({ cls := "java/lang/Math", name := "min", desc := "(JJ)J" } : Jvm.MethodName) jdk_29_method_70_code (4 : Nat) (Option.some Jvm.ClassFile.FieldType.long)).before args0 about1 = true := code_word (m := ⟨2, 5⟩) (meth := k2m5) (c := k2c5) (by decide +kernel) rfl rfl rfl (by decide +kernel)
def codes1 : List Jvm.Cond := [Jvm.Cond.code x code maxLocals ret, Jvm.Cond.code ({ cls := "java/lang/Math", name := "max", desc := "(II)I" } : Jvm.MethodName) jdk_29_method_65_code (2 : Nat) (Option.some Jvm.ClassFile.FieldType.int), Jvm.Cond.code ({ cls := "java/lang/Math", name := "max", desc := "(JJ)J" } : Jvm.MethodName) jdk_29_method_66_code (4 : Nat) (Option.some Jvm.ClassFile.FieldType.long), Jvm.Cond.code ({ cls := "com/example/lean_limiter/leanlimiter/Rule", name := "<init>", desc := "(IJ)V" } : Jvm.MethodName) prog_10_method_3_code (4 : Nat) (Option.none : Option Jvm.ClassFile.FieldType), Jvm.Cond.code ({ cls := "com/example/lean_limiter/leanlimiter/Rule", name := "<init>", desc := "(IJLcom/example/lean_limiter/leanlimiter/Scope;)V" } : Jvm.MethodName) prog_10_method_2_code (5 : Nat) (Option.none : Option Jvm.ClassFile.FieldType), Jvm.Cond.code ({ cls := "com/example/lean_limiter/leanlimiter/Rule", name := "<init>", desc := "(IJLcom/example/lean_limiter/leanlimiter/Scope;I)V" } : Jvm.MethodName) prog_10_method_1_code (6 : Nat) (Option.none : Option Jvm.ClassFile.FieldType), Jvm.Cond.code ({ cls := "java/lang/Record", name := "<init>", desc := "()V" } : Jvm.MethodName) jdk_30_method_1_code (1 : Nat) (Option.none : Option Jvm.ClassFile.FieldType), Jvm.Cond.code ({ cls := "java/lang/Object", name := "<init>", desc := "()V" } : Jvm.MethodName) object_method_1_code (1 : Nat) (Option.none : Option Jvm.ClassFile.FieldType), Jvm.Cond.code ({ cls := "java/util/Objects", name := "requireNonNull", desc := "(Ljava/lang/Object;Ljava/lang/String;)Ljava/lang/Object;" } : Jvm.MethodName) jdk_31_method_11_code (2 : Nat) (Option.some (Jvm.ClassFile.FieldType.object "java/lang/Object")), Jvm.Cond.code ({ cls := "com/example/lean_limiter/leanlimiter/ExactLog", name := "<init>", desc := "(Lcom/example/lean_limiter/leanlimiter/Rule;J)V" } : Jvm.MethodName) prog_3_method_1_code (4 : Nat) (Option.none : Option Jvm.ClassFile.FieldType), Jvm.Cond.code ({ cls := "com/example/lean_limiter/leanlimiter/Tally", name := "<init>", desc := "(Lcom/example/lean_limiter/leanlimiter/Rule;J)V" } : Jvm.MethodName) prog_15_method_1_code (4 : Nat) (Option.none : Option Jvm.ClassFile.FieldType), Jvm.Cond.code ({ cls := "com/example/lean_limiter/leanlimiter/Rule", name := "count", desc := "()I" } : Jvm.MethodName) prog_10_method_11_code (1 : Nat) (Option.some Jvm.ClassFile.FieldType.int), Jvm.Cond.code ({ cls := "com/example/lean_limiter/leanlimiter/Rule", name := "spanMillis", desc := "()J" } : Jvm.MethodName) prog_10_method_12_code (1 : Nat) (Option.some Jvm.ClassFile.FieldType.long), Jvm.Cond.code ({ cls := "java/lang/Math", name := "min", desc := "(II)I" } : Jvm.MethodName) jdk_29_method_69_code (2 : Nat) (Option.some Jvm.ClassFile.FieldType.int), Jvm.Cond.code ({ cls := "com/example/lean_limiter/leanlimiter/ExactLog", name := "isIdleAt", desc := "(J)Z" } : Jvm.MethodName) prog_3_method_5_code (3 : Nat) (Option.some Jvm.ClassFile.FieldType.boolean), Jvm.Cond.code ({ cls := "com/example/lean_limiter/leanlimiter/ExactLog", name := "record", desc := "(J)V" } : Jvm.MethodName) prog_3_method_4_code (9 : Nat) (Option.none : Option Jvm.ClassFile.FieldType), Jvm.Cond.code ({ cls := "com/example/lean_limiter/leanlimiter/ExactLog", name := "decidedAt", desc := "(J)J" } : Jvm.MethodName) prog_3_method_6_code (3 : Nat) (Option.some Jvm.ClassFile.FieldType.long), Jvm.Cond.code ({ cls := "com/example/lean_limiter/leanlimiter/ExactLog", name := "windowStart", desc := "(J)J" } : Jvm.MethodName) prog_3_method_7_code (3 : Nat) (Option.some Jvm.ClassFile.FieldType.long), Jvm.Cond.code ({ cls := "java/lang/Math", name := "subtractExact", desc := "(JJ)J" } : Jvm.MethodName) jdk_29_method_27_code (6 : Nat) (Option.some Jvm.ClassFile.FieldType.long), Jvm.Cond.code ({ cls := "com/example/lean_limiter/leanlimiter/ExactLog", name := "countLeft", desc := "(J)I" } : Jvm.MethodName) prog_3_method_8_code (9 : Nat) (Option.some Jvm.ClassFile.FieldType.int), Jvm.Cond.code ({ cls := "com/example/lean_limiter/leanlimiter/ExactLog", name := "indexOf", desc := "(I)I" } : Jvm.MethodName) prog_3_method_12_code (3 : Nat) (Option.some Jvm.ClassFile.FieldType.int), Jvm.Cond.code ({ cls := "com/example/lean_limiter/leanlimiter/ExactLog", name := "append", desc := "(J)V" } : Jvm.MethodName) prog_3_method_10_code (3 : Nat) (Option.none : Option Jvm.ClassFile.FieldType), Jvm.Cond.code ({ cls := "com/example/lean_limiter/leanlimiter/Tally", name := "publishFullUntil", desc := "(J)V" } : Jvm.MethodName) prog_15_method_12_code (3 : Nat) (Option.none : Option Jvm.ClassFile.FieldType), Jvm.Cond.code ({ cls := "com/example/lean_limiter/leanlimiter/ExactLog", name := "newest", desc := "()J" } : Jvm.MethodName) prog_3_method_9_code (1 : Nat) (Option.some Jvm.ClassFile.FieldType.long), Jvm.Cond.code ({ cls := "java/lang/Math", name := "min", desc := "(JJ)J" } : Jvm.MethodName) jdk_29_method_70_code (4 : Nat) (Option.some Jvm.ClassFile.FieldType.long)]
set_option maxRecDepth 65536 in
theorem codes_eq : words1.filter isCode = codes1 := rfl
theorem w_codes : ∀ c ∈ words1.filter isCode, c.before args0 about1 = true := by
  rw [codes_eq]
  intro c hc
  simp only [codes1, List.mem_cons, List.not_mem_nil, or_false] at hc
  rcases hc with rfl | rfl | rfl | rfl | rfl | rfl | rfl | rfl | rfl | rfl | rfl | rfl | rfl | rfl | rfl | rfl | rfl | rfl | rfl | rfl | rfl | rfl | rfl | rfl | rfl
  · exact w_c0
  · exact w_c1
  · exact w_c2
  · exact w_c3
  · exact w_c4
  · exact w_c5
  · exact w_c6
  · exact w_c7
  · exact w_c8
  · exact w_c9
  · exact w_c10
  · exact w_c11
  · exact w_c12
  · exact w_c13
  · exact w_c14
  · exact w_c15
  · exact w_c16
  · exact w_c17
  · exact w_c18
  · exact w_c19
  · exact w_c20
  · exact w_c21
  · exact w_c22
  · exact w_c23
  · exact w_c24
set_option maxRecDepth 65536 in
theorem w_t1 : (words1.take 24).all (fun c => isCode c || c.before args0 about1) = true := by decide +kernel
set_option maxRecDepth 65536 in
theorem w_t2 : ((words1.drop 24).take 24).all (fun c => isCode c || c.before args0 about1) = true := by decide +kernel
set_option maxRecDepth 65536 in
theorem w_t3 : (((words1.drop 24).drop 24).take 24).all (fun c => isCode c || c.before args0 about1) = true := by decide +kernel
set_option maxRecDepth 65536 in
theorem w_t4 : ((((words1.drop 24).drop 24).drop 24).take 24).all (fun c => isCode c || c.before args0 about1) = true := by decide +kernel
set_option maxRecDepth 65536 in
theorem w_t5 : (((((words1.drop 24).drop 24).drop 24).drop 24).take 24).all (fun c => isCode c || c.before args0 about1) = true := by decide +kernel
set_option maxRecDepth 65536 in
theorem w_t6 : ((((((words1.drop 24).drop 24).drop 24).drop 24).drop 24).take 24).all (fun c => isCode c || c.before args0 about1) = true := by decide +kernel
set_option maxRecDepth 65536 in
theorem w_t7 : ((((((words1.drop 24).drop 24).drop 24).drop 24).drop 24).drop 24).all (fun c => isCode c || c.before args0 about1) = true := by decide +kernel
theorem w_tables : (allAtoms (Jvm.Cond.code x code maxLocals ret :: tables_1)).before args0 about1 = true := by
  rw [allAtoms_all]
  show words1.all (fun c => c.before args0 about1) = true
  refine all_split ?_ w_codes
  rw [← List.take_append_drop 24 words1, List.all_append, w_t1, ← List.take_append_drop 24 (words1.drop 24), List.all_append, w_t2, ← List.take_append_drop 24 ((words1.drop 24).drop 24), List.all_append, w_t3, ← List.take_append_drop 24 (((words1.drop 24).drop 24).drop 24), List.all_append, w_t4, ← List.take_append_drop 24 ((((words1.drop 24).drop 24).drop 24).drop 24), List.all_append, w_t5, ← List.take_append_drop 24 (((((words1.drop 24).drop 24).drop 24).drop 24).drop 24), List.all_append, w_t6, w_t7]
  rfl
set_option maxRecDepth 65536 in
theorem w_case : (Jvm.Cond.and given_1 narrow_1).before args0 about1 = true := by decide +kernel
theorem w_applies : (headSpec (Jvm.Cond.code x code maxLocals ret :: tables_1) room_1).applies x e0.platform about1 = true :=
  (Spec.applies_iff w_frames).mpr ⟨w_running, w_runnable, w_alone, w_named, w_hears, w_ripe, w_room, w_tables⟩
theorem atStart : AtStart classFile x code maxLocals ret World_1 tables_1 room_1 Calls_1 rest_1 Pre_1 launch0 p0 e0 about1 theMethod args0 below0 :=
  ⟨lists_1, trivial, launch0.admits_env _ _ _, launch0.least_env, fairChoices_fair.cas, fairChoices_fair.clock, w_frames, w_args, w_heap, w_applies, trivial, trivial, w_case⟩
end start1
theorem witness_1 : WitnessClaimed_1 := ⟨start1.p0, start1.e0, start1.about1, start1.theMethod, start1.args0, start1.below0, start1.atStart⟩
end Jvm.Pilot.@@N@@
