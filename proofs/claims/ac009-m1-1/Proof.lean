import JvmDerived
import JvmDerived.Pilot.@@N@@Statement
import JvmDerived.Pilot.@@N@@Code
set_option linter.unusedVariables false
set_option linter.unusedSimpArgs false
namespace Jvm.Pilot.@@N@@
open Jvm Jvm.ClassFile Sem Op Lib Jvm.Free Jvm.Stand Jvm.LawKit Jvm.RoadKit Bundle Jvm.Pilot.@@N@@.Jvm.D
section Own
variable {p : Program} {l : Launch} {e : Env} {R : Room} {s : State} {m : MethodId} {args : Array Value} {below : List Frame} {meth : Method} {c : Code} {bytes : ByteArray} {mx : Nat} {rt : Option FieldType} {own nm : String} {Z : State} {Q : Option Value → Heap → Prop} {pc : Nat} {ls : Array Slot} {st : List Value} {h : Heap} {cs sl : Nat} {a0 : Array Value}
/-- from A the invocation comes back, and what it leaves is as Q says; nothing old is written -/
def own_G (p : Program) (e : Env) (s : State) (below : List Frame) (Z : State) (Q : Option Value → Heap → Prop) (cs sl : Nat) (A : State) : Prop :=
  ∃ s₂ o, Steps p.tables e below A s₂ ∧ s₂.status = .running ∧ Ended s₂ below o ∧ ∃ v L, o = .returned v ∧ (Q v s₂.heap ∧ Fr Z.heap.size L ∧ Old Z Z.heap.size s₂.heap) ∧ FrameEnd s o s₂ L cs sl
theorem own_go {A B : State} (f : ∀ t, Steps p.tables e below B t → Steps p.tables e below A t) (k : own_G p e s below Z Q cs sl B) : own_G p e s below Z Q cs sl A := by
  obtain ⟨t, o, h1, h2⟩ := k
  exact ⟨t, o, f t h1, h2⟩
/-- the run, wherever it stands in this body with this pc, these locals, this stack and this heap, comes back as Q says -/
def own_K (p : Program) (l : Launch) (e : Env) (R : Room) (s : State) (m : MethodId) (args : Array Value) (below : List Frame) (meth : Method) (c : Code) (bytes : ByteArray) (mx : Nat) (rt : Option FieldType) (own nm : String) (Z : State) (Q : Option Value → Heap → Prop)
    (pc : Nat) (ls : Array Slot) (st : List Value) (h : Heap) (cs sl : Nat) : Prop :=
  ∀ (T : State) (L : List Loc), p.tables.exec = Jvm.exec → c.code = bytes → c.maxLocals = mx → meth.sig.returnType = rt → meth.locks = false → s.vm.findClass own = some m.cls → meth.name = nm → Z.Warmed39 s.vm →
    Stand p l e R s m args below meth c T L cs sl → T.heap = h → Fr Z.heap.size L → Old Z Z.heap.size h → own_G p e s below Z Q R.cells R.slots (T.setTop (mkF m pc ls st))
/-- a body's contract, asked at the heap h0 -/
def own_Met (l : Launch) (Z : State) (y : MethodName) (bytes : ByteArray) (mx : Nat) (rt : Option FieldType) (ws : List Jvm.Cond) (rm : Room) (as : Array Value) (h0 : Heap) (Q : Option Value → Heap → Prop) : Prop :=
  Old Z Z.heap.size h0 → MetFree l y (head1 (Jvm.Cond.code y bytes mx rt :: ws) rm) (fun a U => a = as ∧ Z.Warmed39 U.vm ∧ U.heap = h0) (fun _ _ _ _ _ => True)
    (fun _ U o U' => ∃ v L, o = .returned v ∧ (Q v U'.heap ∧ Fr Z.heap.size L ∧ Old Z Z.heap.size U'.heap) ∧ FrameEnd U o U' L rm.cells rm.slots)
def own_some (Qv : Value → Heap → Prop) : Option Value → Heap → Prop := fun v h => ∃ x, v = some x ∧ Qv x h
def own_none (Qn : Heap → Prop) : Option Value → Heap → Prop := fun v h => v = none ∧ Qn h
theorem own_met {y : MethodName} {ws : List Jvm.Cond} {rm : Room} {as : Array Value} {h0 : Heap} {ls0 : Array Slot} (pn : plainFor y = true) (hef : ∀ m, entryFrame m as mx = mkF m 0 ls0 [])
    (body : ∀ p e s m below meth c, own_K p l e rm s m as below meth c bytes mx rt y.cls y.name Z Q 0 ls0 [] h0 0 0) : own_Met l Z y bytes mx rt ws rm as h0 Q := by
  intro O
  refine MetFree.of_bodySF pn hisR ?_
  intro p e s m args below meth c s₁ Bd hml0 hP hK
  obtain ⟨rfl, hZ, hh⟩ := hP
  have X0 : Stand p l e rm s m _ below meth c s₁ [] 0 0 := Stand.of_body Bd
  have e0 : s₁.heap = h0 := by rw [← hh, Bd.state]; rfl
  obtain ⟨t, o, h1, h2⟩ := body p e s m below meth c s₁ [] Bd.exec Bd.bytes hml0 Bd.returns Bd.notSynchronized (findClass_of_methodNamed Bd.named) (name_of_methodNamed Bd.named Bd.method).1 hZ X0 e0 (Fr.nil _) O
  exact ⟨t, o, castTop (hef m) h1, h2⟩
theorem own_old (k : Old Z Z.heap.size h → own_K p l e R s m args below meth c bytes mx rt own nm Z Q pc ls st h cs sl) : own_K p l e R s m args below meth c bytes mx rt own nm Z Q pc ls st h cs sl := fun T L a b c d e' f g i j n o q => k q T L a b c d e' f g i j n o q
theorem own_more {cs' sl' : Nat} (h1 : cs ≤ cs') (h2 : sl ≤ sl') (k : own_K p l e R s m args below meth c bytes mx rt own nm Z Q pc ls st h cs' sl') : own_K p l e R s m args below meth c bytes mx rt own nm Z Q pc ls st h cs sl := fun T L a b c d e' f g i X n o q =>
  k T L a b c d e' f g i ⟨X.admits, X.cas, X.clock, X.frames, X.room, X.hears, X.method, X.code, X.here, X.tail, X.warmed, X.limits, X.bytes, X.same.mono h1 h2⟩ n o q
/-- one plain step -/
theorem own_xs {r : Except ClassFile.DecodeError (ClassFile.Instr × Nat)} {pc' : Nat} {ls' : Array Slot} {st' : List Value} (hd : decode bytes pc = r)
    (k : own_K p l e R s m args below meth c bytes mx rt own nm Z Q pc' ls' st' h cs sl)
    (f : ∀ (T t : State), At T m c below → p.tables.exec = Jvm.exec → decode c.code pc = r → Steps p.tables e below (T.setTop (mkF m pc' ls' st')) t → Steps p.tables e below (T.setTop (mkF m pc ls st)) t) : own_K p l e R s m args below meth c bytes mx rt own nm Z Q pc ls st h cs sl := fun T L hx hby hml hrt hlk hown hnm hZ X eT N O =>
  own_go (fun t q => f T t X.here hx (hb hby hd) q) (k T L hx hby hml hrt hlk hown hnm hZ X eT N O)
theorem own_nop {A : Prop} (h : A) : A := h
-- loads and stores
theorem own_iloadN (pc' : Nat) (hp : pc + 1 = pc') {k : Fin 4} {v : Int32} (hd : decode bytes pc = .ok (.iload_n k, 1)) (hl : ls[k.val]? = some (.val (.int v))) (q : own_K p l e R s m args below meth c bytes mx rt own nm Z Q pc' ls (.int v :: st) h cs sl) : own_K p l e R s m args below meth c bytes mx rt own nm Z Q pc ls st h cs sl := by subst hp; exact own_xs hd q (fun T t ha hx hd => XS.iloadN (g := mkF m pc ls st) ha hx rfl hd hl)
theorem own_iload (pc' : Nat) (hp : pc + 2 = pc') {k : Nat} {v : Int32} (hd : decode bytes pc = .ok (.iload k, 2)) (hl : ls[k]? = some (.val (.int v))) (q : own_K p l e R s m args below meth c bytes mx rt own nm Z Q pc' ls (.int v :: st) h cs sl) : own_K p l e R s m args below meth c bytes mx rt own nm Z Q pc ls st h cs sl := by subst hp; exact own_xs hd q (fun T t ha hx hd => XS.iload (g := mkF m pc ls st) ha hx rfl hd hl)
theorem own_lloadN (pc' : Nat) (hp : pc + 1 = pc') {k : Fin 4} {v : Int64} (hd : decode bytes pc = .ok (.lload_n k, 1)) (hl : ls[k.val]? = some (.val (.long v))) (q : own_K p l e R s m args below meth c bytes mx rt own nm Z Q pc' ls (.long v :: st) h cs sl) : own_K p l e R s m args below meth c bytes mx rt own nm Z Q pc ls st h cs sl := by subst hp; exact own_xs hd q (fun T t ha hx hd => XS.lloadN (g := mkF m pc ls st) ha hx rfl hd hl)
theorem own_lload (pc' : Nat) (hp : pc + 2 = pc') {k : Nat} {v : Int64} (hd : decode bytes pc = .ok (.lload k, 2)) (hl : ls[k]? = some (.val (.long v))) (q : own_K p l e R s m args below meth c bytes mx rt own nm Z Q pc' ls (.long v :: st) h cs sl) : own_K p l e R s m args below meth c bytes mx rt own nm Z Q pc ls st h cs sl := by subst hp; exact own_xs hd q (fun T t ha hx hd => XS.lload (g := mkF m pc ls st) ha hx rfl hd hl)
theorem own_aloadN (pc' : Nat) (hp : pc + 1 = pc') {k : Fin 4} {v : Value} (hd : decode bytes pc = .ok (.aload_n k, 1)) (hl : ls[k.val]? = some (.val v)) (hv : v.isRef = true) (q : own_K p l e R s m args below meth c bytes mx rt own nm Z Q pc' ls (v :: st) h cs sl) : own_K p l e R s m args below meth c bytes mx rt own nm Z Q pc ls st h cs sl := by subst hp; exact own_xs hd q (fun T t ha hx hd => XS.aloadN (g := mkF m pc ls st) ha hx rfl hd hl hv)
theorem own_aload (pc' : Nat) (hp : pc + 2 = pc') {k : Nat} {v : Value} (hd : decode bytes pc = .ok (.aload k, 2)) (hl : ls[k]? = some (.val v)) (hv : v.isRef = true) (q : own_K p l e R s m args below meth c bytes mx rt own nm Z Q pc' ls (v :: st) h cs sl) : own_K p l e R s m args below meth c bytes mx rt own nm Z Q pc ls st h cs sl := by subst hp; exact own_xs hd q (fun T t ha hx hd => XS.aload (g := mkF m pc ls st) ha hx rfl hd hl hv)
theorem own_istoreN (pc' : Nat) (hp : pc + 1 = pc') (ls' : Array Slot) {k : Fin 4} {v : Int32} (hd : decode bytes pc = .ok (.istore_n k, 1)) (hl : storeLocals ls k.val (.int v) = some ls') (q : own_K p l e R s m args below meth c bytes mx rt own nm Z Q pc' ls' st h cs sl) : own_K p l e R s m args below meth c bytes mx rt own nm Z Q pc ls (.int v :: st) h cs sl := by subst hp; exact own_xs hd q (fun T t ha hx hd => XS.istoreN (g := mkF m pc ls (.int v :: st)) ha hx rfl hd rfl hl)
theorem own_istore (pc' : Nat) (hp : pc + 2 = pc') (ls' : Array Slot) {k : Nat} {v : Int32} (hd : decode bytes pc = .ok (.istore k, 2)) (hl : storeLocals ls k (.int v) = some ls') (q : own_K p l e R s m args below meth c bytes mx rt own nm Z Q pc' ls' st h cs sl) : own_K p l e R s m args below meth c bytes mx rt own nm Z Q pc ls (.int v :: st) h cs sl := by subst hp; exact own_xs hd q (fun T t ha hx hd => XS.istore (g := mkF m pc ls (.int v :: st)) ha hx rfl hd rfl hl)
theorem own_lstoreN (pc' : Nat) (hp : pc + 1 = pc') (ls' : Array Slot) {k : Fin 4} {v : Int64} (hd : decode bytes pc = .ok (.lstore_n k, 1)) (hl : storeLocals ls k.val (.long v) = some ls') (q : own_K p l e R s m args below meth c bytes mx rt own nm Z Q pc' ls' st h cs sl) : own_K p l e R s m args below meth c bytes mx rt own nm Z Q pc ls (.long v :: st) h cs sl := by subst hp; exact own_xs hd q (fun T t ha hx hd => XS.lstoreN (g := mkF m pc ls (.long v :: st)) ha hx rfl hd rfl hl)
theorem own_lstore (pc' : Nat) (hp : pc + 2 = pc') (ls' : Array Slot) {k : Nat} {v : Int64} (hd : decode bytes pc = .ok (.lstore k, 2)) (hl : storeLocals ls k (.long v) = some ls') (q : own_K p l e R s m args below meth c bytes mx rt own nm Z Q pc' ls' st h cs sl) : own_K p l e R s m args below meth c bytes mx rt own nm Z Q pc ls (.long v :: st) h cs sl := by subst hp; exact own_xs hd q (fun T t ha hx hd => XS.lstore (g := mkF m pc ls (.long v :: st)) ha hx rfl hd rfl hl)
theorem own_astoreN (pc' : Nat) (hp : pc + 1 = pc') (ls' : Array Slot) {k : Fin 4} {v : Value} (hd : decode bytes pc = .ok (.astore_n k, 1)) (hv : v.isRef = true) (hl : storeLocals ls k.val v = some ls') (q : own_K p l e R s m args below meth c bytes mx rt own nm Z Q pc' ls' st h cs sl) : own_K p l e R s m args below meth c bytes mx rt own nm Z Q pc ls (v :: st) h cs sl := by subst hp; exact own_xs hd q (fun T t ha hx hd => XS.astoreN (g := mkF m pc ls (v :: st)) ha hx rfl hd rfl hv hl)
theorem own_astore (pc' : Nat) (hp : pc + 2 = pc') (ls' : Array Slot) {k : Nat} {v : Value} (hd : decode bytes pc = .ok (.astore k, 2)) (hv : v.isRef = true) (hl : storeLocals ls k v = some ls') (q : own_K p l e R s m args below meth c bytes mx rt own nm Z Q pc' ls' st h cs sl) : own_K p l e R s m args below meth c bytes mx rt own nm Z Q pc ls (v :: st) h cs sl := by subst hp; exact own_xs hd q (fun T t ha hx hd => XS.astore (g := mkF m pc ls (v :: st)) ha hx rfl hd rfl hv hl)
theorem own_iinc (pc' : Nat) (hp : pc + 3 = pc') (ls' : Array Slot) {k : Nat} {i : Int} {x : Int32} (v : Int32) (hd : decode bytes pc = .ok (.iinc k i, 3)) (hv : Int32.ofInt i = v) (hl : ls[k]? = some (.val (.int x))) (hl' : storeLocals ls k (.int (x + v)) = some ls') (q : own_K p l e R s m args below meth c bytes mx rt own nm Z Q pc' ls' st h cs sl) : own_K p l e R s m args below meth c bytes mx rt own nm Z Q pc ls st h cs sl := by subst hp; subst hv; exact own_xs hd q (fun T t ha hx hd => XS.iinc (g := mkF m pc ls st) ha hx rfl hd hl hl')
-- constants
theorem own_iconst (pc' : Nat) (hp : pc + 1 = pc') (v : Int32) {i : Int} (hd : decode bytes pc = .ok (.iconst i, 1)) (hv : Int32.ofInt i = v) (q : own_K p l e R s m args below meth c bytes mx rt own nm Z Q pc' ls (.int v :: st) h cs sl) : own_K p l e R s m args below meth c bytes mx rt own nm Z Q pc ls st h cs sl := by subst hp; subst hv; exact own_xs hd q (fun T t ha hx hd => XS.iconst (g := mkF m pc ls st) ha hx rfl hd)
theorem own_bipush (pc' : Nat) (hp : pc + 2 = pc') (v : Int32) {i : Int} (hd : decode bytes pc = .ok (.bipush i, 2)) (hv : (Int8.ofInt i).toInt32 = v) (q : own_K p l e R s m args below meth c bytes mx rt own nm Z Q pc' ls (.int v :: st) h cs sl) : own_K p l e R s m args below meth c bytes mx rt own nm Z Q pc ls st h cs sl := by subst hp; subst hv; exact own_xs hd q (fun T t ha hx hd => XS.bipush (g := mkF m pc ls st) ha hx rfl hd)
theorem own_sipush (pc' : Nat) (hp : pc + 3 = pc') (v : Int32) {i : Int} (hd : decode bytes pc = .ok (.sipush i, 3)) (hv : (Int16.ofInt i).toInt32 = v) (q : own_K p l e R s m args below meth c bytes mx rt own nm Z Q pc' ls (.int v :: st) h cs sl) : own_K p l e R s m args below meth c bytes mx rt own nm Z Q pc ls st h cs sl := by subst hp; subst hv; exact own_xs hd q (fun T t ha hx hd => XS.sipush (g := mkF m pc ls st) ha hx rfl hd)
theorem own_lconst (pc' : Nat) (hp : pc + 1 = pc') (v : Int64) {i : Fin 2} (hd : decode bytes pc = .ok (.lconst i, 1)) (hv : Int64.ofNat i = v) (q : own_K p l e R s m args below meth c bytes mx rt own nm Z Q pc' ls (.long v :: st) h cs sl) : own_K p l e R s m args below meth c bytes mx rt own nm Z Q pc ls st h cs sl := by subst hp; subst hv; exact own_xs hd q (fun T t ha hx hd => XT.lconst (g := mkF m pc ls st) ha hx rfl hd)
theorem own_aconstNull (pc' : Nat) (hp : pc + 1 = pc') (hd : decode bytes pc = .ok (.aconst_null, 1)) (q : own_K p l e R s m args below meth c bytes mx rt own nm Z Q pc' ls (.null :: st) h cs sl) : own_K p l e R s m args below meth c bytes mx rt own nm Z Q pc ls st h cs sl := by subst hp; exact own_xs hd q (fun T t ha hx hd => XS.aconstNull (g := mkF m pc ls st) ha hx rfl hd)
theorem own_ldcInt (pc' : Nat) (hp : pc + 2 = pc') {v : Int32} {index : Nat} (w : (Jvm.Cond.constant own index v).before a0 Z = true) (hd : decode bytes pc = .ok (.ldc index, 2)) (q : own_K p l e R s m args below meth c bytes mx rt own nm Z Q pc' ls (.int v :: st) h cs sl) : own_K p l e R s m args below meth c bytes mx rt own nm Z Q pc ls st h cs sl := fun T L hx hby hml hrt hlk hown hnm hZ X eT N O => by
  subst hp; exact own_go (X.ldcInt hx hown (mvT hZ w) (g := mkF m pc ls st) rfl (hb hby hd)) (q T L hx hby hml hrt hlk hown hnm hZ X eT N O)
theorem own_ldc2Long (pc' : Nat) (hp : pc + 3 = pc') {v : Int64} {index : Nat} (w : (Jvm.Cond.constantLong own index v).before a0 Z = true) (hd : decode bytes pc = .ok (.ldc2_w index, 3)) (q : own_K p l e R s m args below meth c bytes mx rt own nm Z Q pc' ls (.long v :: st) h cs sl) : own_K p l e R s m args below meth c bytes mx rt own nm Z Q pc ls st h cs sl := fun T L hx hby hml hrt hlk hown hnm hZ X eT N O => by
  subst hp; exact own_go (X.ldc2Long hx hown (mvT hZ w) (g := mkF m pc ls st) rfl (hb hby hd)) (q T L hx hby hml hrt hlk hown hnm hZ X eT N O)
theorem own_ldcFloat (pc' : Nat) (hp : pc + 2 = pc') {b : UInt32} {index : Nat} (w : (Jvm.Cond.constantFloat own index b).before a0 Z = true) (hd : decode bytes pc = .ok (.ldc index, 2)) (q : own_K p l e R s m args below meth c bytes mx rt own nm Z Q pc' ls (.float b :: st) h cs sl) : own_K p l e R s m args below meth c bytes mx rt own nm Z Q pc ls st h cs sl := fun T L hx hby hml hrt hlk hown hnm hZ X eT N O => by
  subst hp; exact own_go (X.ldcFloatC hx hown (mvT hZ w) (g := mkF m pc ls st) rfl (hb hby hd)) (q T L hx hby hml hrt hlk hown hnm hZ X eT N O)
-- arithmetic
theorem own_iadd (pc' : Nat) (hp : pc + 1 = pc') {x y : Int32} (hd : decode bytes pc = .ok (.iadd, 1)) (q : own_K p l e R s m args below meth c bytes mx rt own nm Z Q pc' ls (.int (x + y) :: st) h cs sl) : own_K p l e R s m args below meth c bytes mx rt own nm Z Q pc ls (.int y :: .int x :: st) h cs sl := by subst hp; exact own_xs hd q (fun T t ha hx hd => XS.iadd (g := mkF m pc ls (.int y :: .int x :: st)) ha hx rfl hd rfl)
theorem own_isub (pc' : Nat) (hp : pc + 1 = pc') {x y : Int32} (hd : decode bytes pc = .ok (.isub, 1)) (q : own_K p l e R s m args below meth c bytes mx rt own nm Z Q pc' ls (.int (x - y) :: st) h cs sl) : own_K p l e R s m args below meth c bytes mx rt own nm Z Q pc ls (.int y :: .int x :: st) h cs sl := by subst hp; exact own_xs hd q (fun T t ha hx hd => XS.isub (g := mkF m pc ls (.int y :: .int x :: st)) ha hx rfl hd rfl)
theorem own_imul (pc' : Nat) (hp : pc + 1 = pc') {x y : Int32} (hd : decode bytes pc = .ok (.imul, 1)) (q : own_K p l e R s m args below meth c bytes mx rt own nm Z Q pc' ls (.int (x * y) :: st) h cs sl) : own_K p l e R s m args below meth c bytes mx rt own nm Z Q pc ls (.int y :: .int x :: st) h cs sl := by subst hp; exact own_xs hd q (fun T t ha hx hd => XS.imul (g := mkF m pc ls (.int y :: .int x :: st)) ha hx rfl hd rfl)
theorem own_iand (pc' : Nat) (hp : pc + 1 = pc') {x y : Int32} (hd : decode bytes pc = .ok (.iand, 1)) (q : own_K p l e R s m args below meth c bytes mx rt own nm Z Q pc' ls (.int (x &&& y) :: st) h cs sl) : own_K p l e R s m args below meth c bytes mx rt own nm Z Q pc ls (.int y :: .int x :: st) h cs sl := by subst hp; exact own_xs hd q (fun T t ha hx hd => XS.iand (g := mkF m pc ls (.int y :: .int x :: st)) ha hx rfl hd rfl)
theorem own_ior (pc' : Nat) (hp : pc + 1 = pc') {x y : Int32} (hd : decode bytes pc = .ok (.ior, 1)) (q : own_K p l e R s m args below meth c bytes mx rt own nm Z Q pc' ls (.int (x ||| y) :: st) h cs sl) : own_K p l e R s m args below meth c bytes mx rt own nm Z Q pc ls (.int y :: .int x :: st) h cs sl := by subst hp; exact own_xs hd q (fun T t ha hx hd => XS.ior (g := mkF m pc ls (.int y :: .int x :: st)) ha hx rfl hd rfl)
theorem own_ixor (pc' : Nat) (hp : pc + 1 = pc') {x y : Int32} (hd : decode bytes pc = .ok (.ixor, 1)) (q : own_K p l e R s m args below meth c bytes mx rt own nm Z Q pc' ls (.int (x ^^^ y) :: st) h cs sl) : own_K p l e R s m args below meth c bytes mx rt own nm Z Q pc ls (.int y :: .int x :: st) h cs sl := by subst hp; exact own_xs hd q (fun T t ha hx hd => XS.ixor (g := mkF m pc ls (.int y :: .int x :: st)) ha hx rfl hd rfl)
theorem own_idiv (pc' : Nat) (hp : pc + 1 = pc') {x y : Int32} (hd : decode bytes pc = .ok (.idiv, 1)) (hy : y ≠ 0) (q : own_K p l e R s m args below meth c bytes mx rt own nm Z Q pc' ls (.int (x / y) :: st) h cs sl) : own_K p l e R s m args below meth c bytes mx rt own nm Z Q pc ls (.int y :: .int x :: st) h cs sl := by subst hp; exact own_xs hd q (fun T t ha hx hd => XS.idiv (g := mkF m pc ls (.int y :: .int x :: st)) ha hx rfl hd rfl hy)
theorem own_irem (pc' : Nat) (hp : pc + 1 = pc') {x y : Int32} (hd : decode bytes pc = .ok (.irem, 1)) (hy : y ≠ 0) (q : own_K p l e R s m args below meth c bytes mx rt own nm Z Q pc' ls (.int (x % y) :: st) h cs sl) : own_K p l e R s m args below meth c bytes mx rt own nm Z Q pc ls (.int y :: .int x :: st) h cs sl := fun T L hx hby hml hrt hlk hown hnm hZ X eT N O => by
  subst hp; exact own_go (fun t k => iremM (g := mkF m pc ls (.int y :: .int x :: st)) X hx rfl (hb hby hd) rfl hy k) (q T L hx hby hml hrt hlk hown hnm hZ X eT N O)
theorem own_ineg (pc' : Nat) (hp : pc + 1 = pc') {x : Int32} (hd : decode bytes pc = .ok (.ineg, 1)) (q : own_K p l e R s m args below meth c bytes mx rt own nm Z Q pc' ls (.int (-x) :: st) h cs sl) : own_K p l e R s m args below meth c bytes mx rt own nm Z Q pc ls (.int x :: st) h cs sl := by subst hp; exact own_xs hd q (fun T t ha hx hd => XS.ineg (g := mkF m pc ls (.int x :: st)) ha hx rfl hd rfl)
theorem own_ishl (pc' : Nat) (hp : pc + 1 = pc') {x y : Int32} (hd : decode bytes pc = .ok (.ishl, 1)) (q : own_K p l e R s m args below meth c bytes mx rt own nm Z Q pc' ls (.int (x <<< (y &&& 31)) :: st) h cs sl) : own_K p l e R s m args below meth c bytes mx rt own nm Z Q pc ls (.int y :: .int x :: st) h cs sl := by subst hp; exact own_xs hd q (fun T t ha hx hd => XS.ishl (g := mkF m pc ls (.int y :: .int x :: st)) ha hx rfl hd rfl)
theorem own_ishr (pc' : Nat) (hp : pc + 1 = pc') {x y : Int32} (hd : decode bytes pc = .ok (.ishr, 1)) (q : own_K p l e R s m args below meth c bytes mx rt own nm Z Q pc' ls (.int (x >>> (y &&& 31)) :: st) h cs sl) : own_K p l e R s m args below meth c bytes mx rt own nm Z Q pc ls (.int y :: .int x :: st) h cs sl := by subst hp; exact own_xs hd q (fun T t ha hx hd => XS.ishr (g := mkF m pc ls (.int y :: .int x :: st)) ha hx rfl hd rfl)
theorem own_iushr (pc' : Nat) (hp : pc + 1 = pc') {x y : Int32} (hd : decode bytes pc = .ok (.iushr, 1)) (q : own_K p l e R s m args below meth c bytes mx rt own nm Z Q pc' ls (.int ((x.toUInt32 >>> (y &&& 31).toUInt32).toInt32) :: st) h cs sl) : own_K p l e R s m args below meth c bytes mx rt own nm Z Q pc ls (.int y :: .int x :: st) h cs sl := by subst hp; exact own_xs hd q (fun T t ha hx hd => XS.iushr (g := mkF m pc ls (.int y :: .int x :: st)) ha hx rfl hd rfl)
theorem own_i2l (pc' : Nat) (hp : pc + 1 = pc') {x : Int32} (hd : decode bytes pc = .ok (.i2l, 1)) (q : own_K p l e R s m args below meth c bytes mx rt own nm Z Q pc' ls (.long x.toInt64 :: st) h cs sl) : own_K p l e R s m args below meth c bytes mx rt own nm Z Q pc ls (.int x :: st) h cs sl := by subst hp; exact own_xs hd q (fun T t ha hx hd => XS.i2l (g := mkF m pc ls (.int x :: st)) ha hx rfl hd rfl)
theorem own_l2i (pc' : Nat) (hp : pc + 1 = pc') {x : Int64} (hd : decode bytes pc = .ok (.l2i, 1)) (q : own_K p l e R s m args below meth c bytes mx rt own nm Z Q pc' ls (.int x.toInt32 :: st) h cs sl) : own_K p l e R s m args below meth c bytes mx rt own nm Z Q pc ls (.long x :: st) h cs sl := by subst hp; exact own_xs hd q (fun T t ha hx hd => XS.l2i (g := mkF m pc ls (.long x :: st)) ha hx rfl hd rfl)
theorem own_i2b (pc' : Nat) (hp : pc + 1 = pc') {x : Int32} (hd : decode bytes pc = .ok (.i2b, 1)) (q : own_K p l e R s m args below meth c bytes mx rt own nm Z Q pc' ls (.int x.toInt8.toInt32 :: st) h cs sl) : own_K p l e R s m args below meth c bytes mx rt own nm Z Q pc ls (.int x :: st) h cs sl := by subst hp; exact own_xs hd q (fun T t ha hx hd => XS.i2b (g := mkF m pc ls (.int x :: st)) ha hx rfl hd rfl)
theorem own_i2c (pc' : Nat) (hp : pc + 1 = pc') {x : Int32} (hd : decode bytes pc = .ok (.i2c, 1)) (q : own_K p l e R s m args below meth c bytes mx rt own nm Z Q pc' ls (.int x.toUInt32.toUInt16.toUInt32.toInt32 :: st) h cs sl) : own_K p l e R s m args below meth c bytes mx rt own nm Z Q pc ls (.int x :: st) h cs sl := by subst hp; exact own_xs hd q (fun T t ha hx hd => XS.i2c (g := mkF m pc ls (.int x :: st)) ha hx rfl hd rfl)
theorem own_ladd (pc' : Nat) (hp : pc + 1 = pc') {x y : Int64} (hd : decode bytes pc = .ok (.ladd, 1)) (q : own_K p l e R s m args below meth c bytes mx rt own nm Z Q pc' ls (.long (x + y) :: st) h cs sl) : own_K p l e R s m args below meth c bytes mx rt own nm Z Q pc ls (.long y :: .long x :: st) h cs sl := by subst hp; exact own_xs hd q (fun T t ha hx hd => XS.ladd (g := mkF m pc ls (.long y :: .long x :: st)) ha hx rfl hd rfl)
theorem own_lsub (pc' : Nat) (hp : pc + 1 = pc') {x y : Int64} (hd : decode bytes pc = .ok (.lsub, 1)) (q : own_K p l e R s m args below meth c bytes mx rt own nm Z Q pc' ls (.long (x - y) :: st) h cs sl) : own_K p l e R s m args below meth c bytes mx rt own nm Z Q pc ls (.long y :: .long x :: st) h cs sl := by subst hp; exact own_xs hd q (fun T t ha hx hd => XS.lsub (g := mkF m pc ls (.long y :: .long x :: st)) ha hx rfl hd rfl)
theorem own_lmul (pc' : Nat) (hp : pc + 1 = pc') {x y : Int64} (hd : decode bytes pc = .ok (.lmul, 1)) (q : own_K p l e R s m args below meth c bytes mx rt own nm Z Q pc' ls (.long (x * y) :: st) h cs sl) : own_K p l e R s m args below meth c bytes mx rt own nm Z Q pc ls (.long y :: .long x :: st) h cs sl := by subst hp; exact own_xs hd q (fun T t ha hx hd => XS.lmul (g := mkF m pc ls (.long y :: .long x :: st)) ha hx rfl hd rfl)
theorem own_land (pc' : Nat) (hp : pc + 1 = pc') {x y : Int64} (hd : decode bytes pc = .ok (.land, 1)) (q : own_K p l e R s m args below meth c bytes mx rt own nm Z Q pc' ls (.long (x &&& y) :: st) h cs sl) : own_K p l e R s m args below meth c bytes mx rt own nm Z Q pc ls (.long y :: .long x :: st) h cs sl := by subst hp; exact own_xs hd q (fun T t ha hx hd => XS.land (g := mkF m pc ls (.long y :: .long x :: st)) ha hx rfl hd rfl)
theorem own_lxor (pc' : Nat) (hp : pc + 1 = pc') {x y : Int64} (hd : decode bytes pc = .ok (.lxor, 1)) (q : own_K p l e R s m args below meth c bytes mx rt own nm Z Q pc' ls (.long (x ^^^ y) :: st) h cs sl) : own_K p l e R s m args below meth c bytes mx rt own nm Z Q pc ls (.long y :: .long x :: st) h cs sl := by subst hp; exact own_xs hd q (fun T t ha hx hd => XS.lxor (g := mkF m pc ls (.long y :: .long x :: st)) ha hx rfl hd rfl)
theorem own_ldiv (pc' : Nat) (hp : pc + 1 = pc') {x y : Int64} (hd : decode bytes pc = .ok (.ldiv, 1)) (hy : y ≠ 0) (q : own_K p l e R s m args below meth c bytes mx rt own nm Z Q pc' ls (.long (x / y) :: st) h cs sl) : own_K p l e R s m args below meth c bytes mx rt own nm Z Q pc ls (.long y :: .long x :: st) h cs sl := by subst hp; exact own_xs hd q (fun T t ha hx hd => XS.ldiv (g := mkF m pc ls (.long y :: .long x :: st)) ha hx rfl hd rfl hy)
theorem own_lrem (pc' : Nat) (hp : pc + 1 = pc') {x y : Int64} (hd : decode bytes pc = .ok (.lrem, 1)) (hy : y ≠ 0) (q : own_K p l e R s m args below meth c bytes mx rt own nm Z Q pc' ls (.long (x % y) :: st) h cs sl) : own_K p l e R s m args below meth c bytes mx rt own nm Z Q pc ls (.long y :: .long x :: st) h cs sl := by subst hp; rw [← lrem_mod] at q; exact own_xs hd q (fun T t ha hx hd => XT.lrem (g := mkF m pc ls (.long y :: .long x :: st)) ha hx rfl hd rfl hy)
theorem own_lneg (pc' : Nat) (hp : pc + 1 = pc') {x : Int64} (hd : decode bytes pc = .ok (.lneg, 1)) (q : own_K p l e R s m args below meth c bytes mx rt own nm Z Q pc' ls (.long (-x) :: st) h cs sl) : own_K p l e R s m args below meth c bytes mx rt own nm Z Q pc ls (.long x :: st) h cs sl := by subst hp; exact own_xs hd q (fun T t ha hx hd => XS.lneg (g := mkF m pc ls (.long x :: st)) ha hx rfl hd rfl)
theorem own_lcmp (pc' : Nat) (hp : pc + 1 = pc') {x y : Int64} (hd : decode bytes pc = .ok (.lcmp, 1)) (q : own_K p l e R s m args below meth c bytes mx rt own nm Z Q pc' ls (.int (lcmpW x y) :: st) h cs sl) : own_K p l e R s m args below meth c bytes mx rt own nm Z Q pc ls (.long y :: .long x :: st) h cs sl := by subst hp; exact own_xs hd q (fun T t ha hx hd => XS.lcmp (g := mkF m pc ls (.long y :: .long x :: st)) ha hx rfl hd rfl)
-- the stack
theorem own_dup (pc' : Nat) (hp : pc + 1 = pc') {x : Value} (hd : decode bytes pc = .ok (.dup, 1)) (hc : x.category = 1) (q : own_K p l e R s m args below meth c bytes mx rt own nm Z Q pc' ls (x :: x :: st) h cs sl) : own_K p l e R s m args below meth c bytes mx rt own nm Z Q pc ls (x :: st) h cs sl := by subst hp; exact own_xs hd q (fun T t ha hx hd => XS.dup (g := mkF m pc ls (x :: st)) ha hx rfl hd rfl hc)
theorem own_pop (pc' : Nat) (hp : pc + 1 = pc') {x : Value} (hd : decode bytes pc = .ok (.pop, 1)) (hc : x.category = 1) (q : own_K p l e R s m args below meth c bytes mx rt own nm Z Q pc' ls st h cs sl) : own_K p l e R s m args below meth c bytes mx rt own nm Z Q pc ls (x :: st) h cs sl := by subst hp; exact own_xs hd q (fun T t ha hx hd => XS.pop (g := mkF m pc ls (x :: st)) ha hx rfl hd rfl hc)
theorem own_dupX1 (pc' : Nat) (hp : pc + 1 = pc') {x y : Value} (hd : decode bytes pc = .ok (.dup_x1, 1)) (hc : x.category = 1) (hc' : y.category = 1) (q : own_K p l e R s m args below meth c bytes mx rt own nm Z Q pc' ls (x :: y :: x :: st) h cs sl) : own_K p l e R s m args below meth c bytes mx rt own nm Z Q pc ls (x :: y :: st) h cs sl := by subst hp; exact own_xs hd q (fun T t ha hx hd => XT.dupX1 (g := mkF m pc ls (x :: y :: st)) ha hx rfl hd rfl hc hc')
theorem own_dup2 (pc' : Nat) (hp : pc + 1 = pc') {x y : Value} (hd : decode bytes pc = .ok (.dup2, 1)) (hc : x.category = 1) (hc' : y.category = 1) (q : own_K p l e R s m args below meth c bytes mx rt own nm Z Q pc' ls (x :: y :: x :: y :: st) h cs sl) : own_K p l e R s m args below meth c bytes mx rt own nm Z Q pc ls (x :: y :: st) h cs sl := by subst hp; exact own_xs hd q (fun T t ha hx hd => XT.dup2 (g := mkF m pc ls (x :: y :: st)) ha hx rfl hd rfl hc hc')
-- branches
theorem own_goto (pc' : Nat) {o : Int} (hd : decode bytes pc = .ok (.goto o, 3)) (ho : 0 ≤ (pc : Int) + o) (hp : ((pc : Int) + o).toNat = pc') (q : own_K p l e R s m args below meth c bytes mx rt own nm Z Q pc' ls st h cs sl) : own_K p l e R s m args below meth c bytes mx rt own nm Z Q pc ls st h cs sl := own_xs hd q (fun T t ha hx hd => XS.goto (g := mkF m pc ls st) ha hx rfl rfl hd ho hp)
theorem own_ifYes (pc' : Nat) {cd : ClassFile.Cond} {x : Int32} {o : Int} (hd : decode bytes pc = .ok (.ifCond cd o, 3)) (hc : if_icmp.holds cd x 0 = true) (ho : 0 ≤ (pc : Int) + o) (hp : ((pc : Int) + o).toNat = pc') (q : own_K p l e R s m args below meth c bytes mx rt own nm Z Q pc' ls st h cs sl) : own_K p l e R s m args below meth c bytes mx rt own nm Z Q pc ls (.int x :: st) h cs sl := own_xs hd q (fun T t ha hx hd => XS.ifYes (g := mkF m pc ls (.int x :: st)) ha hx rfl rfl hd rfl ((if0 _ _).trans hc) ho hp)
theorem own_ifNo (pc' : Nat) (hp : pc + 3 = pc') {cd : ClassFile.Cond} {x : Int32} {o : Int} (hd : decode bytes pc = .ok (.ifCond cd o, 3)) (hc : if_icmp.holds cd x 0 = false) (q : own_K p l e R s m args below meth c bytes mx rt own nm Z Q pc' ls st h cs sl) : own_K p l e R s m args below meth c bytes mx rt own nm Z Q pc ls (.int x :: st) h cs sl := by subst hp; exact own_xs hd q (fun T t ha hx hd => XS.ifNo (g := mkF m pc ls (.int x :: st)) ha hx rfl hd rfl ((if0 _ _).trans hc))
theorem own_icmpYes (pc' : Nat) {cd : ClassFile.Cond} {x y : Int32} {o : Int} (hd : decode bytes pc = .ok (.if_icmp cd o, 3)) (hc : if_icmp.holds cd x y = true) (ho : 0 ≤ (pc : Int) + o) (hp : ((pc : Int) + o).toNat = pc') (q : own_K p l e R s m args below meth c bytes mx rt own nm Z Q pc' ls st h cs sl) : own_K p l e R s m args below meth c bytes mx rt own nm Z Q pc ls (.int y :: .int x :: st) h cs sl := own_xs hd q (fun T t ha hx hd => XS.icmpYes (g := mkF m pc ls (.int y :: .int x :: st)) ha hx rfl rfl hd rfl hc ho hp)
theorem own_icmpNo (pc' : Nat) (hp : pc + 3 = pc') {cd : ClassFile.Cond} {x y : Int32} {o : Int} (hd : decode bytes pc = .ok (.if_icmp cd o, 3)) (hc : if_icmp.holds cd x y = false) (q : own_K p l e R s m args below meth c bytes mx rt own nm Z Q pc' ls st h cs sl) : own_K p l e R s m args below meth c bytes mx rt own nm Z Q pc ls (.int y :: .int x :: st) h cs sl := by subst hp; exact own_xs hd q (fun T t ha hx hd => XS.icmpNo (g := mkF m pc ls (.int y :: .int x :: st)) ha hx rfl hd rfl hc)
theorem own_acmpYes (pc' : Nat) {cd : ClassFile.ACond} {x y : Value} {o : Int} (hd : decode bytes pc = .ok (.if_acmp cd o, 3)) (hx' : x.isRef = true) (hy' : y.isRef = true) (hc : XT.acmp cd x y = true) (ho : 0 ≤ (pc : Int) + o) (hp : ((pc : Int) + o).toNat = pc') (q : own_K p l e R s m args below meth c bytes mx rt own nm Z Q pc' ls st h cs sl) : own_K p l e R s m args below meth c bytes mx rt own nm Z Q pc ls (y :: x :: st) h cs sl := own_xs hd q (fun T t ha hx hd => XT.acmpYes (g := mkF m pc ls (y :: x :: st)) ha hx rfl rfl hd rfl hx' hy' hc ho hp)
theorem own_acmpNo (pc' : Nat) (hp : pc + 3 = pc') {cd : ClassFile.ACond} {x y : Value} {o : Int} (hd : decode bytes pc = .ok (.if_acmp cd o, 3)) (hx' : x.isRef = true) (hy' : y.isRef = true) (hc : XT.acmp cd x y = false) (q : own_K p l e R s m args below meth c bytes mx rt own nm Z Q pc' ls st h cs sl) : own_K p l e R s m args below meth c bytes mx rt own nm Z Q pc ls (y :: x :: st) h cs sl := by subst hp; exact own_xs hd q (fun T t ha hx hd => XT.acmpNo (g := mkF m pc ls (y :: x :: st)) ha hx rfl hd rfl hx' hy' hc)
theorem own_teq {x y : Value} (q : x = y) : XT.acmp .eq x y = true ∧ XT.acmp .ne x y = false := ⟨decide_eq_true q, decide_eq_false fun f => f q⟩
theorem own_feq {x y : Value} (q : ¬ x = y) : XT.acmp .eq x y = false ∧ XT.acmp .ne x y = true := ⟨decide_eq_false q, decide_eq_true q⟩
theorem own_ifnullYes (pc' : Nat) {o : Int} (hd : decode bytes pc = .ok (.ifnull o, 3)) (ho : 0 ≤ (pc : Int) + o) (hp : ((pc : Int) + o).toNat = pc') (q : own_K p l e R s m args below meth c bytes mx rt own nm Z Q pc' ls st h cs sl) : own_K p l e R s m args below meth c bytes mx rt own nm Z Q pc ls (.null :: st) h cs sl := own_xs hd q (fun T t ha hx hd => XS.ifnullYes (g := mkF m pc ls (.null :: st)) ha hx rfl rfl hd rfl ho hp)
theorem own_ifnullNo (pc' : Nat) (hp : pc + 3 = pc') {b : Addr} {o : Int} (hd : decode bytes pc = .ok (.ifnull o, 3)) (q : own_K p l e R s m args below meth c bytes mx rt own nm Z Q pc' ls st h cs sl) : own_K p l e R s m args below meth c bytes mx rt own nm Z Q pc ls (.ref b :: st) h cs sl := by subst hp; exact own_xs hd q (fun T t ha hx hd => XS.ifnullNo (g := mkF m pc ls (.ref b :: st)) ha hx rfl hd rfl)
theorem own_ifnonnullYes (pc' : Nat) {b : Addr} {o : Int} (hd : decode bytes pc = .ok (.ifnonnull o, 3)) (ho : 0 ≤ (pc : Int) + o) (hp : ((pc : Int) + o).toNat = pc') (q : own_K p l e R s m args below meth c bytes mx rt own nm Z Q pc' ls st h cs sl) : own_K p l e R s m args below meth c bytes mx rt own nm Z Q pc ls (.ref b :: st) h cs sl := own_xs hd q (fun T t ha hx hd => XT.ifnonnullYes (g := mkF m pc ls (.ref b :: st)) ha hx rfl rfl hd rfl ho hp)
theorem own_ifnonnullNo (pc' : Nat) (hp : pc + 3 = pc') {o : Int} (hd : decode bytes pc = .ok (.ifnonnull o, 3)) (q : own_K p l e R s m args below meth c bytes mx rt own nm Z Q pc' ls st h cs sl) : own_K p l e R s m args below meth c bytes mx rt own nm Z Q pc ls (.null :: st) h cs sl := by subst hp; exact own_xs hd q (fun T t ha hx hd => XT.ifnonnullNo (g := mkF m pc ls (.null :: st)) ha hx rfl hd rfl)
-- fields
theorem own_getF (pc' : Nat) (hp : pc + 3 = pc') {R0 O n d host : String} {index : Nat} (w : (Jvm.Cond.fieldLink own index R0 n d).before a0 Z = true ∨ (Jvm.Cond.fieldLinkNest own index R0 n d host).before a0 Z = true) (via : Via Z R0 O n d) {a : Addr} {v : Value} (F : Fld Z h a O n d v) (hd : decode bytes pc = .ok (.getfield index, 3))
    (q : own_K p l e R s m args below meth c bytes mx rt own nm Z Q pc' ls (v :: st) h cs sl) : own_K p l e R s m args below meth c bytes mx rt own nm Z Q pc ls (.ref a :: st) h cs sl := fun T L hx hby hml hrt hlk hown hnm hZ X eT N O' => by
  subst hp
  obtain ⟨T', X', e', s'⟩ := getF X hx hZ hown w via eT F (g := mkF m pc ls (.ref a :: st)) rfl rfl (hb hby hd)
  exact own_go s' (q T' L hx hby hml hrt hlk hown hnm hZ X' e' N O')
theorem own_getS (pc' : Nat) (hp : pc + 3 = pc') {R0 O n d host : String} {index : Nat} (w : (Jvm.Cond.fieldLink own index R0 n d).before a0 Z = true ∨ (Jvm.Cond.fieldLinkNest own index R0 n d host).before a0 Z = true) (via : Via Z R0 O n d) {v : Value} (F : Sta Z Z.heap O n d v) (hd : decode bytes pc = .ok (.getstatic index, 3))
    (q : own_K p l e R s m args below meth c bytes mx rt own nm Z Q pc' ls (v :: st) h cs sl) : own_K p l e R s m args below meth c bytes mx rt own nm Z Q pc ls st h cs sl := fun T L hx hby hml hrt hlk hown hnm hZ X eT N O' => by
  subst hp
  obtain ⟨T', X', e', s'⟩ := getS2 X hx hZ hown w via eT (F.ext O'.2) (g := mkF m pc ls st) rfl (hb hby hd)
  exact own_go s' (q T' L hx hby hml hrt hlk hown hnm hZ X' e' N O')
theorem own_putF (pc' : Nat) (hp : pc + 3 = pc') {R0 O n d host C : String} {index kk : Nat} {ty : FieldType} (w : (Jvm.Cond.fieldLink own index R0 n d).before a0 Z = true ∨ (Jvm.Cond.fieldLinkNest own index R0 n d host).before a0 Z = true) (via : Via Z R0 O n d) {a : Addr} {v old : Value} (ga : Z.heap.size ≤ a) (F : Fld Z h a O n d old) (E : Exa Z h a C)
    (L0 : (Jvm.Cond.lays C O n d).before a0 Z = true ∨ ((Jvm.Cond.laysFinal C O n d).before a0 Z = true ∧ own = O ∧ nm = "<init>")) (wi : (Jvm.Cond.instantiable C kk).before a0 Z = true) (hty : parseFieldDescriptor d = some ty) (hn : narrow ty v = v) (hf : fits ty v = true) (hd : decode bytes pc = .ok (.putfield index, 3))
    (q : ∀ h', Wr h h' a (Jvm.RoadKit.slotOf Z O n d) v → own_K p l e R s m args below meth c bytes mx rt own nm Z Q pc' ls st h' cs sl) : own_K p l e R s m args below meth c bytes mx rt own nm Z Q pc ls (v :: .ref a :: st) h cs sl := fun T L hx hby hml hrt hlk hown hnm hZ X eT N O' => by
  subst hp
  obtain ⟨T', h', X', e', W', s'⟩ := putF X hx hZ hown w via eT F E (L0.imp id fun u => ⟨u.1, u.2.1, hnm.trans u.2.2⟩) wi hty hn hf (g := mkF m pc ls (v :: .ref a :: st)) rfl rfl (hb hby hd)
  exact own_go s' (q h' W' T' _ hx hby hml hrt hlk hown hnm hZ X' e' (Fr.snoc X' N ga) (O'.wr W' ga))
-- objects and arrays
theorem own_newO (pc' : Nat) (hp : pc + 3 = pc') (cs' sl' : Nat) {C : String} {index n : Nat} (w : (Jvm.Cond.classLink own index C).before a0 Z = true) (wi : (Jvm.Cond.instantiable C n).before a0 Z = true) (wz : (Jvm.Cond.initialized C).before a0 Z = true) (hd : decode bytes pc = .ok (.new index, 3)) (hcs : cs + 1 = cs') (hsl : sl + n = sl') (hc : cs' ≤ R.cells) (hl : sl' ≤ R.slots)
    (q : ∀ h' (a : Addr), a = h.size → Z.heap.size ≤ a → Ext h h' → Exa Z h' a C → (∀ {O nm d : String} {ty : FieldType}, Laid Z a0 C O nm d → parseFieldDescriptor d = some ty → Fld Z h' a O nm d (defaultValue ty)) → own_K p l e R s m args below meth c bytes mx rt own nm Z Q pc' ls (.ref a :: st) h' cs' sl') : own_K p l e R s m args below meth c bytes mx rt own nm Z Q pc ls st h cs sl := fun T L hx hby hml hrt hlk hown hnm hZ X eT N O' => by
  subst hp; subst hcs; subst hsl
  obtain ⟨T', h', X', e', E', A', D', -, s'⟩ := newO X hx hZ hown w wi wz eT (g := mkF m pc ls st) rfl (hb hby hd) hc hl
  exact own_go s' (q h' _ rfl O'.2.1 E' A' D' T' _ hx hby hml hrt hlk hown hnm hZ X' e' N (O'.ext E'))
theorem own_newP (pc' : Nat) (hp : pc + 2 = pc') (cs' sl' cap : Nat) (ad : String) {aty : ArrayType} (had : "[" ++ (newarray.typeOf aty).toString = ad) (w : (Jvm.Cond.arrayClass (newarray.typeOf aty)).before a0 Z = true) (hd : decode bytes pc = .ok (.newarray aty, 2)) {n : Int32} (hn : ¬ n < 0) (hcap : n.toNatClampNeg ≤ cap) (hb' : cap * 8 ≤ 536870912) (hcs : cs + 1 = cs') (hsl : sl + cap = sl') (hc : cs' ≤ R.cells) (hl : sl' ≤ R.slots)
    (q : ∀ h' (a : Addr) k, a = h.size → Z.heap.size ≤ a → Ext h h' → Arv Z h' a k (newarray.typeOf aty) n [] (defaultValue (newarray.typeOf aty)) → Exa Z h' a ad → own_K p l e R s m args below meth c bytes mx rt own nm Z Q pc' ls (.ref a :: st) h' cs' sl') : own_K p l e R s m args below meth c bytes mx rt own nm Z Q pc ls (.int n :: st) h cs sl := fun T L hx hby hml hrt hlk hown hnm hZ X eT N O' => by
  subst hp; subst hcs; subst hsl
  obtain ⟨T', h', cA, X', e', E', A', C', s'⟩ := newPE X hx hZ w eT (g := mkF m pc ls (.int n :: st)) rfl (hb hby hd) rfl hn hcap hb' hc hl had
  exact own_go s' (q h' _ cA rfl O'.2.1 E' (Arv.new A' hn) C' T' _ hx hby hml hrt hlk hown hnm hZ X' e' N (O'.ext E'))
theorem own_newR (pc' : Nat) (hp : pc + 3 = pc') (cs' sl' cap : Nat) {C : String} {index : Nat} (w1 : (Jvm.Cond.classLink own index C).before a0 Z = true) (w2 : (Jvm.Cond.arrayOver (.object C)).before a0 Z = true) (hd : decode bytes pc = .ok (.anewarray index, 3)) {n : Int32} (hn : ¬ n < 0) (hcap : n.toNatClampNeg ≤ cap) (hb' : cap * 8 ≤ 536870912) (hcs : cs + 1 = cs') (hsl : sl + cap = sl') (hc : cs' ≤ R.cells) (hl : sl' ≤ R.slots)
    (q : ∀ h' (a : Addr) k, a = h.size → Z.heap.size ≤ a → Ext h h' → Arv Z h' a k (.object C) n [] .null → Ovr Z k C → own_K p l e R s m args below meth c bytes mx rt own nm Z Q pc' ls (.ref a :: st) h' cs' sl') : own_K p l e R s m args below meth c bytes mx rt own nm Z Q pc ls (.int n :: st) h cs sl := fun T L hx hby hml hrt hlk hown hnm hZ X eT N O' => by
  subst hp; subst hcs; subst hsl
  obtain ⟨T', h', cA, X', e', E', A', V', s'⟩ := newR X hx hZ hown w1 w2 eT (g := mkF m pc ls (.int n :: st)) rfl (hb hby hd) rfl hn hcap hb' hc hl
  exact own_go s' (q h' _ cA rfl O'.2.1 E' (Arv.new A' hn) V' T' _ hx hby hml hrt hlk hown hnm hZ X' e' N (O'.ext E'))
theorem own_initO (pc' : Nat) (hp : pc + 3 = pc') {index : Nat} (w1 : (Jvm.Cond.methodLink own index Lib.objectInit).before a0 Z = true) (w2 : (Jvm.Cond.instanceMethod Lib.objectInit).before a0 Z = true) (w3 : (Jvm.Cond.code Lib.objectInit ⟨#[0xb1]⟩ 1 none).before a0 Z = true) {a : Addr} (hd : decode bytes pc = .ok (.invokespecial index, 3)) (hls : ls.size = mx) (hf : 1 ≤ R.frames) (W : Nat) (hW : (st.map fun v => v.category).sum ≤ W) (hl : W + 12 ≤ R.locals)
    (q : own_K p l e R s m args below meth c bytes mx rt own nm Z Q pc' ls st h cs sl) : own_K p l e R s m args below meth c bytes mx rt own nm Z Q pc ls (.ref a :: st) h cs sl := fun T L hx hby hml hrt hlk hown hnm hZ X eT N O' => by
  subst hp
  obtain ⟨T', X', e', s'⟩ := initO X hx hZ hown w1 w2 w3 eT (g := mkF m pc ls (.ref a :: st)) rfl (hls.trans hml.symm) rfl (hb hby hd) hf (W := W) (by simpa using hW) hl
  exact own_go s' (q T' L hx hby hml hrt hlk hown hnm hZ X' e' N O')
theorem own_alen (pc' : Nat) (hp : pc + 1 = pc') {a : Addr} {cl : Cell} {ty : FieldType} (A : Arr Z h a cl ty) (n : Int32) (hn : cl.slots.size.toInt32 = n) (hd : decode bytes pc = .ok (.arraylength, 1))
    (q : own_K p l e R s m args below meth c bytes mx rt own nm Z Q pc' ls (.int n :: st) h cs sl) : own_K p l e R s m args below meth c bytes mx rt own nm Z Q pc ls (.ref a :: st) h cs sl := fun T L hx hby hml hrt hlk hown hnm hZ X eT N O' => by
  subst hp; subst hn
  exact own_go (X.arraylength hx (by rw [eT]; exact A.1) (State.isArrayOf_alike hZ.alike A.2.1) (g := mkF m pc ls (.ref a :: st)) rfl rfl (hb hby hd)) (q T L hx hby hml hrt hlk hown hnm hZ X eT N O')
theorem own_iaload (pc' : Nat) (hp : pc + 1 = pc') {a : Addr} {cl : Cell} {j : Int32} {v : Value} (A : Arr Z h a cl .int) (hin : ¬ (j < 0 ∨ cl.slots.size ≤ j.toNatClampNeg)) (hv : cl.slots[j.toNatClampNeg]? = some v) (hd : decode bytes pc = .ok (.iaload, 1))
    (q : own_K p l e R s m args below meth c bytes mx rt own nm Z Q pc' ls (v :: st) h cs sl) : own_K p l e R s m args below meth c bytes mx rt own nm Z Q pc ls (.int j :: .ref a :: st) h cs sl := fun T L hx hby hml hrt hlk hown hnm hZ X eT N O' => by
  subst hp
  exact own_go (X.iaload hx (by rw [eT]; exact A.1) (State.isArrayOf_alike hZ.alike A.2.1) A.2.2 hin hv (g := mkF m pc ls (.int j :: .ref a :: st)) rfl rfl (hb hby hd)) (q T L hx hby hml hrt hlk hown hnm hZ X eT N O')
theorem own_laload (pc' : Nat) (hp : pc + 1 = pc') {a : Addr} {cl : Cell} {j : Int32} {v : Value} (A : Arr Z h a cl .long) (hin : ¬ (j < 0 ∨ cl.slots.size ≤ j.toNatClampNeg)) (hv : cl.slots[j.toNatClampNeg]? = some v) (hd : decode bytes pc = .ok (.laload, 1))
    (q : own_K p l e R s m args below meth c bytes mx rt own nm Z Q pc' ls (v :: st) h cs sl) : own_K p l e R s m args below meth c bytes mx rt own nm Z Q pc ls (.int j :: .ref a :: st) h cs sl := fun T L hx hby hml hrt hlk hown hnm hZ X eT N O' => by
  subst hp
  exact own_go (X.laload hx (by rw [eT]; exact A.1) (State.isArrayOf_alike hZ.alike A.2.1) A.2.2 hin hv (g := mkF m pc ls (.int j :: .ref a :: st)) rfl rfl (hb hby hd)) (q T L hx hby hml hrt hlk hown hnm hZ X eT N O')
theorem own_baload (pc' : Nat) (hp : pc + 1 = pc') {a : Addr} {cl : Cell} {j : Int32} {v : Value} (A : Arr Z h a cl .byte) (hin : ¬ (j < 0 ∨ cl.slots.size ≤ j.toNatClampNeg)) (hv : cl.slots[j.toNatClampNeg]? = some v) (hd : decode bytes pc = .ok (.baload, 1))
    (q : own_K p l e R s m args below meth c bytes mx rt own nm Z Q pc' ls (v :: st) h cs sl) : own_K p l e R s m args below meth c bytes mx rt own nm Z Q pc ls (.int j :: .ref a :: st) h cs sl := fun T L hx hby hml hrt hlk hown hnm hZ X eT N O' => by
  subst hp
  exact own_go (X.baloadBytes hx (by rw [eT]; exact A.1) (State.isArrayOf_alike hZ.alike A.2.1) A.2.2 hin hv (g := mkF m pc ls (.int j :: .ref a :: st)) rfl rfl (hb hby hd)) (q T L hx hby hml hrt hlk hown hnm hZ X eT N O')
theorem own_zaload (pc' : Nat) (hp : pc + 1 = pc') {a : Addr} {cl : Cell} {j : Int32} {v : Value} (A : Arr Z h a cl .boolean) (hin : ¬ (j < 0 ∨ cl.slots.size ≤ j.toNatClampNeg)) (hv : cl.slots[j.toNatClampNeg]? = some v) (hd : decode bytes pc = .ok (.baload, 1))
    (q : own_K p l e R s m args below meth c bytes mx rt own nm Z Q pc' ls (v :: st) h cs sl) : own_K p l e R s m args below meth c bytes mx rt own nm Z Q pc ls (.int j :: .ref a :: st) h cs sl := fun T L hx hby hml hrt hlk hown hnm hZ X eT N O' => by
  subst hp
  exact own_go (X.baloadBooleans hx (by rw [eT]; exact A.1) (State.isArrayOf_alike hZ.alike A.2.1) A.2.2 hin hv (g := mkF m pc ls (.int j :: .ref a :: st)) rfl rfl (hb hby hd)) (q T L hx hby hml hrt hlk hown hnm hZ X eT N O')
theorem own_aaload (pc' : Nat) (hp : pc + 1 = pc') {a : Addr} {cl : Cell} {j : Int32} {v : Value} {ty : FieldType} (A : Arr Z h a cl ty) (hty : ty.isReference = true) (hin : ¬ (j < 0 ∨ cl.slots.size ≤ j.toNatClampNeg)) (hv : cl.slots[j.toNatClampNeg]? = some v) (hd : decode bytes pc = .ok (.aaload, 1))
    (q : own_K p l e R s m args below meth c bytes mx rt own nm Z Q pc' ls (v :: st) h cs sl) : own_K p l e R s m args below meth c bytes mx rt own nm Z Q pc ls (.int j :: .ref a :: st) h cs sl := fun T L hx hby hml hrt hlk hown hnm hZ X eT N O' => by
  subst hp
  exact own_go (X.aaload hx (by rw [eT]; exact A.1) (State.isArrayOf_alike hZ.alike A.2.1) hty A.2.2 hin hv (g := mkF m pc ls (.int j :: .ref a :: st)) rfl rfl (hb hby hd)) (q T L hx hby hml hrt hlk hown hnm hZ X eT N O')
theorem own_iastore (pc' : Nat) (hp : pc + 1 = pc') {a : Addr} {cl : Cell} {j x : Int32} (ga : Z.heap.size ≤ a) (A : Arr Z h a cl .int) (hin : ¬ (j < 0 ∨ cl.slots.size ≤ j.toNatClampNeg)) (hd : decode bytes pc = .ok (.iastore, 1))
    (q : ∀ h', Wr h h' a j.toNatClampNeg (.int x) → own_K p l e R s m args below meth c bytes mx rt own nm Z Q pc' ls st h' cs sl) : own_K p l e R s m args below meth c bytes mx rt own nm Z Q pc ls (.int x :: .int j :: .ref a :: st) h cs sl := fun T L hx hby hml hrt hlk hown hnm hZ X eT N O' => by
  subst hp
  obtain ⟨T', h', X', e', W', s'⟩ := stI X hx hZ eT A hin (g := mkF m pc ls (.int x :: .int j :: .ref a :: st)) rfl rfl (hb hby hd)
  exact own_go s' (q h' W' T' _ hx hby hml hrt hlk hown hnm hZ X' e' (Fr.snoc X' N ga) (O'.wr W' ga))
theorem own_lastore (pc' : Nat) (hp : pc + 1 = pc') {a : Addr} {cl : Cell} {j : Int32} {x : Int64} (ga : Z.heap.size ≤ a) (A : Arr Z h a cl .long) (hin : ¬ (j < 0 ∨ cl.slots.size ≤ j.toNatClampNeg)) (hd : decode bytes pc = .ok (.lastore, 1))
    (q : ∀ h', Wr h h' a j.toNatClampNeg (.long x) → own_K p l e R s m args below meth c bytes mx rt own nm Z Q pc' ls st h' cs sl) : own_K p l e R s m args below meth c bytes mx rt own nm Z Q pc ls (.long x :: .int j :: .ref a :: st) h cs sl := fun T L hx hby hml hrt hlk hown hnm hZ X eT N O' => by
  subst hp
  obtain ⟨T', h', X', e', W', s'⟩ := stJ X hx hZ eT A hin (g := mkF m pc ls (.long x :: .int j :: .ref a :: st)) rfl rfl (hb hby hd)
  exact own_go s' (q h' W' T' _ hx hby hml hrt hlk hown hnm hZ X' e' (Fr.snoc X' N ga) (O'.wr W' ga))
theorem own_bastore (pc' : Nat) (hp : pc + 1 = pc') {a : Addr} {cl : Cell} {j x : Int32} (ga : Z.heap.size ≤ a) (A : Arr Z h a cl .byte) (hin : ¬ (j < 0 ∨ cl.slots.size ≤ j.toNatClampNeg)) (hd : decode bytes pc = .ok (.bastore, 1))
    (q : ∀ h', Wr h h' a j.toNatClampNeg (.int (nar .byte x)) → own_K p l e R s m args below meth c bytes mx rt own nm Z Q pc' ls st h' cs sl) : own_K p l e R s m args below meth c bytes mx rt own nm Z Q pc ls (.int x :: .int j :: .ref a :: st) h cs sl := fun T L hx hby hml hrt hlk hown hnm hZ X eT N O' => by
  subst hp
  obtain ⟨T', h', X', e', W', s'⟩ := stB X hx hZ eT A hin (g := mkF m pc ls (.int x :: .int j :: .ref a :: st)) rfl rfl (hb hby hd)
  exact own_go s' (q h' W' T' _ hx hby hml hrt hlk hown hnm hZ X' e' (Fr.snoc X' N ga) (O'.wr W' ga))
theorem own_aastore (pc' : Nat) (hp : pc + 1 = pc') {a : Addr} {cl : Cell} {j : Int32} {v : Value} {ty : FieldType} (ga : Z.heap.size ≤ a) (A : Arr Z h a cl ty) (hty : ty.isReference = true) (F : Sto Z h a v) (hin : ¬ (j < 0 ∨ cl.slots.size ≤ j.toNatClampNeg)) (hd : decode bytes pc = .ok (.aastore, 1))
    (q : ∀ h', Wr h h' a j.toNatClampNeg v → own_K p l e R s m args below meth c bytes mx rt own nm Z Q pc' ls st h' cs sl) : own_K p l e R s m args below meth c bytes mx rt own nm Z Q pc ls (v :: .int j :: .ref a :: st) h cs sl := fun T L hx hby hml hrt hlk hown hnm hZ X eT N O' => by
  subst hp
  obtain ⟨T', h', X', e', W', s'⟩ := stR X hx hZ eT A hin hty F (g := mkF m pc ls (v :: .int j :: .ref a :: st)) rfl rfl (hb hby hd)
  exact own_go s' (q h' W' T' _ hx hby hml hrt hlk hown hnm hZ X' e' (Fr.snoc X' N ga) (O'.wr W' ga))
theorem own_cast (pc' : Nat) (hp : pc + 3 = pc') {C : String} {index : Nat} (w : (Jvm.Cond.classLink own index C).before a0 Z = true) {a : Addr} (F : Ins Z h a C true) (hd : decode bytes pc = .ok (.checkcast index, 3))
    (q : own_K p l e R s m args below meth c bytes mx rt own nm Z Q pc' ls (.ref a :: st) h cs sl) : own_K p l e R s m args below meth c bytes mx rt own nm Z Q pc ls (.ref a :: st) h cs sl := fun T L hx hby hml hrt hlk hown hnm hZ X eT N O' => by
  subst hp
  obtain ⟨T', X', e', s'⟩ := castY X hx hZ hown w eT F (g := mkF m pc ls (.ref a :: st)) rfl rfl (hb hby hd)
  exact own_go s' (q T' L hx hby hml hrt hlk hown hnm hZ X' e' N O')
theorem own_castNull (pc' : Nat) (hp : pc + 3 = pc') {index : Nat} (hd : decode bytes pc = .ok (.checkcast index, 3))
    (q : own_K p l e R s m args below meth c bytes mx rt own nm Z Q pc' ls (.null :: st) h cs sl) : own_K p l e R s m args below meth c bytes mx rt own nm Z Q pc ls (.null :: st) h cs sl := fun T L hx hby hml hrt hlk hown hnm hZ X eT N O' => by
  subst hp
  exact own_go (X.checkcastNull hx (g := mkF m pc ls (.null :: st)) rfl rfl (hb hby hd)) (q T L hx hby hml hrt hlk hown hnm hZ X eT N O')
theorem own_clone (pc' : Nat) (hp : pc + 3 = pc') (cs' sl' cap W : Nat) {ad : String} {index : Nat} {k : ClassId} {ty : FieldType} {z : Int32} {vs : List Value} {dv : Value} {a : Addr}
    (w1 : (Jvm.Cond.methodLink own index ⟨ad, "clone", "()Ljava/lang/Object;"⟩).before a0 Z = true) (w2 : (Jvm.Cond.sameMethod ad "java/lang/Object" "clone" "()Ljava/lang/Object;").before a0 Z = true) (w3 : (Jvm.Cond.native ⟨"java/lang/Object", "clone", "()Ljava/lang/Object;"⟩).before a0 Z = true)
    (w4 : (Jvm.Cond.instanceMethod ⟨"java/lang/Object", "clone", "()Ljava/lang/Object;"⟩).before a0 Z = true) (w5 : (Jvm.Cond.selects ad ⟨ad, "clone", "()Ljava/lang/Object;"⟩ ⟨"java/lang/Object", "clone", "()Ljava/lang/Object;"⟩).before a0 Z = true) (w6 : (Jvm.Cond.castable ad "java/lang/Cloneable").before a0 Z = true)
    (F : Arv Z h a k ty z vs dv) (E : Exa Z h a ad) (hcap : z.toNatClampNeg ≤ cap) (hd : decode bytes pc = .ok (.invokevirtual index, 3)) (hls : ls.size = mx) (hf : 1 ≤ R.frames) (hW : (st.map fun v => v.category).sum = W) (hl : W + 14 ≤ R.locals) (hcs : cs + 1 = cs') (hsl : sl + cap = sl') (hc : cs' ≤ R.cells) (hs : sl' ≤ R.slots)
    (q : ∀ h' (b : Addr), b = h.size → Z.heap.size ≤ b → Ext h h' → Arv Z h' b k ty z vs dv → Exa Z h' b ad → own_K p l e R s m args below meth c bytes mx rt own nm Z Q pc' ls (.ref b :: st) h' cs' sl') : own_K p l e R s m args below meth c bytes mx rt own nm Z Q pc ls (.ref a :: st) h cs sl := fun T L hx hby hml hrt hlk hown hnm hZ X eT N O' => by
  subst hp; subst hcs; subst hsl
  obtain ⟨T', h', X', e', E', A', C', s'⟩ := cloneH X hx hZ hown w1 w2 w3 w4 w5 w6 eT F.arh E (g := mkF m pc ls (.ref a :: st)) rfl (hls.trans hml.symm) rfl (hb hby hd) hf (W := W) (by show 2 * 0 + _ ≤ _; omega) hl hcap hc hs
  exact own_go s' (q h' _ rfl O'.2.1 E' A' C' T' _ hx hby hml hrt hlk hown hnm hZ X' e' N (O'.ext E'))
-- leaving
theorem own_out {t : FieldType} {v : Value} {pc : Nat} {T : State} {L : List Loc} (X : Stand p l e R s m args below meth c T L cs sl) (hrt : meth.sig.returnType = some t) (hlk : meth.locks = false)
    (f : ∀ fs, (∀ (f : JFrame) (acts : List Action), f.method = m → f.locked = none → f.entered = [] → (doReturn e (T.setTop f) acts (some v)).1 = T.setFrames fs) → Steps p.tables e below (T.setTop (mkF m pc ls st)) (T.setFrames fs)) (hc : cs ≤ R.cells) (hs : sl ≤ R.slots) (N : Fr Z.heap.size L) (O : Old Z Z.heap.size T.heap) (q : Q (some v) T.heap) :
    own_G p e s below Z Q R.cells R.slots (T.setTop (mkF m pc ls st)) := by
  obtain ⟨fs, hr, hrun, hended, hW, hsame⟩ := X.leave (v := some v) (fun h => by rw [hrt] at h; cases h) hlk
  exact ⟨_, _, f fs hr, hrun, hended, _, _, rfl, ⟨q, N, O⟩, ⟨_, rfl⟩, hW, hsame.mono hc hs⟩
theorem own_retI {v : Int32} (hr : rt = some .int) (hd : decode bytes pc = .ok (.ireturn, 1)) (hc : cs ≤ R.cells) (hs : sl ≤ R.slots) (q : Q (some (.int v)) h) : own_K p l e R s m args below meth c bytes mx rt own nm Z Q pc ls (.int v :: st) h cs sl := fun T L hx hby hml hrt hlk hown hnm hZ X eT N O' => by
  subst eT
  exact own_out X (hrt.trans hr) hlk (fun fs k => retOut X hx (hrt.trans hr) rfl (Or.inl ⟨rfl, Or.inl rfl, _, rfl⟩) (hb hby hd) k) hc hs N O' q
theorem own_retN {v : Int32} {t : FieldType} (hr : rt = some t) (ht : t = .boolean ∨ t = .byte ∨ t = .char ∨ t = .short) (hd : decode bytes pc = .ok (.ireturn, 1)) (hc : cs ≤ R.cells) (hs : sl ≤ R.slots) (q : Q (some (.int (nar t v))) h) : own_K p l e R s m args below meth c bytes mx rt own nm Z Q pc ls (.int v :: st) h cs sl := fun T L hx hby hml hrt hlk hown hnm hZ X eT N O' => by
  subst eT
  exact own_out X (hrt.trans hr) hlk (fun fs k => retN X hx (hrt.trans hr) ht (hb hby hd) k) hc hs N O' q
theorem own_retJ {v : Int64} (hr : rt = some .long) (hd : decode bytes pc = .ok (.lreturn, 1)) (hc : cs ≤ R.cells) (hs : sl ≤ R.slots) (q : Q (some (.long v)) h) : own_K p l e R s m args below meth c bytes mx rt own nm Z Q pc ls (.long v :: st) h cs sl := fun T L hx hby hml hrt hlk hown hnm hZ X eT N O' => by
  subst eT
  exact own_out X (hrt.trans hr) hlk (fun fs k => retOut X hx (hrt.trans hr) rfl (Or.inr (Or.inl ⟨rfl, rfl, _, rfl⟩)) (hb hby hd) k) hc hs N O' q
theorem own_narR {t : FieldType} {v : Value} (ht : t.isReference = true) (hv : v.isRef = true) : narrow t v = v := by
  rcases ref_cases hv with rfl | ⟨_, rfl⟩ <;> cases t <;> first | rfl | cases ht
theorem own_retA {v : Value} {t : FieldType} (hr : rt = some t) (ht : t.isReference = true) (hv : v.isRef = true) (hd : decode bytes pc = .ok (.areturn, 1)) (hc : cs ≤ R.cells) (hs : sl ≤ R.slots) (q : Q (some v) h) : own_K p l e R s m args below meth c bytes mx rt own nm Z Q pc ls (v :: st) h cs sl := fun T L hx hby hml hrt hlk hown hnm hZ X eT N O' => by
  subst eT
  exact own_out X (hrt.trans hr) hlk (fun fs k => retOut X hx (hrt.trans hr) (own_narR ht hv) (Or.inr (Or.inr (Or.inr (Or.inr ⟨rfl, ht, hv⟩)))) (hb hby hd) k) hc hs N O' q
theorem own_ret (hr : rt = none) (hd : decode bytes pc = .ok (.return_, 1)) (hc : cs ≤ R.cells) (hs : sl ≤ R.slots) (q : Q none h) : own_K p l e R s m args below meth c bytes mx rt own nm Z Q pc ls [] h cs sl := fun T L hx hby hml hrt hlk hown hnm hZ X eT N O' => by
  subst eT
  obtain ⟨fs, hr', hrun, hended, hW, hsame⟩ := X.leave (v := none) (fun _ => rfl) hlk
  exact ⟨_, _, X.returnOut hx (hrt.trans hr) (hb hby hd) hr', hrun, hended, _, _, rfl, ⟨q, N, O'⟩, ⟨_, rfl⟩, hW, hsame.mono hc hs⟩
-- calls
theorem own_back {y : MethodName} {b' : ByteArray} {mx' : Nat} {rt' : Option FieldType} {rm' : Room} {as' : Array Value} {Q' : Option Value → Heap → Prop} {W : Nat} (hZ : Z.Warmed39 s.vm) (O : Old Z Z.heap.size h) (hM : own_Met l Z y b' mx' rt' [] rm' as' h Q') (w4 : (Jvm.Cond.code y b' mx' rt').before a0 Z = true) (w3 : (Jvm.Cond.initialized y.cls).before a0 Z = true)
    (hf : rm'.frames + 1 ≤ R.frames) (hl : W + (mx' + 11) + rm'.locals ≤ R.locals) {len : Nat} :
    Back l R p e below s args y len W (fun A a => a = as' ∧ A.U.heap = h ∧ A.cells + rm'.cells ≤ R.cells ∧ A.slots + rm'.slots ≤ R.slots)
      (fun A _ v B => ∃ L, (Q' v B.U.heap ∧ Fr Z.heap.size L ∧ Old Z Z.heap.size B.U.heap) ∧ B.locs = A.locs ++ L ∧ B.cells = A.cells + rm'.cells ∧ B.slots = A.slots + rm'.slots) :=
  backOf (Q := fun v h' L => Q' v h' ∧ Fr Z.heap.size L ∧ Old Z Z.heap.size h') (hM O) hZ w4 w3 hf hl
theorem own_callS (pc' : Nat) (hp : pc + 3 = pc') (cs' sl' W : Nat) (argsL rest : List Value) {index : Nat} {y : MethodName} {b' : ByteArray} {mx' : Nat} {rt' : Option FieldType} {rm' : Room} {as' : Array Value} {Q' : Option Value → Heap → Prop}
    (w1 : (Jvm.Cond.methodLink own index y).before a0 Z = true) (w2 : (Jvm.Cond.static y).before a0 Z = true) (w3 : (Jvm.Cond.initialized y.cls).before a0 Z = true) (w4 : (Jvm.Cond.code y b' mx' rt').before a0 Z = true) (hy : y.cls ≠ "java/lang/invoke/MethodHandle" ∧ y.cls ≠ "java/lang/invoke/VarHandle")
    (hM : own_Met l Z y b' mx' rt' [] rm' as' h Q') (hd : decode bytes pc = .ok (.invokestatic index, 3)) (hls : ls.size = mx) (hlen : ∀ sig, parseMethodDescriptor y.desc = some sig → argsL.length = sig.parameters.length) (has : argsL.toArray = as') (hst : st = argsL.reverse ++ rest) (hW : (rest.map fun v => v.category).sum = W)
    (hf : rm'.frames + 1 ≤ R.frames) (hl : W + (mx' + 11) + rm'.locals ≤ R.locals) (hcs : cs + rm'.cells = cs') (hsl : sl + rm'.slots = sl') (hc : cs' ≤ R.cells) (hs : sl' ≤ R.slots)
    (k : ∀ v h', Q' v h' → own_K p l e R s m args below meth c bytes mx rt own nm Z Q pc' ls (v.toList ++ rest) h' cs' sl') : own_K p l e R s m args below meth c bytes mx rt own nm Z Q pc ls st h cs sl := fun T L hx hby hml hrt hlk hown hnm hZ X eT N O' => by
  subst hp; subst hcs; subst hsl; subst hst; subst has; subst eT
  obtain ⟨v, _, ⟨T2, L2, k2, n2⟩, -, X2, ⟨Lc2, ⟨hQ2, N2, O2⟩, l2, y2, z2⟩, st2⟩ := Jvm.LawKit.callS X hx (y := y) hown (mvT hZ w1) (mvT hZ w2) (mvT hZ w3) (mvT hZ w4) hy (own_back (W := W) hZ O' hM w4 w3 hf hl) (g := mkF m pc ls (argsL.reverse ++ rest)) rfl (hls.trans hml.symm) (argsL := argsL) (rest := rest) hlen rfl (by show 2 * 0 + _ ≤ _; omega) (hb hby hd) (fun _ _ => ⟨rfl, rfl, hc, hs⟩)
  dsimp only [Pt.U, Pt.locs, Pt.cells, Pt.slots] at X2 l2 y2 z2 st2 hQ2 O2
  subst l2 y2 z2
  exact own_go st2 (k v _ hQ2 T2 _ hx hby hml hrt hlk hown hnm hZ X2 rfl (N.app N2) O2)
theorem own_callV (pc' : Nat) (hp : pc + 3 = pc') (cs' sl' W : Nat) (argsL rest : List Value) {index : Nat} {C : String} {y z : MethodName} {b' : ByteArray} {mx' : Nat} {rt' : Option FieldType} {rm' : Room} {as' : Array Value} {Q' : Option Value → Heap → Prop} {a : Addr}
    (w1 : (Jvm.Cond.methodLink own index y).before a0 Z = true) (w2 : (Jvm.Cond.declares y).before a0 Z = true) (hnf : ∀ {u : State}, Z.Warmed39 u.vm → NotFace u y) (w5 : (Jvm.Cond.selects C y z).before a0 Z = true) (w6 : (Jvm.Cond.instanceMethod z).before a0 Z = true) (w3 : (Jvm.Cond.initialized z.cls).before a0 Z = true) (w4 : (Jvm.Cond.code z b' mx' rt').before a0 Z = true) (hy : y.cls ≠ "java/lang/invoke/MethodHandle" ∧ y.cls ≠ "java/lang/invoke/VarHandle")
    (E : Exa Z h a C) (hM : own_Met l Z z b' mx' rt' [] rm' as' h Q') (hd : decode bytes pc = .ok (.invokevirtual index, 3)) (hls : ls.size = mx) (hlen : ∀ sig, parseMethodDescriptor y.desc = some sig → argsL.length = sig.parameters.length) (has : (.ref a :: argsL).toArray = as') (hst : st = argsL.reverse ++ .ref a :: rest) (hW : (rest.map fun v => v.category).sum = W)
    (hf : rm'.frames + 1 ≤ R.frames) (hl : W + (mx' + 11) + rm'.locals ≤ R.locals) (hcs : cs + rm'.cells = cs') (hsl : sl + rm'.slots = sl') (hc : cs' ≤ R.cells) (hs : sl' ≤ R.slots)
    (k : ∀ v h', Q' v h' → own_K p l e R s m args below meth c bytes mx rt own nm Z Q pc' ls (v.toList ++ rest) h' cs' sl') : own_K p l e R s m args below meth c bytes mx rt own nm Z Q pc ls st h cs sl := fun T L hx hby hml hrt hlk hown hnm hZ X eT N O' => by
  subst hp; subst hcs; subst hsl; subst hst; subst has; subst eT
  obtain ⟨cq, kq, qa, qb, qc⟩ := isOf hZ rfl E
  obtain ⟨v, _, ⟨T2, L2, k2, n2⟩, -, X2, ⟨Lc2, ⟨hQ2, N2, O2⟩, l2, y2, z2⟩, st2⟩ := X.virtualBack hx (y := y) (z := z) hown (mvT hZ w1) (mvT hZ w2) (hnf hZ) (mvT hZ w5) (mvT hZ w6) hy (own_back (W := W) hZ O' hM w4 w3 hf hl) qa qc (g := mkF m pc ls (argsL.reverse ++ .ref a :: rest)) rfl (hls.trans hml.symm) (Steps.refl _) (argsL := argsL) (rest := rest) hlen rfl (by show 2 * 0 + _ ≤ _; omega) (hb hby hd) (fun _ _ => ⟨rfl, rfl, hc, hs⟩)
  dsimp only [Pt.U, Pt.locs, Pt.cells, Pt.slots] at X2 l2 y2 z2 st2 hQ2 O2
  subst l2 y2 z2
  exact own_go (fun t q => st2.trans q) (k v _ hQ2 T2 _ hx hby hml hrt hlk hown hnm hZ X2 rfl (N.app N2) O2)
theorem own_callF (pc' : Nat) (hp : pc + 5 = pc') (cs' sl' W : Nat) (argsL rest : List Value) {index count : Nat} {C : String} {y z : MethodName} {b' : ByteArray} {mx' : Nat} {rt' : Option FieldType} {rm' : Room} {as' : Array Value} {Q' : Option Value → Heap → Prop} {a : Addr}
    (w1 : (Jvm.Cond.methodLink own index y).before a0 Z = true) (w2 : (Jvm.Cond.declares y).before a0 Z = true) (w7 : (Jvm.Cond.interfaceMethod y.cls y.cls y.name y.desc).before a0 Z = true) (w7k : ((Jvm.Cond.interfaceMethod y.cls y.cls y.name y.desc).onTables && (Jvm.Cond.interfaceMethod y.cls y.cls y.name y.desc).keepsFace) = true) (w5 : (Jvm.Cond.selects C y z).before a0 Z = true) (w6 : (Jvm.Cond.instanceMethod z).before a0 Z = true) (w8 : (Jvm.Cond.publicMethod z).before a0 Z = true) (w9 : (Jvm.Cond.unhidden C y.name y.desc).before a0 Z = true) (w10 : (Jvm.Cond.castable C y.cls).before a0 Z = true) (w3 : (Jvm.Cond.initialized z.cls).before a0 Z = true) (w4 : (Jvm.Cond.code z b' mx' rt').before a0 Z = true) (hy : y.cls ≠ "java/lang/invoke/MethodHandle" ∧ y.cls ≠ "java/lang/invoke/VarHandle")
    (E : Exa Z h a C) (hM : own_Met l Z z b' mx' rt' [] rm' as' h Q') (hd : decode bytes pc = .ok (.invokeinterface index count, 5)) (hls : ls.size = mx) (hlen : ∀ sig, parseMethodDescriptor y.desc = some sig → argsL.length = sig.parameters.length) (has : (.ref a :: argsL).toArray = as') (hst : st = argsL.reverse ++ .ref a :: rest) (hW : (rest.map fun v => v.category).sum = W)
    (hf : rm'.frames + 1 ≤ R.frames) (hl : W + (mx' + 11) + rm'.locals ≤ R.locals) (hcs : cs + rm'.cells = cs') (hsl : sl + rm'.slots = sl') (hc : cs' ≤ R.cells) (hs : sl' ≤ R.slots)
    (k : ∀ v h', Q' v h' → own_K p l e R s m args below meth c bytes mx rt own nm Z Q pc' ls (v.toList ++ rest) h' cs' sl') : own_K p l e R s m args below meth c bytes mx rt own nm Z Q pc ls st h cs sl := fun T L hx hby hml hrt hlk hown hnm hZ X eT N O' => by
  subst hp; subst hcs; subst hsl; subst hst; subst has; subst eT
  obtain ⟨cq, kq, qa, qb, qc⟩ := isOf hZ rfl E
  obtain ⟨v, _, ⟨T2, L2, k2, n2⟩, -, X2, ⟨Lc2, ⟨hQ2, N2, O2⟩, l2, y2, z2⟩, st2⟩ := X.interfaceBack hx (xi := y) (y := z) hown (mvT hZ w1) (mvT hZ w2) (mvT hZ w7 w7k) (mvT hZ w5) (mvT hZ w6) (mvT hZ w8) (mvT hZ w9) (mvT hZ w10) hy (own_back (W := W) hZ O' hM w4 w3 hf hl) qa qb qc (g := mkF m pc ls (argsL.reverse ++ .ref a :: rest)) rfl (hls.trans hml.symm) (Steps.refl _) (argsL := argsL) (rest := rest) hlen rfl (by show 2 * 0 + _ ≤ _; omega) (hb hby hd) (fun _ _ => ⟨rfl, rfl, hc, hs⟩)
  dsimp only [Pt.U, Pt.locs, Pt.cells, Pt.slots] at X2 l2 y2 z2 st2 hQ2 O2
  subst l2 y2 z2
  exact own_go (fun t q => st2.trans q) (k v _ hQ2 T2 _ hx hby hml hrt hlk hown hnm hZ X2 rfl (N.app N2) O2)
theorem own_callI (pc' : Nat) (hp : pc + 3 = pc') (cs' sl' W : Nat) (argsL rest : List Value) {index : Nat} {y : MethodName} {b' : ByteArray} {mx' : Nat} {rm' : Room} {as' : Array Value} {Q' : Option Value → Heap → Prop} {a : Addr} (hy1 : y.name = "<init>")
    (w1 : (Jvm.Cond.methodLink own index y).before a0 Z = true) (w6 : (Jvm.Cond.instanceMethod y).before a0 Z = true) (w3 : (Jvm.Cond.initialized y.cls).before a0 Z = true) (w4 : (Jvm.Cond.code y b' mx' none).before a0 Z = true) (hy : y.cls ≠ "java/lang/invoke/MethodHandle" ∧ y.cls ≠ "java/lang/invoke/VarHandle")
    (hM : own_Met l Z y b' mx' none [] rm' as' h Q') (hd : decode bytes pc = .ok (.invokespecial index, 3)) (hls : ls.size = mx) (hlen : ∀ sig, parseMethodDescriptor y.desc = some sig → argsL.length = sig.parameters.length) (has : (.ref a :: argsL).toArray = as') (hst : st = argsL.reverse ++ .ref a :: rest) (hW : (rest.map fun v => v.category).sum = W)
    (hf : rm'.frames + 1 ≤ R.frames) (hl : W + (mx' + 11) + rm'.locals ≤ R.locals) (hcs : cs + rm'.cells = cs') (hsl : sl + rm'.slots = sl') (hc : cs' ≤ R.cells) (hs : sl' ≤ R.slots)
    (k : ∀ v h', Q' v h' → own_K p l e R s m args below meth c bytes mx rt own nm Z Q pc' ls (v.toList ++ rest) h' cs' sl') : own_K p l e R s m args below meth c bytes mx rt own nm Z Q pc ls st h cs sl := fun T L hx hby hml hrt hlk hown hnm hZ X eT N O' => by
  subst hp; subst hcs; subst hsl; subst hst; subst has; subst eT
  obtain ⟨v, _, ⟨T2, L2, k2, n2⟩, -, X2, ⟨Lc2, ⟨hQ2, N2, O2⟩, l2, y2, z2⟩, st2⟩ := X.specialBack hx (y := y) hy1 hown (mvT hZ w1) (mvT hZ w6) (mvT hZ w4) hy (own_back (W := W) hZ O' hM w4 w3 hf hl) (g := mkF m pc ls (argsL.reverse ++ .ref a :: rest)) rfl (hls.trans hml.symm) (Steps.refl _) (a := a) (argsL := argsL) (rest := rest) hlen rfl (by show 2 * 0 + _ ≤ _; omega) (hb hby hd) (fun _ _ => ⟨rfl, rfl, hc, hs⟩)
  dsimp only [Pt.U, Pt.locs, Pt.cells, Pt.slots] at X2 l2 y2 z2 st2 hQ2 O2
  subst l2 y2 z2
  exact own_go (fun t q => st2.trans q) (k v _ hQ2 T2 _ hx hby hml hrt hlk hown hnm hZ X2 rfl (N.app N2) O2)
theorem own_callP (pc' : Nat) (hp : pc + 3 = pc') (cs' sl' W : Nat) (argsL rest : List Value) {index : Nat} {C : String} {y : MethodName} {b' : ByteArray} {mx' : Nat} {rt' : Option FieldType} {rm' : Room} {as' : Array Value} {Q' : Option Value → Heap → Prop} {a : Addr}
    (w1 : (Jvm.Cond.methodLink own index y).before a0 Z = true) (w6 : (Jvm.Cond.instanceMethod y).before a0 Z = true) (w5 : (Jvm.Cond.selects y.cls y y).before a0 Z = true) (w7 : (Jvm.Cond.privateMethod y).before a0 Z = true) (w3 : (Jvm.Cond.initialized y.cls).before a0 Z = true) (w4 : (Jvm.Cond.code y b' mx' rt').before a0 Z = true) (hy : y.cls ≠ "java/lang/invoke/MethodHandle" ∧ y.cls ≠ "java/lang/invoke/VarHandle")
    (E : Exa Z h a C) (hM : own_Met l Z y b' mx' rt' [] rm' as' h Q') (hd : decode bytes pc = .ok (.invokevirtual index, 3)) (hls : ls.size = mx) (hlen : ∀ sig, parseMethodDescriptor y.desc = some sig → argsL.length = sig.parameters.length) (has : (.ref a :: argsL).toArray = as') (hst : st = argsL.reverse ++ .ref a :: rest) (hW : (rest.map fun v => v.category).sum = W)
    (hf : rm'.frames + 1 ≤ R.frames) (hl : W + (mx' + 11) + rm'.locals ≤ R.locals) (hcs : cs + rm'.cells = cs') (hsl : sl + rm'.slots = sl') (hc : cs' ≤ R.cells) (hs : sl' ≤ R.slots)
    (k : ∀ v h', Q' v h' → own_K p l e R s m args below meth c bytes mx rt own nm Z Q pc' ls (v.toList ++ rest) h' cs' sl') : own_K p l e R s m args below meth c bytes mx rt own nm Z Q pc ls st h cs sl := fun T L hx hby hml hrt hlk hown hnm hZ X eT N O' => by
  subst hp; subst hcs; subst hsl; subst hst; subst has; subst eT
  obtain ⟨cq, qa, qb⟩ := E.cell
  obtain ⟨v, _, ⟨T2, L2, k2, n2⟩, -, X2, ⟨Lc2, ⟨hQ2, N2, O2⟩, l2, y2, z2⟩, st2⟩ := X.privateBack hx (y := y) hown (mvT hZ w1) (mvT hZ w6) (mvT hZ w5) (Cond.privateMethod_at (mvP hZ w7 (args := #[]))) (mvT hZ w4) hy (own_back (W := W) hZ O' hM w4 w3 hf hl) (g := mkF m pc ls (argsL.reverse ++ .ref a :: rest)) rfl (hls.trans hml.symm) (Steps.refl _) (a := a) qa qb (argsL := argsL) (rest := rest) hlen rfl (by show 2 * 0 + _ ≤ _; omega) (hb hby hd) (fun _ _ => ⟨rfl, rfl, hc, hs⟩)
  dsimp only [Pt.U, Pt.locs, Pt.cells, Pt.slots] at X2 l2 y2 z2 st2 hQ2 O2
  subst l2 y2 z2
  exact own_go (fun t q => st2.trans q) (k v _ hQ2 T2 _ hx hby hml hrt hlk hown hnm hZ X2 rfl (N.app N2) O2)
theorem own_kv {rest : List Value} {Qv : Value → Heap → Prop} (k : ∀ x h', Qv x h' → own_K p l e R s m args below meth c bytes mx rt own nm Z Q pc ls (x :: rest) h' cs sl) : ∀ v h', own_some Qv v h' → own_K p l e R s m args below meth c bytes mx rt own nm Z Q pc ls (v.toList ++ rest) h' cs sl := by
  intro v h' hq
  obtain ⟨x, rfl, hq⟩ := hq
  exact k x h' hq
theorem own_k0 {rest : List Value} {Qn : Heap → Prop} (k : ∀ h', Qn h' → own_K p l e R s m args below meth c bytes mx rt own nm Z Q pc ls rest h' cs sl) : ∀ v h', own_none Qn v h' → own_K p l e R s m args below meth c bytes mx rt own nm Z Q pc ls (v.toList ++ rest) h' cs sl := by
  intro v h' hq
  obtain ⟨rfl, hq⟩ := hq
  exact k h' hq
theorem own_getFR (pc' : Nat) (hp : pc + 3 = pc') {O n d : String} {index : Nat} (w : (Jvm.Cond.fieldRef own index O n d).before a0 Z = true) {a : Addr} {v : Value} (F : Fld Z h a O n d v) (hd : decode bytes pc = .ok (.getfield index, 3))
    (q : own_K p l e R s m args below meth c bytes mx rt own nm Z Q pc' ls (v :: st) h cs sl) : own_K p l e R s m args below meth c bytes mx rt own nm Z Q pc ls (.ref a :: st) h cs sl := fun T L hx hby hml hrt hlk hown hnm hZ X eT N O' => by
  subst hp
  have hT : Z.Warmed39 T.vm := wtrans hZ X.warmed
  have hcur : (Z.setVm T.vm).vm.findClass own = some m.cls := by
    show T.vm.findClass own = _
    rw [X.warmed.alike.findClass]; exact hown
  obtain ⟨c1, k1, i1, f1, e1, rdy⟩ := Cond.fieldRef_spec hcur (Cond.fieldRef_warmed39 hT w)
  obtain ⟨cell, cf, k, i, f, g1, g2, g3, g4, g5, g6, g7⟩ := F
  obtain ⟨k', q1, q2⟩ := State.fieldFound?_setVm (s := Z) hT.alike g2
  cases e1.symm.trans q1
  exact own_go (fun t k => (X.getfieldR hx (g := mkF m pc ls (.ref a :: st)) rfl rdy g3 rfl (by rw [eT]; exact g1) g4 g7 (hb hby hd) (Steps.refl _)).trans k) (q T L hx hby hml hrt hlk hown hnm hZ X eT N O')
theorem own_callQ (pc' : Nat) (hp : pc + 3 = pc') (cs' sl' W : Nat) (argsL rest : List Value) {index : Nat} {C C2 : String} {y y2 : MethodName} {b' : ByteArray} {mx' : Nat} {rt' : Option FieldType} {rm' : Room} {as' : Array Value} {Q' : Option Value → Heap → Prop} {a : Addr}
    (w1 : (Jvm.Cond.methodLink own index y).before a0 Z = true) (w6 : (Jvm.Cond.instanceMethod y).before a0 Z = true) (w5 : (Jvm.Cond.selects C2 y2 y2).before a0 Z = true) (w8 : (Jvm.Cond.instanceMethod y2).before a0 Z = true) (hc2 : y2.cls = y.cls) (w7 : (Jvm.Cond.privateMethod y).before a0 Z = true) (w3 : (Jvm.Cond.initialized y.cls).before a0 Z = true) (w4 : (Jvm.Cond.code y b' mx' rt').before a0 Z = true) (hy : y.cls ≠ "java/lang/invoke/MethodHandle" ∧ y.cls ≠ "java/lang/invoke/VarHandle")
    (E : Exa Z h a C) (hM : own_Met l Z y b' mx' rt' [] rm' as' h Q') (hd : decode bytes pc = .ok (.invokevirtual index, 3)) (hls : ls.size = mx) (hlen : ∀ sig, parseMethodDescriptor y.desc = some sig → argsL.length = sig.parameters.length) (has : (.ref a :: argsL).toArray = as') (hst : st = argsL.reverse ++ .ref a :: rest) (hW : (rest.map fun v => v.category).sum = W)
    (hf : rm'.frames + 1 ≤ R.frames) (hl : W + (mx' + 11) + rm'.locals ≤ R.locals) (hcs : cs + rm'.cells = cs') (hsl : sl + rm'.slots = sl') (hc : cs' ≤ R.cells) (hs : sl' ≤ R.slots)
    (k : ∀ v h', Q' v h' → own_K p l e R s m args below meth c bytes mx rt own nm Z Q pc' ls (v.toList ++ rest) h' cs' sl') : own_K p l e R s m args below meth c bytes mx rt own nm Z Q pc ls st h cs sl := fun T L hx hby hml hrt hlk hown hnm hZ X eT N O' => by
  subst hp; subst hcs; subst hsl; subst hst; subst has; subst eT
  obtain ⟨cq, qa, qb⟩ := E.cell
  have hpr := Cond.privateMethod_at (mvP hZ w7 (args := args))
  obtain ⟨r0, mt, hn2, -⟩ := Cond.instanceMethod_spec (mvT (args := args) hZ w8)
  obtain ⟨kk, hk1, hk2⟩ := notFace_of_selects (args := args) (mvT hZ w5) r0 hn2
  have hse : (Jvm.Cond.selects y.cls y y).before args s = true := selects_self_of_private (hc2 ▸ findClass_of_methodNamed hn2) hk1 hk2 hpr (mvT hZ w6) hy
  obtain ⟨v, _, ⟨T2, L2, k2, n2⟩, -, X2, ⟨Lc2, ⟨hQ2, N2, O2⟩, l2, y2, z2⟩, st2⟩ := X.privateBack hx (y := y) hown (mvT hZ w1) (mvT hZ w6) hse hpr (mvT hZ w4) hy (own_back (W := W) hZ O' hM w4 w3 hf hl) (g := mkF m pc ls (argsL.reverse ++ .ref a :: rest)) rfl (hls.trans hml.symm) (Steps.refl _) (a := a) qa qb (argsL := argsL) (rest := rest) hlen rfl (by show 2 * 0 + _ ≤ _; omega) (hb hby hd) (fun _ _ => ⟨rfl, rfl, hc, hs⟩)
  dsimp only [Pt.U, Pt.locs, Pt.cells, Pt.slots] at X2 l2 y2 z2 st2 hQ2 O2
  subst l2 y2 z2
  exact own_go (fun t q => st2.trans q) (k v _ hQ2 T2 _ hx hby hml hrt hlk hown hnm hZ X2 rfl (N.app N2) O2)
-- a case's words
theorem own_eqI {t : Term} {k : Int32} {o : Option Outcome} {idx : List Nat} {first : State} (hq : (Jvm.Cond.eq t (.int k)).value args first o s idx = some true) : t.eval args first o idx s = some (.int k) := by
  simp only [Jvm.Cond.value, Term.eval] at hq
  cases ht : t.eval args first o idx s with
  | none => simp [ht] at hq
  | some x => cases x <;> simp [ht] at hq ⊢; exact hq
theorem own_eqR {t u : Term} {a : Addr} {o : Option Outcome} {idx : List Nat} {first : State} (hq : (Jvm.Cond.eq t u).value args first o s idx = some true) (hu : u.eval args first o idx s = some (.ref a)) : t.eval args first o idx s = some (.ref a) := by
  simp only [Jvm.Cond.value, hu] at hq
  cases ht : t.eval args first o idx s with
  | none => simp [ht] at hq
  | some x => cases x <;> simp [ht] at hq ⊢; exact hq
theorem own_fold {f : Nat → Option Bool} : ∀ (L : List Nat) (acc : Option Bool), L.foldl (fun acc i => match acc with | some true => f i | x => x) acc = some true → acc = some true ∧ ∀ i ∈ L, f i = some true
  | [], acc, hq => ⟨hq, fun _ q => nomatch q⟩
  | a :: L, acc, hq => by
    obtain ⟨h1, h2⟩ := own_fold L _ hq
    rcases acc with _ | _ | _
    · cases h1
    · cases h1
    · exact ⟨rfl, fun i hi => (List.mem_cons.mp hi).elim (fun q => q ▸ h1) (h2 i)⟩
theorem own_all {t : Term} {cd : Jvm.Cond} {o : Option Outcome} {idx : List Nat} {first : State} {a : Addr} {cell : Cell} (hq : (Jvm.Cond.all t cd).value args first o s idx = some true) (ht : t.eval args first o idx s = some (.ref a)) (ha : s.arrayAt? a = some cell) : ∀ i, i < cell.slots.size → cd.value args first o s (i :: idx) = some true := by
  simp only [Jvm.Cond.value, ht, ha] at hq
  exact fun i hi => (own_fold _ _ hq).2 i (List.mem_range.mpr hi)
theorem own_len {t : Term} {n : Int32} {o : Option Outcome} {idx : List Nat} {first : State} {a : Addr} {cell : Cell} (hq : (Term.length t).eval args first o idx s = some (.int n)) (ht : t.eval args first o idx s = some (.ref a)) (ha : s.arrayAt? a = some cell) : cell.slots.size.toInt32 = n ∧ cell.slots.size < 2 ^ 31 := by
  simp only [Term.eval, ht, ha, Option.bind_eq_bind, Option.bind_some] at hq
  split at hq
  · rename_i hl
    exact ⟨by simpa using hq, hl⟩
  · cases hq
theorem own_elem {t : Term} {j : Int32} {v : Value} {o : Option Outcome} {idx : List Nat} {first : State} {a : Addr} {cell : Cell} (hq : (Term.elem t (.int j)).eval args first o idx s = some v) (ht : t.eval args first o idx s = some (.ref a)) (ha : s.heap[a]? = some cell) : cell.slots[j.toNatClampNeg]? = some v :=
  (elem_in hq ht rfl ha).2
-- ints as integers
theorem own_lt {x y : Int32} (h : x < y) : x.toInt < y.toInt := Int32.lt_iff_toInt_lt.mp h
theorem own_nlt {x y : Int32} (h : ¬ x < y) : y.toInt ≤ x.toInt := Int.not_lt.mp fun q => h (Int32.lt_iff_toInt_lt.mpr q)
theorem own_eq {x y : Int32} (h : x = y) : x.toInt = y.toInt := congrArg _ h
theorem own_neq {x y : Int32} (h : ¬ x = y) : ¬ x.toInt = y.toInt := fun q => h (Int32.toInt_inj.mp q)
theorem own_lt' {x y : Int32} (h : x.toInt < y.toInt) : x < y := Int32.lt_iff_toInt_lt.mpr h
theorem own_nlt' {x y : Int32} (h : y.toInt ≤ x.toInt) : ¬ x < y := fun q => Int.not_lt.mpr h (Int32.lt_iff_toInt_lt.mp q)
theorem own_eq' {x y : Int32} (h : x.toInt = y.toInt) : x = y := Int32.toInt_inj.mp h
theorem own_neq' {x y : Int32} (h : ¬ x.toInt = y.toInt) : ¬ x = y := fun q => h (congrArg _ q)
theorem own_ltL {x y : Int64} (h : x < y) : x.toInt < y.toInt := Int64.lt_iff_toInt_lt.mp h
theorem own_nltL {x y : Int64} (h : ¬ x < y) : y.toInt ≤ x.toInt := Int.not_lt.mp fun q => h (Int64.lt_iff_toInt_lt.mpr q)
theorem own_eqL {x y : Int64} (h : x = y) : x.toInt = y.toInt := congrArg _ h
theorem own_neqL {x y : Int64} (h : ¬ x = y) : ¬ x.toInt = y.toInt := fun q => h (Int64.toInt_inj.mp q)
theorem own_ltL' {x y : Int64} (h : x.toInt < y.toInt) : x < y := Int64.lt_iff_toInt_lt.mpr h
theorem own_nltL' {x y : Int64} (h : y.toInt ≤ x.toInt) : ¬ x < y := fun q => Int.not_lt.mpr h (Int64.lt_iff_toInt_lt.mp q)
theorem own_eqL' {x y : Int64} (h : x.toInt = y.toInt) : x = y := Int64.toInt_inj.mp h
theorem own_neqL' {x y : Int64} (h : ¬ x.toInt = y.toInt) : ¬ x = y := fun q => h (congrArg _ q)
end Own
def own_Ini (Z : State) (w_EV_NO_ACTION : Addr) : Prop := (Sta Z Z.heap "com/example/urd/urd/model/EventType" "EV_NO_ACTION" "Lcom/example/urd/urd/model/EventType;" (.ref w_EV_NO_ACTION)) ∧ (Exa Z Z.heap w_EV_NO_ACTION "com/example/urd/urd/model/EventType") ∧ (Fld Z Z.heap w_EV_NO_ACTION "com/example/urd/urd/model/EventType" "code" "I" (.int (3 : Int32)))
theorem d2_0 : decode jdk_71_method_1_code 0 = .ok (.aload_n 0, 1) := by decide +kernel
theorem d2_1 : decode jdk_71_method_1_code 1 = .ok (.invokespecial 1, 3) := by decide +kernel
theorem d2_4 : decode jdk_71_method_1_code 4 = .ok (.return_, 1) := by decide +kernel
theorem own_pf0 : plainFor (⟨"java/util/AbstractMap", "<init>", "()V"⟩ : MethodName) = true := by first | exact plainFor_of_name (by first | (simp [plainName, overriddenIn]; done) | decide +kernel) | decide +kernel
set_option maxRecDepth 65536 in
set_option maxHeartbeats 40000000 in
theorem rm2 (l : Launch) (Z : State) (a0 : Array Value) (hw : ∀ d ∈ tables_1, d.before a0 Z = true) (ws : List Jvm.Cond) (p1 : Addr) (h0 : Heap)  :
    own_Met l Z (⟨"java/util/AbstractMap", "<init>", "()V"⟩ : MethodName) jdk_71_method_1_code 1 none ws ({ frames := 1, cells := 0, slots := 0, locals := 12 } : Room) #[(.ref p1)] h0 (own_none (fun h => h = h0)) := by
  refine own_met (ls0 := #[.val (.ref p1)]) own_pf0 (fun m => by first | rfl | (simp [entryFrame, mkF, argsToLocals, Value.category, maxLocals]; done)) ?_
  intro p e s m below meth c
  refine own_old (fun O0 => ?_)
  refine own_aloadN 1 rfl d2_0 rfl rfl ?_
  refine own_initO 4 rfl (hw _ (List.mem_of_getElem? (i := 13) rfl)) (hw _ (List.mem_of_getElem? (i := 14) rfl)) (hw _ (List.mem_of_getElem? (i := 15) rfl)) d2_1 rfl (by decide) 0 (Nat.le_of_eq rfl) (by decide) ?_
  refine own_ret rfl d2_4 (by decide) (by decide) ?_
  exact ⟨rfl, rfl⟩
theorem d10_0 : decode jdk_22_method_1_code 0 = .ok (.aload_n 0, 1) := by decide +kernel
theorem d10_1 : decode jdk_22_method_1_code 1 = .ok (.invokespecial 1, 3) := by decide +kernel
theorem d10_4 : decode jdk_22_method_1_code 4 = .ok (.return_, 1) := by decide +kernel
theorem own_pf1 : plainFor (⟨"java/util/AbstractCollection", "<init>", "()V"⟩ : MethodName) = true := by first | exact plainFor_of_name (by first | (simp [plainName, overriddenIn]; done) | decide +kernel) | decide +kernel
set_option maxRecDepth 65536 in
set_option maxHeartbeats 40000000 in
theorem rm10 (l : Launch) (Z : State) (a0 : Array Value) (hw : ∀ d ∈ tables_1, d.before a0 Z = true) (ws : List Jvm.Cond) (p1 : Addr) (h0 : Heap)  :
    own_Met l Z (⟨"java/util/AbstractCollection", "<init>", "()V"⟩ : MethodName) jdk_22_method_1_code 1 none ws ({ frames := 1, cells := 0, slots := 0, locals := 12 } : Room) #[(.ref p1)] h0 (own_none (fun h => h = h0)) := by
  refine own_met (ls0 := #[.val (.ref p1)]) own_pf1 (fun m => by first | rfl | (simp [entryFrame, mkF, argsToLocals, Value.category, maxLocals]; done)) ?_
  intro p e s m below meth c
  refine own_old (fun O0 => ?_)
  refine own_aloadN 1 rfl d10_0 rfl rfl ?_
  refine own_initO 4 rfl (hw _ (List.mem_of_getElem? (i := 80) rfl)) (hw _ (List.mem_of_getElem? (i := 14) rfl)) (hw _ (List.mem_of_getElem? (i := 15) rfl)) d10_1 rfl (by decide) 0 (Nat.le_of_eq rfl) (by decide) ?_
  refine own_ret rfl d10_4 (by decide) (by decide) ?_
  exact ⟨rfl, rfl⟩
theorem d9_0 : decode jdk_91_method_1_code 0 = .ok (.aload_n 0, 1) := by decide +kernel
theorem d9_1 : decode jdk_91_method_1_code 1 = .ok (.invokespecial 1, 3) := by decide +kernel
theorem own_pd0 : parseMethodDescriptor "()V" = some ⟨[], none⟩ := by decide +kernel
theorem d9_4 : decode jdk_91_method_1_code 4 = .ok (.return_, 1) := by decide +kernel
theorem own_pf2 : plainFor (⟨"java/util/AbstractSet", "<init>", "()V"⟩ : MethodName) = true := by first | exact plainFor_of_name (by first | (simp [plainName, overriddenIn]; done) | decide +kernel) | decide +kernel
set_option maxRecDepth 65536 in
set_option maxHeartbeats 40000000 in
theorem rm9 (l : Launch) (Z : State) (a0 : Array Value) (hw : ∀ d ∈ tables_1, d.before a0 Z = true) (ws : List Jvm.Cond) (p1 : Addr) (h0 : Heap)  :
    own_Met l Z (⟨"java/util/AbstractSet", "<init>", "()V"⟩ : MethodName) jdk_91_method_1_code 1 none ws ({ frames := 2, cells := 0, slots := 0, locals := 24 } : Room) #[(.ref p1)] h0 (own_none (fun h => h = h0)) := by
  refine own_met (ls0 := #[.val (.ref p1)]) own_pf2 (fun m => by first | rfl | (simp [entryFrame, mkF, argsToLocals, Value.category, maxLocals]; done)) ?_
  intro p e s m below meth c
  refine own_old (fun O0 => ?_)
  refine own_aloadN 1 rfl d9_0 rfl rfl ?_
  refine own_callI 4 rfl 0 0 0 [] [] (y := (⟨"java/util/AbstractCollection", "<init>", "()V"⟩ : MethodName)) rfl (hw _ (List.mem_of_getElem? (i := 74) rfl)) (hw _ (List.mem_of_getElem? (i := 75) rfl)) (hw _ (List.mem_of_getElem? (i := 78) rfl)) (hw _ (List.mem_of_getElem? (i := 79) rfl)) (by decide) (rm10 l Z a0 hw [] p1 h0 ) d9_1 rfl (lenOf own_pd0 rfl) rfl rfl rfl (by decide) (by decide) rfl rfl (by decide) (by decide) (own_k0 fun h1 q1 => ?_)
  rw [q1]
  refine own_ret rfl d9_4 (by decide) (by decide) ?_
  exact ⟨rfl, rfl⟩
theorem d1_0 : decode jdk_69_method_7_code 0 = .ok (.aload_n 0, 1) := by decide +kernel
theorem d1_1 : decode jdk_69_method_7_code 1 = .ok (.invokespecial 43, 3) := by decide +kernel
theorem d1_4 : decode jdk_69_method_7_code 4 = .ok (.aload_n 0, 1) := by decide +kernel
theorem d1_5 : decode jdk_69_method_7_code 5 = .ok (.ldc 92, 2) := by decide +kernel
theorem d1_7 : decode jdk_69_method_7_code 7 = .ok (.putfield 81, 3) := by decide +kernel
theorem d1_10 : decode jdk_69_method_7_code 10 = .ok (.return_, 1) := by decide +kernel
theorem own_pf3 : plainFor (⟨"java/util/HashMap", "<init>", "()V"⟩ : MethodName) = true := by first | exact plainFor_of_name (by first | (simp [plainName, overriddenIn]; done) | decide +kernel) | decide +kernel
set_option maxRecDepth 65536 in
set_option maxHeartbeats 40000000 in
theorem rm1 (l : Launch) (Z : State) (a0 : Array Value) (hw : ∀ d ∈ tables_1, d.before a0 Z = true) (ws : List Jvm.Cond) (p1 : Addr)  (h0 : Heap) (g1 : Z.heap.size ≤ p1) (Ep1 : Exa Z h0 p1 "java/util/HashMap") (Fp1_loadFactor : Fld Z h0 p1 "java/util/HashMap" "loadFactor" "F" (.float (0 : UInt32))) (Fp1_entrySet : Fld Z h0 p1 "java/util/HashMap" "entrySet" "Ljava/util/Set;" .null) (Fp1_modCount : Fld Z h0 p1 "java/util/HashMap" "modCount" "I" (.int (0 : Int32))) (Fp1_table : Fld Z h0 p1 "java/util/HashMap" "table" "[Ljava/util/HashMap$Node;" .null) :
    own_Met l Z (⟨"java/util/HashMap", "<init>", "()V"⟩ : MethodName) jdk_69_method_7_code 1 none ws ({ frames := 2, cells := 0, slots := 0, locals := 24 } : Room) #[(.ref p1)] h0 (own_none (fun h => Keep h0 h [p1] ∧ Fld Z h p1 "java/util/HashMap" "entrySet" "Ljava/util/Set;" .null ∧ Fld Z h p1 "java/util/HashMap" "modCount" "I" (.int (0 : Int32)) ∧ Fld Z h p1 "java/util/HashMap" "table" "[Ljava/util/HashMap$Node;" .null)) := by
  refine own_met (ls0 := #[.val (.ref p1)]) own_pf3 (fun m => by first | rfl | (simp [entryFrame, mkF, argsToLocals, Value.category, maxLocals]; done)) ?_
  intro p e s m below meth c
  refine own_old (fun O0 => ?_)
  refine own_aloadN 1 rfl d1_0 rfl rfl ?_
  refine own_callI 4 rfl 0 0 0 [] [] (y := (⟨"java/util/AbstractMap", "<init>", "()V"⟩ : MethodName)) rfl (hw _ (List.mem_of_getElem? (i := 7) rfl)) (hw _ (List.mem_of_getElem? (i := 8) rfl)) (hw _ (List.mem_of_getElem? (i := 11) rfl)) (hw _ (List.mem_of_getElem? (i := 12) rfl)) (by decide) (rm2 l Z a0 hw [] p1 h0 ) d1_1 rfl (lenOf own_pd0 rfl) rfl rfl rfl (by decide) (by decide) rfl rfl (by decide) (by decide) (own_k0 fun h1 q1 => ?_)
  rw [q1]
  refine own_aloadN 5 rfl d1_4 rfl rfl ?_
  refine own_ldcFloat 7 rfl (hw _ (List.mem_of_getElem? (i := 16) rfl)) d1_5 ?_
  refine own_putF 10 rfl (host := "") (Or.inl (hw _ (List.mem_of_getElem? (i := 17) rfl))) Via.refl g1 Fp1_loadFactor Ep1 (Or.inr ⟨(hw _ (List.mem_of_getElem? (i := 18) rfl)), rfl, rfl⟩) (hw _ (List.mem_of_getElem? (i := 2) rfl)) (ty := .float) (by decide) rfl rfl d1_7 (fun h2 W2 => ?_)
  have kp3 : Keep h0 h2 [p1] := Keep.wr (Keep.refl h0 [p1]) W2 (Or.inl (List.mem_of_getElem? (i := 0) rfl))
  refine own_ret rfl d1_10 (by decide) (by decide) ?_
  exact ⟨rfl, kp3, (Fp1_entrySet.other W2 (Or.inr (slot_ne (a0 := a0) (Or.inl (hw _ (List.mem_of_getElem? (i := 58) rfl))) (Or.inr (hw _ (List.mem_of_getElem? (i := 18) rfl))) (by decide) (t := (.object "java/util/Set")) (t' := .float) (by decide) (by decide)))), (Fp1_modCount.other W2 (Or.inr (slot_ne (a0 := a0) (Or.inl (hw _ (List.mem_of_getElem? (i := 107) rfl))) (Or.inr (hw _ (List.mem_of_getElem? (i := 18) rfl))) (by decide) (t := .int) (t' := .float) (by decide) (by decide)))), (Fp1_table.other W2 (Or.inr (slot_ne (a0 := a0) (Or.inl (hw _ (List.mem_of_getElem? (i := 111) rfl))) (Or.inr (hw _ (List.mem_of_getElem? (i := 18) rfl))) (by decide) (t := (.array (.object "java/util/HashMap$Node"))) (t' := .float) (by decide) (by decide))))⟩
set_option maxRecDepth 65536 in
set_option maxHeartbeats 40000000 in
theorem rm1L (l : Launch) (Z : State) (a0 : Array Value) (hw : ∀ d ∈ tables_1, d.before a0 Z = true) (ws : List Jvm.Cond) (p1 : Addr)  (h0 : Heap) (g1 : Z.heap.size ≤ p1) (Ep1 : Exa Z h0 p1 "java/util/LinkedHashMap") (Fp1_loadFactor : Fld Z h0 p1 "java/util/HashMap" "loadFactor" "F" (.float (0 : UInt32))) (Fp1_putMode : Fld Z h0 p1 "java/util/LinkedHashMap" "putMode" "I" (.int (0 : Int32))) (Fp1_accessOrder : Fld Z h0 p1 "java/util/LinkedHashMap" "accessOrder" "Z" (.int (0 : Int32))) :
    own_Met l Z (⟨"java/util/HashMap", "<init>", "()V"⟩ : MethodName) jdk_69_method_7_code 1 none ws ({ frames := 2, cells := 0, slots := 0, locals := 24 } : Room) #[(.ref p1)] h0 (own_none (fun h => Keep h0 h [p1] ∧ Fld Z h p1 "java/util/LinkedHashMap" "putMode" "I" (.int (0 : Int32)) ∧ Fld Z h p1 "java/util/LinkedHashMap" "accessOrder" "Z" (.int (0 : Int32)))) := by
  refine own_met (ls0 := #[.val (.ref p1)]) own_pf3 (fun m => by first | rfl | (simp [entryFrame, mkF, argsToLocals, Value.category, maxLocals]; done)) ?_
  intro p e s m below meth c
  refine own_old (fun O0 => ?_)
  refine own_aloadN 1 rfl d1_0 rfl rfl ?_
  refine own_callI 4 rfl 0 0 0 [] [] (y := (⟨"java/util/AbstractMap", "<init>", "()V"⟩ : MethodName)) rfl (hw _ (List.mem_of_getElem? (i := 7) rfl)) (hw _ (List.mem_of_getElem? (i := 8) rfl)) (hw _ (List.mem_of_getElem? (i := 11) rfl)) (hw _ (List.mem_of_getElem? (i := 12) rfl)) (by decide) (rm2 l Z a0 hw [] p1 h0 ) d1_1 rfl (lenOf own_pd0 rfl) rfl rfl rfl (by decide) (by decide) rfl rfl (by decide) (by decide) (own_k0 fun h1 q1 => ?_)
  rw [q1]
  refine own_aloadN 5 rfl d1_4 rfl rfl ?_
  refine own_ldcFloat 7 rfl (hw _ (List.mem_of_getElem? (i := 16) rfl)) d1_5 ?_
  refine own_putF 10 rfl (host := "") (Or.inl (hw _ (List.mem_of_getElem? (i := 17) rfl))) Via.refl g1 Fp1_loadFactor Ep1 (Or.inr ⟨(hw _ (List.mem_of_getElem? (i := 43) rfl)), rfl, rfl⟩) (hw _ (List.mem_of_getElem? (i := 34) rfl)) (ty := .float) (by decide) rfl rfl d1_7 (fun h2 W2 => ?_)
  have kp3 : Keep h0 h2 [p1] := Keep.wr (Keep.refl h0 [p1]) W2 (Or.inl (List.mem_of_getElem? (i := 0) rfl))
  refine own_ret rfl d1_10 (by decide) (by decide) ?_
  exact ⟨rfl, kp3, (Fp1_putMode.other W2 (Or.inr (slot_ne (a0 := a0) (Or.inl (hw _ (List.mem_of_getElem? (i := 45) rfl))) (Or.inr (hw _ (List.mem_of_getElem? (i := 43) rfl))) (by decide) (t := .int) (t' := .float) (by decide) (by decide)))), (Fp1_accessOrder.other W2 (Or.inr (slot_ne (a0 := a0) (Or.inr (hw _ (List.mem_of_getElem? (i := 47) rfl))) (Or.inr (hw _ (List.mem_of_getElem? (i := 43) rfl))) (by decide) (t := .boolean) (t' := .float) (by decide) (by decide))))⟩
theorem d6_0 : decode jdk_94_method_16_code 0 = .ok (.aload_n 0, 1) := by decide +kernel
theorem d6_1 : decode jdk_94_method_16_code 1 = .ok (.invokespecial 87, 3) := by decide +kernel
theorem d6_4 : decode jdk_94_method_16_code 4 = .ok (.aload_n 0, 1) := by decide +kernel
theorem d6_5 : decode jdk_94_method_16_code 5 = .ok (.iconst 0, 1) := by decide +kernel
theorem d6_6 : decode jdk_94_method_16_code 6 = .ok (.putfield 1, 3) := by decide +kernel
theorem d6_9 : decode jdk_94_method_16_code 9 = .ok (.aload_n 0, 1) := by decide +kernel
theorem d6_10 : decode jdk_94_method_16_code 10 = .ok (.iconst 0, 1) := by decide +kernel
theorem d6_11 : decode jdk_94_method_16_code 11 = .ok (.putfield 64, 3) := by decide +kernel
theorem d6_14 : decode jdk_94_method_16_code 14 = .ok (.return_, 1) := by decide +kernel
theorem own_pf4 : plainFor (⟨"java/util/LinkedHashMap", "<init>", "()V"⟩ : MethodName) = true := by first | exact plainFor_of_name (by first | (simp [plainName, overriddenIn]; done) | decide +kernel) | decide +kernel
set_option maxRecDepth 65536 in
set_option maxHeartbeats 40000000 in
theorem rm6 (l : Launch) (Z : State) (a0 : Array Value) (hw : ∀ d ∈ tables_1, d.before a0 Z = true) (ws : List Jvm.Cond) (p1 : Addr)  (h0 : Heap) (g1 : Z.heap.size ≤ p1) (Ep1 : Exa Z h0 p1 "java/util/LinkedHashMap") (Fp1_loadFactor : Fld Z h0 p1 "java/util/HashMap" "loadFactor" "F" (.float (0 : UInt32))) (Fp1_putMode : Fld Z h0 p1 "java/util/LinkedHashMap" "putMode" "I" (.int (0 : Int32))) (Fp1_accessOrder : Fld Z h0 p1 "java/util/LinkedHashMap" "accessOrder" "Z" (.int (0 : Int32))) :
    own_Met l Z (⟨"java/util/LinkedHashMap", "<init>", "()V"⟩ : MethodName) jdk_94_method_16_code 1 none ws ({ frames := 3, cells := 0, slots := 0, locals := 36 } : Room) #[(.ref p1)] h0 (own_none (fun h => Keep h0 h [p1])) := by
  refine own_met (ls0 := #[.val (.ref p1)]) own_pf4 (fun m => by first | rfl | (simp [entryFrame, mkF, argsToLocals, Value.category, maxLocals]; done)) ?_
  intro p e s m below meth c
  refine own_old (fun O0 => ?_)
  refine own_aloadN 1 rfl d6_0 rfl rfl ?_
  refine own_callI 4 rfl 0 0 0 [] [] (y := (⟨"java/util/HashMap", "<init>", "()V"⟩ : MethodName)) rfl (hw _ (List.mem_of_getElem? (i := 39) rfl)) (hw _ (List.mem_of_getElem? (i := 5) rfl)) (hw _ (List.mem_of_getElem? (i := 3) rfl)) (hw _ (List.mem_of_getElem? (i := 6) rfl)) (by decide) (rm1L l Z a0 hw [] p1  h0 g1 Ep1 Fp1_loadFactor Fp1_putMode Fp1_accessOrder ) d6_1 rfl (lenOf own_pd0 rfl) rfl rfl rfl (by decide) (by decide) rfl rfl (by decide) (by decide) (own_k0 fun h1 q1 => ?_)
  obtain ⟨K1, G1_putMode, G1_accessOrder⟩ := q1
  have kp2 : Keep h0 h1 [p1] := Keep.trans (Keep.refl h0 [p1]) K1 (allS (Or.inl (List.mem_of_getElem? (i := 0) rfl)) all0)
  refine own_aloadN 5 rfl d6_4 rfl rfl ?_
  refine own_iconst 6 rfl (0 : Int32) d6_5 rfl ?_
  refine own_putF 9 rfl (host := "") (Or.inl (hw _ (List.mem_of_getElem? (i := 44) rfl))) Via.refl g1 G1_putMode (Ep1.keep K1) (Or.inl (hw _ (List.mem_of_getElem? (i := 45) rfl))) (hw _ (List.mem_of_getElem? (i := 34) rfl)) (ty := .int) (by decide) rfl rfl d6_6 (fun h3 W3 => ?_)
  have kp4 : Keep h0 h3 [p1] := Keep.wr kp2 W3 (Or.inl (List.mem_of_getElem? (i := 0) rfl))
  refine own_aloadN 10 rfl d6_9 rfl rfl ?_
  refine own_iconst 11 rfl (0 : Int32) d6_10 rfl ?_
  refine own_putF 14 rfl (host := "") (Or.inl (hw _ (List.mem_of_getElem? (i := 46) rfl))) Via.refl g1 (G1_accessOrder.other W3 (Or.inr (slot_ne (a0 := a0) (Or.inr (hw _ (List.mem_of_getElem? (i := 47) rfl))) (Or.inl (hw _ (List.mem_of_getElem? (i := 45) rfl))) (by decide) (t := .boolean) (t' := .int) (by decide) (by decide)))) ((Ep1.keep K1).wr W3) (Or.inr ⟨(hw _ (List.mem_of_getElem? (i := 47) rfl)), rfl, rfl⟩) (hw _ (List.mem_of_getElem? (i := 34) rfl)) (ty := .boolean) (by decide) rfl rfl d6_11 (fun h5 W5 => ?_)
  have kp6 : Keep h0 h5 [p1] := Keep.wr kp4 W5 (Or.inl (List.mem_of_getElem? (i := 0) rfl))
  refine own_ret rfl d6_14 (by decide) (by decide) ?_
  exact ⟨rfl, kp6⟩
theorem d8_0 : decode jdk_111_method_1_code 0 = .ok (.aload_n 0, 1) := by decide +kernel
theorem d8_1 : decode jdk_111_method_1_code 1 = .ok (.aload_n 1, 1) := by decide +kernel
theorem d8_2 : decode jdk_111_method_1_code 2 = .ok (.putfield 1, 3) := by decide +kernel
theorem d8_5 : decode jdk_111_method_1_code 5 = .ok (.aload_n 0, 1) := by decide +kernel
theorem d8_6 : decode jdk_111_method_1_code 6 = .ok (.invokespecial 7, 3) := by decide +kernel
theorem d8_9 : decode jdk_111_method_1_code 9 = .ok (.return_, 1) := by decide +kernel
theorem own_pf5 : plainFor (⟨"java/util/HashMap$EntrySet", "<init>", "(Ljava/util/HashMap;)V"⟩ : MethodName) = true := by first | exact plainFor_of_name (by first | (simp [plainName, overriddenIn]; done) | decide +kernel) | decide +kernel
set_option maxRecDepth 65536 in
set_option maxHeartbeats 40000000 in
theorem rm8 (l : Launch) (Z : State) (a0 : Array Value) (hw : ∀ d ∈ tables_1, d.before a0 Z = true) (ws : List Jvm.Cond) (p1 : Addr) (p2 : Addr) (h0 : Heap) (g1 : Z.heap.size ≤ p1) (Ep1 : Exa Z h0 p1 "java/util/HashMap$EntrySet") (Fp1_this_0 : Fld Z h0 p1 "java/util/HashMap$EntrySet" "this$0" "Ljava/util/HashMap;" .null) :
    own_Met l Z (⟨"java/util/HashMap$EntrySet", "<init>", "(Ljava/util/HashMap;)V"⟩ : MethodName) jdk_111_method_1_code 2 none ws ({ frames := 3, cells := 0, slots := 0, locals := 36 } : Room) #[(.ref p1), (.ref p2)] h0 (own_none (fun h => Keep h0 h [p1] ∧ Fld Z h p1 "java/util/HashMap$EntrySet" "this$0" "Ljava/util/HashMap;" (.ref p2))) := by
  refine own_met (ls0 := #[.val (.ref p1), .val (.ref p2)]) own_pf5 (fun m => by first | rfl | (simp [entryFrame, mkF, argsToLocals, Value.category, maxLocals]; done)) ?_
  intro p e s m below meth c
  refine own_old (fun O0 => ?_)
  refine own_aloadN 1 rfl d8_0 rfl rfl ?_
  refine own_aloadN 2 rfl d8_1 rfl rfl ?_
  refine own_putF 5 rfl (host := "") (Or.inl (hw _ (List.mem_of_getElem? (i := 66) rfl))) Via.refl g1 Fp1_this_0 Ep1 (Or.inr ⟨(hw _ (List.mem_of_getElem? (i := 67) rfl)), rfl, rfl⟩) (hw _ (List.mem_of_getElem? (i := 60) rfl)) (ty := (.object "java/util/HashMap")) (by decide) rfl rfl d8_2 (fun h1 W1 => ?_)
  have kp2 : Keep h0 h1 [p1] := Keep.wr (Keep.refl h0 [p1]) W1 (Or.inl (List.mem_of_getElem? (i := 0) rfl))
  refine own_aloadN 6 rfl d8_5 rfl rfl ?_
  refine own_callI 9 rfl 0 0 0 [] [] (y := (⟨"java/util/AbstractSet", "<init>", "()V"⟩ : MethodName)) rfl (hw _ (List.mem_of_getElem? (i := 68) rfl)) (hw _ (List.mem_of_getElem? (i := 69) rfl)) (hw _ (List.mem_of_getElem? (i := 72) rfl)) (hw _ (List.mem_of_getElem? (i := 73) rfl)) (by decide) (rm9 l Z a0 hw [] p1 h1 ) d8_6 rfl (lenOf own_pd0 rfl) rfl rfl rfl (by decide) (by decide) rfl rfl (by decide) (by decide) (own_k0 fun h3 q3 => ?_)
  rw [q3]
  refine own_ret rfl d8_9 (by decide) (by decide) ?_
  exact ⟨rfl, kp2, (Fld.same W1 Fp1_this_0)⟩
theorem d7_0 : decode jdk_69_method_29_code 0 = .ok (.aload_n 0, 1) := by decide +kernel
theorem d7_1 : decode jdk_69_method_29_code 1 = .ok (.getfield 266, 3) := by decide +kernel
theorem d7_4 : decode jdk_69_method_29_code 4 = .ok (.dup, 1) := by decide +kernel
theorem d7_5 : decode jdk_69_method_29_code 5 = .ok (.astore_n 1, 1) := by decide +kernel
theorem d7_6 : decode jdk_69_method_29_code 6 = .ok (.ifnonnull 19, 3) := by decide +kernel
theorem d7_9 : decode jdk_69_method_29_code 9 = .ok (.aload_n 0, 1) := by decide +kernel
theorem d7_10 : decode jdk_69_method_29_code 10 = .ok (.new 268, 3) := by decide +kernel
theorem d7_13 : decode jdk_69_method_29_code 13 = .ok (.dup, 1) := by decide +kernel
theorem d7_14 : decode jdk_69_method_29_code 14 = .ok (.aload_n 0, 1) := by decide +kernel
theorem d7_15 : decode jdk_69_method_29_code 15 = .ok (.invokespecial 270, 3) := by decide +kernel
theorem own_pd1 : parseMethodDescriptor "(Ljava/util/HashMap;)V" = some ⟨[(.object "java/util/HashMap")], none⟩ := by decide +kernel
theorem d7_18 : decode jdk_69_method_29_code 18 = .ok (.dup_x1, 1) := by decide +kernel
theorem d7_19 : decode jdk_69_method_29_code 19 = .ok (.putfield 266, 3) := by decide +kernel
theorem d7_22 : decode jdk_69_method_29_code 22 = .ok (.goto 4, 3) := by decide +kernel
theorem d7_26 : decode jdk_69_method_29_code 26 = .ok (.areturn, 1) := by decide +kernel
theorem own_pf6 : plainFor (⟨"java/util/HashMap", "entrySet", "()Ljava/util/Set;"⟩ : MethodName) = true := by first | exact plainFor_of_name (by first | (simp [plainName, overriddenIn]; done) | decide +kernel) | decide +kernel
set_option maxRecDepth 65536 in
set_option maxHeartbeats 40000000 in
theorem rm7 (l : Launch) (Z : State) (a0 : Array Value) (hw : ∀ d ∈ tables_1, d.before a0 Z = true) (ws : List Jvm.Cond) (p1 : Addr)  (h0 : Heap) (g1 : Z.heap.size ≤ p1) (Ep1 : Exa Z h0 p1 "java/util/HashMap") (Fp1_entrySet : Fld Z h0 p1 "java/util/HashMap" "entrySet" "Ljava/util/Set;" .null) (Fp1_modCount : Fld Z h0 p1 "java/util/HashMap" "modCount" "I" (.int (0 : Int32))) (Fp1_table : Fld Z h0 p1 "java/util/HashMap" "table" "[Ljava/util/HashMap$Node;" .null) :
    own_Met l Z (⟨"java/util/HashMap", "entrySet", "()Ljava/util/Set;"⟩ : MethodName) jdk_69_method_29_code 2 (some (.object "java/util/Set")) ws ({ frames := 4, cells := 1, slots := 1, locals := 51 } : Room) #[(.ref p1)] h0 (own_some (fun v h => (∃ b, v = .ref b ∧ h0.size ≤ b ∧ Exa Z h b "java/util/HashMap$EntrySet" ∧ Fld Z h b "java/util/HashMap$EntrySet" "this$0" "Ljava/util/HashMap;" (.ref p1)) ∧ Keep h0 h [p1] ∧ Fld Z h p1 "java/util/HashMap" "modCount" "I" (.int (0 : Int32)) ∧ Fld Z h p1 "java/util/HashMap" "table" "[Ljava/util/HashMap$Node;" .null)) := by
  refine own_met (ls0 := #[.val (.ref p1), .unset]) own_pf6 (fun m => by first | rfl | (simp [entryFrame, mkF, argsToLocals, Value.category, maxLocals]; done)) ?_
  intro p e s m below meth c
  refine own_old (fun O0 => ?_)
  refine own_aloadN 1 rfl d7_0 rfl rfl ?_
  refine own_getF 4 rfl (host := "") (Or.inl (hw _ (List.mem_of_getElem? (i := 57) rfl))) Via.refl Fp1_entrySet d7_1 ?_
  refine own_dup 5 rfl d7_4 rfl ?_
  refine own_astoreN 6 rfl #[.val (.ref p1), .val .null] d7_5 rfl rfl ?_
  refine own_ifnonnullNo 9 rfl d7_6 ?_
  refine own_aloadN 10 rfl d7_9 rfl rfl ?_
  refine own_newO 13 rfl 1 1 (hw _ (List.mem_of_getElem? (i := 59) rfl)) (hw _ (List.mem_of_getElem? (i := 60) rfl)) (hw _ (List.mem_of_getElem? (i := 61) rfl)) d7_10 rfl rfl (by decide) (by decide) (fun h1 b1 z1 g_b1 E1 X_b1 D1 => ?_)
  have ne_p1_b1 : p1 ≠ b1 := Nat.ne_of_lt (Nat.lt_of_lt_of_le Ep1.lt (Nat.le_of_eq z1.symm))
  have sz_b1 : h0.size ≤ b1 := Nat.le_trans (Keep.refl h0 [p1]).1 (Nat.le_of_eq z1.symm)
  have kp2 : Keep h0 h1 [p1] := Keep.ext (Keep.refl h0 [p1]) E1
  have F1_this_0 : Fld Z h1 b1 "java/util/HashMap$EntrySet" "this$0" "Ljava/util/HashMap;" .null := D1 (Or.inr (hw _ (List.mem_of_getElem? (i := 67) rfl))) (ty := (.object "java/util/HashMap")) (by decide)
  refine own_dup 14 rfl d7_13 rfl ?_
  refine own_aloadN 15 rfl d7_14 rfl rfl ?_
  refine own_callI 18 rfl 1 1 2 [(.ref p1)] [(.ref b1), (.ref p1)] (y := (⟨"java/util/HashMap$EntrySet", "<init>", "(Ljava/util/HashMap;)V"⟩ : MethodName)) rfl (hw _ (List.mem_of_getElem? (i := 62) rfl)) (hw _ (List.mem_of_getElem? (i := 63) rfl)) (hw _ (List.mem_of_getElem? (i := 61) rfl)) (hw _ (List.mem_of_getElem? (i := 65) rfl)) (by decide) (rm8 l Z a0 hw [] b1 p1  h1 g_b1 X_b1 F1_this_0 ) d7_15 rfl (lenOf own_pd1 rfl) rfl rfl rfl (by decide) (by decide) rfl rfl (by decide) (by decide) (own_k0 fun h3 q3 => ?_)
  obtain ⟨K3, G3_this_0⟩ := q3
  have kp4 : Keep h0 h3 [p1] := Keep.trans kp2 K3 (allS (Or.inr sz_b1) all0)
  refine own_dupX1 19 rfl d7_18 rfl rfl ?_
  refine own_putF 22 rfl (host := "") (Or.inl (hw _ (List.mem_of_getElem? (i := 57) rfl))) Via.refl g1 ((Fp1_entrySet.ext E1).keep K3 (ninS ne_p1_b1 nin0)) ((Ep1.ext E1).keep K3) (Or.inl (hw _ (List.mem_of_getElem? (i := 58) rfl))) (hw _ (List.mem_of_getElem? (i := 2) rfl)) (ty := (.object "java/util/Set")) (by decide) rfl rfl d7_19 (fun h5 W5 => ?_)
  have kp6 : Keep h0 h5 [p1] := Keep.wr kp4 W5 (Or.inl (List.mem_of_getElem? (i := 0) rfl))
  refine own_goto 26 d7_22 (by decide) (by decide) ?_
  refine own_retA rfl rfl rfl d7_26 (by decide) (by decide) ?_
  exact ⟨_, rfl, ⟨_, rfl, sz_b1, ((X_b1.keep K3).wr W5), (G3_this_0.other W5 (Or.inl (Ne.symm ne_p1_b1)))⟩, kp6, (((Fp1_modCount.ext E1).keep K3 (ninS ne_p1_b1 nin0)).other W5 (Or.inr (slot_ne (a0 := a0) (Or.inl (hw _ (List.mem_of_getElem? (i := 107) rfl))) (Or.inl (hw _ (List.mem_of_getElem? (i := 58) rfl))) (by decide) (t := .int) (t' := (.object "java/util/Set")) (by decide) (by decide)))), (((Fp1_table.ext E1).keep K3 (ninS ne_p1_b1 nin0)).other W5 (Or.inr (slot_ne (a0 := a0) (Or.inl (hw _ (List.mem_of_getElem? (i := 111) rfl))) (Or.inl (hw _ (List.mem_of_getElem? (i := 58) rfl))) (by decide) (t := (.array (.object "java/util/HashMap$Node"))) (t' := (.object "java/util/Set")) (by decide) (by decide))))⟩
theorem d13_0 : decode jdk_99_method_1_code 0 = .ok (.aload_n 0, 1) := by decide +kernel
theorem d13_1 : decode jdk_99_method_1_code 1 = .ok (.aload_n 1, 1) := by decide +kernel
theorem d13_2 : decode jdk_99_method_1_code 2 = .ok (.putfield 1, 3) := by decide +kernel
theorem d13_5 : decode jdk_99_method_1_code 5 = .ok (.aload_n 0, 1) := by decide +kernel
theorem d13_6 : decode jdk_99_method_1_code 6 = .ok (.invokespecial 7, 3) := by decide +kernel
theorem d13_9 : decode jdk_99_method_1_code 9 = .ok (.aload_n 0, 1) := by decide +kernel
theorem d13_10 : decode jdk_99_method_1_code 10 = .ok (.aload_n 1, 1) := by decide +kernel
theorem d13_11 : decode jdk_99_method_1_code 11 = .ok (.getfield 13, 3) := by decide +kernel
theorem d13_14 : decode jdk_99_method_1_code 14 = .ok (.putfield 19, 3) := by decide +kernel
theorem d13_17 : decode jdk_99_method_1_code 17 = .ok (.aload_n 1, 1) := by decide +kernel
theorem d13_18 : decode jdk_99_method_1_code 18 = .ok (.getfield 22, 3) := by decide +kernel
theorem d13_21 : decode jdk_99_method_1_code 21 = .ok (.astore_n 2, 1) := by decide +kernel
theorem d13_22 : decode jdk_99_method_1_code 22 = .ok (.aload_n 0, 1) := by decide +kernel
theorem d13_23 : decode jdk_99_method_1_code 23 = .ok (.aload_n 0, 1) := by decide +kernel
theorem d13_24 : decode jdk_99_method_1_code 24 = .ok (.aconst_null, 1) := by decide +kernel
theorem d13_25 : decode jdk_99_method_1_code 25 = .ok (.dup_x1, 1) := by decide +kernel
theorem d13_26 : decode jdk_99_method_1_code 26 = .ok (.putfield 26, 3) := by decide +kernel
theorem d13_29 : decode jdk_99_method_1_code 29 = .ok (.putfield 30, 3) := by decide +kernel
theorem d13_32 : decode jdk_99_method_1_code 32 = .ok (.aload_n 0, 1) := by decide +kernel
theorem d13_33 : decode jdk_99_method_1_code 33 = .ok (.iconst 0, 1) := by decide +kernel
theorem d13_34 : decode jdk_99_method_1_code 34 = .ok (.putfield 33, 3) := by decide +kernel
theorem d13_37 : decode jdk_99_method_1_code 37 = .ok (.aload_n 2, 1) := by decide +kernel
theorem d13_38 : decode jdk_99_method_1_code 38 = .ok (.ifnull 40, 3) := by decide +kernel
theorem d13_78 : decode jdk_99_method_1_code 78 = .ok (.return_, 1) := by decide +kernel
theorem own_pf7 : plainFor (⟨"java/util/HashMap$HashIterator", "<init>", "(Ljava/util/HashMap;)V"⟩ : MethodName) = true := by first | exact plainFor_of_name (by first | (simp [plainName, overriddenIn]; done) | decide +kernel) | decide +kernel
set_option maxRecDepth 65536 in
set_option maxHeartbeats 40000000 in
theorem rm13 (l : Launch) (Z : State) (a0 : Array Value) (hw : ∀ d ∈ tables_1, d.before a0 Z = true) (ws : List Jvm.Cond) (p1 : Addr) (p2 : Addr) (h0 : Heap) (g1 : Z.heap.size ≤ p1) (Ep1 : Exa Z h0 p1 "java/util/HashMap$EntryIterator") (Fp1_this_0 : Fld Z h0 p1 "java/util/HashMap$HashIterator" "this$0" "Ljava/util/HashMap;" .null) (Fp1_expectedModCount : Fld Z h0 p1 "java/util/HashMap$HashIterator" "expectedModCount" "I" (.int (0 : Int32))) (Fp1_next : Fld Z h0 p1 "java/util/HashMap$HashIterator" "next" "Ljava/util/HashMap$Node;" .null) (Fp1_current : Fld Z h0 p1 "java/util/HashMap$HashIterator" "current" "Ljava/util/HashMap$Node;" .null) (Fp1_index : Fld Z h0 p1 "java/util/HashMap$HashIterator" "index" "I" (.int (0 : Int32))) (hne : p2 ≠ p1) (Mp2 : Fld Z h0 p2 "java/util/HashMap" "modCount" "I" (.int (0 : Int32))) (Tp2 : Fld Z h0 p2 "java/util/HashMap" "table" "[Ljava/util/HashMap$Node;" .null) :
    own_Met l Z (⟨"java/util/HashMap$HashIterator", "<init>", "(Ljava/util/HashMap;)V"⟩ : MethodName) jdk_99_method_1_code 3 none ws ({ frames := 1, cells := 0, slots := 0, locals := 12 } : Room) #[(.ref p1), (.ref p2)] h0 (own_none (fun h => Keep h0 h [p1] ∧ Fld Z h p1 "java/util/HashMap$HashIterator" "next" "Ljava/util/HashMap$Node;" .null)) := by
  refine own_met (ls0 := #[.val (.ref p1), .val (.ref p2), .unset]) own_pf7 (fun m => by first | rfl | (simp [entryFrame, mkF, argsToLocals, Value.category, maxLocals]; done)) ?_
  intro p e s m below meth c
  refine own_old (fun O0 => ?_)
  refine own_aloadN 1 rfl d13_0 rfl rfl ?_
  refine own_aloadN 2 rfl d13_1 rfl rfl ?_
  refine own_putF 5 rfl (host := "") (Or.inl (hw _ (List.mem_of_getElem? (i := 103) rfl))) Via.refl g1 Fp1_this_0 Ep1 (Or.inr ⟨(hw _ (List.mem_of_getElem? (i := 104) rfl)), rfl, rfl⟩) (hw _ (List.mem_of_getElem? (i := 91) rfl)) (ty := (.object "java/util/HashMap")) (by decide) rfl rfl d13_2 (fun h1 W1 => ?_)
  have kp2 : Keep h0 h1 [p1] := Keep.wr (Keep.refl h0 [p1]) W1 (Or.inl (List.mem_of_getElem? (i := 0) rfl))
  refine own_aloadN 6 rfl d13_5 rfl rfl ?_
  refine own_initO 9 rfl (hw _ (List.mem_of_getElem? (i := 105) rfl)) (hw _ (List.mem_of_getElem? (i := 14) rfl)) (hw _ (List.mem_of_getElem? (i := 15) rfl)) d13_6 rfl (by decide) 0 (Nat.le_of_eq rfl) (by decide) ?_
  refine own_aloadN 10 rfl d13_9 rfl rfl ?_
  refine own_aloadN 11 rfl d13_10 rfl rfl ?_
  refine own_getF 14 rfl (host := "") (Or.inl (hw _ (List.mem_of_getElem? (i := 106) rfl))) Via.refl (Mp2.other W1 (Or.inl hne)) d13_11 ?_
  refine own_putF 17 rfl (host := "") (Or.inl (hw _ (List.mem_of_getElem? (i := 108) rfl))) Via.refl g1 (Fp1_expectedModCount.other W1 (Or.inr (slot_ne (a0 := a0) (Or.inl (hw _ (List.mem_of_getElem? (i := 109) rfl))) (Or.inr (hw _ (List.mem_of_getElem? (i := 104) rfl))) (by decide) (t := .int) (t' := (.object "java/util/HashMap")) (by decide) (by decide)))) (Ep1.wr W1) (Or.inl (hw _ (List.mem_of_getElem? (i := 109) rfl))) (hw _ (List.mem_of_getElem? (i := 91) rfl)) (ty := .int) (by decide) rfl rfl d13_14 (fun h3 W3 => ?_)
  have kp4 : Keep h0 h3 [p1] := Keep.wr kp2 W3 (Or.inl (List.mem_of_getElem? (i := 0) rfl))
  refine own_aloadN 18 rfl d13_17 rfl rfl ?_
  refine own_getF 21 rfl (host := "") (Or.inl (hw _ (List.mem_of_getElem? (i := 110) rfl))) Via.refl ((Tp2.other W1 (Or.inl hne)).other W3 (Or.inl hne)) d13_18 ?_
  refine own_astoreN 22 rfl #[.val (.ref p1), .val (.ref p2), .val .null] d13_21 rfl rfl ?_
  refine own_aloadN 23 rfl d13_22 rfl rfl ?_
  refine own_aloadN 24 rfl d13_23 rfl rfl ?_
  refine own_aconstNull 25 rfl d13_24 ?_
  refine own_dupX1 26 rfl d13_25 rfl rfl ?_
  refine own_putF 29 rfl (host := "") (Or.inl (hw _ (List.mem_of_getElem? (i := 112) rfl))) Via.refl g1 ((Fp1_next.other W1 (Or.inr (slot_ne (a0 := a0) (Or.inl (hw _ (List.mem_of_getElem? (i := 113) rfl))) (Or.inr (hw _ (List.mem_of_getElem? (i := 104) rfl))) (by decide) (t := (.object "java/util/HashMap$Node")) (t' := (.object "java/util/HashMap")) (by decide) (by decide)))).other W3 (Or.inr (slot_ne (a0 := a0) (Or.inl (hw _ (List.mem_of_getElem? (i := 113) rfl))) (Or.inl (hw _ (List.mem_of_getElem? (i := 109) rfl))) (by decide) (t := (.object "java/util/HashMap$Node")) (t' := .int) (by decide) (by decide)))) ((Ep1.wr W1).wr W3) (Or.inl (hw _ (List.mem_of_getElem? (i := 113) rfl))) (hw _ (List.mem_of_getElem? (i := 91) rfl)) (ty := (.object "java/util/HashMap$Node")) (by decide) rfl rfl d13_26 (fun h5 W5 => ?_)
  have kp6 : Keep h0 h5 [p1] := Keep.wr kp4 W5 (Or.inl (List.mem_of_getElem? (i := 0) rfl))
  refine own_putF 32 rfl (host := "") (Or.inl (hw _ (List.mem_of_getElem? (i := 114) rfl))) Via.refl g1 (((Fp1_current.other W1 (Or.inr (slot_ne (a0 := a0) (Or.inl (hw _ (List.mem_of_getElem? (i := 115) rfl))) (Or.inr (hw _ (List.mem_of_getElem? (i := 104) rfl))) (by decide) (t := (.object "java/util/HashMap$Node")) (t' := (.object "java/util/HashMap")) (by decide) (by decide)))).other W3 (Or.inr (slot_ne (a0 := a0) (Or.inl (hw _ (List.mem_of_getElem? (i := 115) rfl))) (Or.inl (hw _ (List.mem_of_getElem? (i := 109) rfl))) (by decide) (t := (.object "java/util/HashMap$Node")) (t' := .int) (by decide) (by decide)))).other W5 (Or.inr (slot_ne (a0 := a0) (Or.inl (hw _ (List.mem_of_getElem? (i := 115) rfl))) (Or.inl (hw _ (List.mem_of_getElem? (i := 113) rfl))) (by decide) (t := (.object "java/util/HashMap$Node")) (t' := (.object "java/util/HashMap$Node")) (by decide) (by decide)))) (((Ep1.wr W1).wr W3).wr W5) (Or.inl (hw _ (List.mem_of_getElem? (i := 115) rfl))) (hw _ (List.mem_of_getElem? (i := 91) rfl)) (ty := (.object "java/util/HashMap$Node")) (by decide) rfl rfl d13_29 (fun h7 W7 => ?_)
  have kp8 : Keep h0 h7 [p1] := Keep.wr kp6 W7 (Or.inl (List.mem_of_getElem? (i := 0) rfl))
  refine own_aloadN 33 rfl d13_32 rfl rfl ?_
  refine own_iconst 34 rfl (0 : Int32) d13_33 rfl ?_
  refine own_putF 37 rfl (host := "") (Or.inl (hw _ (List.mem_of_getElem? (i := 116) rfl))) Via.refl g1 ((((Fp1_index.other W1 (Or.inr (slot_ne (a0 := a0) (Or.inl (hw _ (List.mem_of_getElem? (i := 117) rfl))) (Or.inr (hw _ (List.mem_of_getElem? (i := 104) rfl))) (by decide) (t := .int) (t' := (.object "java/util/HashMap")) (by decide) (by decide)))).other W3 (Or.inr (slot_ne (a0 := a0) (Or.inl (hw _ (List.mem_of_getElem? (i := 117) rfl))) (Or.inl (hw _ (List.mem_of_getElem? (i := 109) rfl))) (by decide) (t := .int) (t' := .int) (by decide) (by decide)))).other W5 (Or.inr (slot_ne (a0 := a0) (Or.inl (hw _ (List.mem_of_getElem? (i := 117) rfl))) (Or.inl (hw _ (List.mem_of_getElem? (i := 113) rfl))) (by decide) (t := .int) (t' := (.object "java/util/HashMap$Node")) (by decide) (by decide)))).other W7 (Or.inr (slot_ne (a0 := a0) (Or.inl (hw _ (List.mem_of_getElem? (i := 117) rfl))) (Or.inl (hw _ (List.mem_of_getElem? (i := 115) rfl))) (by decide) (t := .int) (t' := (.object "java/util/HashMap$Node")) (by decide) (by decide)))) ((((Ep1.wr W1).wr W3).wr W5).wr W7) (Or.inl (hw _ (List.mem_of_getElem? (i := 117) rfl))) (hw _ (List.mem_of_getElem? (i := 91) rfl)) (ty := .int) (by decide) rfl rfl d13_34 (fun h9 W9 => ?_)
  have kp10 : Keep h0 h9 [p1] := Keep.wr kp8 W9 (Or.inl (List.mem_of_getElem? (i := 0) rfl))
  refine own_aloadN 38 rfl d13_37 rfl rfl ?_
  refine own_ifnullYes 78 d13_38 (by decide) (by decide) ?_
  refine own_ret rfl d13_78 (by decide) (by decide) ?_
  exact ⟨rfl, kp10, (((Fld.same W5 ((Fp1_next.other W1 (Or.inr (slot_ne (a0 := a0) (Or.inl (hw _ (List.mem_of_getElem? (i := 113) rfl))) (Or.inr (hw _ (List.mem_of_getElem? (i := 104) rfl))) (by decide) (t := (.object "java/util/HashMap$Node")) (t' := (.object "java/util/HashMap")) (by decide) (by decide)))).other W3 (Or.inr (slot_ne (a0 := a0) (Or.inl (hw _ (List.mem_of_getElem? (i := 113) rfl))) (Or.inl (hw _ (List.mem_of_getElem? (i := 109) rfl))) (by decide) (t := (.object "java/util/HashMap$Node")) (t' := .int) (by decide) (by decide))))).other W7 (Or.inr (slot_ne (a0 := a0) (Or.inl (hw _ (List.mem_of_getElem? (i := 113) rfl))) (Or.inl (hw _ (List.mem_of_getElem? (i := 115) rfl))) (by decide) (t := (.object "java/util/HashMap$Node")) (t' := (.object "java/util/HashMap$Node")) (by decide) (by decide)))).other W9 (Or.inr (slot_ne (a0 := a0) (Or.inl (hw _ (List.mem_of_getElem? (i := 113) rfl))) (Or.inl (hw _ (List.mem_of_getElem? (i := 117) rfl))) (by decide) (t := (.object "java/util/HashMap$Node")) (t' := .int) (by decide) (by decide))))⟩
theorem d12_0 : decode jdk_142_method_1_code 0 = .ok (.aload_n 0, 1) := by decide +kernel
theorem d12_1 : decode jdk_142_method_1_code 1 = .ok (.aload_n 1, 1) := by decide +kernel
theorem d12_2 : decode jdk_142_method_1_code 2 = .ok (.invokespecial 1, 3) := by decide +kernel
theorem d12_5 : decode jdk_142_method_1_code 5 = .ok (.return_, 1) := by decide +kernel
theorem own_pf8 : plainFor (⟨"java/util/HashMap$EntryIterator", "<init>", "(Ljava/util/HashMap;)V"⟩ : MethodName) = true := by first | exact plainFor_of_name (by first | (simp [plainName, overriddenIn]; done) | decide +kernel) | decide +kernel
set_option maxRecDepth 65536 in
set_option maxHeartbeats 40000000 in
theorem rm12 (l : Launch) (Z : State) (a0 : Array Value) (hw : ∀ d ∈ tables_1, d.before a0 Z = true) (ws : List Jvm.Cond) (p1 : Addr) (p2 : Addr) (h0 : Heap) (g1 : Z.heap.size ≤ p1) (Ep1 : Exa Z h0 p1 "java/util/HashMap$EntryIterator") (Fp1_this_0 : Fld Z h0 p1 "java/util/HashMap$HashIterator" "this$0" "Ljava/util/HashMap;" .null) (Fp1_expectedModCount : Fld Z h0 p1 "java/util/HashMap$HashIterator" "expectedModCount" "I" (.int (0 : Int32))) (Fp1_next : Fld Z h0 p1 "java/util/HashMap$HashIterator" "next" "Ljava/util/HashMap$Node;" .null) (Fp1_current : Fld Z h0 p1 "java/util/HashMap$HashIterator" "current" "Ljava/util/HashMap$Node;" .null) (Fp1_index : Fld Z h0 p1 "java/util/HashMap$HashIterator" "index" "I" (.int (0 : Int32))) (hne : p2 ≠ p1) (Mp2 : Fld Z h0 p2 "java/util/HashMap" "modCount" "I" (.int (0 : Int32))) (Tp2 : Fld Z h0 p2 "java/util/HashMap" "table" "[Ljava/util/HashMap$Node;" .null) :
    own_Met l Z (⟨"java/util/HashMap$EntryIterator", "<init>", "(Ljava/util/HashMap;)V"⟩ : MethodName) jdk_142_method_1_code 2 none ws ({ frames := 2, cells := 0, slots := 0, locals := 26 } : Room) #[(.ref p1), (.ref p2)] h0 (own_none (fun h => Keep h0 h [p1] ∧ Fld Z h p1 "java/util/HashMap$HashIterator" "next" "Ljava/util/HashMap$Node;" .null)) := by
  refine own_met (ls0 := #[.val (.ref p1), .val (.ref p2)]) own_pf8 (fun m => by first | rfl | (simp [entryFrame, mkF, argsToLocals, Value.category, maxLocals]; done)) ?_
  intro p e s m below meth c
  refine own_old (fun O0 => ?_)
  refine own_aloadN 1 rfl d12_0 rfl rfl ?_
  refine own_aloadN 2 rfl d12_1 rfl rfl ?_
  refine own_callI 5 rfl 0 0 0 [(.ref p2)] [] (y := (⟨"java/util/HashMap$HashIterator", "<init>", "(Ljava/util/HashMap;)V"⟩ : MethodName)) rfl (hw _ (List.mem_of_getElem? (i := 97) rfl)) (hw _ (List.mem_of_getElem? (i := 98) rfl)) (hw _ (List.mem_of_getElem? (i := 101) rfl)) (hw _ (List.mem_of_getElem? (i := 102) rfl)) (by decide) (rm13 l Z a0 hw [] p1 p2  h0 g1 Ep1 Fp1_this_0 Fp1_expectedModCount Fp1_next Fp1_current Fp1_index hne Mp2 Tp2) d12_2 rfl (lenOf own_pd1 rfl) rfl rfl rfl (by decide) (by decide) rfl rfl (by decide) (by decide) (own_k0 fun h1 q1 => ?_)
  obtain ⟨K1, G1_next⟩ := q1
  have kp2 : Keep h0 h1 [p1] := Keep.trans (Keep.refl h0 [p1]) K1 (allS (Or.inl (List.mem_of_getElem? (i := 0) rfl)) all0)
  refine own_ret rfl d12_5 (by decide) (by decide) ?_
  exact ⟨rfl, kp2, G1_next⟩
theorem d11_0 : decode jdk_111_method_4_code 0 = .ok (.new 22, 3) := by decide +kernel
theorem d11_3 : decode jdk_111_method_4_code 3 = .ok (.dup, 1) := by decide +kernel
theorem d11_4 : decode jdk_111_method_4_code 4 = .ok (.aload_n 0, 1) := by decide +kernel
theorem d11_5 : decode jdk_111_method_4_code 5 = .ok (.getfield 1, 3) := by decide +kernel
theorem d11_8 : decode jdk_111_method_4_code 8 = .ok (.invokespecial 24, 3) := by decide +kernel
theorem d11_11 : decode jdk_111_method_4_code 11 = .ok (.areturn, 1) := by decide +kernel
theorem own_pf9 : plainFor (⟨"java/util/HashMap$EntrySet", "iterator", "()Ljava/util/Iterator;"⟩ : MethodName) = true := by first | exact plainFor_of_name (by first | (simp [plainName, overriddenIn]; done) | decide +kernel) | decide +kernel
set_option maxRecDepth 65536 in
set_option maxHeartbeats 40000000 in
theorem rm11 (l : Launch) (Z : State) (a0 : Array Value) (hw : ∀ d ∈ tables_1, d.before a0 Z = true) (ws : List Jvm.Cond) (p1 : Addr) (p2 : Addr) (h0 : Heap) (Ep1 : Exa Z h0 p1 "java/util/HashMap$EntrySet") (Fp1_this_0 : Fld Z h0 p1 "java/util/HashMap$EntrySet" "this$0" "Ljava/util/HashMap;" (.ref p2)) (Mp2 : Fld Z h0 p2 "java/util/HashMap" "modCount" "I" (.int (0 : Int32))) (Tp2 : Fld Z h0 p2 "java/util/HashMap" "table" "[Ljava/util/HashMap$Node;" .null) :
    own_Met l Z (⟨"java/util/HashMap$EntrySet", "iterator", "()Ljava/util/Iterator;"⟩ : MethodName) jdk_111_method_4_code 1 (some (.object "java/util/Iterator")) ws ({ frames := 3, cells := 1, slots := 5, locals := 40 } : Room) #[(.ref p1)] h0 (own_some (fun v h => (∃ b, v = .ref b ∧ h0.size ≤ b ∧ Exa Z h b "java/util/HashMap$EntryIterator" ∧ Fld Z h b "java/util/HashMap$HashIterator" "next" "Ljava/util/HashMap$Node;" .null) ∧ Keep h0 h [])) := by
  refine own_met (ls0 := #[.val (.ref p1)]) own_pf9 (fun m => by first | rfl | (simp [entryFrame, mkF, argsToLocals, Value.category, maxLocals]; done)) ?_
  intro p e s m below meth c
  refine own_old (fun O0 => ?_)
  refine own_newO 3 rfl 1 5 (hw _ (List.mem_of_getElem? (i := 90) rfl)) (hw _ (List.mem_of_getElem? (i := 91) rfl)) (hw _ (List.mem_of_getElem? (i := 92) rfl)) d11_0 rfl rfl (by decide) (by decide) (fun h1 b1 z1 g_b1 E1 X_b1 D1 => ?_)
  have ne_p1_b1 : p1 ≠ b1 := Nat.ne_of_lt (Nat.lt_of_lt_of_le Ep1.lt (Nat.le_of_eq z1.symm))
  have ne_p2_b1 : p2 ≠ b1 := Nat.ne_of_lt (Nat.lt_of_lt_of_le Mp2.lt (Nat.le_of_eq z1.symm))
  have sz_b1 : h0.size ≤ b1 := Nat.le_trans (Keep.refl h0 []).1 (Nat.le_of_eq z1.symm)
  have kp2 : Keep h0 h1 [] := Keep.ext (Keep.refl h0 []) E1
  have F1_this_0 : Fld Z h1 b1 "java/util/HashMap$HashIterator" "this$0" "Ljava/util/HashMap;" .null := D1 (Or.inr (hw _ (List.mem_of_getElem? (i := 104) rfl))) (ty := (.object "java/util/HashMap")) (by decide)
  have F1_expectedModCount : Fld Z h1 b1 "java/util/HashMap$HashIterator" "expectedModCount" "I" (.int (0 : Int32)) := D1 (Or.inl (hw _ (List.mem_of_getElem? (i := 109) rfl))) (ty := .int) (by decide)
  have F1_next : Fld Z h1 b1 "java/util/HashMap$HashIterator" "next" "Ljava/util/HashMap$Node;" .null := D1 (Or.inl (hw _ (List.mem_of_getElem? (i := 113) rfl))) (ty := (.object "java/util/HashMap$Node")) (by decide)
  have F1_current : Fld Z h1 b1 "java/util/HashMap$HashIterator" "current" "Ljava/util/HashMap$Node;" .null := D1 (Or.inl (hw _ (List.mem_of_getElem? (i := 115) rfl))) (ty := (.object "java/util/HashMap$Node")) (by decide)
  have F1_index : Fld Z h1 b1 "java/util/HashMap$HashIterator" "index" "I" (.int (0 : Int32)) := D1 (Or.inl (hw _ (List.mem_of_getElem? (i := 117) rfl))) (ty := .int) (by decide)
  refine own_dup 4 rfl d11_3 rfl ?_
  refine own_aloadN 5 rfl d11_4 rfl rfl ?_
  refine own_getF 8 rfl (host := "") (Or.inl (hw _ (List.mem_of_getElem? (i := 66) rfl))) Via.refl (Fp1_this_0.ext E1) d11_5 ?_
  refine own_callI 11 rfl 1 5 1 [(.ref p2)] [(.ref b1)] (y := (⟨"java/util/HashMap$EntryIterator", "<init>", "(Ljava/util/HashMap;)V"⟩ : MethodName)) rfl (hw _ (List.mem_of_getElem? (i := 93) rfl)) (hw _ (List.mem_of_getElem? (i := 94) rfl)) (hw _ (List.mem_of_getElem? (i := 92) rfl)) (hw _ (List.mem_of_getElem? (i := 96) rfl)) (by decide) (rm12 l Z a0 hw [] b1 p2  h1 g_b1 X_b1 F1_this_0 F1_expectedModCount F1_next F1_current F1_index ne_p2_b1 (Mp2.ext E1) (Tp2.ext E1)) d11_8 rfl (lenOf own_pd1 rfl) rfl rfl rfl (by decide) (by decide) rfl rfl (by decide) (by decide) (own_k0 fun h3 q3 => ?_)
  obtain ⟨K3, G3_next⟩ := q3
  have kp4 : Keep h0 h3 [] := Keep.trans kp2 K3 (allS (Or.inr sz_b1) all0)
  refine own_retA rfl rfl rfl d11_11 (by decide) (by decide) ?_
  exact ⟨_, rfl, ⟨_, rfl, sz_b1, (X_b1.keep K3), G3_next⟩, kp4⟩
theorem d14_0 : decode jdk_99_method_2_code 0 = .ok (.aload_n 0, 1) := by decide +kernel
theorem d14_1 : decode jdk_99_method_2_code 1 = .ok (.getfield 26, 3) := by decide +kernel
theorem d14_4 : decode jdk_99_method_2_code 4 = .ok (.ifnull 7, 3) := by decide +kernel
theorem d14_11 : decode jdk_99_method_2_code 11 = .ok (.iconst 0, 1) := by decide +kernel
theorem d14_12 : decode jdk_99_method_2_code 12 = .ok (.ireturn, 1) := by decide +kernel
theorem own_pf10 : plainFor (⟨"java/util/HashMap$HashIterator", "hasNext", "()Z"⟩ : MethodName) = true := by first | exact plainFor_of_name (by first | (simp [plainName, overriddenIn]; done) | decide +kernel) | decide +kernel
set_option maxRecDepth 65536 in
set_option maxHeartbeats 40000000 in
theorem rm14 (l : Launch) (Z : State) (a0 : Array Value) (hw : ∀ d ∈ tables_1, d.before a0 Z = true) (ws : List Jvm.Cond) (p1 : Addr) (h0 : Heap) (Fp1 : Fld Z h0 p1 "java/util/HashMap$HashIterator" "next" "Ljava/util/HashMap$Node;" .null) :
    own_Met l Z (⟨"java/util/HashMap$HashIterator", "hasNext", "()Z"⟩ : MethodName) jdk_99_method_2_code 1 (some .boolean) ws ({ frames := 0, cells := 0, slots := 0, locals := 0 } : Room) #[(.ref p1)] h0 (own_some (fun v h => v = .int 0 ∧ h = h0)) := by
  refine own_met (ls0 := #[.val (.ref p1)]) own_pf10 (fun m => by first | rfl | (simp [entryFrame, mkF, argsToLocals, Value.category, maxLocals]; done)) ?_
  intro p e s m below meth c
  refine own_old (fun O0 => ?_)
  refine own_aloadN 1 rfl d14_0 rfl rfl ?_
  refine own_getF 4 rfl (host := "") (Or.inl (hw _ (List.mem_of_getElem? (i := 112) rfl))) Via.refl Fp1 d14_1 ?_
  refine own_ifnullYes 11 d14_4 (by decide) (by decide) ?_
  refine own_iconst 12 rfl (0 : Int32) d14_11 rfl ?_
  refine own_retN rfl (by simp) d14_12 (by decide) (by decide) ?_
  exact ⟨_, rfl, rfl, rfl⟩
theorem d5_0 : decode prog_30_method_9_code 0 = .ok (.new 97, 3) := by decide +kernel
theorem d5_3 : decode prog_30_method_9_code 3 = .ok (.dup, 1) := by decide +kernel
theorem d5_4 : decode prog_30_method_9_code 4 = .ok (.invokespecial 99, 3) := by decide +kernel
theorem d5_7 : decode prog_30_method_9_code 7 = .ok (.astore_n 1, 1) := by decide +kernel
theorem d5_8 : decode prog_30_method_9_code 8 = .ok (.aload_n 0, 1) := by decide +kernel
theorem d5_9 : decode prog_30_method_9_code 9 = .ok (.invokeinterface 100 1, 5) := by decide +kernel
theorem own_pd2 : parseMethodDescriptor "()Ljava/util/Set;" = some ⟨[], some (.object "java/util/Set")⟩ := by decide +kernel
theorem d5_14 : decode prog_30_method_9_code 14 = .ok (.invokeinterface 104 1, 5) := by decide +kernel
theorem own_pd3 : parseMethodDescriptor "()Ljava/util/Iterator;" = some ⟨[], some (.object "java/util/Iterator")⟩ := by decide +kernel
theorem d5_19 : decode prog_30_method_9_code 19 = .ok (.astore_n 2, 1) := by decide +kernel
theorem d5_20 : decode prog_30_method_9_code 20 = .ok (.aload_n 2, 1) := by decide +kernel
theorem d5_21 : decode prog_30_method_9_code 21 = .ok (.invokeinterface 110 1, 5) := by decide +kernel
theorem own_pd4 : parseMethodDescriptor "()Z" = some ⟨[], some .boolean⟩ := by decide +kernel
theorem d5_26 : decode prog_30_method_9_code 26 = .ok (.ifCond .eq 47, 3) := by decide +kernel
theorem d5_73 : decode prog_30_method_9_code 73 = .ok (.aload_n 1, 1) := by decide +kernel
theorem d5_74 : decode prog_30_method_9_code 74 = .ok (.areturn, 1) := by decide +kernel
theorem own_pf11 : plainFor (⟨"com/example/urd/urd/model/Event", "copy", "(Ljava/util/Map;)Ljava/util/Map;"⟩ : MethodName) = true := by first | exact plainFor_of_name (by first | (simp [plainName, overriddenIn]; done) | decide +kernel) | decide +kernel
set_option maxRecDepth 65536 in
set_option maxHeartbeats 40000000 in
theorem rm5 (l : Launch) (Z : State) (a0 : Array Value) (hw : ∀ d ∈ tables_1, d.before a0 Z = true) (ws : List Jvm.Cond) (p1 : Addr)  (h0 : Heap) (g1 : Z.heap.size ≤ p1) (Ep1 : Exa Z h0 p1 "java/util/HashMap") (Fp1_entrySet : Fld Z h0 p1 "java/util/HashMap" "entrySet" "Ljava/util/Set;" .null) (Fp1_modCount : Fld Z h0 p1 "java/util/HashMap" "modCount" "I" (.int (0 : Int32))) (Fp1_table : Fld Z h0 p1 "java/util/HashMap" "table" "[Ljava/util/HashMap$Node;" .null) :
    own_Met l Z (⟨"com/example/urd/urd/model/Event", "copy", "(Ljava/util/Map;)Ljava/util/Map;"⟩ : MethodName) prog_30_method_9_code 4 (some (.object "java/util/Map")) ws ({ frames := 5, cells := 3, slots := 18, locals := 64 } : Room) #[(.ref p1)] h0 (own_some (fun v h => (∃ b, v = .ref b ∧ h0.size ≤ b) ∧ Keep h0 h [p1])) := by
  refine own_met (ls0 := #[.val (.ref p1), .unset, .unset, .unset]) own_pf11 (fun m => by first | rfl | (simp [entryFrame, mkF, argsToLocals, Value.category, maxLocals]; done)) ?_
  intro p e s m below meth c
  refine own_old (fun O0 => ?_)
  refine own_newO 3 rfl 1 12 (hw _ (List.mem_of_getElem? (i := 33) rfl)) (hw _ (List.mem_of_getElem? (i := 34) rfl)) (hw _ (List.mem_of_getElem? (i := 35) rfl)) d5_0 rfl rfl (by decide) (by decide) (fun h1 b1 z1 g_b1 E1 X_b1 D1 => ?_)
  have ne_p1_b1 : p1 ≠ b1 := Nat.ne_of_lt (Nat.lt_of_lt_of_le Ep1.lt (Nat.le_of_eq z1.symm))
  have sz_b1 : h0.size ≤ b1 := Nat.le_trans (Keep.refl h0 [p1]).1 (Nat.le_of_eq z1.symm)
  have kp2 : Keep h0 h1 [p1] := Keep.ext (Keep.refl h0 [p1]) E1
  have F1_loadFactor : Fld Z h1 b1 "java/util/HashMap" "loadFactor" "F" (.float (0 : UInt32)) := D1 (Or.inr (hw _ (List.mem_of_getElem? (i := 43) rfl))) (ty := .float) (by decide)
  have F1_putMode : Fld Z h1 b1 "java/util/LinkedHashMap" "putMode" "I" (.int (0 : Int32)) := D1 (Or.inl (hw _ (List.mem_of_getElem? (i := 45) rfl))) (ty := .int) (by decide)
  have F1_accessOrder : Fld Z h1 b1 "java/util/LinkedHashMap" "accessOrder" "Z" (.int (0 : Int32)) := D1 (Or.inr (hw _ (List.mem_of_getElem? (i := 47) rfl))) (ty := .boolean) (by decide)
  refine own_dup 4 rfl d5_3 rfl ?_
  refine own_callI 7 rfl 1 12 1 [] [(.ref b1)] (y := (⟨"java/util/LinkedHashMap", "<init>", "()V"⟩ : MethodName)) rfl (hw _ (List.mem_of_getElem? (i := 36) rfl)) (hw _ (List.mem_of_getElem? (i := 37) rfl)) (hw _ (List.mem_of_getElem? (i := 35) rfl)) (hw _ (List.mem_of_getElem? (i := 38) rfl)) (by decide) (rm6 l Z a0 hw [] b1  h1 g_b1 X_b1 F1_loadFactor F1_putMode F1_accessOrder ) d5_4 rfl (lenOf own_pd0 rfl) rfl rfl rfl (by decide) (by decide) rfl rfl (by decide) (by decide) (own_k0 fun h3 q3 => ?_)
  have K3 := q3
  have kp4 : Keep h0 h3 [p1] := Keep.trans kp2 K3 (allS (Or.inr sz_b1) all0)
  refine own_astoreN 8 rfl #[.val (.ref p1), .val (.ref b1), .unset, .unset] d5_7 rfl rfl ?_
  refine own_aloadN 9 rfl d5_8 rfl rfl ?_
  refine own_callF 14 rfl 2 13 0 [] [] (y := (⟨"java/util/Map", "entrySet", "()Ljava/util/Set;"⟩ : MethodName)) (z := (⟨"java/util/HashMap", "entrySet", "()Ljava/util/Set;"⟩ : MethodName)) (hw _ (List.mem_of_getElem? (i := 48) rfl)) (hw _ (List.mem_of_getElem? (i := 49) rfl)) (hw _ (List.mem_of_getElem? (i := 50) rfl)) rfl (hw _ (List.mem_of_getElem? (i := 51) rfl)) (hw _ (List.mem_of_getElem? (i := 52) rfl)) (hw _ (List.mem_of_getElem? (i := 53) rfl)) (hw _ (List.mem_of_getElem? (i := 54) rfl)) (hw _ (List.mem_of_getElem? (i := 55) rfl)) (hw _ (List.mem_of_getElem? (i := 3) rfl)) (hw _ (List.mem_of_getElem? (i := 56) rfl)) (by decide) ((Ep1.ext E1).keep K3) (rm7 l Z a0 hw [] p1  h3 g1 ((Ep1.ext E1).keep K3) ((Fp1_entrySet.ext E1).keep K3 (ninS ne_p1_b1 nin0)) ((Fp1_modCount.ext E1).keep K3 (ninS ne_p1_b1 nin0)) ((Fp1_table.ext E1).keep K3 (ninS ne_p1_b1 nin0)) ) d5_9 rfl (lenOf own_pd2 rfl) rfl rfl rfl (by decide) (by decide) rfl rfl (by decide) (by decide) (own_kv fun v5 h5 q5 => ?_)
  obtain ⟨⟨b5, rfl, s5, X5, T5⟩, K5, G5_modCount, G5_table⟩ := q5
  have kp6 : Keep h0 h5 [p1] := Keep.trans kp4 K5 (allS (Or.inl (List.mem_of_getElem? (i := 0) rfl)) all0)
  refine own_callF 19 rfl 3 18 0 [] [] (y := (⟨"java/util/Set", "iterator", "()Ljava/util/Iterator;"⟩ : MethodName)) (z := (⟨"java/util/HashMap$EntrySet", "iterator", "()Ljava/util/Iterator;"⟩ : MethodName)) (hw _ (List.mem_of_getElem? (i := 81) rfl)) (hw _ (List.mem_of_getElem? (i := 82) rfl)) (hw _ (List.mem_of_getElem? (i := 83) rfl)) rfl (hw _ (List.mem_of_getElem? (i := 84) rfl)) (hw _ (List.mem_of_getElem? (i := 85) rfl)) (hw _ (List.mem_of_getElem? (i := 86) rfl)) (hw _ (List.mem_of_getElem? (i := 87) rfl)) (hw _ (List.mem_of_getElem? (i := 88) rfl)) (hw _ (List.mem_of_getElem? (i := 61) rfl)) (hw _ (List.mem_of_getElem? (i := 89) rfl)) (by decide) X5 (rm11 l Z a0 hw [] b5 p1 h5  X5 T5 G5_modCount G5_table) d5_14 rfl (lenOf own_pd3 rfl) rfl rfl rfl (by decide) (by decide) rfl rfl (by decide) (by decide) (own_kv fun v7 h7 q7 => ?_)
  obtain ⟨⟨b7, rfl, s7, X7, T7⟩, K7⟩ := q7
  have kp8 : Keep h0 h7 [p1] := Keep.trans kp6 K7 all0
  refine own_astoreN 20 rfl #[.val (.ref p1), .val (.ref b1), .val (.ref b7), .unset] d5_19 rfl rfl ?_
  refine own_aloadN 21 rfl d5_20 rfl rfl ?_
  refine own_callF 26 rfl 3 18 0 [] [] (y := (⟨"java/util/Iterator", "hasNext", "()Z"⟩ : MethodName)) (z := (⟨"java/util/HashMap$HashIterator", "hasNext", "()Z"⟩ : MethodName)) (hw _ (List.mem_of_getElem? (i := 118) rfl)) (hw _ (List.mem_of_getElem? (i := 119) rfl)) (hw _ (List.mem_of_getElem? (i := 120) rfl)) rfl (hw _ (List.mem_of_getElem? (i := 121) rfl)) (hw _ (List.mem_of_getElem? (i := 122) rfl)) (hw _ (List.mem_of_getElem? (i := 123) rfl)) (hw _ (List.mem_of_getElem? (i := 124) rfl)) (hw _ (List.mem_of_getElem? (i := 125) rfl)) (hw _ (List.mem_of_getElem? (i := 101) rfl)) (hw _ (List.mem_of_getElem? (i := 126) rfl)) (by decide) X7 (rm14 l Z a0 hw [] b7  h7 T7) d5_21 rfl (lenOf own_pd4 rfl) rfl rfl rfl (by decide) (by decide) rfl rfl (by decide) (by decide) (own_kv fun v9 h9 q9 => ?_)
  obtain ⟨rfl, e9⟩ := q9
  rw [e9]
  refine own_ifYes 73 d5_26 (teq (rfl : (0 : Int32) = (0 : Int32))).1 (by decide) (by decide) ?_
  refine own_aloadN 74 rfl d5_73 rfl rfl ?_
  refine own_retA rfl rfl rfl d5_74 (by decide) (by decide) ?_
  exact ⟨_, rfl, ⟨_, rfl, sz_b1⟩, kp8⟩
theorem d4_0 : decode prog_30_method_1_code 0 = .ok (.aload_n 0, 1) := by decide +kernel
theorem d4_1 : decode prog_30_method_1_code 1 = .ok (.invokespecial 1, 3) := by decide +kernel
theorem d4_4 : decode prog_30_method_1_code 4 = .ok (.aload_n 0, 1) := by decide +kernel
theorem d4_5 : decode prog_30_method_1_code 5 = .ok (.iload_n 1, 1) := by decide +kernel
theorem d4_6 : decode prog_30_method_1_code 6 = .ok (.putfield 7, 3) := by decide +kernel
theorem d4_9 : decode prog_30_method_1_code 9 = .ok (.aload_n 0, 1) := by decide +kernel
theorem d4_10 : decode prog_30_method_1_code 10 = .ok (.iload_n 2, 1) := by decide +kernel
theorem d4_11 : decode prog_30_method_1_code 11 = .ok (.putfield 13, 3) := by decide +kernel
theorem d4_14 : decode prog_30_method_1_code 14 = .ok (.aload_n 0, 1) := by decide +kernel
theorem d4_15 : decode prog_30_method_1_code 15 = .ok (.aload_n 3, 1) := by decide +kernel
theorem d4_16 : decode prog_30_method_1_code 16 = .ok (.invokestatic 16, 3) := by decide +kernel
theorem own_pd5 : parseMethodDescriptor "(Ljava/util/Map;)Ljava/util/Map;" = some ⟨[(.object "java/util/Map")], some (.object "java/util/Map")⟩ := by decide +kernel
theorem d4_19 : decode prog_30_method_1_code 19 = .ok (.putfield 20, 3) := by decide +kernel
theorem d4_22 : decode prog_30_method_1_code 22 = .ok (.aload_n 0, 1) := by decide +kernel
theorem d4_23 : decode prog_30_method_1_code 23 = .ok (.aload 4, 2) := by decide +kernel
theorem d4_25 : decode prog_30_method_1_code 25 = .ok (.invokevirtual 24, 3) := by decide +kernel
theorem d4_28 : decode prog_30_method_1_code 28 = .ok (.checkcast 25, 3) := by decide +kernel
theorem d4_31 : decode prog_30_method_1_code 31 = .ok (.putfield 30, 3) := by decide +kernel
theorem d4_34 : decode prog_30_method_1_code 34 = .ok (.return_, 1) := by decide +kernel
theorem own_pf12 : plainFor (⟨"com/example/urd/urd/model/Event", "<init>", "(IILjava/util/Map;[B)V"⟩ : MethodName) = true := by first | exact plainFor_of_name (by first | (simp [plainName, overriddenIn]; done) | decide +kernel) | decide +kernel
set_option maxRecDepth 65536 in
set_option maxHeartbeats 40000000 in
theorem rm4 (l : Launch) (Z : State) (a0 : Array Value) (hw : ∀ d ∈ tables_1, d.before a0 Z = true) (ws : List Jvm.Cond) (p1 : Addr) (i2 i3 : Int32) (p4 p5 : Addr) (k5 : ClassId) (v0 v1 : Value) (h0 : Heap) (g1 : Z.heap.size ≤ p1) (Ep1 : Exa Z h0 p1 "com/example/urd/urd/model/Event") (Fp1_index : Fld Z h0 p1 "com/example/urd/urd/model/Event" "index" "I" (.int (0 : Int32))) (Fp1_type : Fld Z h0 p1 "com/example/urd/urd/model/Event" "type" "I" (.int (0 : Int32))) (Fp1_digests : Fld Z h0 p1 "com/example/urd/urd/model/Event" "digests" "Ljava/util/Map;" .null) (Fp1_data : Fld Z h0 p1 "com/example/urd/urd/model/Event" "data" "[B" .null) (gp4 : Z.heap.size ≤ p4) (Ep4 : Exa Z h0 p4 "java/util/HashMap") (Fp4_entrySet : Fld Z h0 p4 "java/util/HashMap" "entrySet" "Ljava/util/Set;" .null) (Fp4_modCount : Fld Z h0 p4 "java/util/HashMap" "modCount" "I" (.int (0 : Int32))) (Fp4_table : Fld Z h0 p4 "java/util/HashMap" "table" "[Ljava/util/HashMap$Node;" .null) (n41 : p4 ≠ p1) (n51 : p5 ≠ p1) (n54 : p5 ≠ p4) (Ep5 : Exa Z h0 p5 "[B") (Vp5 : Arv Z h0 p5 k5 .byte (2 : Int32) [v0, v1] (.int (0 : Int32))) :
    own_Met l Z (⟨"com/example/urd/urd/model/Event", "<init>", "(IILjava/util/Map;[B)V"⟩ : MethodName) prog_30_method_1_code 5 none ws ({ frames := 6, cells := 4, slots := 20, locals := 80 } : Room) #[(.ref p1), (.int i2), (.int i3), (.ref p4), (.ref p5)] h0 (own_none (fun h => Keep h0 h [p1, p4] ∧ Fld Z h p1 "com/example/urd/urd/model/Event" "type" "I" (.int i3))) := by
  refine own_met (ls0 := #[.val (.ref p1), .val (.int i2), .val (.int i3), .val (.ref p4), .val (.ref p5)]) own_pf12 (fun m => by first | rfl | (simp [entryFrame, mkF, argsToLocals, Value.category, maxLocals]; done)) ?_
  intro p e s m below meth c
  refine own_old (fun O0 => ?_)
  refine own_aloadN 1 rfl d4_0 rfl rfl ?_
  refine own_initO 4 rfl (hw _ (List.mem_of_getElem? (i := 25) rfl)) (hw _ (List.mem_of_getElem? (i := 14) rfl)) (hw _ (List.mem_of_getElem? (i := 15) rfl)) d4_1 rfl (by decide) 0 (Nat.le_of_eq rfl) (by decide) ?_
  refine own_aloadN 5 rfl d4_4 rfl rfl ?_
  refine own_iloadN 6 rfl d4_5 rfl ?_
  refine own_putF 9 rfl (host := "") (Or.inl (hw _ (List.mem_of_getElem? (i := 26) rfl))) Via.refl g1 Fp1_index Ep1 (Or.inr ⟨(hw _ (List.mem_of_getElem? (i := 27) rfl)), rfl, rfl⟩) (hw _ (List.mem_of_getElem? (i := 20) rfl)) (ty := .int) (by decide) rfl rfl d4_6 (fun h1 W1 => ?_)
  have kp2 : Keep h0 h1 [p1, p4] := Keep.wr (Keep.refl h0 [p1, p4]) W1 (Or.inl (List.mem_of_getElem? (i := 0) rfl))
  refine own_aloadN 10 rfl d4_9 rfl rfl ?_
  refine own_iloadN 11 rfl d4_10 rfl ?_
  refine own_putF 14 rfl (host := "") (Or.inl (hw _ (List.mem_of_getElem? (i := 28) rfl))) Via.refl g1 (Fp1_type.other W1 (Or.inr (slot_ne (a0 := a0) (Or.inr (hw _ (List.mem_of_getElem? (i := 29) rfl))) (Or.inr (hw _ (List.mem_of_getElem? (i := 27) rfl))) (by decide) (t := .int) (t' := .int) (by decide) (by decide)))) (Ep1.wr W1) (Or.inr ⟨(hw _ (List.mem_of_getElem? (i := 29) rfl)), rfl, rfl⟩) (hw _ (List.mem_of_getElem? (i := 20) rfl)) (ty := .int) (by decide) rfl rfl d4_11 (fun h3 W3 => ?_)
  have kp4 : Keep h0 h3 [p1, p4] := Keep.wr kp2 W3 (Or.inl (List.mem_of_getElem? (i := 0) rfl))
  refine own_aloadN 15 rfl d4_14 rfl rfl ?_
  refine own_aloadN 16 rfl d4_15 rfl rfl ?_
  refine own_callS 19 rfl 3 18 1 [(.ref p4)] [(.ref p1)] (y := (⟨"com/example/urd/urd/model/Event", "copy", "(Ljava/util/Map;)Ljava/util/Map;"⟩ : MethodName)) (hw _ (List.mem_of_getElem? (i := 30) rfl)) (hw _ (List.mem_of_getElem? (i := 31) rfl)) (hw _ (List.mem_of_getElem? (i := 21) rfl)) (hw _ (List.mem_of_getElem? (i := 32) rfl)) (by decide) (rm5 l Z a0 hw [] p4  h3 gp4 ((Ep4.wr W1).wr W3) ((Fp4_entrySet.other W1 (Or.inl n41)).other W3 (Or.inl n41)) ((Fp4_modCount.other W1 (Or.inl n41)).other W3 (Or.inl n41)) ((Fp4_table.other W1 (Or.inl n41)).other W3 (Or.inl n41)) ) d4_16 rfl (lenOf own_pd5 rfl) rfl rfl rfl (by decide) (by decide) rfl rfl (by decide) (by decide) (own_kv fun v5 h5 q5 => ?_)
  obtain ⟨⟨b5, rfl, s5⟩, K5⟩ := q5
  have kp6 : Keep h0 h5 [p1, p4] := Keep.trans kp4 K5 (allS (Or.inl (List.mem_of_getElem? (i := 1) rfl)) all0)
  refine own_putF 22 rfl (host := "") (Or.inl (hw _ (List.mem_of_getElem? (i := 127) rfl))) Via.refl g1 (((Fp1_digests.other W1 (Or.inr (slot_ne (a0 := a0) (Or.inr (hw _ (List.mem_of_getElem? (i := 128) rfl))) (Or.inr (hw _ (List.mem_of_getElem? (i := 27) rfl))) (by decide) (t := (.object "java/util/Map")) (t' := .int) (by decide) (by decide)))).other W3 (Or.inr (slot_ne (a0 := a0) (Or.inr (hw _ (List.mem_of_getElem? (i := 128) rfl))) (Or.inr (hw _ (List.mem_of_getElem? (i := 29) rfl))) (by decide) (t := (.object "java/util/Map")) (t' := .int) (by decide) (by decide)))).keep K5 (ninS (Ne.symm n41) nin0)) (((Ep1.wr W1).wr W3).keep K5) (Or.inr ⟨(hw _ (List.mem_of_getElem? (i := 128) rfl)), rfl, rfl⟩) (hw _ (List.mem_of_getElem? (i := 20) rfl)) (ty := (.object "java/util/Map")) (by decide) rfl rfl d4_19 (fun h7 W7 => ?_)
  have kp8 : Keep h0 h7 [p1, p4] := Keep.wr kp6 W7 (Or.inl (List.mem_of_getElem? (i := 0) rfl))
  refine own_aloadN 23 rfl d4_22 rfl rfl ?_
  refine own_aload 25 rfl d4_23 rfl rfl ?_
  refine own_clone 28 rfl 4 20 2 1 (hw _ (List.mem_of_getElem? (i := 129) rfl)) (hw _ (List.mem_of_getElem? (i := 130) rfl)) (hw _ (List.mem_of_getElem? (i := 134) rfl)) (hw _ (List.mem_of_getElem? (i := 132) rfl)) (hw _ (List.mem_of_getElem? (i := 133) rfl)) (hw _ (List.mem_of_getElem? (i := 135) rfl)) ((((Vp5.other W1 n51).other W3 n51).keep K5 (ninS n54 nin0)).other W7 n51) ((((Ep5.wr W1).wr W3).keep K5).wr W7) (by decide) d4_25 rfl (by decide) rfl (by decide) rfl rfl (by decide) (by decide) (fun h9 b9 z9 g_b9 E9 V9 X_b9 => ?_)
  have ne_p1_b9 : p1 ≠ b9 := Nat.ne_of_lt (Nat.lt_of_lt_of_le ((((Ep1.wr W1).wr W3).keep K5).wr W7).lt (Nat.le_of_eq z9.symm))
  have ne_p4_b9 : p4 ≠ b9 := Nat.ne_of_lt (Nat.lt_of_lt_of_le ((((Ep4.wr W1).wr W3).keep K5).wr W7).lt (Nat.le_of_eq z9.symm))
  have ne_p5_b9 : p5 ≠ b9 := Nat.ne_of_lt (Nat.lt_of_lt_of_le ((((Ep5.wr W1).wr W3).keep K5).wr W7).lt (Nat.le_of_eq z9.symm))
  have sz_b9 : h0.size ≤ b9 := Nat.le_trans kp8.1 (Nat.le_of_eq z9.symm)
  have kp10 : Keep h0 h9 [p1, p4] := Keep.ext kp8 E9
  refine own_cast 31 rfl (hw _ (List.mem_of_getElem? (i := 136) rfl)) (Ins.self X_b9) d4_28 ?_
  refine own_putF 34 rfl (host := "") (Or.inl (hw _ (List.mem_of_getElem? (i := 138) rfl))) Via.refl g1 (((((Fp1_data.other W1 (Or.inr (slot_ne (a0 := a0) (Or.inr (hw _ (List.mem_of_getElem? (i := 139) rfl))) (Or.inr (hw _ (List.mem_of_getElem? (i := 27) rfl))) (by decide) (t := (.array .byte)) (t' := .int) (by decide) (by decide)))).other W3 (Or.inr (slot_ne (a0 := a0) (Or.inr (hw _ (List.mem_of_getElem? (i := 139) rfl))) (Or.inr (hw _ (List.mem_of_getElem? (i := 29) rfl))) (by decide) (t := (.array .byte)) (t' := .int) (by decide) (by decide)))).keep K5 (ninS (Ne.symm n41) nin0)).other W7 (Or.inr (slot_ne (a0 := a0) (Or.inr (hw _ (List.mem_of_getElem? (i := 139) rfl))) (Or.inr (hw _ (List.mem_of_getElem? (i := 128) rfl))) (by decide) (t := (.array .byte)) (t' := (.object "java/util/Map")) (by decide) (by decide)))).ext E9) (((((Ep1.wr W1).wr W3).keep K5).wr W7).ext E9) (Or.inr ⟨(hw _ (List.mem_of_getElem? (i := 139) rfl)), rfl, rfl⟩) (hw _ (List.mem_of_getElem? (i := 20) rfl)) (ty := (.array .byte)) (by decide) rfl rfl d4_31 (fun h11 W11 => ?_)
  have kp12 : Keep h0 h11 [p1, p4] := Keep.wr kp10 W11 (Or.inl (List.mem_of_getElem? (i := 0) rfl))
  refine own_ret rfl d4_34 (by decide) (by decide) ?_
  exact ⟨rfl, kp12, (((((Fld.same W3 (Fp1_type.other W1 (Or.inr (slot_ne (a0 := a0) (Or.inr (hw _ (List.mem_of_getElem? (i := 29) rfl))) (Or.inr (hw _ (List.mem_of_getElem? (i := 27) rfl))) (by decide) (t := .int) (t' := .int) (by decide) (by decide))))).keep K5 (ninS (Ne.symm n41) nin0)).other W7 (Or.inr (slot_ne (a0 := a0) (Or.inr (hw _ (List.mem_of_getElem? (i := 29) rfl))) (Or.inr (hw _ (List.mem_of_getElem? (i := 128) rfl))) (by decide) (t := .int) (t' := (.object "java/util/Map")) (by decide) (by decide)))).ext E9).other W11 (Or.inr (slot_ne (a0 := a0) (Or.inr (hw _ (List.mem_of_getElem? (i := 29) rfl))) (Or.inr (hw _ (List.mem_of_getElem? (i := 139) rfl))) (by decide) (t := .int) (t' := (.array .byte)) (by decide) (by decide))))⟩
theorem d16_0 : decode prog_35_method_4_code 0 = .ok (.aload_n 0, 1) := by decide +kernel
theorem d16_1 : decode prog_35_method_4_code 1 = .ok (.getfield 119, 3) := by decide +kernel
theorem d16_4 : decode prog_35_method_4_code 4 = .ok (.ireturn, 1) := by decide +kernel
theorem own_pf13 : plainFor (⟨"com/example/urd/urd/model/EventType", "code", "()I"⟩ : MethodName) = true := by first | exact plainFor_of_name (by first | (simp [plainName, overriddenIn]; done) | decide +kernel) | decide +kernel
set_option maxRecDepth 65536 in
set_option maxHeartbeats 40000000 in
theorem rm16 (l : Launch) (Z : State) (a0 : Array Value) (hw : ∀ d ∈ tables_1, d.before a0 Z = true) (ws : List Jvm.Cond) (p1 : Addr) (x1 : Int32) (h0 : Heap) (Fp1 : Fld Z h0 p1 "com/example/urd/urd/model/EventType" "code" "I" (.int x1)) :
    own_Met l Z (⟨"com/example/urd/urd/model/EventType", "code", "()I"⟩ : MethodName) prog_35_method_4_code 1 (some .int) ws ({ frames := 0, cells := 0, slots := 0, locals := 0 } : Room) #[(.ref p1)] h0 (own_some (fun v h => v = .int x1 ∧ h = h0)) := by
  refine own_met (ls0 := #[.val (.ref p1)]) own_pf13 (fun m => by first | rfl | (simp [entryFrame, mkF, argsToLocals, Value.category, maxLocals]; done)) ?_
  intro p e s m below meth c
  refine own_old (fun O0 => ?_)
  refine own_aloadN 1 rfl d16_0 rfl rfl ?_
  refine own_getF 4 rfl (host := "") (Or.inl (hw _ (List.mem_of_getElem? (i := 153) rfl))) Via.refl Fp1 d16_1 ?_
  refine own_retI rfl d16_4 (by decide) (by decide) ?_
  exact ⟨_, rfl, rfl, rfl⟩
theorem d15_0 : decode prog_30_method_4_code 0 = .ok (.aload_n 0, 1) := by decide +kernel
theorem d15_1 : decode prog_30_method_4_code 1 = .ok (.getfield 13, 3) := by decide +kernel
theorem d15_4 : decode prog_30_method_4_code 4 = .ok (.getstatic 33, 3) := by decide +kernel
theorem d15_7 : decode prog_30_method_4_code 7 = .ok (.invokevirtual 39, 3) := by decide +kernel
theorem own_pd6 : parseMethodDescriptor "()I" = some ⟨[], some .int⟩ := by decide +kernel
theorem d15_10 : decode prog_30_method_4_code 10 = .ok (.if_icmp .ne 7, 3) := by decide +kernel
theorem d15_13 : decode prog_30_method_4_code 13 = .ok (.iconst 1, 1) := by decide +kernel
theorem d15_14 : decode prog_30_method_4_code 14 = .ok (.goto 4, 3) := by decide +kernel
theorem d15_18 : decode prog_30_method_4_code 18 = .ok (.ireturn, 1) := by decide +kernel
theorem d15_17 : decode prog_30_method_4_code 17 = .ok (.iconst 0, 1) := by decide +kernel
theorem own_pf14 : plainFor (⟨"com/example/urd/urd/model/Event", "isNoAction", "()Z"⟩ : MethodName) = true := by first | exact plainFor_of_name (by first | (simp [plainName, overriddenIn]; done) | decide +kernel) | decide +kernel
set_option maxRecDepth 65536 in
set_option maxHeartbeats 40000000 in
theorem rm15 (l : Launch) (Z : State) (a0 : Array Value) (hw : ∀ d ∈ tables_1, d.before a0 Z = true) (ws : List Jvm.Cond) (p1 : Addr) (x1 : Int32) (w_EV_NO_ACTION : Addr) (h0 : Heap) (I : own_Ini Z w_EV_NO_ACTION) (Fp1 : Fld Z h0 p1 "com/example/urd/urd/model/Event" "type" "I" (.int x1)) :
    own_Met l Z (⟨"com/example/urd/urd/model/Event", "isNoAction", "()Z"⟩ : MethodName) prog_30_method_4_code 1 (some .boolean) ws ({ frames := 1, cells := 0, slots := 0, locals := 13 } : Room) #[(.ref p1)] h0 (own_some (fun v h => v = .int (if x1 = 3 then 1 else 0) ∧ h = h0)) := by
  have I' := I
  obtain ⟨S_w_EV_NO_ACTION, E_w_EV_NO_ACTION, F_w_EV_NO_ACTION_code⟩ := I'
  refine own_met (ls0 := #[.val (.ref p1)]) own_pf14 (fun m => by first | rfl | (simp [entryFrame, mkF, argsToLocals, Value.category, maxLocals]; done)) ?_
  intro p e s m below meth c
  refine own_old (fun O0 => ?_)
  refine own_aloadN 1 rfl d15_0 rfl rfl ?_
  refine own_getF 4 rfl (host := "") (Or.inl (hw _ (List.mem_of_getElem? (i := 28) rfl))) Via.refl Fp1 d15_1 ?_
  refine own_getS 7 rfl (host := "") (Or.inl (hw _ (List.mem_of_getElem? (i := 145) rfl))) Via.refl S_w_EV_NO_ACTION d15_4 ?_
  refine own_callV 10 rfl 0 0 1 [] [(.int x1)] (y := (⟨"com/example/urd/urd/model/EventType", "code", "()I"⟩ : MethodName)) (z := (⟨"com/example/urd/urd/model/EventType", "code", "()I"⟩ : MethodName)) (hw _ (List.mem_of_getElem? (i := 148) rfl)) (hw _ (List.mem_of_getElem? (i := 149) rfl)) (fun hZ => notFace_of_selects (args := #[]) (mvT hZ (hw _ (List.mem_of_getElem? (i := 151) rfl)))) (hw _ (List.mem_of_getElem? (i := 151) rfl)) (hw _ (List.mem_of_getElem? (i := 150) rfl)) (hw _ (List.mem_of_getElem? (i := 146) rfl)) (hw _ (List.mem_of_getElem? (i := 152) rfl)) (by decide) (E_w_EV_NO_ACTION.ext O0.2) (rm16 l Z a0 hw [] w_EV_NO_ACTION (3 : Int32) h0 (F_w_EV_NO_ACTION_code.ext O0.2)) d15_7 rfl (lenOf own_pd6 rfl) rfl rfl rfl (by decide) (by decide) rfl rfl (by decide) (by decide) (own_kv fun v1 h1 q1 => ?_)
  obtain ⟨rfl, e1⟩ := q1
  rw [e1]
  by_cases hc10 : x1 = (3 : Int32)
  · have ihc10 : x1.toInt = (3 : Int) := own_eq hc10
    refine own_icmpNo 13 rfl d15_10 (teq hc10).2 ?_
    refine own_iconst 14 rfl (1 : Int32) d15_13 rfl ?_
    refine own_goto 18 d15_14 (by decide) (by decide) ?_
    refine own_retN rfl (by simp) d15_18 (by decide) (by decide) ?_
    exact ⟨_, rfl, by simp [hc10, nar], rfl⟩
  · have ihc10 : ¬ x1.toInt = (3 : Int) := own_neq hc10
    refine own_icmpYes 17 d15_10 (feq hc10).2 (by decide) (by decide) ?_
    refine own_iconst 18 rfl (0 : Int32) d15_17 rfl ?_
    refine own_retN rfl (by simp) d15_18 (by decide) (by decide) ?_
    exact ⟨_, rfl, by simp [hc10, nar], rfl⟩
theorem own_pd7 : parseMethodDescriptor "(IILjava/util/Map;[B)V" = some ⟨[.int, .int, (.object "java/util/Map"), (.array .byte)], none⟩ := by decide +kernel
theorem own_pf15 : plainFor (⟨"com/example/urd/urd/model/EventIsNoActionPinLaw", "law", "(IIII)Z"⟩ : MethodName) = true := by first | exact plainFor_of_name (by first | (simp [plainName, overriddenIn]; done) | decide +kernel) | decide +kernel
set_option maxRecDepth 65536 in
set_option maxHeartbeats 40000000 in
theorem rm0 (l : Launch) (Z : State) (a0 : Array Value) (hw : ∀ d ∈ tables_1, d.before a0 Z = true) (ws : List Jvm.Cond) (p1 p2 p3 p4 : Int32) (w_EV_NO_ACTION : Addr) (h0 : Heap) (I : own_Ini Z w_EV_NO_ACTION)  :
    own_Met l Z x code maxLocals ret ws room_1 #[(.int p1), (.int p2), (.int p3), (.int p4)] h0 (own_some (fun v h => v = .int 1)) := by
  have I' := I
  obtain ⟨S_w_EV_NO_ACTION, E_w_EV_NO_ACTION, F_w_EV_NO_ACTION_code⟩ := I'
  refine own_met (ls0 := #[.val (.int p1), .val (.int p2), .val (.int p3), .val (.int p4), .unset, .unset, .unset, .unset, .unset]) own_pf15 (fun m => by first | rfl | (simp [entryFrame, mkF, argsToLocals, Value.category, maxLocals]; done)) ?_
  intro p e s m below meth c
  refine own_old (fun O0 => ?_)
  refine own_iloadN 1 rfl at_0 rfl ?_
  refine own_iconst 2 rfl (3 : Int32) at_1 rfl ?_
  refine own_iand 3 rfl at_2 ?_
  generalize hm : (p3 &&& (3 : Int32)) = md
  refine own_istore 5 rfl #[.val (.int p1), .val (.int p2), .val (.int p3), .val (.int p4), .val (.int md), .unset, .unset, .unset, .unset] at_3 rfl ?_
  refine own_iload 7 rfl at_5 rfl ?_
  refine own_iconst 8 rfl (1 : Int32) at_7 rfl ?_
  by_cases hc8 : md = (1 : Int32)
  · have ihc8 : md.toInt = (1 : Int) := own_eq hc8
    refine own_icmpNo 11 rfl at_8 (teq hc8).2 ?_
    refine own_iconst 12 rfl (3 : Int32) at_11 rfl ?_
    refine own_istore 14 rfl #[.val (.int p1), .val (.int p2), .val (.int p3), .val (.int p4), .val (.int md), .val (.int (3 : Int32)), .unset, .unset, .unset] at_12 rfl ?_
    refine own_goto 39 at_14 (by decide) (by decide) ?_
    refine own_iconst 40 rfl (2 : Int32) at_39 rfl ?_
    refine own_newP 42 rfl 1 2 2 "[B" (by decide) (hw _ (List.mem_of_getElem? (i := 0) rfl)) at_40 (by decide) (by decide) (by decide) rfl rfl (by decide) (by decide) (fun h1 b1 k1 z1 g_b1 E1 V1 X_b1 => ?_)
    have ne_w_EV_NO_ACTION_b1 : w_EV_NO_ACTION ≠ b1 := Nat.ne_of_lt (Nat.lt_of_lt_of_le (E_w_EV_NO_ACTION.ext O0.2).lt (Nat.le_of_eq z1.symm))
    have V1p : Arv Z h1 b1 k1 .byte (2 : Int32) [(.int (0 : Int32)), (.int (0 : Int32))] (.int (0 : Int32)) := V1.pad (pad_rep [] (.int (0 : Int32)) 2)
    refine own_astore 44 rfl #[.val (.int p1), .val (.int p2), .val (.int p3), .val (.int p4), .val (.int md), .val (.int (3 : Int32)), .val (.ref b1), .unset, .unset] at_42 rfl rfl ?_
    refine own_aload 46 rfl at_44 rfl rfl ?_
    refine own_iconst 47 rfl (0 : Int32) at_46 rfl ?_
    refine own_iloadN 48 rfl at_47 rfl ?_
    refine own_i2b 49 rfl at_48 ?_
    obtain ⟨c2, A2, q2, S2, N2, H2, G2⟩ := id V1p
    refine own_bastore 50 rfl g_b1 A2 (inb_of S2 ⟨by decide, by decide⟩) at_49 (fun h2 W2 => ?_)
    have V2 : Arv Z h2 b1 k1 .byte (2 : Int32) [(.int (nar .byte p4.toInt8.toInt32)), (.int (0 : Int32))] (.int (0 : Int32)) := Arv.set A2 q2 S2 N2 H2 G2 (fits_nar_byte _) W2 0 rfl (Nat.le_of_ble_eq_true rfl)
    refine own_aload 52 rfl at_50 rfl rfl ?_
    refine own_iconst 53 rfl (1 : Int32) at_52 rfl ?_
    refine own_iloadN 54 rfl at_53 rfl ?_
    refine own_bipush 56 rfl (8 : Int32) at_54 rfl ?_
    refine own_iushr 57 rfl at_56 ?_
    refine own_i2b 58 rfl at_57 ?_
    obtain ⟨c3, A3, q3, S3, N3, H3, G3⟩ := id V2
    refine own_bastore 59 rfl g_b1 A3 (inb_of S3 ⟨by decide, by decide⟩) at_58 (fun h3 W3 => ?_)
    have V3 : Arv Z h3 b1 k1 .byte (2 : Int32) [(.int (nar .byte p4.toInt8.toInt32)), (.int (nar .byte ((p4.toUInt32 >>> ((8 : Int32) &&& 31).toUInt32).toInt32).toInt8.toInt32))] (.int (0 : Int32)) := Arv.set A3 q3 S3 N3 H3 G3 (fits_nar_byte _) W3 1 rfl (Nat.le_of_ble_eq_true rfl)
    refine own_newO 62 rfl 2 10 (hw _ (List.mem_of_getElem? (i := 1) rfl)) (hw _ (List.mem_of_getElem? (i := 2) rfl)) (hw _ (List.mem_of_getElem? (i := 3) rfl)) at_59 rfl rfl (by decide) (by decide) (fun h4 b4 z4 g_b4 E4 X_b4 D4 => ?_)
    have ne_w_EV_NO_ACTION_b4 : w_EV_NO_ACTION ≠ b4 := Nat.ne_of_lt (Nat.lt_of_lt_of_le ((((E_w_EV_NO_ACTION.ext O0.2).ext E1).wr W2).wr W3).lt (Nat.le_of_eq z4.symm))
    have ne_b1_b4 : b1 ≠ b4 := Nat.ne_of_lt (Nat.lt_of_lt_of_le ((X_b1.wr W2).wr W3).lt (Nat.le_of_eq z4.symm))
    have F4_loadFactor : Fld Z h4 b4 "java/util/HashMap" "loadFactor" "F" (.float (0 : UInt32)) := D4 (Or.inr (hw _ (List.mem_of_getElem? (i := 18) rfl))) (ty := .float) (by decide)
    have F4_entrySet : Fld Z h4 b4 "java/util/HashMap" "entrySet" "Ljava/util/Set;" .null := D4 (Or.inl (hw _ (List.mem_of_getElem? (i := 58) rfl))) (ty := (.object "java/util/Set")) (by decide)
    have F4_modCount : Fld Z h4 b4 "java/util/HashMap" "modCount" "I" (.int (0 : Int32)) := D4 (Or.inl (hw _ (List.mem_of_getElem? (i := 107) rfl))) (ty := .int) (by decide)
    have F4_table : Fld Z h4 b4 "java/util/HashMap" "table" "[Ljava/util/HashMap$Node;" .null := D4 (Or.inl (hw _ (List.mem_of_getElem? (i := 111) rfl))) (ty := (.array (.object "java/util/HashMap$Node"))) (by decide)
    refine own_dup 63 rfl at_62 rfl ?_
    refine own_callI 66 rfl 2 10 1 [] [(.ref b4)] (y := (⟨"java/util/HashMap", "<init>", "()V"⟩ : MethodName)) rfl (hw _ (List.mem_of_getElem? (i := 4) rfl)) (hw _ (List.mem_of_getElem? (i := 5) rfl)) (hw _ (List.mem_of_getElem? (i := 3) rfl)) (hw _ (List.mem_of_getElem? (i := 6) rfl)) (by decide) (rm1 l Z a0 hw [] b4  h4 g_b4 X_b4 F4_loadFactor F4_entrySet F4_modCount F4_table ) at_63 rfl (lenOf own_pd0 rfl) rfl rfl rfl (by decide) (by decide) rfl rfl (by decide) (by decide) (own_k0 fun h5 q5 => ?_)
    obtain ⟨K5, G5_entrySet, G5_modCount, G5_table⟩ := q5
    refine own_astore 68 rfl #[.val (.int p1), .val (.int p2), .val (.int p3), .val (.int p4), .val (.int md), .val (.int (3 : Int32)), .val (.ref b1), .val (.ref b4), .unset] at_66 rfl rfl ?_
    refine own_newO 71 rfl 3 14 (hw _ (List.mem_of_getElem? (i := 19) rfl)) (hw _ (List.mem_of_getElem? (i := 20) rfl)) (hw _ (List.mem_of_getElem? (i := 21) rfl)) at_68 rfl rfl (by decide) (by decide) (fun h6 b6 z6 g_b6 E6 X_b6 D6 => ?_)
    have ne_w_EV_NO_ACTION_b6 : w_EV_NO_ACTION ≠ b6 := Nat.ne_of_lt (Nat.lt_of_lt_of_le ((((((E_w_EV_NO_ACTION.ext O0.2).ext E1).wr W2).wr W3).ext E4).keep K5).lt (Nat.le_of_eq z6.symm))
    have ne_b1_b6 : b1 ≠ b6 := Nat.ne_of_lt (Nat.lt_of_lt_of_le ((((X_b1.wr W2).wr W3).ext E4).keep K5).lt (Nat.le_of_eq z6.symm))
    have ne_b4_b6 : b4 ≠ b6 := Nat.ne_of_lt (Nat.lt_of_lt_of_le (X_b4.keep K5).lt (Nat.le_of_eq z6.symm))
    have F6_index : Fld Z h6 b6 "com/example/urd/urd/model/Event" "index" "I" (.int (0 : Int32)) := D6 (Or.inr (hw _ (List.mem_of_getElem? (i := 27) rfl))) (ty := .int) (by decide)
    have F6_type : Fld Z h6 b6 "com/example/urd/urd/model/Event" "type" "I" (.int (0 : Int32)) := D6 (Or.inr (hw _ (List.mem_of_getElem? (i := 29) rfl))) (ty := .int) (by decide)
    have F6_digests : Fld Z h6 b6 "com/example/urd/urd/model/Event" "digests" "Ljava/util/Map;" .null := D6 (Or.inr (hw _ (List.mem_of_getElem? (i := 128) rfl))) (ty := (.object "java/util/Map")) (by decide)
    have F6_data : Fld Z h6 b6 "com/example/urd/urd/model/Event" "data" "[B" .null := D6 (Or.inr (hw _ (List.mem_of_getElem? (i := 139) rfl))) (ty := (.array .byte)) (by decide)
    refine own_dup 72 rfl at_71 rfl ?_
    refine own_iloadN 73 rfl at_72 rfl ?_
    refine own_iload 75 rfl at_73 rfl ?_
    refine own_aload 77 rfl at_75 rfl rfl ?_
    refine own_aload 79 rfl at_77 rfl rfl ?_
    refine own_callI 82 rfl 7 34 1 [(.int p1), (.int (3 : Int32)), (.ref b4), (.ref b1)] [(.ref b6)] (y := (⟨"com/example/urd/urd/model/Event", "<init>", "(IILjava/util/Map;[B)V"⟩ : MethodName)) rfl (hw _ (List.mem_of_getElem? (i := 22) rfl)) (hw _ (List.mem_of_getElem? (i := 23) rfl)) (hw _ (List.mem_of_getElem? (i := 21) rfl)) (hw _ (List.mem_of_getElem? (i := 24) rfl)) (by decide) (rm4 l Z a0 hw [] b6 p1 (3 : Int32) b4 b1 k1 (.int (nar .byte p4.toInt8.toInt32)) (.int (nar .byte ((p4.toUInt32 >>> ((8 : Int32) &&& 31).toUInt32).toInt32).toInt8.toInt32)) h6 g_b6 X_b6 F6_index F6_type F6_digests F6_data g_b4 ((X_b4.keep K5).ext E6) (G5_entrySet.ext E6) (G5_modCount.ext E6) (G5_table.ext E6) ne_b4_b6 ne_b1_b6 ne_b1_b4 (((((X_b1.wr W2).wr W3).ext E4).keep K5).ext E6) (((V3.ext E4).keep K5 (ninS ne_b1_b4 nin0)).ext E6)) at_79 rfl (lenOf own_pd7 rfl) rfl rfl rfl (by decide) (by decide) rfl rfl (by decide) (by decide) (own_k0 fun h7 q7 => ?_)
    obtain ⟨K7, G7_type⟩ := q7
    refine own_astore 84 rfl #[.val (.int p1), .val (.int p2), .val (.int p3), .val (.int p4), .val (.int md), .val (.int (3 : Int32)), .val (.ref b1), .val (.ref b4), .val (.ref b6)] at_82 rfl rfl ?_
    refine own_aload 86 rfl at_84 rfl rfl ?_
    refine own_callV 89 rfl 7 34 0 [] [] (y := (⟨"com/example/urd/urd/model/Event", "isNoAction", "()Z"⟩ : MethodName)) (z := (⟨"com/example/urd/urd/model/Event", "isNoAction", "()Z"⟩ : MethodName)) (hw _ (List.mem_of_getElem? (i := 140) rfl)) (hw _ (List.mem_of_getElem? (i := 141) rfl)) (fun hZ => notFace_of_selects (args := #[]) (mvT hZ (hw _ (List.mem_of_getElem? (i := 143) rfl)))) (hw _ (List.mem_of_getElem? (i := 143) rfl)) (hw _ (List.mem_of_getElem? (i := 142) rfl)) (hw _ (List.mem_of_getElem? (i := 21) rfl)) (hw _ (List.mem_of_getElem? (i := 144) rfl)) (by decide) (X_b6.keep K7) (rm15 l Z a0 hw [] b6 (3 : Int32) w_EV_NO_ACTION h7 I G7_type) at_86 rfl (lenOf own_pd4 rfl) rfl rfl rfl (by decide) (by decide) rfl rfl (by decide) (by decide) (own_kv fun v8 h8 q8 => ?_)
    obtain ⟨rfl, e8⟩ := q8
    rw [e8]
    refine own_iload 91 rfl at_89 rfl ?_
    refine own_iconst 92 rfl (3 : Int32) at_91 rfl ?_
    refine own_icmpNo 95 rfl at_92 (teq (rfl : (3 : Int32) = (3 : Int32))).2 ?_
    refine own_iconst 96 rfl (1 : Int32) at_95 rfl ?_
    refine own_goto 100 at_96 (by decide) (by decide) ?_
    rw [show (if (3 : Int32) = 3 then (1 : Int32) else 0) = (1 : Int32) from rfl]
    refine own_icmpNo 103 rfl at_100 (teq (rfl : (1 : Int32) = (1 : Int32))).2 ?_
    refine own_iconst 104 rfl (1 : Int32) at_103 rfl ?_
    refine own_goto 108 at_104 (by decide) (by decide) ?_
    refine own_retN rfl (by simp) at_108 (by decide) (by decide) ?_
    exact ⟨_, rfl, rfl⟩
  · have ihc8 : ¬ md.toInt = (1 : Int) := own_neq hc8
    refine own_icmpYes 17 at_8 (feq hc8).2 (by decide) (by decide) ?_
    refine own_iload 19 rfl at_17 rfl ?_
    refine own_iconst 20 rfl (2 : Int32) at_19 rfl ?_
    by_cases hc20 : md = (2 : Int32)
    · have ihc20 : md.toInt = (2 : Int) := own_eq hc20
      refine own_icmpNo 23 rfl at_20 (teq hc20).2 ?_
      refine own_iconst 24 rfl (3 : Int32) at_23 rfl ?_
      refine own_iconst 25 rfl (1 : Int32) at_24 rfl ?_
      refine own_iloadN 26 rfl at_25 rfl ?_
      refine own_bipush 28 rfl (31 : Int32) at_26 rfl ?_
      refine own_iand 29 rfl at_28 ?_
      refine own_ishl 30 rfl at_29 ?_
      refine own_ixor 31 rfl at_30 ?_
      generalize ht : ((3 : Int32) ^^^ ((1 : Int32) <<< ((p2 &&& (31 : Int32)) &&& 31))) = tt
      refine own_istore 33 rfl #[.val (.int p1), .val (.int p2), .val (.int p3), .val (.int p4), .val (.int md), .val (.int tt), .unset, .unset, .unset] at_31 rfl ?_
      refine own_goto 39 at_33 (by decide) (by decide) ?_
      refine own_iconst 40 rfl (2 : Int32) at_39 rfl ?_
      refine own_newP 42 rfl 1 2 2 "[B" (by decide) (hw _ (List.mem_of_getElem? (i := 0) rfl)) at_40 (by decide) (by decide) (by decide) rfl rfl (by decide) (by decide) (fun h9 b9 k9 z9 g_b9 E9 V9 X_b9 => ?_)
      have ne_w_EV_NO_ACTION_b9 : w_EV_NO_ACTION ≠ b9 := Nat.ne_of_lt (Nat.lt_of_lt_of_le (E_w_EV_NO_ACTION.ext O0.2).lt (Nat.le_of_eq z9.symm))
      have V9p : Arv Z h9 b9 k9 .byte (2 : Int32) [(.int (0 : Int32)), (.int (0 : Int32))] (.int (0 : Int32)) := V9.pad (pad_rep [] (.int (0 : Int32)) 2)
      refine own_astore 44 rfl #[.val (.int p1), .val (.int p2), .val (.int p3), .val (.int p4), .val (.int md), .val (.int tt), .val (.ref b9), .unset, .unset] at_42 rfl rfl ?_
      refine own_aload 46 rfl at_44 rfl rfl ?_
      refine own_iconst 47 rfl (0 : Int32) at_46 rfl ?_
      refine own_iloadN 48 rfl at_47 rfl ?_
      refine own_i2b 49 rfl at_48 ?_
      obtain ⟨c10, A10, q10, S10, N10, H10, G10⟩ := id V9p
      refine own_bastore 50 rfl g_b9 A10 (inb_of S10 ⟨by decide, by decide⟩) at_49 (fun h10 W10 => ?_)
      have V10 : Arv Z h10 b9 k9 .byte (2 : Int32) [(.int (nar .byte p4.toInt8.toInt32)), (.int (0 : Int32))] (.int (0 : Int32)) := Arv.set A10 q10 S10 N10 H10 G10 (fits_nar_byte _) W10 0 rfl (Nat.le_of_ble_eq_true rfl)
      refine own_aload 52 rfl at_50 rfl rfl ?_
      refine own_iconst 53 rfl (1 : Int32) at_52 rfl ?_
      refine own_iloadN 54 rfl at_53 rfl ?_
      refine own_bipush 56 rfl (8 : Int32) at_54 rfl ?_
      refine own_iushr 57 rfl at_56 ?_
      refine own_i2b 58 rfl at_57 ?_
      obtain ⟨c11, A11, q11, S11, N11, H11, G11⟩ := id V10
      refine own_bastore 59 rfl g_b9 A11 (inb_of S11 ⟨by decide, by decide⟩) at_58 (fun h11 W11 => ?_)
      have V11 : Arv Z h11 b9 k9 .byte (2 : Int32) [(.int (nar .byte p4.toInt8.toInt32)), (.int (nar .byte ((p4.toUInt32 >>> ((8 : Int32) &&& 31).toUInt32).toInt32).toInt8.toInt32))] (.int (0 : Int32)) := Arv.set A11 q11 S11 N11 H11 G11 (fits_nar_byte _) W11 1 rfl (Nat.le_of_ble_eq_true rfl)
      refine own_newO 62 rfl 2 10 (hw _ (List.mem_of_getElem? (i := 1) rfl)) (hw _ (List.mem_of_getElem? (i := 2) rfl)) (hw _ (List.mem_of_getElem? (i := 3) rfl)) at_59 rfl rfl (by decide) (by decide) (fun h12 b12 z12 g_b12 E12 X_b12 D12 => ?_)
      have ne_w_EV_NO_ACTION_b12 : w_EV_NO_ACTION ≠ b12 := Nat.ne_of_lt (Nat.lt_of_lt_of_le ((((E_w_EV_NO_ACTION.ext O0.2).ext E9).wr W10).wr W11).lt (Nat.le_of_eq z12.symm))
      have ne_b9_b12 : b9 ≠ b12 := Nat.ne_of_lt (Nat.lt_of_lt_of_le ((X_b9.wr W10).wr W11).lt (Nat.le_of_eq z12.symm))
      have F12_loadFactor : Fld Z h12 b12 "java/util/HashMap" "loadFactor" "F" (.float (0 : UInt32)) := D12 (Or.inr (hw _ (List.mem_of_getElem? (i := 18) rfl))) (ty := .float) (by decide)
      have F12_entrySet : Fld Z h12 b12 "java/util/HashMap" "entrySet" "Ljava/util/Set;" .null := D12 (Or.inl (hw _ (List.mem_of_getElem? (i := 58) rfl))) (ty := (.object "java/util/Set")) (by decide)
      have F12_modCount : Fld Z h12 b12 "java/util/HashMap" "modCount" "I" (.int (0 : Int32)) := D12 (Or.inl (hw _ (List.mem_of_getElem? (i := 107) rfl))) (ty := .int) (by decide)
      have F12_table : Fld Z h12 b12 "java/util/HashMap" "table" "[Ljava/util/HashMap$Node;" .null := D12 (Or.inl (hw _ (List.mem_of_getElem? (i := 111) rfl))) (ty := (.array (.object "java/util/HashMap$Node"))) (by decide)
      refine own_dup 63 rfl at_62 rfl ?_
      refine own_callI 66 rfl 2 10 1 [] [(.ref b12)] (y := (⟨"java/util/HashMap", "<init>", "()V"⟩ : MethodName)) rfl (hw _ (List.mem_of_getElem? (i := 4) rfl)) (hw _ (List.mem_of_getElem? (i := 5) rfl)) (hw _ (List.mem_of_getElem? (i := 3) rfl)) (hw _ (List.mem_of_getElem? (i := 6) rfl)) (by decide) (rm1 l Z a0 hw [] b12  h12 g_b12 X_b12 F12_loadFactor F12_entrySet F12_modCount F12_table ) at_63 rfl (lenOf own_pd0 rfl) rfl rfl rfl (by decide) (by decide) rfl rfl (by decide) (by decide) (own_k0 fun h13 q13 => ?_)
      obtain ⟨K13, G13_entrySet, G13_modCount, G13_table⟩ := q13
      refine own_astore 68 rfl #[.val (.int p1), .val (.int p2), .val (.int p3), .val (.int p4), .val (.int md), .val (.int tt), .val (.ref b9), .val (.ref b12), .unset] at_66 rfl rfl ?_
      refine own_newO 71 rfl 3 14 (hw _ (List.mem_of_getElem? (i := 19) rfl)) (hw _ (List.mem_of_getElem? (i := 20) rfl)) (hw _ (List.mem_of_getElem? (i := 21) rfl)) at_68 rfl rfl (by decide) (by decide) (fun h14 b14 z14 g_b14 E14 X_b14 D14 => ?_)
      have ne_w_EV_NO_ACTION_b14 : w_EV_NO_ACTION ≠ b14 := Nat.ne_of_lt (Nat.lt_of_lt_of_le ((((((E_w_EV_NO_ACTION.ext O0.2).ext E9).wr W10).wr W11).ext E12).keep K13).lt (Nat.le_of_eq z14.symm))
      have ne_b9_b14 : b9 ≠ b14 := Nat.ne_of_lt (Nat.lt_of_lt_of_le ((((X_b9.wr W10).wr W11).ext E12).keep K13).lt (Nat.le_of_eq z14.symm))
      have ne_b12_b14 : b12 ≠ b14 := Nat.ne_of_lt (Nat.lt_of_lt_of_le (X_b12.keep K13).lt (Nat.le_of_eq z14.symm))
      have F14_index : Fld Z h14 b14 "com/example/urd/urd/model/Event" "index" "I" (.int (0 : Int32)) := D14 (Or.inr (hw _ (List.mem_of_getElem? (i := 27) rfl))) (ty := .int) (by decide)
      have F14_type : Fld Z h14 b14 "com/example/urd/urd/model/Event" "type" "I" (.int (0 : Int32)) := D14 (Or.inr (hw _ (List.mem_of_getElem? (i := 29) rfl))) (ty := .int) (by decide)
      have F14_digests : Fld Z h14 b14 "com/example/urd/urd/model/Event" "digests" "Ljava/util/Map;" .null := D14 (Or.inr (hw _ (List.mem_of_getElem? (i := 128) rfl))) (ty := (.object "java/util/Map")) (by decide)
      have F14_data : Fld Z h14 b14 "com/example/urd/urd/model/Event" "data" "[B" .null := D14 (Or.inr (hw _ (List.mem_of_getElem? (i := 139) rfl))) (ty := (.array .byte)) (by decide)
      refine own_dup 72 rfl at_71 rfl ?_
      refine own_iloadN 73 rfl at_72 rfl ?_
      refine own_iload 75 rfl at_73 rfl ?_
      refine own_aload 77 rfl at_75 rfl rfl ?_
      refine own_aload 79 rfl at_77 rfl rfl ?_
      refine own_callI 82 rfl 7 34 1 [(.int p1), (.int tt), (.ref b12), (.ref b9)] [(.ref b14)] (y := (⟨"com/example/urd/urd/model/Event", "<init>", "(IILjava/util/Map;[B)V"⟩ : MethodName)) rfl (hw _ (List.mem_of_getElem? (i := 22) rfl)) (hw _ (List.mem_of_getElem? (i := 23) rfl)) (hw _ (List.mem_of_getElem? (i := 21) rfl)) (hw _ (List.mem_of_getElem? (i := 24) rfl)) (by decide) (rm4 l Z a0 hw [] b14 p1 tt b12 b9 k9 (.int (nar .byte p4.toInt8.toInt32)) (.int (nar .byte ((p4.toUInt32 >>> ((8 : Int32) &&& 31).toUInt32).toInt32).toInt8.toInt32)) h14 g_b14 X_b14 F14_index F14_type F14_digests F14_data g_b12 ((X_b12.keep K13).ext E14) (G13_entrySet.ext E14) (G13_modCount.ext E14) (G13_table.ext E14) ne_b12_b14 ne_b9_b14 ne_b9_b12 (((((X_b9.wr W10).wr W11).ext E12).keep K13).ext E14) (((V11.ext E12).keep K13 (ninS ne_b9_b12 nin0)).ext E14)) at_79 rfl (lenOf own_pd7 rfl) rfl rfl rfl (by decide) (by decide) rfl rfl (by decide) (by decide) (own_k0 fun h15 q15 => ?_)
      obtain ⟨K15, G15_type⟩ := q15
      refine own_astore 84 rfl #[.val (.int p1), .val (.int p2), .val (.int p3), .val (.int p4), .val (.int md), .val (.int tt), .val (.ref b9), .val (.ref b12), .val (.ref b14)] at_82 rfl rfl ?_
      refine own_aload 86 rfl at_84 rfl rfl ?_
      refine own_callV 89 rfl 7 34 0 [] [] (y := (⟨"com/example/urd/urd/model/Event", "isNoAction", "()Z"⟩ : MethodName)) (z := (⟨"com/example/urd/urd/model/Event", "isNoAction", "()Z"⟩ : MethodName)) (hw _ (List.mem_of_getElem? (i := 140) rfl)) (hw _ (List.mem_of_getElem? (i := 141) rfl)) (fun hZ => notFace_of_selects (args := #[]) (mvT hZ (hw _ (List.mem_of_getElem? (i := 143) rfl)))) (hw _ (List.mem_of_getElem? (i := 143) rfl)) (hw _ (List.mem_of_getElem? (i := 142) rfl)) (hw _ (List.mem_of_getElem? (i := 21) rfl)) (hw _ (List.mem_of_getElem? (i := 144) rfl)) (by decide) (X_b14.keep K15) (rm15 l Z a0 hw [] b14 tt w_EV_NO_ACTION h15 I G15_type) at_86 rfl (lenOf own_pd4 rfl) rfl rfl rfl (by decide) (by decide) rfl rfl (by decide) (by decide) (own_kv fun v16 h16 q16 => ?_)
      obtain ⟨rfl, e16⟩ := q16
      rw [e16]
      refine own_iload 91 rfl at_89 rfl ?_
      refine own_iconst 92 rfl (3 : Int32) at_91 rfl ?_
      by_cases hc92 : tt = (3 : Int32)
      · have ihc92 : tt.toInt = (3 : Int) := own_eq hc92
        refine own_icmpNo 95 rfl at_92 (teq hc92).2 ?_
        refine own_iconst 96 rfl (1 : Int32) at_95 rfl ?_
        refine own_goto 100 at_96 (by decide) (by decide) ?_
        rw [if_pos hc92]
        refine own_icmpNo 103 rfl at_100 (teq (rfl : (1 : Int32) = (1 : Int32))).2 ?_
        refine own_iconst 104 rfl (1 : Int32) at_103 rfl ?_
        refine own_goto 108 at_104 (by decide) (by decide) ?_
        refine own_retN rfl (by simp) at_108 (by decide) (by decide) ?_
        exact ⟨_, rfl, rfl⟩
      · have ihc92 : ¬ tt.toInt = (3 : Int) := own_neq hc92
        refine own_icmpYes 99 at_92 (feq hc92).2 (by decide) (by decide) ?_
        refine own_iconst 100 rfl (0 : Int32) at_99 rfl ?_
        rw [if_neg hc92]
        refine own_icmpNo 103 rfl at_100 (teq (rfl : (0 : Int32) = (0 : Int32))).2 ?_
        refine own_iconst 104 rfl (1 : Int32) at_103 rfl ?_
        refine own_goto 108 at_104 (by decide) (by decide) ?_
        refine own_retN rfl (by simp) at_108 (by decide) (by decide) ?_
        exact ⟨_, rfl, rfl⟩
    · have ihc20 : ¬ md.toInt = (2 : Int) := own_neq hc20
      refine own_icmpYes 36 at_20 (feq hc20).2 (by decide) (by decide) ?_
      refine own_iloadN 37 rfl at_36 rfl ?_
      refine own_istore 39 rfl #[.val (.int p1), .val (.int p2), .val (.int p3), .val (.int p4), .val (.int md), .val (.int p2), .unset, .unset, .unset] at_37 rfl ?_
      refine own_iconst 40 rfl (2 : Int32) at_39 rfl ?_
      refine own_newP 42 rfl 1 2 2 "[B" (by decide) (hw _ (List.mem_of_getElem? (i := 0) rfl)) at_40 (by decide) (by decide) (by decide) rfl rfl (by decide) (by decide) (fun h17 b17 k17 z17 g_b17 E17 V17 X_b17 => ?_)
      have ne_w_EV_NO_ACTION_b17 : w_EV_NO_ACTION ≠ b17 := Nat.ne_of_lt (Nat.lt_of_lt_of_le (E_w_EV_NO_ACTION.ext O0.2).lt (Nat.le_of_eq z17.symm))
      have V17p : Arv Z h17 b17 k17 .byte (2 : Int32) [(.int (0 : Int32)), (.int (0 : Int32))] (.int (0 : Int32)) := V17.pad (pad_rep [] (.int (0 : Int32)) 2)
      refine own_astore 44 rfl #[.val (.int p1), .val (.int p2), .val (.int p3), .val (.int p4), .val (.int md), .val (.int p2), .val (.ref b17), .unset, .unset] at_42 rfl rfl ?_
      refine own_aload 46 rfl at_44 rfl rfl ?_
      refine own_iconst 47 rfl (0 : Int32) at_46 rfl ?_
      refine own_iloadN 48 rfl at_47 rfl ?_
      refine own_i2b 49 rfl at_48 ?_
      obtain ⟨c18, A18, q18, S18, N18, H18, G18⟩ := id V17p
      refine own_bastore 50 rfl g_b17 A18 (inb_of S18 ⟨by decide, by decide⟩) at_49 (fun h18 W18 => ?_)
      have V18 : Arv Z h18 b17 k17 .byte (2 : Int32) [(.int (nar .byte p4.toInt8.toInt32)), (.int (0 : Int32))] (.int (0 : Int32)) := Arv.set A18 q18 S18 N18 H18 G18 (fits_nar_byte _) W18 0 rfl (Nat.le_of_ble_eq_true rfl)
      refine own_aload 52 rfl at_50 rfl rfl ?_
      refine own_iconst 53 rfl (1 : Int32) at_52 rfl ?_
      refine own_iloadN 54 rfl at_53 rfl ?_
      refine own_bipush 56 rfl (8 : Int32) at_54 rfl ?_
      refine own_iushr 57 rfl at_56 ?_
      refine own_i2b 58 rfl at_57 ?_
      obtain ⟨c19, A19, q19, S19, N19, H19, G19⟩ := id V18
      refine own_bastore 59 rfl g_b17 A19 (inb_of S19 ⟨by decide, by decide⟩) at_58 (fun h19 W19 => ?_)
      have V19 : Arv Z h19 b17 k17 .byte (2 : Int32) [(.int (nar .byte p4.toInt8.toInt32)), (.int (nar .byte ((p4.toUInt32 >>> ((8 : Int32) &&& 31).toUInt32).toInt32).toInt8.toInt32))] (.int (0 : Int32)) := Arv.set A19 q19 S19 N19 H19 G19 (fits_nar_byte _) W19 1 rfl (Nat.le_of_ble_eq_true rfl)
      refine own_newO 62 rfl 2 10 (hw _ (List.mem_of_getElem? (i := 1) rfl)) (hw _ (List.mem_of_getElem? (i := 2) rfl)) (hw _ (List.mem_of_getElem? (i := 3) rfl)) at_59 rfl rfl (by decide) (by decide) (fun h20 b20 z20 g_b20 E20 X_b20 D20 => ?_)
      have ne_w_EV_NO_ACTION_b20 : w_EV_NO_ACTION ≠ b20 := Nat.ne_of_lt (Nat.lt_of_lt_of_le ((((E_w_EV_NO_ACTION.ext O0.2).ext E17).wr W18).wr W19).lt (Nat.le_of_eq z20.symm))
      have ne_b17_b20 : b17 ≠ b20 := Nat.ne_of_lt (Nat.lt_of_lt_of_le ((X_b17.wr W18).wr W19).lt (Nat.le_of_eq z20.symm))
      have F20_loadFactor : Fld Z h20 b20 "java/util/HashMap" "loadFactor" "F" (.float (0 : UInt32)) := D20 (Or.inr (hw _ (List.mem_of_getElem? (i := 18) rfl))) (ty := .float) (by decide)
      have F20_entrySet : Fld Z h20 b20 "java/util/HashMap" "entrySet" "Ljava/util/Set;" .null := D20 (Or.inl (hw _ (List.mem_of_getElem? (i := 58) rfl))) (ty := (.object "java/util/Set")) (by decide)
      have F20_modCount : Fld Z h20 b20 "java/util/HashMap" "modCount" "I" (.int (0 : Int32)) := D20 (Or.inl (hw _ (List.mem_of_getElem? (i := 107) rfl))) (ty := .int) (by decide)
      have F20_table : Fld Z h20 b20 "java/util/HashMap" "table" "[Ljava/util/HashMap$Node;" .null := D20 (Or.inl (hw _ (List.mem_of_getElem? (i := 111) rfl))) (ty := (.array (.object "java/util/HashMap$Node"))) (by decide)
      refine own_dup 63 rfl at_62 rfl ?_
      refine own_callI 66 rfl 2 10 1 [] [(.ref b20)] (y := (⟨"java/util/HashMap", "<init>", "()V"⟩ : MethodName)) rfl (hw _ (List.mem_of_getElem? (i := 4) rfl)) (hw _ (List.mem_of_getElem? (i := 5) rfl)) (hw _ (List.mem_of_getElem? (i := 3) rfl)) (hw _ (List.mem_of_getElem? (i := 6) rfl)) (by decide) (rm1 l Z a0 hw [] b20  h20 g_b20 X_b20 F20_loadFactor F20_entrySet F20_modCount F20_table ) at_63 rfl (lenOf own_pd0 rfl) rfl rfl rfl (by decide) (by decide) rfl rfl (by decide) (by decide) (own_k0 fun h21 q21 => ?_)
      obtain ⟨K21, G21_entrySet, G21_modCount, G21_table⟩ := q21
      refine own_astore 68 rfl #[.val (.int p1), .val (.int p2), .val (.int p3), .val (.int p4), .val (.int md), .val (.int p2), .val (.ref b17), .val (.ref b20), .unset] at_66 rfl rfl ?_
      refine own_newO 71 rfl 3 14 (hw _ (List.mem_of_getElem? (i := 19) rfl)) (hw _ (List.mem_of_getElem? (i := 20) rfl)) (hw _ (List.mem_of_getElem? (i := 21) rfl)) at_68 rfl rfl (by decide) (by decide) (fun h22 b22 z22 g_b22 E22 X_b22 D22 => ?_)
      have ne_w_EV_NO_ACTION_b22 : w_EV_NO_ACTION ≠ b22 := Nat.ne_of_lt (Nat.lt_of_lt_of_le ((((((E_w_EV_NO_ACTION.ext O0.2).ext E17).wr W18).wr W19).ext E20).keep K21).lt (Nat.le_of_eq z22.symm))
      have ne_b17_b22 : b17 ≠ b22 := Nat.ne_of_lt (Nat.lt_of_lt_of_le ((((X_b17.wr W18).wr W19).ext E20).keep K21).lt (Nat.le_of_eq z22.symm))
      have ne_b20_b22 : b20 ≠ b22 := Nat.ne_of_lt (Nat.lt_of_lt_of_le (X_b20.keep K21).lt (Nat.le_of_eq z22.symm))
      have F22_index : Fld Z h22 b22 "com/example/urd/urd/model/Event" "index" "I" (.int (0 : Int32)) := D22 (Or.inr (hw _ (List.mem_of_getElem? (i := 27) rfl))) (ty := .int) (by decide)
      have F22_type : Fld Z h22 b22 "com/example/urd/urd/model/Event" "type" "I" (.int (0 : Int32)) := D22 (Or.inr (hw _ (List.mem_of_getElem? (i := 29) rfl))) (ty := .int) (by decide)
      have F22_digests : Fld Z h22 b22 "com/example/urd/urd/model/Event" "digests" "Ljava/util/Map;" .null := D22 (Or.inr (hw _ (List.mem_of_getElem? (i := 128) rfl))) (ty := (.object "java/util/Map")) (by decide)
      have F22_data : Fld Z h22 b22 "com/example/urd/urd/model/Event" "data" "[B" .null := D22 (Or.inr (hw _ (List.mem_of_getElem? (i := 139) rfl))) (ty := (.array .byte)) (by decide)
      refine own_dup 72 rfl at_71 rfl ?_
      refine own_iloadN 73 rfl at_72 rfl ?_
      refine own_iload 75 rfl at_73 rfl ?_
      refine own_aload 77 rfl at_75 rfl rfl ?_
      refine own_aload 79 rfl at_77 rfl rfl ?_
      refine own_callI 82 rfl 7 34 1 [(.int p1), (.int p2), (.ref b20), (.ref b17)] [(.ref b22)] (y := (⟨"com/example/urd/urd/model/Event", "<init>", "(IILjava/util/Map;[B)V"⟩ : MethodName)) rfl (hw _ (List.mem_of_getElem? (i := 22) rfl)) (hw _ (List.mem_of_getElem? (i := 23) rfl)) (hw _ (List.mem_of_getElem? (i := 21) rfl)) (hw _ (List.mem_of_getElem? (i := 24) rfl)) (by decide) (rm4 l Z a0 hw [] b22 p1 p2 b20 b17 k17 (.int (nar .byte p4.toInt8.toInt32)) (.int (nar .byte ((p4.toUInt32 >>> ((8 : Int32) &&& 31).toUInt32).toInt32).toInt8.toInt32)) h22 g_b22 X_b22 F22_index F22_type F22_digests F22_data g_b20 ((X_b20.keep K21).ext E22) (G21_entrySet.ext E22) (G21_modCount.ext E22) (G21_table.ext E22) ne_b20_b22 ne_b17_b22 ne_b17_b20 (((((X_b17.wr W18).wr W19).ext E20).keep K21).ext E22) (((V19.ext E20).keep K21 (ninS ne_b17_b20 nin0)).ext E22)) at_79 rfl (lenOf own_pd7 rfl) rfl rfl rfl (by decide) (by decide) rfl rfl (by decide) (by decide) (own_k0 fun h23 q23 => ?_)
      obtain ⟨K23, G23_type⟩ := q23
      refine own_astore 84 rfl #[.val (.int p1), .val (.int p2), .val (.int p3), .val (.int p4), .val (.int md), .val (.int p2), .val (.ref b17), .val (.ref b20), .val (.ref b22)] at_82 rfl rfl ?_
      refine own_aload 86 rfl at_84 rfl rfl ?_
      refine own_callV 89 rfl 7 34 0 [] [] (y := (⟨"com/example/urd/urd/model/Event", "isNoAction", "()Z"⟩ : MethodName)) (z := (⟨"com/example/urd/urd/model/Event", "isNoAction", "()Z"⟩ : MethodName)) (hw _ (List.mem_of_getElem? (i := 140) rfl)) (hw _ (List.mem_of_getElem? (i := 141) rfl)) (fun hZ => notFace_of_selects (args := #[]) (mvT hZ (hw _ (List.mem_of_getElem? (i := 143) rfl)))) (hw _ (List.mem_of_getElem? (i := 143) rfl)) (hw _ (List.mem_of_getElem? (i := 142) rfl)) (hw _ (List.mem_of_getElem? (i := 21) rfl)) (hw _ (List.mem_of_getElem? (i := 144) rfl)) (by decide) (X_b22.keep K23) (rm15 l Z a0 hw [] b22 p2 w_EV_NO_ACTION h23 I G23_type) at_86 rfl (lenOf own_pd4 rfl) rfl rfl rfl (by decide) (by decide) rfl rfl (by decide) (by decide) (own_kv fun v24 h24 q24 => ?_)
      obtain ⟨rfl, e24⟩ := q24
      rw [e24]
      refine own_iload 91 rfl at_89 rfl ?_
      refine own_iconst 92 rfl (3 : Int32) at_91 rfl ?_
      by_cases hc92 : p2 = (3 : Int32)
      · have ihc92 : p2.toInt = (3 : Int) := own_eq hc92
        refine own_icmpNo 95 rfl at_92 (teq hc92).2 ?_
        refine own_iconst 96 rfl (1 : Int32) at_95 rfl ?_
        refine own_goto 100 at_96 (by decide) (by decide) ?_
        rw [if_pos hc92]
        refine own_icmpNo 103 rfl at_100 (teq (rfl : (1 : Int32) = (1 : Int32))).2 ?_
        refine own_iconst 104 rfl (1 : Int32) at_103 rfl ?_
        refine own_goto 108 at_104 (by decide) (by decide) ?_
        refine own_retN rfl (by simp) at_108 (by decide) (by decide) ?_
        exact ⟨_, rfl, rfl⟩
      · have ihc92 : ¬ p2.toInt = (3 : Int) := own_neq hc92
        refine own_icmpYes 99 at_92 (feq hc92).2 (by decide) (by decide) ?_
        refine own_iconst 100 rfl (0 : Int32) at_99 rfl ?_
        rw [if_neg hc92]
        refine own_icmpNo 103 rfl at_100 (teq (rfl : (0 : Int32) = (0 : Int32))).2 ?_
        refine own_iconst 104 rfl (1 : Int32) at_103 rfl ?_
        refine own_goto 108 at_104 (by decide) (by decide) ?_
        refine own_retN rfl (by simp) at_108 (by decide) (by decide) ?_
        exact ⟨_, rfl, rfl⟩
set_option maxRecDepth 65536 in
set_option maxHeartbeats 40000000 in
theorem comes_1 {Post : Tables → Env → Array Value → State → Outcome → State → Prop} (hpost : ∀ tb e args s v u, (limb_1_1.after args s (.returned v) u = true ∧ limb_1_2.after args s (.returned v) u = true ∧ True) → FrameEnd s (.returned v) u (Jvm.fieldLocs frame_1_writes args s ++ Jvm.arrayLocs frame_1_arrays args s ++ Jvm.staticLocs frame_1_statics s) 24 192 → Post tb e args s (.returned v) u) :
    ArmFor flags0 classFile x code maxLocals ret World_1 tables_1 room_1 Calls_1 rest_1 Pre_1 Post := by
  intro l hfl _ _ p e ha hc hk s m args below hf hA hF happ hP
  obtain ⟨hcalls, hrest, hpre⟩ := hP
  obtain ⟨-, -, -, hnamed, -, -, -, hat⟩ := (Spec.applies_iff hf).mp happ
  obtain ⟨hg, hn⟩ := and_e (Cond.before_iff.mp (show (Jvm.Cond.and given_1 narrow_1).before args s = true from hpre))
  obtain ⟨g0, gr0⟩ := and_e hg
  obtain ⟨g1, gr1⟩ := and_e gr0
  obtain ⟨g2, gr2⟩ := and_e gr1
  obtain ⟨g3, gr3⟩ := and_e gr2
  have g4 := gr3
  obtain ⟨w0, w1, w2, w3, rfl⟩ : ∃ w0 w1 w2 w3 : Value, args = #[w0, w1, w2, w3] := by
    have hs : args.size = 4 := by simpa [Cond.value, given_1] using g0
    obtain ⟨L⟩ := args
    match L, hs with
    | [w0, w1, w2, w3], _ => exact ⟨w0, w1, w2, w3, rfl⟩
  have hw := fun d (hd : d ∈ tables_1) => atoms_spec (ws := Jvm.Cond.code x code maxLocals ret :: tables_1) hat d (List.mem_cons_of_mem _ hd)
  have hfit : Fit s := fun {y c} hc i hi => by
    obtain ⟨ha, rfl⟩ := Array.getElem?_eq_some_iff.mp hc
    have q := List.all_eq_true.mp ((Array.all_eq_true_iff_forall_mem.mp hF) _ (Array.getElem_mem ha)) i (List.mem_range.mpr hi)
    simpa [Array.getElem?_eq_getElem hi] using q
  obtain ⟨i0, ei0⟩ := is_v g1
  obtain rfl : w0 = (.int i0) := Option.some.inj ei0
  obtain ⟨i1, ei1⟩ := is_v g2
  obtain rfl : w1 = (.int i1) := Option.some.inj ei1
  obtain ⟨i2, ei2⟩ := is_v g3
  obtain rfl : w2 = (.int i2) := Option.some.inj ei2
  obtain ⟨i3, ei3⟩ := is_v g4
  obtain rfl : w3 = (.int i3) := Option.some.inj ei3
  obtain ⟨n0, r0⟩ := and_e hn
  have n1 := r0
  obtain ⟨w_EV_NO_ACTION, ev_w_EV_NO_ACTION⟩ := exa_v n0
  have S_w_EV_NO_ACTION : Sta s s.heap "com/example/urd/urd/model/EventType" "EV_NO_ACTION" "Lcom/example/urd/urd/model/EventType;" (.ref w_EV_NO_ACTION) := Sta.start ev_w_EV_NO_ACTION (Or.inr ⟨(hw _ (List.mem_of_getElem? (i := 146) rfl)), (hw _ (List.mem_of_getElem? (i := 147) rfl))⟩)
  have E_w_EV_NO_ACTION : Exa s s.heap w_EV_NO_ACTION "com/example/urd/urd/model/EventType" := Exa.start ev_w_EV_NO_ACTION n0
  have F_w_EV_NO_ACTION_code : Fld s s.heap w_EV_NO_ACTION "com/example/urd/urd/model/EventType" "code" "I" (.int (3 : Int32)) := Fld.start (by rw [← fld_at ev_w_EV_NO_ACTION]; exact own_eqI n1)
  obtain ⟨n', o, h1, h2, h3, _, L, rfl, ⟨⟨_, rfl, rfl⟩, N, -⟩, hq⟩ := rm0 l s _ hw tables_1 i0 i1 i2 i3 w_EV_NO_ACTION s.heap (show own_Ini s w_EV_NO_ACTION from ⟨S_w_EV_NO_ACTION, E_w_EV_NO_ACTION, F_w_EV_NO_ACTION_code⟩) (Old.start s) p e ha hc hk s m _ below hf ((Spec.applies_iff_loose hf).mp happ).1 ⟨rfl, State.Warmed39.refl s, rfl⟩ trivial
  refine ⟨n', _, h1, h2, h3, hpost _ _ _ _ _ _ ⟨Cond.after_iff.mpr rfl, Cond.after_iff.mpr (eq_i res_at (Term.int_eval (1)) rfl), trivial⟩ ⟨hq.1, hq.2.1, (hq.2.2.sift fun y hy => Or.inr (N y hy)).mono (by decide) (by decide)⟩⟩
theorem main_1_1 : Claimed_1_1 := comes_1 fun _ _ _ _ _ _ h hF => ⟨h.1, hF⟩
theorem main_1_2 : Claimed_1_2 := comes_1 fun _ _ _ _ _ _ h hF => ⟨h.2.1, hF⟩
end Jvm.Pilot.@@N@@
namespace Jvm.Pilot.@@N@@
open Jvm Jvm.ClassFile Sem Op Lib Jvm.Free Jvm.Stand Jvm.Pilot.@@N@@.Jvm.D
/-! MADE BY PROGRAM (witnessworld.py) out of the Statement's table words and the real class files: 27 classes; the members and pool entries that the words name. The judged class is class 1, her method 1. -/
namespace start1
open Jvm.ClassFile
def u (s : String) : CpInfo := .utf8 (stringToUtf16 s)
/-- a pool by its gaps: so many unusable entries, then the entry; so many at the end -/
def gap : Nat → List CpInfo → List CpInfo
  | 0, r => r
  | n + 1, r => .unusable :: gap n r
def poolList (es : List (Nat × CpInfo)) (last : Nat) : List CpInfo := es.foldr (fun e r => gap e.1 (e.2 :: r)) (gap last [])
def pool (es : List (Nat × CpInfo)) (last : Nat) : Array CpInfo := ⟨poolList es last⟩
def fileOf (pool : Array CpInfo) (this : Nat) (attrs : Array Attribute := #[]) (ms : Array MethodInfo := #[]) (fl : Nat := 33) (sup : Nat := 0) (ifs : Array Nat := #[]) (fds : Array FieldInfo := #[]) : ClassFile where
  minorVersion := 0
  majorVersion := 65
  constantPool := pool
  accessFlags := fl
  thisClass := this
  superClass := sup
  interfaces := ifs
  fields := fds
  methods := ms
  attributes := attrs
def plain (name : String) (sup : Option ClassId) : Class where
  name := name
  kind := .ordinary
  loader := none
  accessFlags := 33
  super := sup
  interfaces := #[]
  cf := none
  fields := #[]
  methods := #[]
  instanceTypes := #[]
  staticTypes := #[]
  resolved := #[]
  callSites := []
  init := .initialized
  statics := none
  mirror := none

def pool0 : Array CpInfo := pool [(5, u "<init>"), (0, u "()V"), (1, .class_ 10), (1, u "java/lang/Object"), (85, u "clone"), (0, u "()Ljava/lang/Object;")] 26

def k0c0 : Code := { maxStack := 0, maxLocals := 1, code := object_method_1_code, exceptionTable := #[], attributes := #[] }
def k0m0 : Method := { name := "<init>", desc := "()V", sig := { parameters := [], returnType := none }, accessFlags := 1, code := some k0c0 }
def k0m1 : Method := { name := "clone", desc := "()Ljava/lang/Object;", sig := { parameters := [], returnType := some (.object "java/lang/Object") }, accessFlags := 260, code := none }
/-- java/lang/Object -/
def k0 : Class := { plain "java/lang/Object" none with
  accessFlags := 33
  interfaces := #[]
  cf := some (fileOf pool0 8 #[] #[{ accessFlags := 1, nameIndex := 5, descriptorIndex := 6, attributes := #[] }, { accessFlags := 260, nameIndex := 96, descriptorIndex := 97, attributes := #[] }] 33 0 #[] #[])
  fields := #[]
  methods := #[k0m0, k0m1]
  instanceTypes := #[]
  staticTypes := #[]
  resolved := Array.replicate 124 none
  statics := none }

def pool1 : Array CpInfo := pool [(2, .class_ 4), (0, .nameAndType 5 6), (0, u "java/lang/Object"), (0, u "<init>"), (0, u "()V"), (0, .class_ 8), (0, u "java/util/HashMap"), (0, .methodref 7 3), (0, .class_ 11), (0, u "com/example/urd/urd/model/Event"), (0, .methodref 10 13), (0, .nameAndType 5 14), (0, u "(IILjava/util/Map;[B)V"), (0, .methodref 10 16), (0, .nameAndType 17 18), (0, u "isNoAction"), (0, u "()Z"), (0, .class_ 20), (0, u "com/example/urd/urd/model/EventIsNoActionPinLaw"), (2, u "law"), (0, u "(IIII)Z")] 7

def k1m0 : Method := { name := "<init>", desc := "()V", sig := { parameters := [], returnType := none }, accessFlags := 1, code := none }
def k1c1 : Code := { maxStack := 6, maxLocals := 9, code := code, exceptionTable := #[], attributes := #[] }
def k1m1 : Method := { name := "law", desc := "(IIII)Z", sig := { parameters := [.int, .int, .int, .int], returnType := some .boolean }, accessFlags := 9, code := some k1c1 }
/-- com/example/urd/urd/model/EventIsNoActionPinLaw -/
def k1 : Class := { plain "com/example/urd/urd/model/EventIsNoActionPinLaw" (some 0) with
  accessFlags := 49
  interfaces := #[]
  cf := some (fileOf pool1 19 #[] #[{ accessFlags := 1, nameIndex := 5, descriptorIndex := 6, attributes := #[] }, { accessFlags := 9, nameIndex := 23, descriptorIndex := 24, attributes := #[] }] 49 2 #[] #[])
  fields := #[]
  methods := #[k1m0, k1m1]
  instanceTypes := #[]
  staticTypes := #[]
  resolved := Array.replicate 32 none
  statics := none }

def pool2 : Array CpInfo := pool [(2, .class_ 4), (1, u "java/util/Map"), (13, u "entrySet"), (0, u "()Ljava/util/Set;"), (16, .class_ 37), (0, u "java/util/Map$Entry"), (55, .class_ 94), (0, u "java/lang/Object")] 168

def k2m0 : Method := { name := "entrySet", desc := "()Ljava/util/Set;", sig := { parameters := [], returnType := some (.object "java/util/Set") }, accessFlags := 1025, code := none }
/-- java/util/Map -/
def k2 : Class := { plain "java/util/Map" (some 0) with
  accessFlags := 1537
  interfaces := #[]
  cf := some (fileOf pool2 2 #[.nestMembers #[36]] #[{ accessFlags := 1025, nameIndex := 18, descriptorIndex := 19, attributes := #[] }] 1537 93 #[] #[])
  fields := #[]
  methods := #[k2m0]
  instanceTypes := #[]
  staticTypes := #[]
  resolved := Array.replicate 263 none
  statics := none }

def pool3 : Array CpInfo := pool [(1, .methodref 2 3), (0, .class_ 4), (0, .nameAndType 5 6), (0, u "java/lang/Object"), (0, u "<init>"), (0, u "()V"), (1, .class_ 10), (1, u "java/util/AbstractMap"), (42, .class_ 54), (0, u "java/util/Map"), (9, u "keySet"), (0, u "Ljava/util/Set;"), (0, .class_ 67), (0, u "java/util/AbstractMap$1"), (5, u "values"), (0, u "Ljava/util/Collection;"), (0, .class_ 76), (0, u "java/util/AbstractMap$2"), (104, .class_ 182), (0, u "java/util/AbstractMap$ViewCollection"), (0, .class_ 184), (0, u "java/util/AbstractMap$SimpleImmutableEntry"), (0, .class_ 186), (0, u "java/util/AbstractMap$SimpleEntry"), (0, .class_ 188), (0, u "java/util/AbstractMap$2$1"), (0, .class_ 190), (0, u "java/util/AbstractMap$1$1")] 5

def k3c0 : Code := { maxStack := 1, maxLocals := 1, code := jdk_71_method_1_code, exceptionTable := #[], attributes := #[] }
def k3m0 : Method := { name := "<init>", desc := "()V", sig := { parameters := [], returnType := none }, accessFlags := 4, code := some k3c0 }
/-- java/util/AbstractMap -/
def k3 : Class := { plain "java/util/AbstractMap" (some 0) with
  accessFlags := 1057
  interfaces := #[2]
  cf := some (fileOf pool3 8 #[.nestMembers #[181, 183, 185, 75, 187, 66, 189]] #[{ accessFlags := 4, nameIndex := 5, descriptorIndex := 6, attributes := #[] }] 1057 2 #[53] #[{ accessFlags := 128, nameIndex := 64, descriptorIndex := 65, attributes := #[] }, { accessFlags := 128, nameIndex := 73, descriptorIndex := 74, attributes := #[] }])
  fields := #[{ name := "keySet", type := (.object "java/util/Set"), accessFlags := 128, slot := 0, constantValue := 0 }, { name := "values", type := (.object "java/util/Collection"), accessFlags := 128, slot := 1, constantValue := 0 }]
  methods := #[k3m0]
  instanceTypes := #[(.object "java/util/Set"), (.object "java/util/Collection")]
  staticTypes := #[]
  resolved := Array.replicate 196 none
  statics := none }

def pool4 : Array CpInfo := pool [(1, .class_ 2), (0, u "java/lang/Cloneable"), (0, .class_ 4), (0, u "java/lang/Object")] 2

/-- java/lang/Cloneable -/
def k4 : Class := { plain "java/lang/Cloneable" (some 0) with
  accessFlags := 1537
  interfaces := #[]
  cf := some (fileOf pool4 1 #[] #[] 1537 3 #[] #[])
  fields := #[]
  methods := #[]
  instanceTypes := #[]
  staticTypes := #[]
  resolved := Array.replicate 7 none
  statics := none }

def pool5 : Array CpInfo := pool [(1, .class_ 2), (0, u "java/io/Serializable"), (0, .class_ 4), (0, u "java/lang/Object")] 2

/-- java/io/Serializable -/
def k5 : Class := { plain "java/io/Serializable" (some 0) with
  accessFlags := 1537
  interfaces := #[]
  cf := some (fileOf pool5 1 #[] #[] 1537 3 #[] #[])
  fields := #[]
  methods := #[]
  instanceTypes := #[]
  staticTypes := #[]
  resolved := Array.replicate 7 none
  statics := none }

def pool6 : Array CpInfo := pool [(40, .class_ 41), (0, u "java/util/HashMap"), (1, .methodref 44 45), (0, .class_ 46), (0, .nameAndType 47 48), (0, u "java/util/AbstractMap"), (0, u "<init>"), (0, u "()V"), (32, .fieldref 40 82), (0, .nameAndType 83 84), (0, u "loadFactor"), (0, u "F"), (5, u "threshold"), (0, u "I"), (0, .float 1061158912), (8, .class_ 103), (1, u "java/util/Map"), (0, u "size"), (2, u "table"), (0, u "[Ljava/util/HashMap$Node;"), (14, u "entrySet"), (0, u "()Ljava/util/Set;"), (38, .class_ 165), (1, u "java/util/HashMap$Node"), (14, .class_ 181), (0, u "java/util/HashMap$TreeNode"), (22, u "modCount"), (37, u "Ljava/util/Set;"), (0, .class_ 244), (0, u "java/util/HashMap$KeySet"), (1, .nameAndType 47 247), (0, u "(Ljava/util/HashMap;)V"), (15, .class_ 264), (0, u "java/util/HashMap$Values"), (1, .fieldref 40 267), (0, .nameAndType 123 242), (0, .class_ 269), (0, u "java/util/HashMap$EntrySet"), (0, .methodref 268 246), (75, .class_ 348), (1, u "java/util/HashMap$UnsafeHolder"), (43, .class_ 393), (0, u "java/lang/Cloneable"), (0, .class_ 395), (0, u "java/io/Serializable"), (0, u "serialVersionUID"), (0, u "J"), (3, u "DEFAULT_INITIAL_CAPACITY"), (1, u "MAXIMUM_CAPACITY"), (0, u "DEFAULT_LOAD_FACTOR"), (0, u "TREEIFY_THRESHOLD"), (1, u "UNTREEIFY_THRESHOLD"), (1, u "MIN_TREEIFY_CAPACITY"), (186, .class_ 597), (0, u "java/util/HashMap$EntrySpliterator"), (0, .class_ 599), (0, u "java/util/HashMap$ValueSpliterator"), (0, .class_ 601), (0, u "java/util/HashMap$KeySpliterator"), (0, .class_ 603), (0, u "java/util/HashMap$HashMapSpliterator"), (0, .class_ 605), (0, u "java/util/HashMap$EntryIterator"), (0, .class_ 607), (0, u "java/util/HashMap$ValueIterator"), (0, .class_ 609), (0, u "java/util/HashMap$KeyIterator"), (0, .class_ 611), (0, u "java/util/HashMap$HashIterator")] 17

def k6c0 : Code := { maxStack := 2, maxLocals := 1, code := jdk_69_method_7_code, exceptionTable := #[], attributes := #[] }
def k6m0 : Method := { name := "<init>", desc := "()V", sig := { parameters := [], returnType := none }, accessFlags := 1, code := some k6c0 }
def k6c1 : Code := { maxStack := 4, maxLocals := 2, code := jdk_69_method_29_code, exceptionTable := #[], attributes := #[] }
def k6m1 : Method := { name := "entrySet", desc := "()Ljava/util/Set;", sig := { parameters := [], returnType := some (.object "java/util/Set") }, accessFlags := 1, code := some k6c1 }
/-- java/util/HashMap -/
def k6 : Class := { plain "java/util/HashMap" (some 3) with
  accessFlags := 33
  interfaces := #[2, 4, 5]
  cf := some (fileOf pool6 40 #[.nestMembers #[180, 596, 598, 600, 602, 604, 606, 608, 610, 346, 268, 263, 243, 163]] #[{ accessFlags := 1, nameIndex := 47, descriptorIndex := 48, attributes := #[] }, { accessFlags := 1, nameIndex := 123, descriptorIndex := 124, attributes := #[] }] 33 44 #[101, 392, 394] #[{ accessFlags := 26, nameIndex := 396, descriptorIndex := 397, attributes := #[] }, { accessFlags := 24, nameIndex := 401, descriptorIndex := 91, attributes := #[] }, { accessFlags := 24, nameIndex := 403, descriptorIndex := 91, attributes := #[] }, { accessFlags := 24, nameIndex := 404, descriptorIndex := 84, attributes := #[] }, { accessFlags := 24, nameIndex := 405, descriptorIndex := 91, attributes := #[] }, { accessFlags := 24, nameIndex := 407, descriptorIndex := 91, attributes := #[] }, { accessFlags := 24, nameIndex := 409, descriptorIndex := 91, attributes := #[] }, { accessFlags := 128, nameIndex := 107, descriptorIndex := 108, attributes := #[] }, { accessFlags := 128, nameIndex := 123, descriptorIndex := 242, attributes := #[] }, { accessFlags := 128, nameIndex := 104, descriptorIndex := 91, attributes := #[] }, { accessFlags := 128, nameIndex := 204, descriptorIndex := 91, attributes := #[] }, { accessFlags := 0, nameIndex := 90, descriptorIndex := 91, attributes := #[] }, { accessFlags := 16, nameIndex := 83, descriptorIndex := 84, attributes := #[] }])
  fields := #[{ name := "serialVersionUID", type := .long, accessFlags := 26, slot := 0, constantValue := 0 }, { name := "DEFAULT_INITIAL_CAPACITY", type := .int, accessFlags := 24, slot := 1, constantValue := 0 }, { name := "MAXIMUM_CAPACITY", type := .int, accessFlags := 24, slot := 2, constantValue := 0 }, { name := "DEFAULT_LOAD_FACTOR", type := .float, accessFlags := 24, slot := 3, constantValue := 0 }, { name := "TREEIFY_THRESHOLD", type := .int, accessFlags := 24, slot := 4, constantValue := 0 }, { name := "UNTREEIFY_THRESHOLD", type := .int, accessFlags := 24, slot := 5, constantValue := 0 }, { name := "MIN_TREEIFY_CAPACITY", type := .int, accessFlags := 24, slot := 6, constantValue := 0 }, { name := "table", type := (.array (.object "java/util/HashMap$Node")), accessFlags := 128, slot := 2, constantValue := 0 }, { name := "entrySet", type := (.object "java/util/Set"), accessFlags := 128, slot := 3, constantValue := 0 }, { name := "size", type := .int, accessFlags := 128, slot := 4, constantValue := 0 }, { name := "modCount", type := .int, accessFlags := 128, slot := 5, constantValue := 0 }, { name := "threshold", type := .int, accessFlags := 0, slot := 6, constantValue := 0 }, { name := "loadFactor", type := .float, accessFlags := 16, slot := 7, constantValue := 0 }]
  methods := #[k6m0, k6m1]
  instanceTypes := #[(.object "java/util/Set"), (.object "java/util/Collection"), (.array (.object "java/util/HashMap$Node")), (.object "java/util/Set"), .int, .int, .int, .float]
  staticTypes := #[.long, .int, .int, .float, .int, .int, .int]
  resolved := Array.replicate 629 none
  statics := none }

def pool7 : Array CpInfo := pool [(1, .methodref 2 3), (0, .class_ 4), (0, .nameAndType 5 6), (0, u "java/lang/Object"), (0, u "<init>"), (0, u "()V"), (0, .fieldref 8 9), (0, .class_ 10), (0, .nameAndType 11 12), (0, u "com/example/urd/urd/model/Event"), (0, u "index"), (0, u "I"), (0, .fieldref 8 14), (0, .nameAndType 15 12), (0, u "type"), (0, .methodref 8 17), (0, .nameAndType 18 19), (0, u "copy"), (0, u "(Ljava/util/Map;)Ljava/util/Map;"), (0, .fieldref 8 21), (0, .nameAndType 22 23), (0, u "digests"), (0, u "Ljava/util/Map;"), (0, .methodref 25 26), (0, .class_ 27), (0, .nameAndType 28 29), (0, u "[B"), (0, u "clone"), (0, u "()Ljava/lang/Object;"), (0, .fieldref 8 31), (0, .nameAndType 32 27), (0, u "data"), (0, .fieldref 34 35), (0, .class_ 36), (0, .nameAndType 37 38), (0, u "com/example/urd/urd/model/EventType"), (0, u "EV_NO_ACTION"), (0, u "Lcom/example/urd/urd/model/EventType;"), (0, .methodref 34 40), (0, .nameAndType 41 42), (0, u "code"), (0, u "()I"), (2, u "STARTUP_LOCALITY_SIGNATURE"), (2, u "isNoAction"), (0, u "()Z"), (28, .class_ 80), (1, u "java/util/Map"), (16, .class_ 98), (0, u "java/util/LinkedHashMap"), (0, .methodref 97 3), (0, .interfaceMethodref 78 101), (0, .nameAndType 102 103), (0, u "entrySet"), (0, u "()Ljava/util/Set;"), (0, .interfaceMethodref 105 106), (0, .class_ 107), (0, .nameAndType 108 109), (0, u "java/util/Set"), (0, u "iterator"), (0, u "()Ljava/util/Iterator;"), (0, .interfaceMethodref 111 112), (0, .class_ 113), (0, .nameAndType 114 49), (0, u "java/util/Iterator"), (0, u "hasNext"), (29, u "MAX_PCR_INDEX"), (4, u "(IILjava/util/Map;[B)V")] 38

def k7c0 : Code := { maxStack := 2, maxLocals := 5, code := prog_30_method_1_code, exceptionTable := #[], attributes := #[] }
def k7m0 : Method := { name := "<init>", desc := "(IILjava/util/Map;[B)V", sig := { parameters := [.int, .int, (.object "java/util/Map"), (.array .byte)], returnType := none }, accessFlags := 1, code := some k7c0 }
def k7c1 : Code := { maxStack := 2, maxLocals := 1, code := prog_30_method_4_code, exceptionTable := #[], attributes := #[] }
def k7m1 : Method := { name := "isNoAction", desc := "()Z", sig := { parameters := [], returnType := some .boolean }, accessFlags := 1, code := some k7c1 }
def k7c2 : Code := { maxStack := 3, maxLocals := 4, code := prog_30_method_9_code, exceptionTable := #[], attributes := #[] }
def k7m2 : Method := { name := "copy", desc := "(Ljava/util/Map;)Ljava/util/Map;", sig := { parameters := [(.object "java/util/Map")], returnType := some (.object "java/util/Map") }, accessFlags := 8, code := some k7c2 }
/-- com/example/urd/urd/model/Event -/
def k7 : Class := { plain "com/example/urd/urd/model/Event" (some 0) with
  accessFlags := 49
  interfaces := #[]
  cf := some (fileOf pool7 8 #[] #[{ accessFlags := 1, nameIndex := 5, descriptorIndex := 149, attributes := #[] }, { accessFlags := 1, nameIndex := 48, descriptorIndex := 49, attributes := #[] }, { accessFlags := 8, nameIndex := 18, descriptorIndex := 19, attributes := #[] }] 49 2 #[] #[{ accessFlags := 25, nameIndex := 144, descriptorIndex := 12, attributes := #[] }, { accessFlags := 26, nameIndex := 45, descriptorIndex := 27, attributes := #[] }, { accessFlags := 18, nameIndex := 11, descriptorIndex := 12, attributes := #[] }, { accessFlags := 18, nameIndex := 15, descriptorIndex := 12, attributes := #[] }, { accessFlags := 18, nameIndex := 22, descriptorIndex := 23, attributes := #[] }, { accessFlags := 18, nameIndex := 32, descriptorIndex := 27, attributes := #[] }])
  fields := #[{ name := "MAX_PCR_INDEX", type := .int, accessFlags := 25, slot := 0, constantValue := 0 }, { name := "STARTUP_LOCALITY_SIGNATURE", type := (.array .byte), accessFlags := 26, slot := 1, constantValue := 0 }, { name := "index", type := .int, accessFlags := 18, slot := 0, constantValue := 0 }, { name := "type", type := .int, accessFlags := 18, slot := 1, constantValue := 0 }, { name := "digests", type := (.object "java/util/Map"), accessFlags := 18, slot := 2, constantValue := 0 }, { name := "data", type := (.array .byte), accessFlags := 18, slot := 3, constantValue := 0 }]
  methods := #[k7m0, k7m1, k7m2]
  instanceTypes := #[.int, .int, (.object "java/util/Map"), (.array .byte)]
  staticTypes := #[.int, (.array .byte)]
  resolved := Array.replicate 188 none
  statics := none }

def pool8 : Array CpInfo := pool [(2, .class_ 4), (1, u "java/util/SequencedMap"), (38, .class_ 44), (0, u "java/util/SequencedMap$1SeqKeySet"), (3, .class_ 49), (0, u "java/util/SequencedMap$1SeqValues"), (1, .class_ 52), (0, u "java/util/SequencedMap$1SeqEntrySet"), (1, .class_ 55), (0, u "java/lang/Object"), (0, .class_ 57), (0, u "java/util/Map")] 48

/-- java/util/SequencedMap -/
def k8 : Class := { plain "java/util/SequencedMap" (some 0) with
  accessFlags := 1537
  interfaces := #[2]
  cf := some (fileOf pool8 2 #[.nestMembers #[51, 48, 43]] #[] 1537 54 #[56] #[])
  fields := #[]
  methods := #[]
  instanceTypes := #[]
  staticTypes := #[]
  resolved := Array.replicate 106 none
  statics := none }

def pool9 : Array CpInfo := pool [(1, .fieldref 2 3), (0, .class_ 4), (0, .nameAndType 5 6), (0, u "java/util/LinkedHashMap"), (0, u "putMode"), (0, u "I"), (2, u "head"), (0, u "Ljava/util/LinkedHashMap$Entry;"), (2, u "tail"), (1, .class_ 17), (1, u "java/util/LinkedHashMap$Entry"), (5, .class_ 25), (1, u "java/util/HashMap"), (1, u "()V"), (2, u "<init>"), (33, .fieldref 2 65), (0, .nameAndType 66 67), (0, u "accessOrder"), (0, u "Z"), (19, .methodref 23 88), (0, .nameAndType 30 27), (32, .class_ 122), (0, u "java/util/LinkedHashMap$LinkedKeySet"), (20, .class_ 144), (0, u "java/util/LinkedHashMap$LinkedValues"), (9, .class_ 155), (0, u "java/util/LinkedHashMap$LinkedEntrySet"), (44, .class_ 201), (0, u "java/util/LinkedHashMap$ReversedLinkedHashMapView"), (3, .class_ 206), (0, u "java/util/SequencedMap"), (0, u "serialVersionUID"), (0, u "J"), (5, u "PUT_NORM"), (1, u "PUT_FIRST"), (1, u "PUT_LAST"), (143, .class_ 363), (0, u "java/util/LinkedHashMap$LinkedEntryIterator"), (0, .class_ 365), (0, u "java/util/LinkedHashMap$LinkedValueIterator"), (0, .class_ 367), (0, u "java/util/LinkedHashMap$LinkedKeyIterator"), (0, .class_ 369), (0, u "java/util/LinkedHashMap$LinkedHashIterator")] 16

def k9c0 : Code := { maxStack := 2, maxLocals := 1, code := jdk_94_method_16_code, exceptionTable := #[], attributes := #[] }
def k9m0 : Method := { name := "<init>", desc := "()V", sig := { parameters := [], returnType := none }, accessFlags := 1, code := some k9c0 }
/-- java/util/LinkedHashMap -/
def k9 : Class := { plain "java/util/LinkedHashMap" (some 6) with
  accessFlags := 33
  interfaces := #[8]
  cf := some (fileOf pool9 2 #[.nestMembers #[200, 362, 364, 366, 368, 154, 143, 121, 15]] #[{ accessFlags := 1, nameIndex := 30, descriptorIndex := 27, attributes := #[] }] 33 23 #[205] #[{ accessFlags := 26, nameIndex := 207, descriptorIndex := 208, attributes := #[] }, { accessFlags := 128, nameIndex := 9, descriptorIndex := 10, attributes := #[] }, { accessFlags := 128, nameIndex := 13, descriptorIndex := 10, attributes := #[] }, { accessFlags := 16, nameIndex := 66, descriptorIndex := 67, attributes := #[] }, { accessFlags := 24, nameIndex := 214, descriptorIndex := 6, attributes := #[] }, { accessFlags := 24, nameIndex := 216, descriptorIndex := 6, attributes := #[] }, { accessFlags := 24, nameIndex := 218, descriptorIndex := 6, attributes := #[] }, { accessFlags := 128, nameIndex := 5, descriptorIndex := 6, attributes := #[] }])
  fields := #[{ name := "serialVersionUID", type := .long, accessFlags := 26, slot := 0, constantValue := 0 }, { name := "head", type := (.object "java/util/LinkedHashMap$Entry"), accessFlags := 128, slot := 8, constantValue := 0 }, { name := "tail", type := (.object "java/util/LinkedHashMap$Entry"), accessFlags := 128, slot := 9, constantValue := 0 }, { name := "accessOrder", type := .boolean, accessFlags := 16, slot := 10, constantValue := 0 }, { name := "PUT_NORM", type := .int, accessFlags := 24, slot := 1, constantValue := 0 }, { name := "PUT_FIRST", type := .int, accessFlags := 24, slot := 2, constantValue := 0 }, { name := "PUT_LAST", type := .int, accessFlags := 24, slot := 3, constantValue := 0 }, { name := "putMode", type := .int, accessFlags := 128, slot := 11, constantValue := 0 }]
  methods := #[k9m0]
  instanceTypes := #[(.object "java/util/Set"), (.object "java/util/Collection"), (.array (.object "java/util/HashMap$Node")), (.object "java/util/Set"), .int, .int, .int, .float, (.object "java/util/LinkedHashMap$Entry"), (.object "java/util/LinkedHashMap$Entry"), .boolean, .int]
  staticTypes := #[.long, .int, .int, .int]
  resolved := Array.replicate 386 none
  statics := none }

def pool10 : Array CpInfo := pool [(8, .class_ 10), (1, u "java/lang/Iterable"), (24, .class_ 36), (0, u "java/lang/Object")] 25

/-- java/lang/Iterable -/
def k10 : Class := { plain "java/lang/Iterable" (some 0) with
  accessFlags := 1537
  interfaces := #[]
  cf := some (fileOf pool10 8 #[] #[] 1537 35 #[] #[])
  fields := #[]
  methods := #[]
  instanceTypes := #[]
  staticTypes := #[]
  resolved := Array.replicate 62 none
  statics := none }

def pool11 : Array CpInfo := pool [(10, .class_ 12), (1, u "java/util/Collection"), (47, .class_ 61), (0, u "java/lang/Object"), (0, .class_ 63), (0, u "java/lang/Iterable")] 51

/-- java/util/Collection -/
def k11 : Class := { plain "java/util/Collection" (some 0) with
  accessFlags := 1537
  interfaces := #[10]
  cf := some (fileOf pool11 10 #[] #[] 1537 60 #[62] #[])
  fields := #[]
  methods := #[]
  instanceTypes := #[]
  staticTypes := #[]
  resolved := Array.replicate 115 none
  statics := none }

def pool12 : Array CpInfo := pool [(1, .methodref 2 3), (0, .class_ 4), (0, .nameAndType 5 6), (0, u "java/lang/Object"), (0, u "<init>"), (0, u "()V"), (1, .class_ 10), (1, u "java/util/AbstractCollection"), (66, .class_ 78), (0, u "java/util/Collection")] 81

def k12c0 : Code := { maxStack := 1, maxLocals := 1, code := jdk_22_method_1_code, exceptionTable := #[], attributes := #[] }
def k12m0 : Method := { name := "<init>", desc := "()V", sig := { parameters := [], returnType := none }, accessFlags := 4, code := some k12c0 }
/-- java/util/AbstractCollection -/
def k12 : Class := { plain "java/util/AbstractCollection" (some 0) with
  accessFlags := 1057
  interfaces := #[11]
  cf := some (fileOf pool12 8 #[] #[{ accessFlags := 4, nameIndex := 5, descriptorIndex := 6, attributes := #[] }] 1057 2 #[77] #[])
  fields := #[]
  methods := #[k12m0]
  instanceTypes := #[]
  staticTypes := #[]
  resolved := Array.replicate 160 none
  statics := none }

def pool13 : Array CpInfo := pool [(26, .class_ 27), (0, u "java/lang/Object"), (5, .class_ 34), (0, u "java/util/Set"), (1, .class_ 38), (1, u "java/util/Collection"), (22, u "iterator"), (0, u "()Ljava/util/Iterator;")] 81

def k13m0 : Method := { name := "iterator", desc := "()Ljava/util/Iterator;", sig := { parameters := [], returnType := some (.object "java/util/Iterator") }, accessFlags := 1025, code := none }
/-- java/util/Set -/
def k13 : Class := { plain "java/util/Set" (some 0) with
  accessFlags := 1537
  interfaces := #[11]
  cf := some (fileOf pool13 33 #[] #[{ accessFlags := 1025, nameIndex := 61, descriptorIndex := 62, attributes := #[] }] 1537 26 #[36] #[])
  fields := #[]
  methods := #[k13m0]
  instanceTypes := #[]
  staticTypes := #[]
  resolved := Array.replicate 144 none
  statics := none }

def pool14 : Array CpInfo := pool [(1, .methodref 2 3), (0, .class_ 4), (0, .nameAndType 5 6), (0, u "java/util/AbstractCollection"), (0, u "<init>"), (0, u "()V"), (0, .class_ 8), (0, u "java/util/Set"), (7, .class_ 17), (0, u "java/util/AbstractSet")] 78

def k14c0 : Code := { maxStack := 1, maxLocals := 1, code := jdk_91_method_1_code, exceptionTable := #[], attributes := #[] }
def k14m0 : Method := { name := "<init>", desc := "()V", sig := { parameters := [], returnType := none }, accessFlags := 4, code := some k14c0 }
/-- java/util/AbstractSet -/
def k14 : Class := { plain "java/util/AbstractSet" (some 12) with
  accessFlags := 1057
  interfaces := #[13]
  cf := some (fileOf pool14 16 #[] #[{ accessFlags := 4, nameIndex := 5, descriptorIndex := 6, attributes := #[] }] 1057 2 #[7] #[])
  fields := #[]
  methods := #[k14m0]
  instanceTypes := #[]
  staticTypes := #[]
  resolved := Array.replicate 96 none
  statics := none }

def pool15 : Array CpInfo := pool [(1, .fieldref 2 3), (0, .class_ 4), (0, .nameAndType 5 6), (0, u "java/util/HashMap$EntrySet"), (0, u "this$0"), (0, u "Ljava/util/HashMap;"), (0, .methodref 8 9), (0, .class_ 10), (0, .nameAndType 11 12), (0, u "java/util/AbstractSet"), (0, u "<init>"), (0, u "()V"), (1, .class_ 16), (1, u "java/util/HashMap"), (5, .class_ 23), (0, u "java/util/HashMap$EntryIterator"), (0, .methodref 22 25), (0, .nameAndType 11 26), (0, u "(Ljava/util/HashMap;)V"), (64, u "iterator"), (0, u "()Ljava/util/Iterator;")] 41

def k15c0 : Code := { maxStack := 2, maxLocals := 2, code := jdk_111_method_1_code, exceptionTable := #[], attributes := #[] }
def k15m0 : Method := { name := "<init>", desc := "(Ljava/util/HashMap;)V", sig := { parameters := [(.object "java/util/HashMap")], returnType := none }, accessFlags := 0, code := some k15c0 }
def k15c1 : Code := { maxStack := 3, maxLocals := 1, code := jdk_111_method_4_code, exceptionTable := #[], attributes := #[] }
def k15m1 : Method := { name := "iterator", desc := "()Ljava/util/Iterator;", sig := { parameters := [], returnType := some (.object "java/util/Iterator") }, accessFlags := 17, code := some k15c1 }
/-- java/util/HashMap$EntrySet -/
def k15 : Class := { plain "java/util/HashMap$EntrySet" (some 14) with
  accessFlags := 48
  interfaces := #[]
  cf := some (fileOf pool15 2 #[.nestHost 14] #[{ accessFlags := 0, nameIndex := 11, descriptorIndex := 26, attributes := #[] }, { accessFlags := 17, nameIndex := 91, descriptorIndex := 92, attributes := #[] }] 48 8 #[] #[{ accessFlags := 4112, nameIndex := 5, descriptorIndex := 6, attributes := #[] }])
  fields := #[{ name := "this$0", type := (.object "java/util/HashMap"), accessFlags := 4112, slot := 0, constantValue := 0 }]
  methods := #[k15m0, k15m1]
  instanceTypes := #[(.object "java/util/HashMap")]
  staticTypes := #[]
  resolved := Array.replicate 134 none
  statics := none }

def pool16 : Array CpInfo := pool [(1, .fieldref 2 3), (0, .class_ 4), (0, .nameAndType 5 6), (0, u "java/util/HashMap$HashIterator"), (0, u "this$0"), (0, u "Ljava/util/HashMap;"), (0, .methodref 8 9), (0, .class_ 10), (0, .nameAndType 11 12), (0, u "java/lang/Object"), (0, u "<init>"), (0, u "()V"), (0, .fieldref 14 15), (0, .class_ 16), (0, .nameAndType 17 18), (0, u "java/util/HashMap"), (0, u "modCount"), (0, u "I"), (0, .fieldref 2 20), (0, .nameAndType 21 18), (0, u "expectedModCount"), (0, .fieldref 14 23), (0, .nameAndType 24 25), (0, u "table"), (0, u "[Ljava/util/HashMap$Node;"), (0, .fieldref 2 27), (0, .nameAndType 28 29), (0, u "next"), (0, u "Ljava/util/HashMap$Node;"), (0, .fieldref 2 31), (0, .nameAndType 32 29), (0, u "current"), (0, .fieldref 2 34), (0, .nameAndType 35 18), (0, u "index"), (28, u "(Ljava/util/HashMap;)V"), (12, u "hasNext"), (0, u "()Z")] 12

def k16c0 : Code := { maxStack := 6, maxLocals := 3, code := jdk_99_method_1_code, exceptionTable := #[], attributes := #[] }
def k16m0 : Method := { name := "<init>", desc := "(Ljava/util/HashMap;)V", sig := { parameters := [(.object "java/util/HashMap")], returnType := none }, accessFlags := 0, code := some k16c0 }
def k16c1 : Code := { maxStack := 1, maxLocals := 1, code := jdk_99_method_2_code, exceptionTable := #[], attributes := #[] }
def k16m1 : Method := { name := "hasNext", desc := "()Z", sig := { parameters := [], returnType := some .boolean }, accessFlags := 17, code := some k16c1 }
/-- java/util/HashMap$HashIterator -/
def k16 : Class := { plain "java/util/HashMap$HashIterator" (some 0) with
  accessFlags := 1056
  interfaces := #[]
  cf := some (fileOf pool16 2 #[.nestHost 14] #[{ accessFlags := 0, nameIndex := 11, descriptorIndex := 64, attributes := #[] }, { accessFlags := 17, nameIndex := 77, descriptorIndex := 78, attributes := #[] }] 1056 8 #[] #[{ accessFlags := 0, nameIndex := 28, descriptorIndex := 29, attributes := #[] }, { accessFlags := 0, nameIndex := 32, descriptorIndex := 29, attributes := #[] }, { accessFlags := 0, nameIndex := 21, descriptorIndex := 18, attributes := #[] }, { accessFlags := 0, nameIndex := 35, descriptorIndex := 18, attributes := #[] }, { accessFlags := 4112, nameIndex := 5, descriptorIndex := 6, attributes := #[] }])
  fields := #[{ name := "next", type := (.object "java/util/HashMap$Node"), accessFlags := 0, slot := 0, constantValue := 0 }, { name := "current", type := (.object "java/util/HashMap$Node"), accessFlags := 0, slot := 1, constantValue := 0 }, { name := "expectedModCount", type := .int, accessFlags := 0, slot := 2, constantValue := 0 }, { name := "index", type := .int, accessFlags := 0, slot := 3, constantValue := 0 }, { name := "this$0", type := (.object "java/util/HashMap"), accessFlags := 4112, slot := 4, constantValue := 0 }]
  methods := #[k16m0, k16m1]
  instanceTypes := #[(.object "java/util/HashMap$Node"), (.object "java/util/HashMap$Node"), .int, .int, (.object "java/util/HashMap")]
  staticTypes := #[]
  resolved := Array.replicate 91 none
  statics := none }

def pool17 : Array CpInfo := pool [(16, .class_ 18), (1, u "java/util/Iterator"), (0, u "hasNext"), (0, u "()Z"), (10, .class_ 32), (0, u "java/lang/Object")] 20

def k17m0 : Method := { name := "hasNext", desc := "()Z", sig := { parameters := [], returnType := some .boolean }, accessFlags := 1025, code := none }
/-- java/util/Iterator -/
def k17 : Class := { plain "java/util/Iterator" (some 0) with
  accessFlags := 1537
  interfaces := #[]
  cf := some (fileOf pool17 16 #[] #[{ accessFlags := 1025, nameIndex := 19, descriptorIndex := 20, attributes := #[] }] 1537 31 #[] #[])
  fields := #[]
  methods := #[k17m0]
  instanceTypes := #[]
  staticTypes := #[]
  resolved := Array.replicate 53 none
  statics := none }

def pool18 : Array CpInfo := pool [(1, .methodref 2 3), (0, .class_ 4), (0, .nameAndType 5 6), (0, u "java/util/HashMap$HashIterator"), (0, u "<init>"), (0, u "(Ljava/util/HashMap;)V"), (1, .class_ 10), (1, u "java/util/HashMap$EntryIterator"), (6, .class_ 18), (0, u "java/util/Iterator"), (17, .class_ 37), (0, u "java/util/HashMap")] 11

def k18c0 : Code := { maxStack := 2, maxLocals := 2, code := jdk_142_method_1_code, exceptionTable := #[], attributes := #[] }
def k18m0 : Method := { name := "<init>", desc := "(Ljava/util/HashMap;)V", sig := { parameters := [(.object "java/util/HashMap")], returnType := none }, accessFlags := 0, code := some k18c0 }
/-- java/util/HashMap$EntryIterator -/
def k18 : Class := { plain "java/util/HashMap$EntryIterator" (some 16) with
  accessFlags := 48
  interfaces := #[17]
  cf := some (fileOf pool18 8 #[.nestHost 36] #[{ accessFlags := 0, nameIndex := 5, descriptorIndex := 6, attributes := #[] }] 48 2 #[17] #[])
  fields := #[]
  methods := #[k18m0]
  instanceTypes := #[(.object "java/util/HashMap$Node"), (.object "java/util/HashMap$Node"), .int, .int, (.object "java/util/HashMap")]
  staticTypes := #[]
  resolved := Array.replicate 49 none
  statics := none }

def pool19 : Array CpInfo := pool [(1, .class_ 2), (0, u "java/lang/constant/Constable"), (0, .class_ 4), (0, u "java/lang/Object")] 6

/-- java/lang/constant/Constable -/
def k19 : Class := { plain "java/lang/constant/Constable" (some 0) with
  accessFlags := 1537
  interfaces := #[]
  cf := some (fileOf pool19 1 #[] #[] 1537 3 #[] #[])
  fields := #[]
  methods := #[]
  instanceTypes := #[]
  staticTypes := #[]
  resolved := Array.replicate 11 none
  statics := none }

def pool20 : Array CpInfo := pool [(1, .class_ 2), (0, u "java/lang/Comparable"), (0, .class_ 4), (0, u "java/lang/Object")] 7

/-- java/lang/Comparable -/
def k20 : Class := { plain "java/lang/Comparable" (some 0) with
  accessFlags := 1537
  interfaces := #[]
  cf := some (fileOf pool20 1 #[] #[] 1537 3 #[] #[])
  fields := #[]
  methods := #[]
  instanceTypes := #[]
  staticTypes := #[]
  resolved := Array.replicate 12 none
  statics := none }

def pool21 : Array CpInfo := pool [(2, .class_ 4), (1, u "java/lang/Enum"), (0, u "name"), (0, u "Ljava/lang/String;"), (2, u "ordinal"), (0, u "I"), (1, .class_ 14), (1, u "java/lang/Object"), (4, u "hash"), (86, .class_ 108), (1, u "java/lang/Enum$EnumDesc"), (2, .class_ 112), (0, u "java/lang/constant/Constable"), (0, .class_ 114), (0, u "java/lang/Comparable"), (0, .class_ 116), (0, u "java/io/Serializable")] 87

/-- java/lang/Enum -/
def k21 : Class := { plain "java/lang/Enum" (some 0) with
  accessFlags := 1057
  interfaces := #[19, 20, 5]
  cf := some (fileOf pool21 2 #[.nestMembers #[106]] #[] 1057 12 #[111, 113, 115] #[{ accessFlags := 18, nameIndex := 5, descriptorIndex := 6, attributes := #[] }, { accessFlags := 18, nameIndex := 9, descriptorIndex := 10, attributes := #[] }, { accessFlags := 2, nameIndex := 19, descriptorIndex := 10, attributes := #[] }])
  fields := #[{ name := "name", type := (.object "java/lang/String"), accessFlags := 18, slot := 0, constantValue := 0 }, { name := "ordinal", type := .int, accessFlags := 18, slot := 1, constantValue := 0 }, { name := "hash", type := .int, accessFlags := 2, slot := 2, constantValue := 0 }]
  methods := #[]
  instanceTypes := #[(.object "java/lang/String"), .int, .int]
  staticTypes := #[]
  resolved := Array.replicate 204 none
  statics := none }

def pool22 : Array CpInfo := pool [(1, .class_ 2), (0, u "com/example/urd/urd/model/EventType"), (2, u "EV_PREBOOT_CERT"), (0, u "Lcom/example/urd/urd/model/EventType;"), (2, u "EV_POST_CODE"), (2, u "EV_UNUSED"), (2, u "EV_NO_ACTION"), (2, u "EV_SEPARATOR"), (2, u "EV_ACTION"), (2, u "EV_EVENT_TAG"), (2, u "EV_S_CRTM_CONTENTS"), (2, u "EV_S_CRTM_VERSION"), (2, u "EV_CPU_MICROCODE"), (2, u "EV_PLATFORM_CONFIG_FLAGS"), (2, u "EV_TABLE_OF_DEVICES"), (2, u "EV_COMPACT_HASH"), (2, u "EV_IPL"), (2, u "EV_IPL_PARTITION_DATA"), (2, u "EV_NONHOST_CODE"), (2, u "EV_NONHOST_CONFIG"), (2, u "EV_NONHOST_INFO"), (2, u "EV_OMIT_BOOT_DEVICE_EVENTS"), (2, u "EV_EFI_VARIABLE_DRIVER_CONFIG"), (2, u "EV_EFI_VARIABLE_BOOT"), (2, u "EV_EFI_BOOT_SERVICES_APPLICATION"), (2, u "EV_EFI_BOOT_SERVICES_DRIVER"), (2, u "EV_EFI_RUNTIME_SERVICES_DRIVER"), (2, u "EV_EFI_GPT_EVENT"), (2, u "EV_EFI_ACTION"), (2, u "EV_EFI_PLATFORM_FIRMWARE_BLOB"), (2, u "EV_EFI_HANDOFF_TABLES"), (2, u "EV_EFI_PLATFORM_FIRMWARE_BLOB2"), (2, u "EV_EFI_HANDOFF_TABLES2"), (2, u "EV_EFI_VARIABLE_BOOT2"), (2, u "EV_EFI_VARIABLE_AUTHORITY"), (2, u "$VALUES"), (0, u "[Lcom/example/urd/urd/model/EventType;"), (6, .class_ 112), (1, u "java/lang/Enum"), (6, .fieldref 1 120), (0, .nameAndType 121 122), (0, u "code"), (0, u "I"), (124, u "()I")] 37

def k22c0 : Code := { maxStack := 1, maxLocals := 1, code := prog_35_method_4_code, exceptionTable := #[], attributes := #[] }
def k22m0 : Method := { name := "code", desc := "()I", sig := { parameters := [], returnType := some .int }, accessFlags := 1, code := some k22c0 }
/-- com/example/urd/urd/model/EventType -/
def k22 : Class := { plain "com/example/urd/urd/model/EventType" (some 21) with
  accessFlags := 16433
  interfaces := #[]
  cf := some (fileOf pool22 1 #[] #[{ accessFlags := 1, nameIndex := 121, descriptorIndex := 247, attributes := #[] }] 16433 110 #[] #[{ accessFlags := 16409, nameIndex := 5, descriptorIndex := 6, attributes := #[] }, { accessFlags := 16409, nameIndex := 9, descriptorIndex := 6, attributes := #[] }, { accessFlags := 16409, nameIndex := 12, descriptorIndex := 6, attributes := #[] }, { accessFlags := 16409, nameIndex := 15, descriptorIndex := 6, attributes := #[] }, { accessFlags := 16409, nameIndex := 18, descriptorIndex := 6, attributes := #[] }, { accessFlags := 16409, nameIndex := 21, descriptorIndex := 6, attributes := #[] }, { accessFlags := 16409, nameIndex := 24, descriptorIndex := 6, attributes := #[] }, { accessFlags := 16409, nameIndex := 27, descriptorIndex := 6, attributes := #[] }, { accessFlags := 16409, nameIndex := 30, descriptorIndex := 6, attributes := #[] }, { accessFlags := 16409, nameIndex := 33, descriptorIndex := 6, attributes := #[] }, { accessFlags := 16409, nameIndex := 36, descriptorIndex := 6, attributes := #[] }, { accessFlags := 16409, nameIndex := 39, descriptorIndex := 6, attributes := #[] }, { accessFlags := 16409, nameIndex := 42, descriptorIndex := 6, attributes := #[] }, { accessFlags := 16409, nameIndex := 45, descriptorIndex := 6, attributes := #[] }, { accessFlags := 16409, nameIndex := 48, descriptorIndex := 6, attributes := #[] }, { accessFlags := 16409, nameIndex := 51, descriptorIndex := 6, attributes := #[] }, { accessFlags := 16409, nameIndex := 54, descriptorIndex := 6, attributes := #[] }, { accessFlags := 16409, nameIndex := 57, descriptorIndex := 6, attributes := #[] }, { accessFlags := 16409, nameIndex := 60, descriptorIndex := 6, attributes := #[] }, { accessFlags := 16409, nameIndex := 63, descriptorIndex := 6, attributes := #[] }, { accessFlags := 16409, nameIndex := 66, descriptorIndex := 6, attributes := #[] }, { accessFlags := 16409, nameIndex := 69, descriptorIndex := 6, attributes := #[] }, { accessFlags := 16409, nameIndex := 72, descriptorIndex := 6, attributes := #[] }, { accessFlags := 16409, nameIndex := 75, descriptorIndex := 6, attributes := #[] }, { accessFlags := 16409, nameIndex := 78, descriptorIndex := 6, attributes := #[] }, { accessFlags := 16409, nameIndex := 81, descriptorIndex := 6, attributes := #[] }, { accessFlags := 16409, nameIndex := 84, descriptorIndex := 6, attributes := #[] }, { accessFlags := 16409, nameIndex := 87, descriptorIndex := 6, attributes := #[] }, { accessFlags := 16409, nameIndex := 90, descriptorIndex := 6, attributes := #[] }, { accessFlags := 16409, nameIndex := 93, descriptorIndex := 6, attributes := #[] }, { accessFlags := 16409, nameIndex := 96, descriptorIndex := 6, attributes := #[] }, { accessFlags := 16409, nameIndex := 99, descriptorIndex := 6, attributes := #[] }, { accessFlags := 18, nameIndex := 121, descriptorIndex := 122, attributes := #[] }, { accessFlags := 4122, nameIndex := 102, descriptorIndex := 103, attributes := #[] }])
  fields := #[{ name := "EV_PREBOOT_CERT", type := (.object "com/example/urd/urd/model/EventType"), accessFlags := 16409, slot := 0, constantValue := 0 }, { name := "EV_POST_CODE", type := (.object "com/example/urd/urd/model/EventType"), accessFlags := 16409, slot := 1, constantValue := 0 }, { name := "EV_UNUSED", type := (.object "com/example/urd/urd/model/EventType"), accessFlags := 16409, slot := 2, constantValue := 0 }, { name := "EV_NO_ACTION", type := (.object "com/example/urd/urd/model/EventType"), accessFlags := 16409, slot := 3, constantValue := 0 }, { name := "EV_SEPARATOR", type := (.object "com/example/urd/urd/model/EventType"), accessFlags := 16409, slot := 4, constantValue := 0 }, { name := "EV_ACTION", type := (.object "com/example/urd/urd/model/EventType"), accessFlags := 16409, slot := 5, constantValue := 0 }, { name := "EV_EVENT_TAG", type := (.object "com/example/urd/urd/model/EventType"), accessFlags := 16409, slot := 6, constantValue := 0 }, { name := "EV_S_CRTM_CONTENTS", type := (.object "com/example/urd/urd/model/EventType"), accessFlags := 16409, slot := 7, constantValue := 0 }, { name := "EV_S_CRTM_VERSION", type := (.object "com/example/urd/urd/model/EventType"), accessFlags := 16409, slot := 8, constantValue := 0 }, { name := "EV_CPU_MICROCODE", type := (.object "com/example/urd/urd/model/EventType"), accessFlags := 16409, slot := 9, constantValue := 0 }, { name := "EV_PLATFORM_CONFIG_FLAGS", type := (.object "com/example/urd/urd/model/EventType"), accessFlags := 16409, slot := 10, constantValue := 0 }, { name := "EV_TABLE_OF_DEVICES", type := (.object "com/example/urd/urd/model/EventType"), accessFlags := 16409, slot := 11, constantValue := 0 }, { name := "EV_COMPACT_HASH", type := (.object "com/example/urd/urd/model/EventType"), accessFlags := 16409, slot := 12, constantValue := 0 }, { name := "EV_IPL", type := (.object "com/example/urd/urd/model/EventType"), accessFlags := 16409, slot := 13, constantValue := 0 }, { name := "EV_IPL_PARTITION_DATA", type := (.object "com/example/urd/urd/model/EventType"), accessFlags := 16409, slot := 14, constantValue := 0 }, { name := "EV_NONHOST_CODE", type := (.object "com/example/urd/urd/model/EventType"), accessFlags := 16409, slot := 15, constantValue := 0 }, { name := "EV_NONHOST_CONFIG", type := (.object "com/example/urd/urd/model/EventType"), accessFlags := 16409, slot := 16, constantValue := 0 }, { name := "EV_NONHOST_INFO", type := (.object "com/example/urd/urd/model/EventType"), accessFlags := 16409, slot := 17, constantValue := 0 }, { name := "EV_OMIT_BOOT_DEVICE_EVENTS", type := (.object "com/example/urd/urd/model/EventType"), accessFlags := 16409, slot := 18, constantValue := 0 }, { name := "EV_EFI_VARIABLE_DRIVER_CONFIG", type := (.object "com/example/urd/urd/model/EventType"), accessFlags := 16409, slot := 19, constantValue := 0 }, { name := "EV_EFI_VARIABLE_BOOT", type := (.object "com/example/urd/urd/model/EventType"), accessFlags := 16409, slot := 20, constantValue := 0 }, { name := "EV_EFI_BOOT_SERVICES_APPLICATION", type := (.object "com/example/urd/urd/model/EventType"), accessFlags := 16409, slot := 21, constantValue := 0 }, { name := "EV_EFI_BOOT_SERVICES_DRIVER", type := (.object "com/example/urd/urd/model/EventType"), accessFlags := 16409, slot := 22, constantValue := 0 }, { name := "EV_EFI_RUNTIME_SERVICES_DRIVER", type := (.object "com/example/urd/urd/model/EventType"), accessFlags := 16409, slot := 23, constantValue := 0 }, { name := "EV_EFI_GPT_EVENT", type := (.object "com/example/urd/urd/model/EventType"), accessFlags := 16409, slot := 24, constantValue := 0 }, { name := "EV_EFI_ACTION", type := (.object "com/example/urd/urd/model/EventType"), accessFlags := 16409, slot := 25, constantValue := 0 }, { name := "EV_EFI_PLATFORM_FIRMWARE_BLOB", type := (.object "com/example/urd/urd/model/EventType"), accessFlags := 16409, slot := 26, constantValue := 0 }, { name := "EV_EFI_HANDOFF_TABLES", type := (.object "com/example/urd/urd/model/EventType"), accessFlags := 16409, slot := 27, constantValue := 0 }, { name := "EV_EFI_PLATFORM_FIRMWARE_BLOB2", type := (.object "com/example/urd/urd/model/EventType"), accessFlags := 16409, slot := 28, constantValue := 0 }, { name := "EV_EFI_HANDOFF_TABLES2", type := (.object "com/example/urd/urd/model/EventType"), accessFlags := 16409, slot := 29, constantValue := 0 }, { name := "EV_EFI_VARIABLE_BOOT2", type := (.object "com/example/urd/urd/model/EventType"), accessFlags := 16409, slot := 30, constantValue := 0 }, { name := "EV_EFI_VARIABLE_AUTHORITY", type := (.object "com/example/urd/urd/model/EventType"), accessFlags := 16409, slot := 31, constantValue := 0 }, { name := "code", type := .int, accessFlags := 18, slot := 3, constantValue := 0 }, { name := "$VALUES", type := (.array (.object "com/example/urd/urd/model/EventType")), accessFlags := 4122, slot := 32, constantValue := 0 }]
  methods := #[k22m0]
  instanceTypes := #[(.object "java/lang/String"), .int, .int, .int]
  staticTypes := #[(.object "com/example/urd/urd/model/EventType"), (.object "com/example/urd/urd/model/EventType"), (.object "com/example/urd/urd/model/EventType"), (.object "com/example/urd/urd/model/EventType"), (.object "com/example/urd/urd/model/EventType"), (.object "com/example/urd/urd/model/EventType"), (.object "com/example/urd/urd/model/EventType"), (.object "com/example/urd/urd/model/EventType"), (.object "com/example/urd/urd/model/EventType"), (.object "com/example/urd/urd/model/EventType"), (.object "com/example/urd/urd/model/EventType"), (.object "com/example/urd/urd/model/EventType"), (.object "com/example/urd/urd/model/EventType"), (.object "com/example/urd/urd/model/EventType"), (.object "com/example/urd/urd/model/EventType"), (.object "com/example/urd/urd/model/EventType"), (.object "com/example/urd/urd/model/EventType"), (.object "com/example/urd/urd/model/EventType"), (.object "com/example/urd/urd/model/EventType"), (.object "com/example/urd/urd/model/EventType"), (.object "com/example/urd/urd/model/EventType"), (.object "com/example/urd/urd/model/EventType"), (.object "com/example/urd/urd/model/EventType"), (.object "com/example/urd/urd/model/EventType"), (.object "com/example/urd/urd/model/EventType"), (.object "com/example/urd/urd/model/EventType"), (.object "com/example/urd/urd/model/EventType"), (.object "com/example/urd/urd/model/EventType"), (.object "com/example/urd/urd/model/EventType"), (.object "com/example/urd/urd/model/EventType"), (.object "com/example/urd/urd/model/EventType"), (.object "com/example/urd/urd/model/EventType"), (.array (.object "com/example/urd/urd/model/EventType"))]
  resolved := Array.replicate 285 none
  statics := some 0 }

/-- the primitive byte -/
def k23 : Class := { plain "byte" none with kind := .primitive 'B', accessFlags := 0x411 }
/-- [B -/
def k24 : Class := { plain "[B" (some 0) with kind := .array 23 .byte, interfaces := #[4, 5], accessFlags := 1041 }

/-- the primitive int -/
def k25 : Class := { plain "int" none with kind := .primitive 'I', accessFlags := 0x411 }
/-- [I -/
def k26 : Class := { plain "[I" (some 0) with kind := .array 25 .int, interfaces := #[4, 5], accessFlags := 1041 }

def heap : Heap := #[{ cls := 22, slots := #[.null, .null, .null, .ref 1, .null, .null, .null, .null, .null, .null, .null, .null, .null, .null, .null, .null, .null, .null, .null, .null, .null, .null, .null, .null, .null, .null, .null, .null, .null, .null, .null, .null, .null], vm := .statics 22 },
  { cls := 22, slots := #[.null, .int 0, .int 0, .int 3], vm := .none }]
def classes : Array Class := #[k0, k1, k2, k3, k4, k5, k6, k7, k8, k9, k10, k11, k12, k13, k14, k15, k16, k17, k18, k19, k20, k21, k22, k23, k24, k25, k26]
def interned : List (Array UInt16 × Addr) := []
def slotsUsed : Nat := 37
def theMethod : MethodId := ⟨1, 1⟩
def args0 : Array Value := #[.int 5, .int 1, .int 2, .int 7]
def aboutOver (below : List Frame) : State where
  vm := { classes := classes, interned := interned.toArray }
  heap := heap
  slotsUsed := slotsUsed
  threads := #[{ frames := .invoking theMethod args0 :: below }]
def below0 : List Frame := [.native { method := ⟨0, 0⟩, args := #[] }]
def about1 : State := aboutOver below0
def p0 : Program := .bare "" "" ""
def e0 : Env := launch0.env 0 0 0
theorem w_frames : about1.frames = Frame.invoking theMethod args0 :: below0 := rfl
set_option maxRecDepth 65536 in
theorem w_args : argsFit about1.vm theMethod args0 = true := by decide +kernel
set_option maxRecDepth 65536 in
theorem w_heap : heapFits about1 = true := by decide +kernel
set_option maxRecDepth 65536 in
theorem w_runnable : about1.curStatus? = some .runnable := by decide +kernel
set_option maxRecDepth 65536 in
theorem w_alone : about1.alone = true := by decide +kernel
set_option maxRecDepth 65536 in
theorem w_named : about1.methodNamed? x = some theMethod := by decide +kernel
set_option maxRecDepth 65536 in
theorem w_hears : about1.hears theMethod below0 = true := by decide +kernel
set_option maxRecDepth 65536 in
theorem w_ripe : about1.ripe theMethod args0 below0 = true := by decide +kernel
theorem w_running : about1.status = .running := rfl
set_option maxRecDepth 65536 in
theorem w_room : about1.hasRoom e0.platform room_1 = true :=
  launch0.hasRoom_least _ room_1 (by decide +kernel) (by decide +kernel) (by decide +kernel) (by decide +kernel) (by decide +kernel) (by decide +kernel)
theorem allAtoms_all (ts : List Jvm.Cond) (a : Array Jvm.Value) (st : Jvm.State) : (allAtoms ts).before a st = ts.all (fun c => c.before a st) := by
  induction ts with
  | nil => rfl
  | cons c t ih =>
    show (Jvm.Cond.and c (allAtoms t)).before a st = _
    rw [Jvm.Cond.before_and, ih, List.all_cons]
def words1 : List Jvm.Cond := Jvm.Cond.code x code maxLocals ret :: tables_1
/-- a 'code' word, met by the world's own term for the bytes: nothing is compared byte by byte -/
theorem code_word {y : MethodName} {bytes : ByteArray} {mx : Nat} {rt : Option FieldType} {a : Array Value} {s : State} {m : MethodId} {meth : Method} {c : Code} (h1 : s.methodNamed? y = some m) (h2 : s.vm.method? m = some meth) (h3 : meth.code = some c) (h4 : c.code = bytes)
    (h5 : (c.maxLocals == mx && c.exceptionTable.isEmpty && decide (c.maxStack ≤ mostOperands) && decide (meth.sig.returnType = rt) && !meth.locks && decide (parseMethodDescriptor y.desc = some meth.sig)) = true) : (Jvm.Cond.code y bytes mx rt).before a s = true := by
  simp only [Bool.and_eq_true, beq_iff_eq, Bool.not_eq_true', decide_eq_true_eq] at h5
  obtain ⟨⟨⟨⟨⟨g1, g2⟩, g3⟩, g4⟩, g5⟩, g6⟩ := h5
  simp [Cond.before, Cond.holds, Cond.value, h1, h2, h3, h4, g1, g2, g3, g4, g5, g6]
def isCode : Jvm.Cond → Bool
  | .code _ _ _ _ => true
  | _ => false
theorem all_split {L : List Jvm.Cond} {P : Jvm.Cond → Bool} (h1 : L.all (fun c => isCode c || P c) = true) (h2 : ∀ c ∈ L.filter isCode, P c = true) : L.all P = true := by
  refine List.all_eq_true.mpr fun c hc => ?_
  have h := List.all_eq_true.mp h1 c hc
  rcases Bool.eq_false_or_eq_true (isCode c) with hi | hi
  · exact h2 c (List.mem_filter.mpr ⟨hc, hi⟩)
  · simpa [hi] using h
set_option maxRecDepth 65536 in
theorem w_c0 : (Jvm.Cond.code x code maxLocals ret).before args0 about1 = true := code_word (m := ⟨1, 1⟩) (meth := k1m1) (c := k1c1) (by decide +kernel) rfl rfl rfl (by decide +kernel)
set_option maxRecDepth 65536 in
theorem w_c1 : (Jvm.Cond.code ({ cls := "java/util/HashMap", name := "<init>", desc := "()V" } : Jvm.MethodName) jdk_69_method_7_code (1 : Nat) (Option.none : Option Jvm.ClassFile.FieldType)).before args0 about1 = true := code_word (m := ⟨6, 0⟩) (meth := k6m0) (c := k6c0) (by decide +kernel) rfl rfl rfl (by decide +kernel)
set_option maxRecDepth 65536 in
theorem w_c2 : (Jvm.Cond.code ({ cls := "java/util/AbstractMap", name := "<init>", desc := "()V" } : Jvm.MethodName) jdk_71_method_1_code (1 : Nat) (Option.none : Option Jvm.ClassFile.FieldType)).before args0 about1 = true := code_word (m := ⟨3, 0⟩) (meth := k3m0) (c := k3c0) (by decide +kernel) rfl rfl rfl (by decide +kernel)
set_option maxRecDepth 65536 in
theorem w_c3 : (Jvm.Cond.code ({ cls := "java/lang/Object", name := "<init>", desc := "()V" } : Jvm.MethodName) object_method_1_code (1 : Nat) (Option.none : Option Jvm.ClassFile.FieldType)).before args0 about1 = true := code_word (m := ⟨0, 0⟩) (meth := k0m0) (c := k0c0) (by decide +kernel) rfl rfl rfl (by decide +kernel)
set_option maxRecDepth 65536 in
theorem w_c4 : (Jvm.Cond.code ({ cls := "com/example/urd/urd/model/Event", name := "<init>", desc := "(IILjava/util/Map;[B)V" } : Jvm.MethodName) prog_30_method_1_code (5 : Nat) (Option.none : Option Jvm.ClassFile.FieldType)).before args0 about1 = true := code_word (m := ⟨7, 0⟩) (meth := k7m0) (c := k7c0) (by decide +kernel) rfl rfl rfl (by decide +kernel)
set_option maxRecDepth 65536 in
theorem w_c5 : (Jvm.Cond.code ({ cls := "com/example/urd/urd/model/Event", name := "copy", desc := "(Ljava/util/Map;)Ljava/util/Map;" } : Jvm.MethodName) prog_30_method_9_code (4 : Nat) (Option.some (Jvm.ClassFile.FieldType.object "java/util/Map"))).before args0 about1 = true := code_word (m := ⟨7, 2⟩) (meth := k7m2) (c := k7c2) (by decide +kernel) rfl rfl rfl (by decide +kernel)
set_option maxRecDepth 65536 in
theorem w_c6 : (Jvm.Cond.code ({ cls := "java/util/LinkedHashMap", name := "<init>", desc := "()V" } : Jvm.MethodName) jdk_94_method_16_code (1 : Nat) (Option.none : Option Jvm.ClassFile.FieldType)).before args0 about1 = true := code_word (m := ⟨9, 0⟩) (meth := k9m0) (c := k9c0) (by decide +kernel) rfl rfl rfl (by decide +kernel)
set_option maxRecDepth 65536 in
theorem w_c7 : (Jvm.Cond.code ({ cls := "java/util/HashMap", name := "entrySet", desc := "()Ljava/util/Set;" } : Jvm.MethodName) jdk_69_method_29_code (2 : Nat) (Option.some (Jvm.ClassFile.FieldType.object "java/util/Set"))).before args0 about1 = true := code_word (m := ⟨6, 1⟩) (meth := k6m1) (c := k6c1) (by decide +kernel) rfl rfl rfl (by decide +kernel)
set_option maxRecDepth 65536 in
theorem w_c8 : (Jvm.Cond.code ({ cls := "java/util/HashMap$EntrySet", name := "<init>", desc := "(Ljava/util/HashMap;)V" } : Jvm.MethodName) jdk_111_method_1_code (2 : Nat) (Option.none : Option Jvm.ClassFile.FieldType)).before args0 about1 = true := code_word (m := ⟨15, 0⟩) (meth := k15m0) (c := k15c0) (by decide +kernel) rfl rfl rfl (by decide +kernel)
set_option maxRecDepth 65536 in
theorem w_c9 : (Jvm.Cond.code ({ cls := "java/util/AbstractSet", name := "<init>", desc := "()V" } : Jvm.MethodName) jdk_91_method_1_code (1 : Nat) (Option.none : Option Jvm.ClassFile.FieldType)).before args0 about1 = true := code_word (m := ⟨14, 0⟩) (meth := k14m0) (c := k14c0) (by decide +kernel) rfl rfl rfl (by decide +kernel)
set_option maxRecDepth 65536 in
theorem w_c10 : (Jvm.Cond.code ({ cls := "java/util/AbstractCollection", name := "<init>", desc := "()V" } : Jvm.MethodName) jdk_22_method_1_code (1 : Nat) (Option.none : Option Jvm.ClassFile.FieldType)).before args0 about1 = true := code_word (m := ⟨12, 0⟩) (meth := k12m0) (c := k12c0) (by decide +kernel) rfl rfl rfl (by decide +kernel)
set_option maxRecDepth 65536 in
theorem w_c11 : (Jvm.Cond.code ({ cls := "java/util/HashMap$EntrySet", name := "iterator", desc := "()Ljava/util/Iterator;" } : Jvm.MethodName) jdk_111_method_4_code (1 : Nat) (Option.some (Jvm.ClassFile.FieldType.object "java/util/Iterator"))).before args0 about1 = true := code_word (m := ⟨15, 1⟩) (meth := k15m1) (c := k15c1) (by decide +kernel) rfl rfl rfl (by decide +kernel)
set_option maxRecDepth 65536 in
theorem w_c12 : (Jvm.Cond.code ({ cls := "java/util/HashMap$EntryIterator", name := "<init>", desc := "(Ljava/util/HashMap;)V" } : Jvm.MethodName) jdk_142_method_1_code (2 : Nat) (Option.none : Option Jvm.ClassFile.FieldType)).before args0 about1 = true := code_word (m := ⟨18, 0⟩) (meth := k18m0) (c := k18c0) (by decide +kernel) rfl rfl rfl (by decide +kernel)
set_option maxRecDepth 65536 in
theorem w_c13 : (Jvm.Cond.code ({ cls := "java/util/HashMap$HashIterator", name := "<init>", desc := "(Ljava/util/HashMap;)V" } : Jvm.MethodName) jdk_99_method_1_code (3 : Nat) (Option.none : Option Jvm.ClassFile.FieldType)).before args0 about1 = true := code_word (m := ⟨16, 0⟩) (meth := k16m0) (c := k16c0) (by decide +kernel) rfl rfl rfl (by decide +kernel)
set_option maxRecDepth 65536 in
theorem w_c14 : (Jvm.Cond.code ({ cls := "java/util/HashMap$HashIterator", name := "hasNext", desc := "()Z" } : Jvm.MethodName) jdk_99_method_2_code (1 : Nat) (Option.some Jvm.ClassFile.FieldType.boolean)).before args0 about1 = true := code_word (m := ⟨16, 1⟩) (meth := k16m1) (c := k16c1) (by decide +kernel) rfl rfl rfl (by decide +kernel)
set_option maxRecDepth 65536 in
theorem w_c15 : (Jvm.Cond.code ({ cls := "com/example/urd/urd/model/Event", name := "isNoAction", desc := "()Z" } : Jvm.MethodName) prog_30_method_4_code (1 : Nat) (Option.some Jvm.ClassFile.FieldType.boolean)).before args0 about1 = true := code_word (m := ⟨7, 1⟩) (meth := k7m1) (c := k7c1) (by decide +kernel) rfl rfl rfl (by decide +kernel)
set_option maxRecDepth 65536 in
theorem w_c16 : (Jvm.Cond.code ({ cls := "com/example/urd/urd/model/EventType", name := "code", desc := "()I" } : Jvm.MethodName) prog_35_method_4_code (1 : Nat) (Option.some Jvm.ClassFile.FieldType.int)).before args0 about1 = true := code_word (m := ⟨22, 0⟩) (meth := k22m0) (c := k22c0) (by decide +kernel) rfl rfl rfl (by decide +kernel)
def codes1 : List Jvm.Cond := [Jvm.Cond.code x code maxLocals ret, Jvm.Cond.code ({ cls := "java/util/HashMap", name := "<init>", desc := "()V" } : Jvm.MethodName) jdk_69_method_7_code (1 : Nat) (Option.none : Option Jvm.ClassFile.FieldType), Jvm.Cond.code ({ cls := "java/util/AbstractMap", name := "<init>", desc := "()V" } : Jvm.MethodName) jdk_71_method_1_code (1 : Nat) (Option.none : Option Jvm.ClassFile.FieldType), Jvm.Cond.code ({ cls := "java/lang/Object", name := "<init>", desc := "()V" } : Jvm.MethodName) object_method_1_code (1 : Nat) (Option.none : Option Jvm.ClassFile.FieldType), Jvm.Cond.code ({ cls := "com/example/urd/urd/model/Event", name := "<init>", desc := "(IILjava/util/Map;[B)V" } : Jvm.MethodName) prog_30_method_1_code (5 : Nat) (Option.none : Option Jvm.ClassFile.FieldType), Jvm.Cond.code ({ cls := "com/example/urd/urd/model/Event", name := "copy", desc := "(Ljava/util/Map;)Ljava/util/Map;" } : Jvm.MethodName) prog_30_method_9_code (4 : Nat) (Option.some (Jvm.ClassFile.FieldType.object "java/util/Map")), Jvm.Cond.code ({ cls := "java/util/LinkedHashMap", name := "<init>", desc := "()V" } : Jvm.MethodName) jdk_94_method_16_code (1 : Nat) (Option.none : Option Jvm.ClassFile.FieldType), Jvm.Cond.code ({ cls := "java/util/HashMap", name := "entrySet", desc := "()Ljava/util/Set;" } : Jvm.MethodName) jdk_69_method_29_code (2 : Nat) (Option.some (Jvm.ClassFile.FieldType.object "java/util/Set")), Jvm.Cond.code ({ cls := "java/util/HashMap$EntrySet", name := "<init>", desc := "(Ljava/util/HashMap;)V" } : Jvm.MethodName) jdk_111_method_1_code (2 : Nat) (Option.none : Option Jvm.ClassFile.FieldType), Jvm.Cond.code ({ cls := "java/util/AbstractSet", name := "<init>", desc := "()V" } : Jvm.MethodName) jdk_91_method_1_code (1 : Nat) (Option.none : Option Jvm.ClassFile.FieldType), Jvm.Cond.code ({ cls := "java/util/AbstractCollection", name := "<init>", desc := "()V" } : Jvm.MethodName) jdk_22_method_1_code (1 : Nat) (Option.none : Option Jvm.ClassFile.FieldType), Jvm.Cond.code ({ cls := "java/util/HashMap$EntrySet", name := "iterator", desc := "()Ljava/util/Iterator;" } : Jvm.MethodName) jdk_111_method_4_code (1 : Nat) (Option.some (Jvm.ClassFile.FieldType.object "java/util/Iterator")), Jvm.Cond.code ({ cls := "java/util/HashMap$EntryIterator", name := "<init>", desc := "(Ljava/util/HashMap;)V" } : Jvm.MethodName) jdk_142_method_1_code (2 : Nat) (Option.none : Option Jvm.ClassFile.FieldType), Jvm.Cond.code ({ cls := "java/util/HashMap$HashIterator", name := "<init>", desc := "(Ljava/util/HashMap;)V" } : Jvm.MethodName) jdk_99_method_1_code (3 : Nat) (Option.none : Option Jvm.ClassFile.FieldType), Jvm.Cond.code ({ cls := "java/util/HashMap$HashIterator", name := "hasNext", desc := "()Z" } : Jvm.MethodName) jdk_99_method_2_code (1 : Nat) (Option.some Jvm.ClassFile.FieldType.boolean), Jvm.Cond.code ({ cls := "com/example/urd/urd/model/Event", name := "isNoAction", desc := "()Z" } : Jvm.MethodName) prog_30_method_4_code (1 : Nat) (Option.some Jvm.ClassFile.FieldType.boolean), Jvm.Cond.code ({ cls := "com/example/urd/urd/model/EventType", name := "code", desc := "()I" } : Jvm.MethodName) prog_35_method_4_code (1 : Nat) (Option.some Jvm.ClassFile.FieldType.int)]
set_option maxRecDepth 65536 in
theorem codes_eq : words1.filter isCode = codes1 := rfl
theorem w_codes : ∀ c ∈ words1.filter isCode, c.before args0 about1 = true := by
  rw [codes_eq]
  intro c hc
  simp only [codes1, List.mem_cons, List.not_mem_nil, or_false] at hc
  rcases hc with rfl | rfl | rfl | rfl | rfl | rfl | rfl | rfl | rfl | rfl | rfl | rfl | rfl | rfl | rfl | rfl | rfl
  · exact w_c0
  · exact w_c1
  · exact w_c2
  · exact w_c3
  · exact w_c4
  · exact w_c5
  · exact w_c6
  · exact w_c7
  · exact w_c8
  · exact w_c9
  · exact w_c10
  · exact w_c11
  · exact w_c12
  · exact w_c13
  · exact w_c14
  · exact w_c15
  · exact w_c16
set_option maxRecDepth 65536 in
theorem w_t1 : (words1.take 24).all (fun c => isCode c || c.before args0 about1) = true := by decide +kernel
set_option maxRecDepth 65536 in
theorem w_t2 : ((words1.drop 24).take 24).all (fun c => isCode c || c.before args0 about1) = true := by decide +kernel
set_option maxRecDepth 65536 in
theorem w_t3 : (((words1.drop 24).drop 24).take 24).all (fun c => isCode c || c.before args0 about1) = true := by decide +kernel
set_option maxRecDepth 65536 in
theorem w_t4 : ((((words1.drop 24).drop 24).drop 24).take 24).all (fun c => isCode c || c.before args0 about1) = true := by decide +kernel
set_option maxRecDepth 65536 in
theorem w_t5 : (((((words1.drop 24).drop 24).drop 24).drop 24).take 24).all (fun c => isCode c || c.before args0 about1) = true := by decide +kernel
set_option maxRecDepth 65536 in
theorem w_t6 : ((((((words1.drop 24).drop 24).drop 24).drop 24).drop 24).take 24).all (fun c => isCode c || c.before args0 about1) = true := by decide +kernel
set_option maxRecDepth 65536 in
theorem w_t7 : ((((((words1.drop 24).drop 24).drop 24).drop 24).drop 24).drop 24).all (fun c => isCode c || c.before args0 about1) = true := by decide +kernel
theorem w_tables : (allAtoms (Jvm.Cond.code x code maxLocals ret :: tables_1)).before args0 about1 = true := by
  rw [allAtoms_all]
  show words1.all (fun c => c.before args0 about1) = true
  refine all_split ?_ w_codes
  rw [← List.take_append_drop 24 words1, List.all_append, w_t1, ← List.take_append_drop 24 (words1.drop 24), List.all_append, w_t2, ← List.take_append_drop 24 ((words1.drop 24).drop 24), List.all_append, w_t3, ← List.take_append_drop 24 (((words1.drop 24).drop 24).drop 24), List.all_append, w_t4, ← List.take_append_drop 24 ((((words1.drop 24).drop 24).drop 24).drop 24), List.all_append, w_t5, ← List.take_append_drop 24 (((((words1.drop 24).drop 24).drop 24).drop 24).drop 24), List.all_append, w_t6, w_t7]
  rfl
set_option maxRecDepth 65536 in
theorem w_case : (Jvm.Cond.and given_1 narrow_1).before args0 about1 = true := by decide +kernel
theorem w_applies : (headSpec (Jvm.Cond.code x code maxLocals ret :: tables_1) room_1).applies x e0.platform about1 = true :=
  (Spec.applies_iff w_frames).mpr ⟨w_running, w_runnable, w_alone, w_named, w_hears, w_ripe, w_room, w_tables⟩
theorem atStart : AtStart classFile x code maxLocals ret World_1 tables_1 room_1 Calls_1 rest_1 Pre_1 launch0 p0 e0 about1 theMethod args0 below0 :=
  ⟨lists_1, trivial, launch0.admits_env _ _ _, launch0.least_env, fairChoices_fair.cas, fairChoices_fair.clock, w_frames, w_args, w_heap, w_applies, trivial, trivial, w_case⟩
end start1
theorem witness_1 : WitnessClaimed_1 := ⟨start1.p0, start1.e0, start1.about1, start1.theMethod, start1.args0, start1.below0, start1.atStart⟩
end Jvm.Pilot.@@N@@
