import JvmDerived
import JvmDerived.Pilot.@@N@@Statement
import JvmDerived.Pilot.@@N@@Code
set_option linter.unusedVariables false
set_option linter.unusedSimpArgs false
namespace Jvm.Pilot.@@N@@
open Jvm Jvm.ClassFile Sem Op Lib Jvm.Free Jvm.Stand Jvm.LawKit Jvm.RoadKit Bundle Jvm.Pilot.@@N@@.Jvm.D
section Own
variable {p : Program} {l : Launch} {e : Env} {R : Room} {s : State} {m : MethodId} {args : Array Value} {below : List Frame} {meth : Method} {c : Code} {bytes : ByteArray} {mx : Nat} {rt : Option FieldType} {own nm : String} {Z : State} {Q : Option Value → Heap → Prop} {pc : Nat} {ls : Array Slot} {st : List Value} {h : Heap} {cs sl : Nat} {a0 : Array Value}
/-- from A the invocation comes back, and what it leaves is as Q says; nothing old is written -/
def own_G (p : Program) (e : Env) (s : State) (below : List Frame) (Z : State) (Q : Option Value → Heap → Prop) (cs sl : Nat) (A : State) : Prop :=
  ∃ s₂ o, Steps p.tables e below A s₂ ∧ s₂.status = .running ∧ Ended s₂ below o ∧ ∃ v L, o = .returned v ∧ (Q v s₂.heap ∧ Fr Z.heap.size L ∧ Old Z Z.heap.size s₂.heap) ∧ FrameEnd s o s₂ L cs sl
theorem own_go {A B : State} (f : ∀ t, Steps p.tables e below B t → Steps p.tables e below A t) (k : own_G p e s below Z Q cs sl B) : own_G p e s below Z Q cs sl A := by
  obtain ⟨t, o, h1, h2⟩ := k
  exact ⟨t, o, f t h1, h2⟩
/-- the run, wherever it stands in this body with this pc, these locals, this stack and this heap, comes back as Q says -/
def own_K (p : Program) (l : Launch) (e : Env) (R : Room) (s : State) (m : MethodId) (args : Array Value) (below : List Frame) (meth : Method) (c : Code) (bytes : ByteArray) (mx : Nat) (rt : Option FieldType) (own nm : String) (Z : State) (Q : Option Value → Heap → Prop)
    (pc : Nat) (ls : Array Slot) (st : List Value) (h : Heap) (cs sl : Nat) : Prop :=
  ∀ (T : State) (L : List Loc), p.tables.exec = Jvm.exec → c.code = bytes → c.maxLocals = mx → meth.sig.returnType = rt → meth.locks = false → s.vm.findClass own = some m.cls → meth.name = nm → Z.Warmed39 s.vm →
    Stand p l e R s m args below meth c T L cs sl → T.heap = h → Fr Z.heap.size L → Old Z Z.heap.size h → own_G p e s below Z Q R.cells R.slots (T.setTop (mkF m pc ls st))
/-- a body's contract, asked at the heap h0 -/
def own_Met (l : Launch) (Z : State) (y : MethodName) (bytes : ByteArray) (mx : Nat) (rt : Option FieldType) (ws : List Jvm.Cond) (rm : Room) (as : Array Value) (h0 : Heap) (Q : Option Value → Heap → Prop) : Prop :=
  Old Z Z.heap.size h0 → MetFree l y (head1 (Jvm.Cond.code y bytes mx rt :: ws) rm) (fun a U => a = as ∧ Z.Warmed39 U.vm ∧ U.heap = h0) (fun _ _ _ _ _ => True)
    (fun _ U o U' => ∃ v L, o = .returned v ∧ (Q v U'.heap ∧ Fr Z.heap.size L ∧ Old Z Z.heap.size U'.heap) ∧ FrameEnd U o U' L rm.cells rm.slots)
def own_some (Qv : Value → Heap → Prop) : Option Value → Heap → Prop := fun v h => ∃ x, v = some x ∧ Qv x h
def own_none (Qn : Heap → Prop) : Option Value → Heap → Prop := fun v h => v = none ∧ Qn h
theorem own_met {y : MethodName} {ws : List Jvm.Cond} {rm : Room} {as : Array Value} {h0 : Heap} {ls0 : Array Slot} (pn : plainFor y = true) (hef : ∀ m, entryFrame m as mx = mkF m 0 ls0 [])
    (body : ∀ p e s m below meth c, own_K p l e rm s m as below meth c bytes mx rt y.cls y.name Z Q 0 ls0 [] h0 0 0) : own_Met l Z y bytes mx rt ws rm as h0 Q := by
  intro O
  refine MetFree.of_bodySF pn hisR ?_
  intro p e s m args below meth c s₁ Bd hml0 hP hK
  obtain ⟨rfl, hZ, hh⟩ := hP
  have X0 : Stand p l e rm s m _ below meth c s₁ [] 0 0 := Stand.of_body Bd
  have e0 : s₁.heap = h0 := by rw [← hh, Bd.state]; rfl
  obtain ⟨t, o, h1, h2⟩ := body p e s m below meth c s₁ [] Bd.exec Bd.bytes hml0 Bd.returns Bd.notSynchronized (findClass_of_methodNamed Bd.named) (name_of_methodNamed Bd.named Bd.method).1 hZ X0 e0 (Fr.nil _) O
  exact ⟨t, o, castTop (hef m) h1, h2⟩
theorem own_old (k : Old Z Z.heap.size h → own_K p l e R s m args below meth c bytes mx rt own nm Z Q pc ls st h cs sl) : own_K p l e R s m args below meth c bytes mx rt own nm Z Q pc ls st h cs sl := fun T L a b c d e' f g i j n o q => k q T L a b c d e' f g i j n o q
theorem own_more {cs' sl' : Nat} (h1 : cs ≤ cs') (h2 : sl ≤ sl') (k : own_K p l e R s m args below meth c bytes mx rt own nm Z Q pc ls st h cs' sl') : own_K p l e R s m args below meth c bytes mx rt own nm Z Q pc ls st h cs sl := fun T L a b c d e' f g i X n o q =>
  k T L a b c d e' f g i ⟨X.admits, X.cas, X.clock, X.frames, X.room, X.hears, X.method, X.code, X.here, X.tail, X.warmed, X.limits, X.bytes, X.same.mono h1 h2⟩ n o q
/-- one plain step -/
theorem own_xs {r : Except ClassFile.DecodeError (ClassFile.Instr × Nat)} {pc' : Nat} {ls' : Array Slot} {st' : List Value} (hd : decode bytes pc = r)
    (k : own_K p l e R s m args below meth c bytes mx rt own nm Z Q pc' ls' st' h cs sl)
    (f : ∀ (T t : State), At T m c below → p.tables.exec = Jvm.exec → decode c.code pc = r → Steps p.tables e below (T.setTop (mkF m pc' ls' st')) t → Steps p.tables e below (T.setTop (mkF m pc ls st)) t) : own_K p l e R s m args below meth c bytes mx rt own nm Z Q pc ls st h cs sl := fun T L hx hby hml hrt hlk hown hnm hZ X eT N O =>
  own_go (fun t q => f T t X.here hx (hb hby hd) q) (k T L hx hby hml hrt hlk hown hnm hZ X eT N O)
theorem own_nop {A : Prop} (h : A) : A := h
-- loads and stores
theorem own_iloadN (pc' : Nat) (hp : pc + 1 = pc') {k : Fin 4} {v : Int32} (hd : decode bytes pc = .ok (.iload_n k, 1)) (hl : ls[k.val]? = some (.val (.int v))) (q : own_K p l e R s m args below meth c bytes mx rt own nm Z Q pc' ls (.int v :: st) h cs sl) : own_K p l e R s m args below meth c bytes mx rt own nm Z Q pc ls st h cs sl := by subst hp; exact own_xs hd q (fun T t ha hx hd => XS.iloadN (g := mkF m pc ls st) ha hx rfl hd hl)
theorem own_iload (pc' : Nat) (hp : pc + 2 = pc') {k : Nat} {v : Int32} (hd : decode bytes pc = .ok (.iload k, 2)) (hl : ls[k]? = some (.val (.int v))) (q : own_K p l e R s m args below meth c bytes mx rt own nm Z Q pc' ls (.int v :: st) h cs sl) : own_K p l e R s m args below meth c bytes mx rt own nm Z Q pc ls st h cs sl := by subst hp; exact own_xs hd q (fun T t ha hx hd => XS.iload (g := mkF m pc ls st) ha hx rfl hd hl)
theorem own_lloadN (pc' : Nat) (hp : pc + 1 = pc') {k : Fin 4} {v : Int64} (hd : decode bytes pc = .ok (.lload_n k, 1)) (hl : ls[k.val]? = some (.val (.long v))) (q : own_K p l e R s m args below meth c bytes mx rt own nm Z Q pc' ls (.long v :: st) h cs sl) : own_K p l e R s m args below meth c bytes mx rt own nm Z Q pc ls st h cs sl := by subst hp; exact own_xs hd q (fun T t ha hx hd => XS.lloadN (g := mkF m pc ls st) ha hx rfl hd hl)
theorem own_lload (pc' : Nat) (hp : pc + 2 = pc') {k : Nat} {v : Int64} (hd : decode bytes pc = .ok (.lload k, 2)) (hl : ls[k]? = some (.val (.long v))) (q : own_K p l e R s m args below meth c bytes mx rt own nm Z Q pc' ls (.long v :: st) h cs sl) : own_K p l e R s m args below meth c bytes mx rt own nm Z Q pc ls st h cs sl := by subst hp; exact own_xs hd q (fun T t ha hx hd => XS.lload (g := mkF m pc ls st) ha hx rfl hd hl)
theorem own_aloadN (pc' : Nat) (hp : pc + 1 = pc') {k : Fin 4} {v : Value} (hd : decode bytes pc = .ok (.aload_n k, 1)) (hl : ls[k.val]? = some (.val v)) (hv : v.isRef = true) (q : own_K p l e R s m args below meth c bytes mx rt own nm Z Q pc' ls (v :: st) h cs sl) : own_K p l e R s m args below meth c bytes mx rt own nm Z Q pc ls st h cs sl := by subst hp; exact own_xs hd q (fun T t ha hx hd => XS.aloadN (g := mkF m pc ls st) ha hx rfl hd hl hv)
theorem own_aload (pc' : Nat) (hp : pc + 2 = pc') {k : Nat} {v : Value} (hd : decode bytes pc = .ok (.aload k, 2)) (hl : ls[k]? = some (.val v)) (hv : v.isRef = true) (q : own_K p l e R s m args below meth c bytes mx rt own nm Z Q pc' ls (v :: st) h cs sl) : own_K p l e R s m args below meth c bytes mx rt own nm Z Q pc ls st h cs sl := by subst hp; exact own_xs hd q (fun T t ha hx hd => XS.aload (g := mkF m pc ls st) ha hx rfl hd hl hv)
theorem own_istoreN (pc' : Nat) (hp : pc + 1 = pc') (ls' : Array Slot) {k : Fin 4} {v : Int32} (hd : decode bytes pc = .ok (.istore_n k, 1)) (hl : storeLocals ls k.val (.int v) = some ls') (q : own_K p l e R s m args below meth c bytes mx rt own nm Z Q pc' ls' st h cs sl) : own_K p l e R s m args below meth c bytes mx rt own nm Z Q pc ls (.int v :: st) h cs sl := by subst hp; exact own_xs hd q (fun T t ha hx hd => XS.istoreN (g := mkF m pc ls (.int v :: st)) ha hx rfl hd rfl hl)
theorem own_istore (pc' : Nat) (hp : pc + 2 = pc') (ls' : Array Slot) {k : Nat} {v : Int32} (hd : decode bytes pc = .ok (.istore k, 2)) (hl : storeLocals ls k (.int v) = some ls') (q : own_K p l e R s m args below meth c bytes mx rt own nm Z Q pc' ls' st h cs sl) : own_K p l e R s m args below meth c bytes mx rt own nm Z Q pc ls (.int v :: st) h cs sl := by subst hp; exact own_xs hd q (fun T t ha hx hd => XS.istore (g := mkF m pc ls (.int v :: st)) ha hx rfl hd rfl hl)
theorem own_lstoreN (pc' : Nat) (hp : pc + 1 = pc') (ls' : Array Slot) {k : Fin 4} {v : Int64} (hd : decode bytes pc = .ok (.lstore_n k, 1)) (hl : storeLocals ls k.val (.long v) = some ls') (q : own_K p l e R s m args below meth c bytes mx rt own nm Z Q pc' ls' st h cs sl) : own_K p l e R s m args below meth c bytes mx rt own nm Z Q pc ls (.long v :: st) h cs sl := by subst hp; exact own_xs hd q (fun T t ha hx hd => XS.lstoreN (g := mkF m pc ls (.long v :: st)) ha hx rfl hd rfl hl)
theorem own_lstore (pc' : Nat) (hp : pc + 2 = pc') (ls' : Array Slot) {k : Nat} {v : Int64} (hd : decode bytes pc = .ok (.lstore k, 2)) (hl : storeLocals ls k (.long v) = some ls') (q : own_K p l e R s m args below meth c bytes mx rt own nm Z Q pc' ls' st h cs sl) : own_K p l e R s m args below meth c bytes mx rt own nm Z Q pc ls (.long v :: st) h cs sl := by subst hp; exact own_xs hd q (fun T t ha hx hd => XS.lstore (g := mkF m pc ls (.long v :: st)) ha hx rfl hd rfl hl)
theorem own_astoreN (pc' : Nat) (hp : pc + 1 = pc') (ls' : Array Slot) {k : Fin 4} {v : Value} (hd : decode bytes pc = .ok (.astore_n k, 1)) (hv : v.isRef = true) (hl : storeLocals ls k.val v = some ls') (q : own_K p l e R s m args below meth c bytes mx rt own nm Z Q pc' ls' st h cs sl) : own_K p l e R s m args below meth c bytes mx rt own nm Z Q pc ls (v :: st) h cs sl := by subst hp; exact own_xs hd q (fun T t ha hx hd => XS.astoreN (g := mkF m pc ls (v :: st)) ha hx rfl hd rfl hv hl)
theorem own_astore (pc' : Nat) (hp : pc + 2 = pc') (ls' : Array Slot) {k : Nat} {v : Value} (hd : decode bytes pc = .ok (.astore k, 2)) (hv : v.isRef = true) (hl : storeLocals ls k v = some ls') (q : own_K p l e R s m args below meth c bytes mx rt own nm Z Q pc' ls' st h cs sl) : own_K p l e R s m args below meth c bytes mx rt own nm Z Q pc ls (v :: st) h cs sl := by subst hp; exact own_xs hd q (fun T t ha hx hd => XS.astore (g := mkF m pc ls (v :: st)) ha hx rfl hd rfl hv hl)
theorem own_iinc (pc' : Nat) (hp : pc + 3 = pc') (ls' : Array Slot) {k : Nat} {i : Int} {x : Int32} (v : Int32) (hd : decode bytes pc = .ok (.iinc k i, 3)) (hv : Int32.ofInt i = v) (hl : ls[k]? = some (.val (.int x))) (hl' : storeLocals ls k (.int (x + v)) = some ls') (q : own_K p l e R s m args below meth c bytes mx rt own nm Z Q pc' ls' st h cs sl) : own_K p l e R s m args below meth c bytes mx rt own nm Z Q pc ls st h cs sl := by subst hp; subst hv; exact own_xs hd q (fun T t ha hx hd => XS.iinc (g := mkF m pc ls st) ha hx rfl hd hl hl')
-- constants
theorem own_iconst (pc' : Nat) (hp : pc + 1 = pc') (v : Int32) {i : Int} (hd : decode bytes pc = .ok (.iconst i, 1)) (hv : Int32.ofInt i = v) (q : own_K p l e R s m args below meth c bytes mx rt own nm Z Q pc' ls (.int v :: st) h cs sl) : own_K p l e R s m args below meth c bytes mx rt own nm Z Q pc ls st h cs sl := by subst hp; subst hv; exact own_xs hd q (fun T t ha hx hd => XS.iconst (g := mkF m pc ls st) ha hx rfl hd)
theorem own_bipush (pc' : Nat) (hp : pc + 2 = pc') (v : Int32) {i : Int} (hd : decode bytes pc = .ok (.bipush i, 2)) (hv : (Int8.ofInt i).toInt32 = v) (q : own_K p l e R s m args below meth c bytes mx rt own nm Z Q pc' ls (.int v :: st) h cs sl) : own_K p l e R s m args below meth c bytes mx rt own nm Z Q pc ls st h cs sl := by subst hp; subst hv; exact own_xs hd q (fun T t ha hx hd => XS.bipush (g := mkF m pc ls st) ha hx rfl hd)
theorem own_sipush (pc' : Nat) (hp : pc + 3 = pc') (v : Int32) {i : Int} (hd : decode bytes pc = .ok (.sipush i, 3)) (hv : (Int16.ofInt i).toInt32 = v) (q : own_K p l e R s m args below meth c bytes mx rt own nm Z Q pc' ls (.int v :: st) h cs sl) : own_K p l e R s m args below meth c bytes mx rt own nm Z Q pc ls st h cs sl := by subst hp; subst hv; exact own_xs hd q (fun T t ha hx hd => XS.sipush (g := mkF m pc ls st) ha hx rfl hd)
theorem own_lconst (pc' : Nat) (hp : pc + 1 = pc') (v : Int64) {i : Fin 2} (hd : decode bytes pc = .ok (.lconst i, 1)) (hv : Int64.ofNat i = v) (q : own_K p l e R s m args below meth c bytes mx rt own nm Z Q pc' ls (.long v :: st) h cs sl) : own_K p l e R s m args below meth c bytes mx rt own nm Z Q pc ls st h cs sl := by subst hp; subst hv; exact own_xs hd q (fun T t ha hx hd => XT.lconst (g := mkF m pc ls st) ha hx rfl hd)
theorem own_aconstNull (pc' : Nat) (hp : pc + 1 = pc') (hd : decode bytes pc = .ok (.aconst_null, 1)) (q : own_K p l e R s m args below meth c bytes mx rt own nm Z Q pc' ls (.null :: st) h cs sl) : own_K p l e R s m args below meth c bytes mx rt own nm Z Q pc ls st h cs sl := by subst hp; exact own_xs hd q (fun T t ha hx hd => XS.aconstNull (g := mkF m pc ls st) ha hx rfl hd)
theorem own_ldcInt (pc' : Nat) (hp : pc + 2 = pc') {v : Int32} {index : Nat} (w : (Jvm.Cond.constant own index v).before a0 Z = true) (hd : decode bytes pc = .ok (.ldc index, 2)) (q : own_K p l e R s m args below meth c bytes mx rt own nm Z Q pc' ls (.int v :: st) h cs sl) : own_K p l e R s m args below meth c bytes mx rt own nm Z Q pc ls st h cs sl := fun T L hx hby hml hrt hlk hown hnm hZ X eT N O => by
  subst hp; exact own_go (X.ldcInt hx hown (mvT hZ w) (g := mkF m pc ls st) rfl (hb hby hd)) (q T L hx hby hml hrt hlk hown hnm hZ X eT N O)
theorem own_ldc2Long (pc' : Nat) (hp : pc + 3 = pc') {v : Int64} {index : Nat} (w : (Jvm.Cond.constantLong own index v).before a0 Z = true) (hd : decode bytes pc = .ok (.ldc2_w index, 3)) (q : own_K p l e R s m args below meth c bytes mx rt own nm Z Q pc' ls (.long v :: st) h cs sl) : own_K p l e R s m args below meth c bytes mx rt own nm Z Q pc ls st h cs sl := fun T L hx hby hml hrt hlk hown hnm hZ X eT N O => by
  subst hp; exact own_go (X.ldc2Long hx hown (mvT hZ w) (g := mkF m pc ls st) rfl (hb hby hd)) (q T L hx hby hml hrt hlk hown hnm hZ X eT N O)
theorem own_ldcFloat (pc' : Nat) (hp : pc + 2 = pc') {b : UInt32} {index : Nat} (w : (Jvm.Cond.constantFloat own index b).before a0 Z = true) (hd : decode bytes pc = .ok (.ldc index, 2)) (q : own_K p l e R s m args below meth c bytes mx rt own nm Z Q pc' ls (.float b :: st) h cs sl) : own_K p l e R s m args below meth c bytes mx rt own nm Z Q pc ls st h cs sl := fun T L hx hby hml hrt hlk hown hnm hZ X eT N O => by
  subst hp; exact own_go (X.ldcFloatC hx hown (mvT hZ w) (g := mkF m pc ls st) rfl (hb hby hd)) (q T L hx hby hml hrt hlk hown hnm hZ X eT N O)
-- arithmetic
theorem own_iadd (pc' : Nat) (hp : pc + 1 = pc') {x y : Int32} (hd : decode bytes pc = .ok (.iadd, 1)) (q : own_K p l e R s m args below meth c bytes mx rt own nm Z Q pc' ls (.int (x + y) :: st) h cs sl) : own_K p l e R s m args below meth c bytes mx rt own nm Z Q pc ls (.int y :: .int x :: st) h cs sl := by subst hp; exact own_xs hd q (fun T t ha hx hd => XS.iadd (g := mkF m pc ls (.int y :: .int x :: st)) ha hx rfl hd rfl)
theorem own_isub (pc' : Nat) (hp : pc + 1 = pc') {x y : Int32} (hd : decode bytes pc = .ok (.isub, 1)) (q : own_K p l e R s m args below meth c bytes mx rt own nm Z Q pc' ls (.int (x - y) :: st) h cs sl) : own_K p l e R s m args below meth c bytes mx rt own nm Z Q pc ls (.int y :: .int x :: st) h cs sl := by subst hp; exact own_xs hd q (fun T t ha hx hd => XS.isub (g := mkF m pc ls (.int y :: .int x :: st)) ha hx rfl hd rfl)
theorem own_imul (pc' : Nat) (hp : pc + 1 = pc') {x y : Int32} (hd : decode bytes pc = .ok (.imul, 1)) (q : own_K p l e R s m args below meth c bytes mx rt own nm Z Q pc' ls (.int (x * y) :: st) h cs sl) : own_K p l e R s m args below meth c bytes mx rt own nm Z Q pc ls (.int y :: .int x :: st) h cs sl := by subst hp; exact own_xs hd q (fun T t ha hx hd => XS.imul (g := mkF m pc ls (.int y :: .int x :: st)) ha hx rfl hd rfl)
theorem own_iand (pc' : Nat) (hp : pc + 1 = pc') {x y : Int32} (hd : decode bytes pc = .ok (.iand, 1)) (q : own_K p l e R s m args below meth c bytes mx rt own nm Z Q pc' ls (.int (x &&& y) :: st) h cs sl) : own_K p l e R s m args below meth c bytes mx rt own nm Z Q pc ls (.int y :: .int x :: st) h cs sl := by subst hp; exact own_xs hd q (fun T t ha hx hd => XS.iand (g := mkF m pc ls (.int y :: .int x :: st)) ha hx rfl hd rfl)
theorem own_ior (pc' : Nat) (hp : pc + 1 = pc') {x y : Int32} (hd : decode bytes pc = .ok (.ior, 1)) (q : own_K p l e R s m args below meth c bytes mx rt own nm Z Q pc' ls (.int (x ||| y) :: st) h cs sl) : own_K p l e R s m args below meth c bytes mx rt own nm Z Q pc ls (.int y :: .int x :: st) h cs sl := by subst hp; exact own_xs hd q (fun T t ha hx hd => XS.ior (g := mkF m pc ls (.int y :: .int x :: st)) ha hx rfl hd rfl)
theorem own_ixor (pc' : Nat) (hp : pc + 1 = pc') {x y : Int32} (hd : decode bytes pc = .ok (.ixor, 1)) (q : own_K p l e R s m args below meth c bytes mx rt own nm Z Q pc' ls (.int (x ^^^ y) :: st) h cs sl) : own_K p l e R s m args below meth c bytes mx rt own nm Z Q pc ls (.int y :: .int x :: st) h cs sl := by subst hp; exact own_xs hd q (fun T t ha hx hd => XS.ixor (g := mkF m pc ls (.int y :: .int x :: st)) ha hx rfl hd rfl)
theorem own_idiv (pc' : Nat) (hp : pc + 1 = pc') {x y : Int32} (hd : decode bytes pc = .ok (.idiv, 1)) (hy : y ≠ 0) (q : own_K p l e R s m args below meth c bytes mx rt own nm Z Q pc' ls (.int (x / y) :: st) h cs sl) : own_K p l e R s m args below meth c bytes mx rt own nm Z Q pc ls (.int y :: .int x :: st) h cs sl := by subst hp; exact own_xs hd q (fun T t ha hx hd => XS.idiv (g := mkF m pc ls (.int y :: .int x :: st)) ha hx rfl hd rfl hy)
theorem own_irem (pc' : Nat) (hp : pc + 1 = pc') {x y : Int32} (hd : decode bytes pc = .ok (.irem, 1)) (hy : y ≠ 0) (q : own_K p l e R s m args below meth c bytes mx rt own nm Z Q pc' ls (.int (x % y) :: st) h cs sl) : own_K p l e R s m args below meth c bytes mx rt own nm Z Q pc ls (.int y :: .int x :: st) h cs sl := fun T L hx hby hml hrt hlk hown hnm hZ X eT N O => by
  subst hp; exact own_go (fun t k => iremM (g := mkF m pc ls (.int y :: .int x :: st)) X hx rfl (hb hby hd) rfl hy k) (q T L hx hby hml hrt hlk hown hnm hZ X eT N O)
theorem own_ineg (pc' : Nat) (hp : pc + 1 = pc') {x : Int32} (hd : decode bytes pc = .ok (.ineg, 1)) (q : own_K p l e R s m args below meth c bytes mx rt own nm Z Q pc' ls (.int (-x) :: st) h cs sl) : own_K p l e R s m args below meth c bytes mx rt own nm Z Q pc ls (.int x :: st) h cs sl := by subst hp; exact own_xs hd q (fun T t ha hx hd => XS.ineg (g := mkF m pc ls (.int x :: st)) ha hx rfl hd rfl)
theorem own_ishl (pc' : Nat) (hp : pc + 1 = pc') {x y : Int32} (hd : decode bytes pc = .ok (.ishl, 1)) (q : own_K p l e R s m args below meth c bytes mx rt own nm Z Q pc' ls (.int (x <<< (y &&& 31)) :: st) h cs sl) : own_K p l e R s m args below meth c bytes mx rt own nm Z Q pc ls (.int y :: .int x :: st) h cs sl := by subst hp; exact own_xs hd q (fun T t ha hx hd => XS.ishl (g := mkF m pc ls (.int y :: .int x :: st)) ha hx rfl hd rfl)
theorem own_ishr (pc' : Nat) (hp : pc + 1 = pc') {x y : Int32} (hd : decode bytes pc = .ok (.ishr, 1)) (q : own_K p l e R s m args below meth c bytes mx rt own nm Z Q pc' ls (.int (x >>> (y &&& 31)) :: st) h cs sl) : own_K p l e R s m args below meth c bytes mx rt own nm Z Q pc ls (.int y :: .int x :: st) h cs sl := by subst hp; exact own_xs hd q (fun T t ha hx hd => XS.ishr (g := mkF m pc ls (.int y :: .int x :: st)) ha hx rfl hd rfl)
theorem own_iushr (pc' : Nat) (hp : pc + 1 = pc') {x y : Int32} (hd : decode bytes pc = .ok (.iushr, 1)) (q : own_K p l e R s m args below meth c bytes mx rt own nm Z Q pc' ls (.int ((x.toUInt32 >>> (y &&& 31).toUInt32).toInt32) :: st) h cs sl) : own_K p l e R s m args below meth c bytes mx rt own nm Z Q pc ls (.int y :: .int x :: st) h cs sl := by subst hp; exact own_xs hd q (fun T t ha hx hd => XS.iushr (g := mkF m pc ls (.int y :: .int x :: st)) ha hx rfl hd rfl)
theorem own_i2l (pc' : Nat) (hp : pc + 1 = pc') {x : Int32} (hd : decode bytes pc = .ok (.i2l, 1)) (q : own_K p l e R s m args below meth c bytes mx rt own nm Z Q pc' ls (.long x.toInt64 :: st) h cs sl) : own_K p l e R s m args below meth c bytes mx rt own nm Z Q pc ls (.int x :: st) h cs sl := by subst hp; exact own_xs hd q (fun T t ha hx hd => XS.i2l (g := mkF m pc ls (.int x :: st)) ha hx rfl hd rfl)
theorem own_l2i (pc' : Nat) (hp : pc + 1 = pc') {x : Int64} (hd : decode bytes pc = .ok (.l2i, 1)) (q : own_K p l e R s m args below meth c bytes mx rt own nm Z Q pc' ls (.int x.toInt32 :: st) h cs sl) : own_K p l e R s m args below meth c bytes mx rt own nm Z Q pc ls (.long x :: st) h cs sl := by subst hp; exact own_xs hd q (fun T t ha hx hd => XS.l2i (g := mkF m pc ls (.long x :: st)) ha hx rfl hd rfl)
theorem own_i2b (pc' : Nat) (hp : pc + 1 = pc') {x : Int32} (hd : decode bytes pc = .ok (.i2b, 1)) (q : own_K p l e R s m args below meth c bytes mx rt own nm Z Q pc' ls (.int x.toInt8.toInt32 :: st) h cs sl) : own_K p l e R s m args below meth c bytes mx rt own nm Z Q pc ls (.int x :: st) h cs sl := by subst hp; exact own_xs hd q (fun T t ha hx hd => XS.i2b (g := mkF m pc ls (.int x :: st)) ha hx rfl hd rfl)
theorem own_i2c (pc' : Nat) (hp : pc + 1 = pc') {x : Int32} (hd : decode bytes pc = .ok (.i2c, 1)) (q : own_K p l e R s m args below meth c bytes mx rt own nm Z Q pc' ls (.int x.toUInt32.toUInt16.toUInt32.toInt32 :: st) h cs sl) : own_K p l e R s m args below meth c bytes mx rt own nm Z Q pc ls (.int x :: st) h cs sl := by subst hp; exact own_xs hd q (fun T t ha hx hd => XS.i2c (g := mkF m pc ls (.int x :: st)) ha hx rfl hd rfl)
theorem own_ladd (pc' : Nat) (hp : pc + 1 = pc') {x y : Int64} (hd : decode bytes pc = .ok (.ladd, 1)) (q : own_K p l e R s m args below meth c bytes mx rt own nm Z Q pc' ls (.long (x + y) :: st) h cs sl) : own_K p l e R s m args below meth c bytes mx rt own nm Z Q pc ls (.long y :: .long x :: st) h cs sl := by subst hp; exact own_xs hd q (fun T t ha hx hd => XS.ladd (g := mkF m pc ls (.long y :: .long x :: st)) ha hx rfl hd rfl)
theorem own_lsub (pc' : Nat) (hp : pc + 1 = pc') {x y : Int64} (hd : decode bytes pc = .ok (.lsub, 1)) (q : own_K p l e R s m args below meth c bytes mx rt own nm Z Q pc' ls (.long (x - y) :: st) h cs sl) : own_K p l e R s m args below meth c bytes mx rt own nm Z Q pc ls (.long y :: .long x :: st) h cs sl := by subst hp; exact own_xs hd q (fun T t ha hx hd => XS.lsub (g := mkF m pc ls (.long y :: .long x :: st)) ha hx rfl hd rfl)
theorem own_lmul (pc' : Nat) (hp : pc + 1 = pc') {x y : Int64} (hd : decode bytes pc = .ok (.lmul, 1)) (q : own_K p l e R s m args below meth c bytes mx rt own nm Z Q pc' ls (.long (x * y) :: st) h cs sl) : own_K p l e R s m args below meth c bytes mx rt own nm Z Q pc ls (.long y :: .long x :: st) h cs sl := by subst hp; exact own_xs hd q (fun T t ha hx hd => XS.lmul (g := mkF m pc ls (.long y :: .long x :: st)) ha hx rfl hd rfl)
theorem own_land (pc' : Nat) (hp : pc + 1 = pc') {x y : Int64} (hd : decode bytes pc = .ok (.land, 1)) (q : own_K p l e R s m args below meth c bytes mx rt own nm Z Q pc' ls (.long (x &&& y) :: st) h cs sl) : own_K p l e R s m args below meth c bytes mx rt own nm Z Q pc ls (.long y :: .long x :: st) h cs sl := by subst hp; exact own_xs hd q (fun T t ha hx hd => XS.land (g := mkF m pc ls (.long y :: .long x :: st)) ha hx rfl hd rfl)
theorem own_lxor (pc' : Nat) (hp : pc + 1 = pc') {x y : Int64} (hd : decode bytes pc = .ok (.lxor, 1)) (q : own_K p l e R s m args below meth c bytes mx rt own nm Z Q pc' ls (.long (x ^^^ y) :: st) h cs sl) : own_K p l e R s m args below meth c bytes mx rt own nm Z Q pc ls (.long y :: .long x :: st) h cs sl := by subst hp; exact own_xs hd q (fun T t ha hx hd => XS.lxor (g := mkF m pc ls (.long y :: .long x :: st)) ha hx rfl hd rfl)
theorem own_ldiv (pc' : Nat) (hp : pc + 1 = pc') {x y : Int64} (hd : decode bytes pc = .ok (.ldiv, 1)) (hy : y ≠ 0) (q : own_K p l e R s m args below meth c bytes mx rt own nm Z Q pc' ls (.long (x / y) :: st) h cs sl) : own_K p l e R s m args below meth c bytes mx rt own nm Z Q pc ls (.long y :: .long x :: st) h cs sl := by subst hp; exact own_xs hd q (fun T t ha hx hd => XS.ldiv (g := mkF m pc ls (.long y :: .long x :: st)) ha hx rfl hd rfl hy)
theorem own_lrem (pc' : Nat) (hp : pc + 1 = pc') {x y : Int64} (hd : decode bytes pc = .ok (.lrem, 1)) (hy : y ≠ 0) (q : own_K p l e R s m args below meth c bytes mx rt own nm Z Q pc' ls (.long (x % y) :: st) h cs sl) : own_K p l e R s m args below meth c bytes mx rt own nm Z Q pc ls (.long y :: .long x :: st) h cs sl := by subst hp; rw [← lrem_mod] at q; exact own_xs hd q (fun T t ha hx hd => XT.lrem (g := mkF m pc ls (.long y :: .long x :: st)) ha hx rfl hd rfl hy)
theorem own_lneg (pc' : Nat) (hp : pc + 1 = pc') {x : Int64} (hd : decode bytes pc = .ok (.lneg, 1)) (q : own_K p l e R s m args below meth c bytes mx rt own nm Z Q pc' ls (.long (-x) :: st) h cs sl) : own_K p l e R s m args below meth c bytes mx rt own nm Z Q pc ls (.long x :: st) h cs sl := by subst hp; exact own_xs hd q (fun T t ha hx hd => XS.lneg (g := mkF m pc ls (.long x :: st)) ha hx rfl hd rfl)
theorem own_lcmp (pc' : Nat) (hp : pc + 1 = pc') {x y : Int64} (hd : decode bytes pc = .ok (.lcmp, 1)) (q : own_K p l e R s m args below meth c bytes mx rt own nm Z Q pc' ls (.int (lcmpW x y) :: st) h cs sl) : own_K p l e R s m args below meth c bytes mx rt own nm Z Q pc ls (.long y :: .long x :: st) h cs sl := by subst hp; exact own_xs hd q (fun T t ha hx hd => XS.lcmp (g := mkF m pc ls (.long y :: .long x :: st)) ha hx rfl hd rfl)
-- the stack
theorem own_dup (pc' : Nat) (hp : pc + 1 = pc') {x : Value} (hd : decode bytes pc = .ok (.dup, 1)) (hc : x.category = 1) (q : own_K p l e R s m args below meth c bytes mx rt own nm Z Q pc' ls (x :: x :: st) h cs sl) : own_K p l e R s m args below meth c bytes mx rt own nm Z Q pc ls (x :: st) h cs sl := by subst hp; exact own_xs hd q (fun T t ha hx hd => XS.dup (g := mkF m pc ls (x :: st)) ha hx rfl hd rfl hc)
theorem own_pop (pc' : Nat) (hp : pc + 1 = pc') {x : Value} (hd : decode bytes pc = .ok (.pop, 1)) (hc : x.category = 1) (q : own_K p l e R s m args below meth c bytes mx rt own nm Z Q pc' ls st h cs sl) : own_K p l e R s m args below meth c bytes mx rt own nm Z Q pc ls (x :: st) h cs sl := by subst hp; exact own_xs hd q (fun T t ha hx hd => XS.pop (g := mkF m pc ls (x :: st)) ha hx rfl hd rfl hc)
theorem own_dupX1 (pc' : Nat) (hp : pc + 1 = pc') {x y : Value} (hd : decode bytes pc = .ok (.dup_x1, 1)) (hc : x.category = 1) (hc' : y.category = 1) (q : own_K p l e R s m args below meth c bytes mx rt own nm Z Q pc' ls (x :: y :: x :: st) h cs sl) : own_K p l e R s m args below meth c bytes mx rt own nm Z Q pc ls (x :: y :: st) h cs sl := by subst hp; exact own_xs hd q (fun T t ha hx hd => XT.dupX1 (g := mkF m pc ls (x :: y :: st)) ha hx rfl hd rfl hc hc')
theorem own_dup2 (pc' : Nat) (hp : pc + 1 = pc') {x y : Value} (hd : decode bytes pc = .ok (.dup2, 1)) (hc : x.category = 1) (hc' : y.category = 1) (q : own_K p l e R s m args below meth c bytes mx rt own nm Z Q pc' ls (x :: y :: x :: y :: st) h cs sl) : own_K p l e R s m args below meth c bytes mx rt own nm Z Q pc ls (x :: y :: st) h cs sl := by subst hp; exact own_xs hd q (fun T t ha hx hd => XT.dup2 (g := mkF m pc ls (x :: y :: st)) ha hx rfl hd rfl hc hc')
-- branches
theorem own_goto (pc' : Nat) {o : Int} (hd : decode bytes pc = .ok (.goto o, 3)) (ho : 0 ≤ (pc : Int) + o) (hp : ((pc : Int) + o).toNat = pc') (q : own_K p l e R s m args below meth c bytes mx rt own nm Z Q pc' ls st h cs sl) : own_K p l e R s m args below meth c bytes mx rt own nm Z Q pc ls st h cs sl := own_xs hd q (fun T t ha hx hd => XS.goto (g := mkF m pc ls st) ha hx rfl rfl hd ho hp)
theorem own_ifYes (pc' : Nat) {cd : ClassFile.Cond} {x : Int32} {o : Int} (hd : decode bytes pc = .ok (.ifCond cd o, 3)) (hc : if_icmp.holds cd x 0 = true) (ho : 0 ≤ (pc : Int) + o) (hp : ((pc : Int) + o).toNat = pc') (q : own_K p l e R s m args below meth c bytes mx rt own nm Z Q pc' ls st h cs sl) : own_K p l e R s m args below meth c bytes mx rt own nm Z Q pc ls (.int x :: st) h cs sl := own_xs hd q (fun T t ha hx hd => XS.ifYes (g := mkF m pc ls (.int x :: st)) ha hx rfl rfl hd rfl ((if0 _ _).trans hc) ho hp)
theorem own_ifNo (pc' : Nat) (hp : pc + 3 = pc') {cd : ClassFile.Cond} {x : Int32} {o : Int} (hd : decode bytes pc = .ok (.ifCond cd o, 3)) (hc : if_icmp.holds cd x 0 = false) (q : own_K p l e R s m args below meth c bytes mx rt own nm Z Q pc' ls st h cs sl) : own_K p l e R s m args below meth c bytes mx rt own nm Z Q pc ls (.int x :: st) h cs sl := by subst hp; exact own_xs hd q (fun T t ha hx hd => XS.ifNo (g := mkF m pc ls (.int x :: st)) ha hx rfl hd rfl ((if0 _ _).trans hc))
theorem own_icmpYes (pc' : Nat) {cd : ClassFile.Cond} {x y : Int32} {o : Int} (hd : decode bytes pc = .ok (.if_icmp cd o, 3)) (hc : if_icmp.holds cd x y = true) (ho : 0 ≤ (pc : Int) + o) (hp : ((pc : Int) + o).toNat = pc') (q : own_K p l e R s m args below meth c bytes mx rt own nm Z Q pc' ls st h cs sl) : own_K p l e R s m args below meth c bytes mx rt own nm Z Q pc ls (.int y :: .int x :: st) h cs sl := own_xs hd q (fun T t ha hx hd => XS.icmpYes (g := mkF m pc ls (.int y :: .int x :: st)) ha hx rfl rfl hd rfl hc ho hp)
theorem own_icmpNo (pc' : Nat) (hp : pc + 3 = pc') {cd : ClassFile.Cond} {x y : Int32} {o : Int} (hd : decode bytes pc = .ok (.if_icmp cd o, 3)) (hc : if_icmp.holds cd x y = false) (q : own_K p l e R s m args below meth c bytes mx rt own nm Z Q pc' ls st h cs sl) : own_K p l e R s m args below meth c bytes mx rt own nm Z Q pc ls (.int y :: .int x :: st) h cs sl := by subst hp; exact own_xs hd q (fun T t ha hx hd => XS.icmpNo (g := mkF m pc ls (.int y :: .int x :: st)) ha hx rfl hd rfl hc)
theorem own_acmpYes (pc' : Nat) {cd : ClassFile.ACond} {x y : Value} {o : Int} (hd : decode bytes pc = .ok (.if_acmp cd o, 3)) (hx' : x.isRef = true) (hy' : y.isRef = true) (hc : XT.acmp cd x y = true) (ho : 0 ≤ (pc : Int) + o) (hp : ((pc : Int) + o).toNat = pc') (q : own_K p l e R s m args below meth c bytes mx rt own nm Z Q pc' ls st h cs sl) : own_K p l e R s m args below meth c bytes mx rt own nm Z Q pc ls (y :: x :: st) h cs sl := own_xs hd q (fun T t ha hx hd => XT.acmpYes (g := mkF m pc ls (y :: x :: st)) ha hx rfl rfl hd rfl hx' hy' hc ho hp)
theorem own_acmpNo (pc' : Nat) (hp : pc + 3 = pc') {cd : ClassFile.ACond} {x y : Value} {o : Int} (hd : decode bytes pc = .ok (.if_acmp cd o, 3)) (hx' : x.isRef = true) (hy' : y.isRef = true) (hc : XT.acmp cd x y = false) (q : own_K p l e R s m args below meth c bytes mx rt own nm Z Q pc' ls st h cs sl) : own_K p l e R s m args below meth c bytes mx rt own nm Z Q pc ls (y :: x :: st) h cs sl := by subst hp; exact own_xs hd q (fun T t ha hx hd => XT.acmpNo (g := mkF m pc ls (y :: x :: st)) ha hx rfl hd rfl hx' hy' hc)
theorem own_teq {x y : Value} (q : x = y) : XT.acmp .eq x y = true ∧ XT.acmp .ne x y = false := ⟨decide_eq_true q, decide_eq_false fun f => f q⟩
theorem own_feq {x y : Value} (q : ¬ x = y) : XT.acmp .eq x y = false ∧ XT.acmp .ne x y = true := ⟨decide_eq_false q, decide_eq_true q⟩
theorem own_ifnullYes (pc' : Nat) {o : Int} (hd : decode bytes pc = .ok (.ifnull o, 3)) (ho : 0 ≤ (pc : Int) + o) (hp : ((pc : Int) + o).toNat = pc') (q : own_K p l e R s m args below meth c bytes mx rt own nm Z Q pc' ls st h cs sl) : own_K p l e R s m args below meth c bytes mx rt own nm Z Q pc ls (.null :: st) h cs sl := own_xs hd q (fun T t ha hx hd => XS.ifnullYes (g := mkF m pc ls (.null :: st)) ha hx rfl rfl hd rfl ho hp)
theorem own_ifnullNo (pc' : Nat) (hp : pc + 3 = pc') {b : Addr} {o : Int} (hd : decode bytes pc = .ok (.ifnull o, 3)) (q : own_K p l e R s m args below meth c bytes mx rt own nm Z Q pc' ls st h cs sl) : own_K p l e R s m args below meth c bytes mx rt own nm Z Q pc ls (.ref b :: st) h cs sl := by subst hp; exact own_xs hd q (fun T t ha hx hd => XS.ifnullNo (g := mkF m pc ls (.ref b :: st)) ha hx rfl hd rfl)
theorem own_ifnonnullYes (pc' : Nat) {b : Addr} {o : Int} (hd : decode bytes pc = .ok (.ifnonnull o, 3)) (ho : 0 ≤ (pc : Int) + o) (hp : ((pc : Int) + o).toNat = pc') (q : own_K p l e R s m args below meth c bytes mx rt own nm Z Q pc' ls st h cs sl) : own_K p l e R s m args below meth c bytes mx rt own nm Z Q pc ls (.ref b :: st) h cs sl := own_xs hd q (fun T t ha hx hd => XT.ifnonnullYes (g := mkF m pc ls (.ref b :: st)) ha hx rfl rfl hd rfl ho hp)
theorem own_ifnonnullNo (pc' : Nat) (hp : pc + 3 = pc') {o : Int} (hd : decode bytes pc = .ok (.ifnonnull o, 3)) (q : own_K p l e R s m args below meth c bytes mx rt own nm Z Q pc' ls st h cs sl) : own_K p l e R s m args below meth c bytes mx rt own nm Z Q pc ls (.null :: st) h cs sl := by subst hp; exact own_xs hd q (fun T t ha hx hd => XT.ifnonnullNo (g := mkF m pc ls (.null :: st)) ha hx rfl hd rfl)
-- fields
theorem own_getF (pc' : Nat) (hp : pc + 3 = pc') {R0 O n d host : String} {index : Nat} (w : (Jvm.Cond.fieldLink own index R0 n d).before a0 Z = true ∨ (Jvm.Cond.fieldLinkNest own index R0 n d host).before a0 Z = true) (via : Via Z R0 O n d) {a : Addr} {v : Value} (F : Fld Z h a O n d v) (hd : decode bytes pc = .ok (.getfield index, 3))
    (q : own_K p l e R s m args below meth c bytes mx rt own nm Z Q pc' ls (v :: st) h cs sl) : own_K p l e R s m args below meth c bytes mx rt own nm Z Q pc ls (.ref a :: st) h cs sl := fun T L hx hby hml hrt hlk hown hnm hZ X eT N O' => by
  subst hp
  obtain ⟨T', X', e', s'⟩ := getF X hx hZ hown w via eT F (g := mkF m pc ls (.ref a :: st)) rfl rfl (hb hby hd)
  exact own_go s' (q T' L hx hby hml hrt hlk hown hnm hZ X' e' N O')
theorem own_getS (pc' : Nat) (hp : pc + 3 = pc') {R0 O n d host : String} {index : Nat} (w : (Jvm.Cond.fieldLink own index R0 n d).before a0 Z = true ∨ (Jvm.Cond.fieldLinkNest own index R0 n d host).before a0 Z = true) (via : Via Z R0 O n d) {v : Value} (F : Sta Z Z.heap O n d v) (hd : decode bytes pc = .ok (.getstatic index, 3))
    (q : own_K p l e R s m args below meth c bytes mx rt own nm Z Q pc' ls (v :: st) h cs sl) : own_K p l e R s m args below meth c bytes mx rt own nm Z Q pc ls st h cs sl := fun T L hx hby hml hrt hlk hown hnm hZ X eT N O' => by
  subst hp
  obtain ⟨T', X', e', s'⟩ := getS2 X hx hZ hown w via eT (F.ext O'.2) (g := mkF m pc ls st) rfl (hb hby hd)
  exact own_go s' (q T' L hx hby hml hrt hlk hown hnm hZ X' e' N O')
theorem own_putF (pc' : Nat) (hp : pc + 3 = pc') {R0 O n d host C : String} {index kk : Nat} {ty : FieldType} (w : (Jvm.Cond.fieldLink own index R0 n d).before a0 Z = true ∨ (Jvm.Cond.fieldLinkNest own index R0 n d host).before a0 Z = true) (via : Via Z R0 O n d) {a : Addr} {v old : Value} (ga : Z.heap.size ≤ a) (F : Fld Z h a O n d old) (E : Exa Z h a C)
    (L0 : (Jvm.Cond.lays C O n d).before a0 Z = true ∨ ((Jvm.Cond.laysFinal C O n d).before a0 Z = true ∧ own = O ∧ nm = "<init>")) (wi : (Jvm.Cond.instantiable C kk).before a0 Z = true) (hty : parseFieldDescriptor d = some ty) (hn : narrow ty v = v) (hf : fits ty v = true) (hd : decode bytes pc = .ok (.putfield index, 3))
    (q : ∀ h', Wr h h' a (Jvm.RoadKit.slotOf Z O n d) v → own_K p l e R s m args below meth c bytes mx rt own nm Z Q pc' ls st h' cs sl) : own_K p l e R s m args below meth c bytes mx rt own nm Z Q pc ls (v :: .ref a :: st) h cs sl := fun T L hx hby hml hrt hlk hown hnm hZ X eT N O' => by
  subst hp
  obtain ⟨T', h', X', e', W', s'⟩ := putF X hx hZ hown w via eT F E (L0.imp id fun u => ⟨u.1, u.2.1, hnm.trans u.2.2⟩) wi hty hn hf (g := mkF m pc ls (v :: .ref a :: st)) rfl rfl (hb hby hd)
  exact own_go s' (q h' W' T' _ hx hby hml hrt hlk hown hnm hZ X' e' (Fr.snoc X' N ga) (O'.wr W' ga))
-- objects and arrays
theorem own_newO (pc' : Nat) (hp : pc + 3 = pc') (cs' sl' : Nat) {C : String} {index n : Nat} (w : (Jvm.Cond.classLink own index C).before a0 Z = true) (wi : (Jvm.Cond.instantiable C n).before a0 Z = true) (wz : (Jvm.Cond.initialized C).before a0 Z = true) (hd : decode bytes pc = .ok (.new index, 3)) (hcs : cs + 1 = cs') (hsl : sl + n = sl') (hc : cs' ≤ R.cells) (hl : sl' ≤ R.slots)
    (q : ∀ h' (a : Addr), a = h.size → Z.heap.size ≤ a → Ext h h' → Exa Z h' a C → (∀ {O nm d : String} {ty : FieldType}, Laid Z a0 C O nm d → parseFieldDescriptor d = some ty → Fld Z h' a O nm d (defaultValue ty)) → own_K p l e R s m args below meth c bytes mx rt own nm Z Q pc' ls (.ref a :: st) h' cs' sl') : own_K p l e R s m args below meth c bytes mx rt own nm Z Q pc ls st h cs sl := fun T L hx hby hml hrt hlk hown hnm hZ X eT N O' => by
  subst hp; subst hcs; subst hsl
  obtain ⟨T', h', X', e', E', A', D', -, s'⟩ := newO X hx hZ hown w wi wz eT (g := mkF m pc ls st) rfl (hb hby hd) hc hl
  exact own_go s' (q h' _ rfl O'.2.1 E' A' D' T' _ hx hby hml hrt hlk hown hnm hZ X' e' N (O'.ext E'))
theorem own_newP (pc' : Nat) (hp : pc + 2 = pc') (cs' sl' cap : Nat) (ad : String) {aty : ArrayType} (had : "[" ++ (newarray.typeOf aty).toString = ad) (w : (Jvm.Cond.arrayClass (newarray.typeOf aty)).before a0 Z = true) (hd : decode bytes pc = .ok (.newarray aty, 2)) {n : Int32} (hn : ¬ n < 0) (hcap : n.toNatClampNeg ≤ cap) (hb' : cap * 8 ≤ 536870912) (hcs : cs + 1 = cs') (hsl : sl + cap = sl') (hc : cs' ≤ R.cells) (hl : sl' ≤ R.slots)
    (q : ∀ h' (a : Addr) k, a = h.size → Z.heap.size ≤ a → Ext h h' → Arv Z h' a k (newarray.typeOf aty) n [] (defaultValue (newarray.typeOf aty)) → Exa Z h' a ad → own_K p l e R s m args below meth c bytes mx rt own nm Z Q pc' ls (.ref a :: st) h' cs' sl') : own_K p l e R s m args below meth c bytes mx rt own nm Z Q pc ls (.int n :: st) h cs sl := fun T L hx hby hml hrt hlk hown hnm hZ X eT N O' => by
  subst hp; subst hcs; subst hsl
  obtain ⟨T', h', cA, X', e', E', A', C', s'⟩ := newPE X hx hZ w eT (g := mkF m pc ls (.int n :: st)) rfl (hb hby hd) rfl hn hcap hb' hc hl had
  exact own_go s' (q h' _ cA rfl O'.2.1 E' (Arv.new A' hn) C' T' _ hx hby hml hrt hlk hown hnm hZ X' e' N (O'.ext E'))
theorem own_newR (pc' : Nat) (hp : pc + 3 = pc') (cs' sl' cap : Nat) {C : String} {index : Nat} (w1 : (Jvm.Cond.classLink own index C).before a0 Z = true) (w2 : (Jvm.Cond.arrayOver (.object C)).before a0 Z = true) (hd : decode bytes pc = .ok (.anewarray index, 3)) {n : Int32} (hn : ¬ n < 0) (hcap : n.toNatClampNeg ≤ cap) (hb' : cap * 8 ≤ 536870912) (hcs : cs + 1 = cs') (hsl : sl + cap = sl') (hc : cs' ≤ R.cells) (hl : sl' ≤ R.slots)
    (q : ∀ h' (a : Addr) k, a = h.size → Z.heap.size ≤ a → Ext h h' → Arv Z h' a k (.object C) n [] .null → Ovr Z k C → own_K p l e R s m args below meth c bytes mx rt own nm Z Q pc' ls (.ref a :: st) h' cs' sl') : own_K p l e R s m args below meth c bytes mx rt own nm Z Q pc ls (.int n :: st) h cs sl := fun T L hx hby hml hrt hlk hown hnm hZ X eT N O' => by
  subst hp; subst hcs; subst hsl
  obtain ⟨T', h', cA, X', e', E', A', V', s'⟩ := newR X hx hZ hown w1 w2 eT (g := mkF m pc ls (.int n :: st)) rfl (hb hby hd) rfl hn hcap hb' hc hl
  exact own_go s' (q h' _ cA rfl O'.2.1 E' (Arv.new A' hn) V' T' _ hx hby hml hrt hlk hown hnm hZ X' e' N (O'.ext E'))
theorem own_initO (pc' : Nat) (hp : pc + 3 = pc') {index : Nat} (w1 : (Jvm.Cond.methodLink own index Lib.objectInit).before a0 Z = true) (w2 : (Jvm.Cond.instanceMethod Lib.objectInit).before a0 Z = true) (w3 : (Jvm.Cond.code Lib.objectInit ⟨#[0xb1]⟩ 1 none).before a0 Z = true) {a : Addr} (hd : decode bytes pc = .ok (.invokespecial index, 3)) (hls : ls.size = mx) (hf : 1 ≤ R.frames) (W : Nat) (hW : (st.map fun v => v.category).sum ≤ W) (hl : W + 12 ≤ R.locals)
    (q : own_K p l e R s m args below meth c bytes mx rt own nm Z Q pc' ls st h cs sl) : own_K p l e R s m args below meth c bytes mx rt own nm Z Q pc ls (.ref a :: st) h cs sl := fun T L hx hby hml hrt hlk hown hnm hZ X eT N O' => by
  subst hp
  obtain ⟨T', X', e', s'⟩ := initO X hx hZ hown w1 w2 w3 eT (g := mkF m pc ls (.ref a :: st)) rfl (hls.trans hml.symm) rfl (hb hby hd) hf (W := W) (by simpa using hW) hl
  exact own_go s' (q T' L hx hby hml hrt hlk hown hnm hZ X' e' N O')
theorem own_alen (pc' : Nat) (hp : pc + 1 = pc') {a : Addr} {cl : Cell} {ty : FieldType} (A : Arr Z h a cl ty) (n : Int32) (hn : cl.slots.size.toInt32 = n) (hd : decode bytes pc = .ok (.arraylength, 1))
    (q : own_K p l e R s m args below meth c bytes mx rt own nm Z Q pc' ls (.int n :: st) h cs sl) : own_K p l e R s m args below meth c bytes mx rt own nm Z Q pc ls (.ref a :: st) h cs sl := fun T L hx hby hml hrt hlk hown hnm hZ X eT N O' => by
  subst hp; subst hn
  exact own_go (X.arraylength hx (by rw [eT]; exact A.1) (State.isArrayOf_alike hZ.alike A.2.1) (g := mkF m pc ls (.ref a :: st)) rfl rfl (hb hby hd)) (q T L hx hby hml hrt hlk hown hnm hZ X eT N O')
theorem own_iaload (pc' : Nat) (hp : pc + 1 = pc') {a : Addr} {cl : Cell} {j : Int32} {v : Value} (A : Arr Z h a cl .int) (hin : ¬ (j < 0 ∨ cl.slots.size ≤ j.toNatClampNeg)) (hv : cl.slots[j.toNatClampNeg]? = some v) (hd : decode bytes pc = .ok (.iaload, 1))
    (q : own_K p l e R s m args below meth c bytes mx rt own nm Z Q pc' ls (v :: st) h cs sl) : own_K p l e R s m args below meth c bytes mx rt own nm Z Q pc ls (.int j :: .ref a :: st) h cs sl := fun T L hx hby hml hrt hlk hown hnm hZ X eT N O' => by
  subst hp
  exact own_go (X.iaload hx (by rw [eT]; exact A.1) (State.isArrayOf_alike hZ.alike A.2.1) A.2.2 hin hv (g := mkF m pc ls (.int j :: .ref a :: st)) rfl rfl (hb hby hd)) (q T L hx hby hml hrt hlk hown hnm hZ X eT N O')
theorem own_laload (pc' : Nat) (hp : pc + 1 = pc') {a : Addr} {cl : Cell} {j : Int32} {v : Value} (A : Arr Z h a cl .long) (hin : ¬ (j < 0 ∨ cl.slots.size ≤ j.toNatClampNeg)) (hv : cl.slots[j.toNatClampNeg]? = some v) (hd : decode bytes pc = .ok (.laload, 1))
    (q : own_K p l e R s m args below meth c bytes mx rt own nm Z Q pc' ls (v :: st) h cs sl) : own_K p l e R s m args below meth c bytes mx rt own nm Z Q pc ls (.int j :: .ref a :: st) h cs sl := fun T L hx hby hml hrt hlk hown hnm hZ X eT N O' => by
  subst hp
  exact own_go (X.laload hx (by rw [eT]; exact A.1) (State.isArrayOf_alike hZ.alike A.2.1) A.2.2 hin hv (g := mkF m pc ls (.int j :: .ref a :: st)) rfl rfl (hb hby hd)) (q T L hx hby hml hrt hlk hown hnm hZ X eT N O')
theorem own_baload (pc' : Nat) (hp : pc + 1 = pc') {a : Addr} {cl : Cell} {j : Int32} {v : Value} (A : Arr Z h a cl .byte) (hin : ¬ (j < 0 ∨ cl.slots.size ≤ j.toNatClampNeg)) (hv : cl.slots[j.toNatClampNeg]? = some v) (hd : decode bytes pc = .ok (.baload, 1))
    (q : own_K p l e R s m args below meth c bytes mx rt own nm Z Q pc' ls (v :: st) h cs sl) : own_K p l e R s m args below meth c bytes mx rt own nm Z Q pc ls (.int j :: .ref a :: st) h cs sl := fun T L hx hby hml hrt hlk hown hnm hZ X eT N O' => by
  subst hp
  exact own_go (X.baloadBytes hx (by rw [eT]; exact A.1) (State.isArrayOf_alike hZ.alike A.2.1) A.2.2 hin hv (g := mkF m pc ls (.int j :: .ref a :: st)) rfl rfl (hb hby hd)) (q T L hx hby hml hrt hlk hown hnm hZ X eT N O')
theorem own_zaload (pc' : Nat) (hp : pc + 1 = pc') {a : Addr} {cl : Cell} {j : Int32} {v : Value} (A : Arr Z h a cl .boolean) (hin : ¬ (j < 0 ∨ cl.slots.size ≤ j.toNatClampNeg)) (hv : cl.slots[j.toNatClampNeg]? = some v) (hd : decode bytes pc = .ok (.baload, 1))
    (q : own_K p l e R s m args below meth c bytes mx rt own nm Z Q pc' ls (v :: st) h cs sl) : own_K p l e R s m args below meth c bytes mx rt own nm Z Q pc ls (.int j :: .ref a :: st) h cs sl := fun T L hx hby hml hrt hlk hown hnm hZ X eT N O' => by
  subst hp
  exact own_go (X.baloadBooleans hx (by rw [eT]; exact A.1) (State.isArrayOf_alike hZ.alike A.2.1) A.2.2 hin hv (g := mkF m pc ls (.int j :: .ref a :: st)) rfl rfl (hb hby hd)) (q T L hx hby hml hrt hlk hown hnm hZ X eT N O')
theorem own_aaload (pc' : Nat) (hp : pc + 1 = pc') {a : Addr} {cl : Cell} {j : Int32} {v : Value} {ty : FieldType} (A : Arr Z h a cl ty) (hty : ty.isReference = true) (hin : ¬ (j < 0 ∨ cl.slots.size ≤ j.toNatClampNeg)) (hv : cl.slots[j.toNatClampNeg]? = some v) (hd : decode bytes pc = .ok (.aaload, 1))
    (q : own_K p l e R s m args below meth c bytes mx rt own nm Z Q pc' ls (v :: st) h cs sl) : own_K p l e R s m args below meth c bytes mx rt own nm Z Q pc ls (.int j :: .ref a :: st) h cs sl := fun T L hx hby hml hrt hlk hown hnm hZ X eT N O' => by
  subst hp
  exact own_go (X.aaload hx (by rw [eT]; exact A.1) (State.isArrayOf_alike hZ.alike A.2.1) hty A.2.2 hin hv (g := mkF m pc ls (.int j :: .ref a :: st)) rfl rfl (hb hby hd)) (q T L hx hby hml hrt hlk hown hnm hZ X eT N O')
theorem own_iastore (pc' : Nat) (hp : pc + 1 = pc') {a : Addr} {cl : Cell} {j x : Int32} (ga : Z.heap.size ≤ a) (A : Arr Z h a cl .int) (hin : ¬ (j < 0 ∨ cl.slots.size ≤ j.toNatClampNeg)) (hd : decode bytes pc = .ok (.iastore, 1))
    (q : ∀ h', Wr h h' a j.toNatClampNeg (.int x) → own_K p l e R s m args below meth c bytes mx rt own nm Z Q pc' ls st h' cs sl) : own_K p l e R s m args below meth c bytes mx rt own nm Z Q pc ls (.int x :: .int j :: .ref a :: st) h cs sl := fun T L hx hby hml hrt hlk hown hnm hZ X eT N O' => by
  subst hp
  obtain ⟨T', h', X', e', W', s'⟩ := stI X hx hZ eT A hin (g := mkF m pc ls (.int x :: .int j :: .ref a :: st)) rfl rfl (hb hby hd)
  exact own_go s' (q h' W' T' _ hx hby hml hrt hlk hown hnm hZ X' e' (Fr.snoc X' N ga) (O'.wr W' ga))
theorem own_lastore (pc' : Nat) (hp : pc + 1 = pc') {a : Addr} {cl : Cell} {j : Int32} {x : Int64} (ga : Z.heap.size ≤ a) (A : Arr Z h a cl .long) (hin : ¬ (j < 0 ∨ cl.slots.size ≤ j.toNatClampNeg)) (hd : decode bytes pc = .ok (.lastore, 1))
    (q : ∀ h', Wr h h' a j.toNatClampNeg (.long x) → own_K p l e R s m args below meth c bytes mx rt own nm Z Q pc' ls st h' cs sl) : own_K p l e R s m args below meth c bytes mx rt own nm Z Q pc ls (.long x :: .int j :: .ref a :: st) h cs sl := fun T L hx hby hml hrt hlk hown hnm hZ X eT N O' => by
  subst hp
  obtain ⟨T', h', X', e', W', s'⟩ := stJ X hx hZ eT A hin (g := mkF m pc ls (.long x :: .int j :: .ref a :: st)) rfl rfl (hb hby hd)
  exact own_go s' (q h' W' T' _ hx hby hml hrt hlk hown hnm hZ X' e' (Fr.snoc X' N ga) (O'.wr W' ga))
theorem own_bastore (pc' : Nat) (hp : pc + 1 = pc') {a : Addr} {cl : Cell} {j x : Int32} (ga : Z.heap.size ≤ a) (A : Arr Z h a cl .byte) (hin : ¬ (j < 0 ∨ cl.slots.size ≤ j.toNatClampNeg)) (hd : decode bytes pc = .ok (.bastore, 1))
    (q : ∀ h', Wr h h' a j.toNatClampNeg (.int (nar .byte x)) → own_K p l e R s m args below meth c bytes mx rt own nm Z Q pc' ls st h' cs sl) : own_K p l e R s m args below meth c bytes mx rt own nm Z Q pc ls (.int x :: .int j :: .ref a :: st) h cs sl := fun T L hx hby hml hrt hlk hown hnm hZ X eT N O' => by
  subst hp
  obtain ⟨T', h', X', e', W', s'⟩ := stB X hx hZ eT A hin (g := mkF m pc ls (.int x :: .int j :: .ref a :: st)) rfl rfl (hb hby hd)
  exact own_go s' (q h' W' T' _ hx hby hml hrt hlk hown hnm hZ X' e' (Fr.snoc X' N ga) (O'.wr W' ga))
theorem own_aastore (pc' : Nat) (hp : pc + 1 = pc') {a : Addr} {cl : Cell} {j : Int32} {v : Value} {ty : FieldType} (ga : Z.heap.size ≤ a) (A : Arr Z h a cl ty) (hty : ty.isReference = true) (F : Sto Z h a v) (hin : ¬ (j < 0 ∨ cl.slots.size ≤ j.toNatClampNeg)) (hd : decode bytes pc = .ok (.aastore, 1))
    (q : ∀ h', Wr h h' a j.toNatClampNeg v → own_K p l e R s m args below meth c bytes mx rt own nm Z Q pc' ls st h' cs sl) : own_K p l e R s m args below meth c bytes mx rt own nm Z Q pc ls (v :: .int j :: .ref a :: st) h cs sl := fun T L hx hby hml hrt hlk hown hnm hZ X eT N O' => by
  subst hp
  obtain ⟨T', h', X', e', W', s'⟩ := stR X hx hZ eT A hin hty F (g := mkF m pc ls (v :: .int j :: .ref a :: st)) rfl rfl (hb hby hd)
  exact own_go s' (q h' W' T' _ hx hby hml hrt hlk hown hnm hZ X' e' (Fr.snoc X' N ga) (O'.wr W' ga))
theorem own_cast (pc' : Nat) (hp : pc + 3 = pc') {C : String} {index : Nat} (w : (Jvm.Cond.classLink own index C).before a0 Z = true) {a : Addr} (F : Ins Z h a C true) (hd : decode bytes pc = .ok (.checkcast index, 3))
    (q : own_K p l e R s m args below meth c bytes mx rt own nm Z Q pc' ls (.ref a :: st) h cs sl) : own_K p l e R s m args below meth c bytes mx rt own nm Z Q pc ls (.ref a :: st) h cs sl := fun T L hx hby hml hrt hlk hown hnm hZ X eT N O' => by
  subst hp
  obtain ⟨T', X', e', s'⟩ := castY X hx hZ hown w eT F (g := mkF m pc ls (.ref a :: st)) rfl rfl (hb hby hd)
  exact own_go s' (q T' L hx hby hml hrt hlk hown hnm hZ X' e' N O')
theorem own_castNull (pc' : Nat) (hp : pc + 3 = pc') {index : Nat} (hd : decode bytes pc = .ok (.checkcast index, 3))
    (q : own_K p l e R s m args below meth c bytes mx rt own nm Z Q pc' ls (.null :: st) h cs sl) : own_K p l e R s m args below meth c bytes mx rt own nm Z Q pc ls (.null :: st) h cs sl := fun T L hx hby hml hrt hlk hown hnm hZ X eT N O' => by
  subst hp
  exact own_go (X.checkcastNull hx (g := mkF m pc ls (.null :: st)) rfl rfl (hb hby hd)) (q T L hx hby hml hrt hlk hown hnm hZ X eT N O')
theorem own_clone (pc' : Nat) (hp : pc + 3 = pc') (cs' sl' cap W : Nat) {ad : String} {index : Nat} {k : ClassId} {ty : FieldType} {z : Int32} {vs : List Value} {dv : Value} {a : Addr}
    (w1 : (Jvm.Cond.methodLink own index ⟨ad, "clone", "()Ljava/lang/Object;"⟩).before a0 Z = true) (w2 : (Jvm.Cond.sameMethod ad "java/lang/Object" "clone" "()Ljava/lang/Object;").before a0 Z = true) (w3 : (Jvm.Cond.native ⟨"java/lang/Object", "clone", "()Ljava/lang/Object;"⟩).before a0 Z = true)
    (w4 : (Jvm.Cond.instanceMethod ⟨"java/lang/Object", "clone", "()Ljava/lang/Object;"⟩).before a0 Z = true) (w5 : (Jvm.Cond.selects ad ⟨ad, "clone", "()Ljava/lang/Object;"⟩ ⟨"java/lang/Object", "clone", "()Ljava/lang/Object;"⟩).before a0 Z = true) (w6 : (Jvm.Cond.castable ad "java/lang/Cloneable").before a0 Z = true)
    (F : Arv Z h a k ty z vs dv) (E : Exa Z h a ad) (hcap : z.toNatClampNeg ≤ cap) (hd : decode bytes pc = .ok (.invokevirtual index, 3)) (hls : ls.size = mx) (hf : 1 ≤ R.frames) (hW : (st.map fun v => v.category).sum = W) (hl : W + 14 ≤ R.locals) (hcs : cs + 1 = cs') (hsl : sl + cap = sl') (hc : cs' ≤ R.cells) (hs : sl' ≤ R.slots)
    (q : ∀ h' (b : Addr), b = h.size → Z.heap.size ≤ b → Ext h h' → Arv Z h' b k ty z vs dv → Exa Z h' b ad → own_K p l e R s m args below meth c bytes mx rt own nm Z Q pc' ls (.ref b :: st) h' cs' sl') : own_K p l e R s m args below meth c bytes mx rt own nm Z Q pc ls (.ref a :: st) h cs sl := fun T L hx hby hml hrt hlk hown hnm hZ X eT N O' => by
  subst hp; subst hcs; subst hsl
  obtain ⟨T', h', X', e', E', A', C', s'⟩ := cloneH X hx hZ hown w1 w2 w3 w4 w5 w6 eT F.arh E (g := mkF m pc ls (.ref a :: st)) rfl (hls.trans hml.symm) rfl (hb hby hd) hf (W := W) (by show 2 * 0 + _ ≤ _; omega) hl hcap hc hs
  exact own_go s' (q h' _ rfl O'.2.1 E' A' C' T' _ hx hby hml hrt hlk hown hnm hZ X' e' N (O'.ext E'))
-- leaving
theorem own_out {t : FieldType} {v : Value} {pc : Nat} {T : State} {L : List Loc} (X : Stand p l e R s m args below meth c T L cs sl) (hrt : meth.sig.returnType = some t) (hlk : meth.locks = false)
    (f : ∀ fs, (∀ (f : JFrame) (acts : List Action), f.method = m → f.locked = none → f.entered = [] → (doReturn e (T.setTop f) acts (some v)).1 = T.setFrames fs) → Steps p.tables e below (T.setTop (mkF m pc ls st)) (T.setFrames fs)) (hc : cs ≤ R.cells) (hs : sl ≤ R.slots) (N : Fr Z.heap.size L) (O : Old Z Z.heap.size T.heap) (q : Q (some v) T.heap) :
    own_G p e s below Z Q R.cells R.slots (T.setTop (mkF m pc ls st)) := by
  obtain ⟨fs, hr, hrun, hended, hW, hsame⟩ := X.leave (v := some v) (fun h => by rw [hrt] at h; cases h) hlk
  exact ⟨_, _, f fs hr, hrun, hended, _, _, rfl, ⟨q, N, O⟩, ⟨_, rfl⟩, hW, hsame.mono hc hs⟩
theorem own_retI {v : Int32} (hr : rt = some .int) (hd : decode bytes pc = .ok (.ireturn, 1)) (hc : cs ≤ R.cells) (hs : sl ≤ R.slots) (q : Q (some (.int v)) h) : own_K p l e R s m args below meth c bytes mx rt own nm Z Q pc ls (.int v :: st) h cs sl := fun T L hx hby hml hrt hlk hown hnm hZ X eT N O' => by
  subst eT
  exact own_out X (hrt.trans hr) hlk (fun fs k => retOut X hx (hrt.trans hr) rfl (Or.inl ⟨rfl, Or.inl rfl, _, rfl⟩) (hb hby hd) k) hc hs N O' q
theorem own_retN {v : Int32} {t : FieldType} (hr : rt = some t) (ht : t = .boolean ∨ t = .byte ∨ t = .char ∨ t = .short) (hd : decode bytes pc = .ok (.ireturn, 1)) (hc : cs ≤ R.cells) (hs : sl ≤ R.slots) (q : Q (some (.int (nar t v))) h) : own_K p l e R s m args below meth c bytes mx rt own nm Z Q pc ls (.int v :: st) h cs sl := fun T L hx hby hml hrt hlk hown hnm hZ X eT N O' => by
  subst eT
  exact own_out X (hrt.trans hr) hlk (fun fs k => retN X hx (hrt.trans hr) ht (hb hby hd) k) hc hs N O' q
theorem own_retJ {v : Int64} (hr : rt = some .long) (hd : decode bytes pc = .ok (.lreturn, 1)) (hc : cs ≤ R.cells) (hs : sl ≤ R.slots) (q : Q (some (.long v)) h) : own_K p l e R s m args below meth c bytes mx rt own nm Z Q pc ls (.long v :: st) h cs sl := fun T L hx hby hml hrt hlk hown hnm hZ X eT N O' => by
  subst eT
  exact own_out X (hrt.trans hr) hlk (fun fs k => retOut X hx (hrt.trans hr) rfl (Or.inr (Or.inl ⟨rfl, rfl, _, rfl⟩)) (hb hby hd) k) hc hs N O' q
theorem own_narR {t : FieldType} {v : Value} (ht : t.isReference = true) (hv : v.isRef = true) : narrow t v = v := by
  rcases ref_cases hv with rfl | ⟨_, rfl⟩ <;> cases t <;> first | rfl | cases ht
theorem own_retA {v : Value} {t : FieldType} (hr : rt = some t) (ht : t.isReference = true) (hv : v.isRef = true) (hd : decode bytes pc = .ok (.areturn, 1)) (hc : cs ≤ R.cells) (hs : sl ≤ R.slots) (q : Q (some v) h) : own_K p l e R s m args below meth c bytes mx rt own nm Z Q pc ls (v :: st) h cs sl := fun T L hx hby hml hrt hlk hown hnm hZ X eT N O' => by
  subst eT
  exact own_out X (hrt.trans hr) hlk (fun fs k => retOut X hx (hrt.trans hr) (own_narR ht hv) (Or.inr (Or.inr (Or.inr (Or.inr ⟨rfl, ht, hv⟩)))) (hb hby hd) k) hc hs N O' q
theorem own_ret (hr : rt = none) (hd : decode bytes pc = .ok (.return_, 1)) (hc : cs ≤ R.cells) (hs : sl ≤ R.slots) (q : Q none h) : own_K p l e R s m args below meth c bytes mx rt own nm Z Q pc ls [] h cs sl := fun T L hx hby hml hrt hlk hown hnm hZ X eT N O' => by
  subst eT
  obtain ⟨fs, hr', hrun, hended, hW, hsame⟩ := X.leave (v := none) (fun _ => rfl) hlk
  exact ⟨_, _, X.returnOut hx (hrt.trans hr) (hb hby hd) hr', hrun, hended, _, _, rfl, ⟨q, N, O'⟩, ⟨_, rfl⟩, hW, hsame.mono hc hs⟩
-- calls
theorem own_back {y : MethodName} {b' : ByteArray} {mx' : Nat} {rt' : Option FieldType} {rm' : Room} {as' : Array Value} {Q' : Option Value → Heap → Prop} {W : Nat} (hZ : Z.Warmed39 s.vm) (O : Old Z Z.heap.size h) (hM : own_Met l Z y b' mx' rt' [] rm' as' h Q') (w4 : (Jvm.Cond.code y b' mx' rt').before a0 Z = true) (w3 : (Jvm.Cond.initialized y.cls).before a0 Z = true)
    (hf : rm'.frames + 1 ≤ R.frames) (hl : W + (mx' + 11) + rm'.locals ≤ R.locals) {len : Nat} :
    Back l R p e below s args y len W (fun A a => a = as' ∧ A.U.heap = h ∧ A.cells + rm'.cells ≤ R.cells ∧ A.slots + rm'.slots ≤ R.slots)
      (fun A _ v B => ∃ L, (Q' v B.U.heap ∧ Fr Z.heap.size L ∧ Old Z Z.heap.size B.U.heap) ∧ B.locs = A.locs ++ L ∧ B.cells = A.cells + rm'.cells ∧ B.slots = A.slots + rm'.slots) :=
  backOf (Q := fun v h' L => Q' v h' ∧ Fr Z.heap.size L ∧ Old Z Z.heap.size h') (hM O) hZ w4 w3 hf hl
theorem own_callS (pc' : Nat) (hp : pc + 3 = pc') (cs' sl' W : Nat) (argsL rest : List Value) {index : Nat} {y : MethodName} {b' : ByteArray} {mx' : Nat} {rt' : Option FieldType} {rm' : Room} {as' : Array Value} {Q' : Option Value → Heap → Prop}
    (w1 : (Jvm.Cond.methodLink own index y).before a0 Z = true) (w2 : (Jvm.Cond.static y).before a0 Z = true) (w3 : (Jvm.Cond.initialized y.cls).before a0 Z = true) (w4 : (Jvm.Cond.code y b' mx' rt').before a0 Z = true) (hy : y.cls ≠ "java/lang/invoke/MethodHandle" ∧ y.cls ≠ "java/lang/invoke/VarHandle")
    (hM : own_Met l Z y b' mx' rt' [] rm' as' h Q') (hd : decode bytes pc = .ok (.invokestatic index, 3)) (hls : ls.size = mx) (hlen : ∀ sig, parseMethodDescriptor y.desc = some sig → argsL.length = sig.parameters.length) (has : argsL.toArray = as') (hst : st = argsL.reverse ++ rest) (hW : (rest.map fun v => v.category).sum = W)
    (hf : rm'.frames + 1 ≤ R.frames) (hl : W + (mx' + 11) + rm'.locals ≤ R.locals) (hcs : cs + rm'.cells = cs') (hsl : sl + rm'.slots = sl') (hc : cs' ≤ R.cells) (hs : sl' ≤ R.slots)
    (k : ∀ v h', Q' v h' → own_K p l e R s m args below meth c bytes mx rt own nm Z Q pc' ls (v.toList ++ rest) h' cs' sl') : own_K p l e R s m args below meth c bytes mx rt own nm Z Q pc ls st h cs sl := fun T L hx hby hml hrt hlk hown hnm hZ X eT N O' => by
  subst hp; subst hcs; subst hsl; subst hst; subst has; subst eT
  obtain ⟨v, _, ⟨T2, L2, k2, n2⟩, -, X2, ⟨Lc2, ⟨hQ2, N2, O2⟩, l2, y2, z2⟩, st2⟩ := Jvm.LawKit.callS X hx (y := y) hown (mvT hZ w1) (mvT hZ w2) (mvT hZ w3) (mvT hZ w4) hy (own_back (W := W) hZ O' hM w4 w3 hf hl) (g := mkF m pc ls (argsL.reverse ++ rest)) rfl (hls.trans hml.symm) (argsL := argsL) (rest := rest) hlen rfl (by show 2 * 0 + _ ≤ _; omega) (hb hby hd) (fun _ _ => ⟨rfl, rfl, hc, hs⟩)
  dsimp only [Pt.U, Pt.locs, Pt.cells, Pt.slots] at X2 l2 y2 z2 st2 hQ2 O2
  subst l2 y2 z2
  exact own_go st2 (k v _ hQ2 T2 _ hx hby hml hrt hlk hown hnm hZ X2 rfl (N.app N2) O2)
theorem own_callV (pc' : Nat) (hp : pc + 3 = pc') (cs' sl' W : Nat) (argsL rest : List Value) {index : Nat} {C : String} {y z : MethodName} {b' : ByteArray} {mx' : Nat} {rt' : Option FieldType} {rm' : Room} {as' : Array Value} {Q' : Option Value → Heap → Prop} {a : Addr}
    (w1 : (Jvm.Cond.methodLink own index y).before a0 Z = true) (w2 : (Jvm.Cond.declares y).before a0 Z = true) (hnf : ∀ {u : State}, Z.Warmed39 u.vm → NotFace u y) (w5 : (Jvm.Cond.selects C y z).before a0 Z = true) (w6 : (Jvm.Cond.instanceMethod z).before a0 Z = true) (w3 : (Jvm.Cond.initialized z.cls).before a0 Z = true) (w4 : (Jvm.Cond.code z b' mx' rt').before a0 Z = true) (hy : y.cls ≠ "java/lang/invoke/MethodHandle" ∧ y.cls ≠ "java/lang/invoke/VarHandle")
    (E : Exa Z h a C) (hM : own_Met l Z z b' mx' rt' [] rm' as' h Q') (hd : decode bytes pc = .ok (.invokevirtual index, 3)) (hls : ls.size = mx) (hlen : ∀ sig, parseMethodDescriptor y.desc = some sig → argsL.length = sig.parameters.length) (has : (.ref a :: argsL).toArray = as') (hst : st = argsL.reverse ++ .ref a :: rest) (hW : (rest.map fun v => v.category).sum = W)
    (hf : rm'.frames + 1 ≤ R.frames) (hl : W + (mx' + 11) + rm'.locals ≤ R.locals) (hcs : cs + rm'.cells = cs') (hsl : sl + rm'.slots = sl') (hc : cs' ≤ R.cells) (hs : sl' ≤ R.slots)
    (k : ∀ v h', Q' v h' → own_K p l e R s m args below meth c bytes mx rt own nm Z Q pc' ls (v.toList ++ rest) h' cs' sl') : own_K p l e R s m args below meth c bytes mx rt own nm Z Q pc ls st h cs sl := fun T L hx hby hml hrt hlk hown hnm hZ X eT N O' => by
  subst hp; subst hcs; subst hsl; subst hst; subst has; subst eT
  obtain ⟨cq, kq, qa, qb, qc⟩ := isOf hZ rfl E
  obtain ⟨v, _, ⟨T2, L2, k2, n2⟩, -, X2, ⟨Lc2, ⟨hQ2, N2, O2⟩, l2, y2, z2⟩, st2⟩ := X.virtualBack hx (y := y) (z := z) hown (mvT hZ w1) (mvT hZ w2) (hnf hZ) (mvT hZ w5) (mvT hZ w6) hy (own_back (W := W) hZ O' hM w4 w3 hf hl) qa qc (g := mkF m pc ls (argsL.reverse ++ .ref a :: rest)) rfl (hls.trans hml.symm) (Steps.refl _) (argsL := argsL) (rest := rest) hlen rfl (by show 2 * 0 + _ ≤ _; omega) (hb hby hd) (fun _ _ => ⟨rfl, rfl, hc, hs⟩)
  dsimp only [Pt.U, Pt.locs, Pt.cells, Pt.slots] at X2 l2 y2 z2 st2 hQ2 O2
  subst l2 y2 z2
  exact own_go (fun t q => st2.trans q) (k v _ hQ2 T2 _ hx hby hml hrt hlk hown hnm hZ X2 rfl (N.app N2) O2)
theorem own_callF (pc' : Nat) (hp : pc + 5 = pc') (cs' sl' W : Nat) (argsL rest : List Value) {index count : Nat} {C : String} {y z : MethodName} {b' : ByteArray} {mx' : Nat} {rt' : Option FieldType} {rm' : Room} {as' : Array Value} {Q' : Option Value → Heap → Prop} {a : Addr}
    (w1 : (Jvm.Cond.methodLink own index y).before a0 Z = true) (w2 : (Jvm.Cond.declares y).before a0 Z = true) (w7 : (Jvm.Cond.interfaceMethod y.cls y.cls y.name y.desc).before a0 Z = true) (w7k : ((Jvm.Cond.interfaceMethod y.cls y.cls y.name y.desc).onTables && (Jvm.Cond.interfaceMethod y.cls y.cls y.name y.desc).keepsFace) = true) (w5 : (Jvm.Cond.selects C y z).before a0 Z = true) (w6 : (Jvm.Cond.instanceMethod z).before a0 Z = true) (w8 : (Jvm.Cond.publicMethod z).before a0 Z = true) (w9 : (Jvm.Cond.unhidden C y.name y.desc).before a0 Z = true) (w10 : (Jvm.Cond.castable C y.cls).before a0 Z = true) (w3 : (Jvm.Cond.initialized z.cls).before a0 Z = true) (w4 : (Jvm.Cond.code z b' mx' rt').before a0 Z = true) (hy : y.cls ≠ "java/lang/invoke/MethodHandle" ∧ y.cls ≠ "java/lang/invoke/VarHandle")
    (E : Exa Z h a C) (hM : own_Met l Z z b' mx' rt' [] rm' as' h Q') (hd : decode bytes pc = .ok (.invokeinterface index count, 5)) (hls : ls.size = mx) (hlen : ∀ sig, parseMethodDescriptor y.desc = some sig → argsL.length = sig.parameters.length) (has : (.ref a :: argsL).toArray = as') (hst : st = argsL.reverse ++ .ref a :: rest) (hW : (rest.map fun v => v.category).sum = W)
    (hf : rm'.frames + 1 ≤ R.frames) (hl : W + (mx' + 11) + rm'.locals ≤ R.locals) (hcs : cs + rm'.cells = cs') (hsl : sl + rm'.slots = sl') (hc : cs' ≤ R.cells) (hs : sl' ≤ R.slots)
    (k : ∀ v h', Q' v h' → own_K p l e R s m args below meth c bytes mx rt own nm Z Q pc' ls (v.toList ++ rest) h' cs' sl') : own_K p l e R s m args below meth c bytes mx rt own nm Z Q pc ls st h cs sl := fun T L hx hby hml hrt hlk hown hnm hZ X eT N O' => by
  subst hp; subst hcs; subst hsl; subst hst; subst has; subst eT
  obtain ⟨cq, kq, qa, qb, qc⟩ := isOf hZ rfl E
  obtain ⟨v, _, ⟨T2, L2, k2, n2⟩, -, X2, ⟨Lc2, ⟨hQ2, N2, O2⟩, l2, y2, z2⟩, st2⟩ := X.interfaceBack hx (xi := y) (y := z) hown (mvT hZ w1) (mvT hZ w2) (mvT hZ w7 w7k) (mvT hZ w5) (mvT hZ w6) (mvT hZ w8) (mvT hZ w9) (mvT hZ w10) hy (own_back (W := W) hZ O' hM w4 w3 hf hl) qa qb qc (g := mkF m pc ls (argsL.reverse ++ .ref a :: rest)) rfl (hls.trans hml.symm) (Steps.refl _) (argsL := argsL) (rest := rest) hlen rfl (by show 2 * 0 + _ ≤ _; omega) (hb hby hd) (fun _ _ => ⟨rfl, rfl, hc, hs⟩)
  dsimp only [Pt.U, Pt.locs, Pt.cells, Pt.slots] at X2 l2 y2 z2 st2 hQ2 O2
  subst l2 y2 z2
  exact own_go (fun t q => st2.trans q) (k v _ hQ2 T2 _ hx hby hml hrt hlk hown hnm hZ X2 rfl (N.app N2) O2)
theorem own_callI (pc' : Nat) (hp : pc + 3 = pc') (cs' sl' W : Nat) (argsL rest : List Value) {index : Nat} {y : MethodName} {b' : ByteArray} {mx' : Nat} {rm' : Room} {as' : Array Value} {Q' : Option Value → Heap → Prop} {a : Addr} (hy1 : y.name = "<init>")
    (w1 : (Jvm.Cond.methodLink own index y).before a0 Z = true) (w6 : (Jvm.Cond.instanceMethod y).before a0 Z = true) (w3 : (Jvm.Cond.initialized y.cls).before a0 Z = true) (w4 : (Jvm.Cond.code y b' mx' none).before a0 Z = true) (hy : y.cls ≠ "java/lang/invoke/MethodHandle" ∧ y.cls ≠ "java/lang/invoke/VarHandle")
    (hM : own_Met l Z y b' mx' none [] rm' as' h Q') (hd : decode bytes pc = .ok (.invokespecial index, 3)) (hls : ls.size = mx) (hlen : ∀ sig, parseMethodDescriptor y.desc = some sig → argsL.length = sig.parameters.length) (has : (.ref a :: argsL).toArray = as') (hst : st = argsL.reverse ++ .ref a :: rest) (hW : (rest.map fun v => v.category).sum = W)
    (hf : rm'.frames + 1 ≤ R.frames) (hl : W + (mx' + 11) + rm'.locals ≤ R.locals) (hcs : cs + rm'.cells = cs') (hsl : sl + rm'.slots = sl') (hc : cs' ≤ R.cells) (hs : sl' ≤ R.slots)
    (k : ∀ v h', Q' v h' → own_K p l e R s m args below meth c bytes mx rt own nm Z Q pc' ls (v.toList ++ rest) h' cs' sl') : own_K p l e R s m args below meth c bytes mx rt own nm Z Q pc ls st h cs sl := fun T L hx hby hml hrt hlk hown hnm hZ X eT N O' => by
  subst hp; subst hcs; subst hsl; subst hst; subst has; subst eT
  obtain ⟨v, _, ⟨T2, L2, k2, n2⟩, -, X2, ⟨Lc2, ⟨hQ2, N2, O2⟩, l2, y2, z2⟩, st2⟩ := X.specialBack hx (y := y) hy1 hown (mvT hZ w1) (mvT hZ w6) (mvT hZ w4) hy (own_back (W := W) hZ O' hM w4 w3 hf hl) (g := mkF m pc ls (argsL.reverse ++ .ref a :: rest)) rfl (hls.trans hml.symm) (Steps.refl _) (a := a) (argsL := argsL) (rest := rest) hlen rfl (by show 2 * 0 + _ ≤ _; omega) (hb hby hd) (fun _ _ => ⟨rfl, rfl, hc, hs⟩)
  dsimp only [Pt.U, Pt.locs, Pt.cells, Pt.slots] at X2 l2 y2 z2 st2 hQ2 O2
  subst l2 y2 z2
  exact own_go (fun t q => st2.trans q) (k v _ hQ2 T2 _ hx hby hml hrt hlk hown hnm hZ X2 rfl (N.app N2) O2)
theorem own_callP (pc' : Nat) (hp : pc + 3 = pc') (cs' sl' W : Nat) (argsL rest : List Value) {index : Nat} {C : String} {y : MethodName} {b' : ByteArray} {mx' : Nat} {rt' : Option FieldType} {rm' : Room} {as' : Array Value} {Q' : Option Value → Heap → Prop} {a : Addr}
    (w1 : (Jvm.Cond.methodLink own index y).before a0 Z = true) (w6 : (Jvm.Cond.instanceMethod y).before a0 Z = true) (w5 : (Jvm.Cond.selects y.cls y y).before a0 Z = true) (w7 : (Jvm.Cond.privateMethod y).before a0 Z = true) (w3 : (Jvm.Cond.initialized y.cls).before a0 Z = true) (w4 : (Jvm.Cond.code y b' mx' rt').before a0 Z = true) (hy : y.cls ≠ "java/lang/invoke/MethodHandle" ∧ y.cls ≠ "java/lang/invoke/VarHandle")
    (E : Exa Z h a C) (hM : own_Met l Z y b' mx' rt' [] rm' as' h Q') (hd : decode bytes pc = .ok (.invokevirtual index, 3)) (hls : ls.size = mx) (hlen : ∀ sig, parseMethodDescriptor y.desc = some sig → argsL.length = sig.parameters.length) (has : (.ref a :: argsL).toArray = as') (hst : st = argsL.reverse ++ .ref a :: rest) (hW : (rest.map fun v => v.category).sum = W)
    (hf : rm'.frames + 1 ≤ R.frames) (hl : W + (mx' + 11) + rm'.locals ≤ R.locals) (hcs : cs + rm'.cells = cs') (hsl : sl + rm'.slots = sl') (hc : cs' ≤ R.cells) (hs : sl' ≤ R.slots)
    (k : ∀ v h', Q' v h' → own_K p l e R s m args below meth c bytes mx rt own nm Z Q pc' ls (v.toList ++ rest) h' cs' sl') : own_K p l e R s m args below meth c bytes mx rt own nm Z Q pc ls st h cs sl := fun T L hx hby hml hrt hlk hown hnm hZ X eT N O' => by
  subst hp; subst hcs; subst hsl; subst hst; subst has; subst eT
  obtain ⟨cq, qa, qb⟩ := E.cell
  obtain ⟨v, _, ⟨T2, L2, k2, n2⟩, -, X2, ⟨Lc2, ⟨hQ2, N2, O2⟩, l2, y2, z2⟩, st2⟩ := X.privateBack hx (y := y) hown (mvT hZ w1) (mvT hZ w6) (mvT hZ w5) (Cond.privateMethod_at (mvP hZ w7 (args := #[]))) (mvT hZ w4) hy (own_back (W := W) hZ O' hM w4 w3 hf hl) (g := mkF m pc ls (argsL.reverse ++ .ref a :: rest)) rfl (hls.trans hml.symm) (Steps.refl _) (a := a) qa qb (argsL := argsL) (rest := rest) hlen rfl (by show 2 * 0 + _ ≤ _; omega) (hb hby hd) (fun _ _ => ⟨rfl, rfl, hc, hs⟩)
  dsimp only [Pt.U, Pt.locs, Pt.cells, Pt.slots] at X2 l2 y2 z2 st2 hQ2 O2
  subst l2 y2 z2
  exact own_go (fun t q => st2.trans q) (k v _ hQ2 T2 _ hx hby hml hrt hlk hown hnm hZ X2 rfl (N.app N2) O2)
theorem own_kv {rest : List Value} {Qv : Value → Heap → Prop} (k : ∀ x h', Qv x h' → own_K p l e R s m args below meth c bytes mx rt own nm Z Q pc ls (x :: rest) h' cs sl) : ∀ v h', own_some Qv v h' → own_K p l e R s m args below meth c bytes mx rt own nm Z Q pc ls (v.toList ++ rest) h' cs sl := by
  intro v h' hq
  obtain ⟨x, rfl, hq⟩ := hq
  exact k x h' hq
theorem own_k0 {rest : List Value} {Qn : Heap → Prop} (k : ∀ h', Qn h' → own_K p l e R s m args below meth c bytes mx rt own nm Z Q pc ls rest h' cs sl) : ∀ v h', own_none Qn v h' → own_K p l e R s m args below meth c bytes mx rt own nm Z Q pc ls (v.toList ++ rest) h' cs sl := by
  intro v h' hq
  obtain ⟨rfl, hq⟩ := hq
  exact k h' hq
theorem own_getFR (pc' : Nat) (hp : pc + 3 = pc') {O n d : String} {index : Nat} (w : (Jvm.Cond.fieldRef own index O n d).before a0 Z = true) {a : Addr} {v : Value} (F : Fld Z h a O n d v) (hd : decode bytes pc = .ok (.getfield index, 3))
    (q : own_K p l e R s m args below meth c bytes mx rt own nm Z Q pc' ls (v :: st) h cs sl) : own_K p l e R s m args below meth c bytes mx rt own nm Z Q pc ls (.ref a :: st) h cs sl := fun T L hx hby hml hrt hlk hown hnm hZ X eT N O' => by
  subst hp
  have hT : Z.Warmed39 T.vm := wtrans hZ X.warmed
  have hcur : (Z.setVm T.vm).vm.findClass own = some m.cls := by
    show T.vm.findClass own = _
    rw [X.warmed.alike.findClass]; exact hown
  obtain ⟨c1, k1, i1, f1, e1, rdy⟩ := Cond.fieldRef_spec hcur (Cond.fieldRef_warmed39 hT w)
  obtain ⟨cell, cf, k, i, f, g1, g2, g3, g4, g5, g6, g7⟩ := F
  obtain ⟨k', q1, q2⟩ := State.fieldFound?_setVm (s := Z) hT.alike g2
  cases e1.symm.trans q1
  exact own_go (fun t k => (X.getfieldR hx (g := mkF m pc ls (.ref a :: st)) rfl rdy g3 rfl (by rw [eT]; exact g1) g4 g7 (hb hby hd) (Steps.refl _)).trans k) (q T L hx hby hml hrt hlk hown hnm hZ X eT N O')
theorem own_callQ (pc' : Nat) (hp : pc + 3 = pc') (cs' sl' W : Nat) (argsL rest : List Value) {index : Nat} {C C2 : String} {y y2 : MethodName} {b' : ByteArray} {mx' : Nat} {rt' : Option FieldType} {rm' : Room} {as' : Array Value} {Q' : Option Value → Heap → Prop} {a : Addr}
    (w1 : (Jvm.Cond.methodLink own index y).before a0 Z = true) (w6 : (Jvm.Cond.instanceMethod y).before a0 Z = true) (w5 : (Jvm.Cond.selects C2 y2 y2).before a0 Z = true) (w8 : (Jvm.Cond.instanceMethod y2).before a0 Z = true) (hc2 : y2.cls = y.cls) (w7 : (Jvm.Cond.privateMethod y).before a0 Z = true) (w3 : (Jvm.Cond.initialized y.cls).before a0 Z = true) (w4 : (Jvm.Cond.code y b' mx' rt').before a0 Z = true) (hy : y.cls ≠ "java/lang/invoke/MethodHandle" ∧ y.cls ≠ "java/lang/invoke/VarHandle")
    (E : Exa Z h a C) (hM : own_Met l Z y b' mx' rt' [] rm' as' h Q') (hd : decode bytes pc = .ok (.invokevirtual index, 3)) (hls : ls.size = mx) (hlen : ∀ sig, parseMethodDescriptor y.desc = some sig → argsL.length = sig.parameters.length) (has : (.ref a :: argsL).toArray = as') (hst : st = argsL.reverse ++ .ref a :: rest) (hW : (rest.map fun v => v.category).sum = W)
    (hf : rm'.frames + 1 ≤ R.frames) (hl : W + (mx' + 11) + rm'.locals ≤ R.locals) (hcs : cs + rm'.cells = cs') (hsl : sl + rm'.slots = sl') (hc : cs' ≤ R.cells) (hs : sl' ≤ R.slots)
    (k : ∀ v h', Q' v h' → own_K p l e R s m args below meth c bytes mx rt own nm Z Q pc' ls (v.toList ++ rest) h' cs' sl') : own_K p l e R s m args below meth c bytes mx rt own nm Z Q pc ls st h cs sl := fun T L hx hby hml hrt hlk hown hnm hZ X eT N O' => by
  subst hp; subst hcs; subst hsl; subst hst; subst has; subst eT
  obtain ⟨cq, qa, qb⟩ := E.cell
  have hpr := Cond.privateMethod_at (mvP hZ w7 (args := args))
  obtain ⟨r0, mt, hn2, -⟩ := Cond.instanceMethod_spec (mvT (args := args) hZ w8)
  obtain ⟨kk, hk1, hk2⟩ := notFace_of_selects (args := args) (mvT hZ w5) r0 hn2
  have hse : (Jvm.Cond.selects y.cls y y).before args s = true := selects_self_of_private (hc2 ▸ findClass_of_methodNamed hn2) hk1 hk2 hpr (mvT hZ w6) hy
  obtain ⟨v, _, ⟨T2, L2, k2, n2⟩, -, X2, ⟨Lc2, ⟨hQ2, N2, O2⟩, l2, y2, z2⟩, st2⟩ := X.privateBack hx (y := y) hown (mvT hZ w1) (mvT hZ w6) hse hpr (mvT hZ w4) hy (own_back (W := W) hZ O' hM w4 w3 hf hl) (g := mkF m pc ls (argsL.reverse ++ .ref a :: rest)) rfl (hls.trans hml.symm) (Steps.refl _) (a := a) qa qb (argsL := argsL) (rest := rest) hlen rfl (by show 2 * 0 + _ ≤ _; omega) (hb hby hd) (fun _ _ => ⟨rfl, rfl, hc, hs⟩)
  dsimp only [Pt.U, Pt.locs, Pt.cells, Pt.slots] at X2 l2 y2 z2 st2 hQ2 O2
  subst l2 y2 z2
  exact own_go (fun t q => st2.trans q) (k v _ hQ2 T2 _ hx hby hml hrt hlk hown hnm hZ X2 rfl (N.app N2) O2)
-- a case's words
theorem own_eqI {t : Term} {k : Int32} {o : Option Outcome} {idx : List Nat} {first : State} (hq : (Jvm.Cond.eq t (.int k)).value args first o s idx = some true) : t.eval args first o idx s = some (.int k) := by
  simp only [Jvm.Cond.value, Term.eval] at hq
  cases ht : t.eval args first o idx s with
  | none => simp [ht] at hq
  | some x => cases x <;> simp [ht] at hq ⊢; exact hq
theorem own_eqR {t u : Term} {a : Addr} {o : Option Outcome} {idx : List Nat} {first : State} (hq : (Jvm.Cond.eq t u).value args first o s idx = some true) (hu : u.eval args first o idx s = some (.ref a)) : t.eval args first o idx s = some (.ref a) := by
  simp only [Jvm.Cond.value, hu] at hq
  cases ht : t.eval args first o idx s with
  | none => simp [ht] at hq
  | some x => cases x <;> simp [ht] at hq ⊢; exact hq
theorem own_fold {f : Nat → Option Bool} : ∀ (L : List Nat) (acc : Option Bool), L.foldl (fun acc i => match acc with | some true => f i | x => x) acc = some true → acc = some true ∧ ∀ i ∈ L, f i = some true
  | [], acc, hq => ⟨hq, fun _ q => nomatch q⟩
  | a :: L, acc, hq => by
    obtain ⟨h1, h2⟩ := own_fold L _ hq
    rcases acc with _ | _ | _
    · cases h1
    · cases h1
    · exact ⟨rfl, fun i hi => (List.mem_cons.mp hi).elim (fun q => q ▸ h1) (h2 i)⟩
theorem own_all {t : Term} {cd : Jvm.Cond} {o : Option Outcome} {idx : List Nat} {first : State} {a : Addr} {cell : Cell} (hq : (Jvm.Cond.all t cd).value args first o s idx = some true) (ht : t.eval args first o idx s = some (.ref a)) (ha : s.arrayAt? a = some cell) : ∀ i, i < cell.slots.size → cd.value args first o s (i :: idx) = some true := by
  simp only [Jvm.Cond.value, ht, ha] at hq
  exact fun i hi => (own_fold _ _ hq).2 i (List.mem_range.mpr hi)
theorem own_len {t : Term} {n : Int32} {o : Option Outcome} {idx : List Nat} {first : State} {a : Addr} {cell : Cell} (hq : (Term.length t).eval args first o idx s = some (.int n)) (ht : t.eval args first o idx s = some (.ref a)) (ha : s.arrayAt? a = some cell) : cell.slots.size.toInt32 = n ∧ cell.slots.size < 2 ^ 31 := by
  simp only [Term.eval, ht, ha, Option.bind_eq_bind, Option.bind_some] at hq
  split at hq
  · rename_i hl
    exact ⟨by simpa using hq, hl⟩
  · cases hq
theorem own_elem {t : Term} {j : Int32} {v : Value} {o : Option Outcome} {idx : List Nat} {first : State} {a : Addr} {cell : Cell} (hq : (Term.elem t (.int j)).eval args first o idx s = some v) (ht : t.eval args first o idx s = some (.ref a)) (ha : s.heap[a]? = some cell) : cell.slots[j.toNatClampNeg]? = some v :=
  (elem_in hq ht rfl ha).2
-- ints as integers
theorem own_lt {x y : Int32} (h : x < y) : x.toInt < y.toInt := Int32.lt_iff_toInt_lt.mp h
theorem own_nlt {x y : Int32} (h : ¬ x < y) : y.toInt ≤ x.toInt := Int.not_lt.mp fun q => h (Int32.lt_iff_toInt_lt.mpr q)
theorem own_eq {x y : Int32} (h : x = y) : x.toInt = y.toInt := congrArg _ h
theorem own_neq {x y : Int32} (h : ¬ x = y) : ¬ x.toInt = y.toInt := fun q => h (Int32.toInt_inj.mp q)
theorem own_lt' {x y : Int32} (h : x.toInt < y.toInt) : x < y := Int32.lt_iff_toInt_lt.mpr h
theorem own_nlt' {x y : Int32} (h : y.toInt ≤ x.toInt) : ¬ x < y := fun q => Int.not_lt.mpr h (Int32.lt_iff_toInt_lt.mp q)
theorem own_eq' {x y : Int32} (h : x.toInt = y.toInt) : x = y := Int32.toInt_inj.mp h
theorem own_neq' {x y : Int32} (h : ¬ x.toInt = y.toInt) : ¬ x = y := fun q => h (congrArg _ q)
theorem own_ltL {x y : Int64} (h : x < y) : x.toInt < y.toInt := Int64.lt_iff_toInt_lt.mp h
theorem own_nltL {x y : Int64} (h : ¬ x < y) : y.toInt ≤ x.toInt := Int.not_lt.mp fun q => h (Int64.lt_iff_toInt_lt.mpr q)
theorem own_eqL {x y : Int64} (h : x = y) : x.toInt = y.toInt := congrArg _ h
theorem own_neqL {x y : Int64} (h : ¬ x = y) : ¬ x.toInt = y.toInt := fun q => h (Int64.toInt_inj.mp q)
theorem own_ltL' {x y : Int64} (h : x.toInt < y.toInt) : x < y := Int64.lt_iff_toInt_lt.mpr h
theorem own_nltL' {x y : Int64} (h : y.toInt ≤ x.toInt) : ¬ x < y := fun q => Int.not_lt.mpr h (Int64.lt_iff_toInt_lt.mp q)
theorem own_eqL' {x y : Int64} (h : x.toInt = y.toInt) : x = y := Int64.toInt_inj.mp h
theorem own_neqL' {x y : Int64} (h : ¬ x.toInt = y.toInt) : ¬ x = y := fun q => h (congrArg _ q)
end Own
def own_Ini (Z : State) (w_VALUES : Addr) (c_w_VALUES : Cell) (w_SHA1 : Addr) (w_SHA256 : Addr) (w_SHA384 : Addr) (w_SHA512 : Addr) (w_EMPTY : Addr) : Prop := (Sta Z Z.heap "com/example/urd/urd/model/HashAlgorithm" "$VALUES" "[Lcom/example/urd/urd/model/HashAlgorithm;" (.ref w_VALUES)) ∧ (Arr Z Z.heap w_VALUES c_w_VALUES (.object "com/example/urd/urd/model/HashAlgorithm")) ∧ (Exa Z Z.heap w_VALUES "[Lcom/example/urd/urd/model/HashAlgorithm;") ∧ (Sta Z Z.heap "com/example/urd/urd/model/HashAlgorithm" "SHA1" "Lcom/example/urd/urd/model/HashAlgorithm;" (.ref w_SHA1)) ∧ (Exa Z Z.heap w_SHA1 "com/example/urd/urd/model/HashAlgorithm") ∧ (Sta Z Z.heap "com/example/urd/urd/model/HashAlgorithm" "SHA256" "Lcom/example/urd/urd/model/HashAlgorithm;" (.ref w_SHA256)) ∧ (Exa Z Z.heap w_SHA256 "com/example/urd/urd/model/HashAlgorithm") ∧ (Sta Z Z.heap "com/example/urd/urd/model/HashAlgorithm" "SHA384" "Lcom/example/urd/urd/model/HashAlgorithm;" (.ref w_SHA384)) ∧ (Exa Z Z.heap w_SHA384 "com/example/urd/urd/model/HashAlgorithm") ∧ (Sta Z Z.heap "com/example/urd/urd/model/HashAlgorithm" "SHA512" "Lcom/example/urd/urd/model/HashAlgorithm;" (.ref w_SHA512)) ∧ (Exa Z Z.heap w_SHA512 "com/example/urd/urd/model/HashAlgorithm") ∧ (Fld Z Z.heap w_SHA1 "com/example/urd/urd/model/HashAlgorithm" "id" "I" (.int (4 : Int32))) ∧ (Fld Z Z.heap w_SHA256 "com/example/urd/urd/model/HashAlgorithm" "id" "I" (.int (11 : Int32))) ∧ (Fld Z Z.heap w_SHA384 "com/example/urd/urd/model/HashAlgorithm" "id" "I" (.int (12 : Int32))) ∧ (Fld Z Z.heap w_SHA512 "com/example/urd/urd/model/HashAlgorithm" "id" "I" (.int (13 : Int32))) ∧ (Sta Z Z.heap "java/util/Optional" "EMPTY" "Ljava/util/Optional;" (.ref w_EMPTY)) ∧ (Exa Z Z.heap w_EMPTY "java/util/Optional") ∧ (Fld Z Z.heap w_EMPTY "java/util/Optional" "value" "Ljava/lang/Object;" .null) ∧ (Arv Z Z.heap w_VALUES c_w_VALUES.cls (.object "com/example/urd/urd/model/HashAlgorithm") (4 : Int32) [(.ref w_SHA1), (.ref w_SHA256), (.ref w_SHA384), (.ref w_SHA512)] .null)
theorem d2_0 : decode prog_35_method_1_code 0 = .ok (.getstatic 16, 3) := by decide +kernel
theorem d2_3 : decode prog_35_method_1_code 3 = .ok (.invokevirtual 20, 3) := by decide +kernel
theorem d2_6 : decode prog_35_method_1_code 6 = .ok (.checkcast 21, 3) := by decide +kernel
theorem d2_9 : decode prog_35_method_1_code 9 = .ok (.areturn, 1) := by decide +kernel
theorem own_pf0 : plainFor (⟨"com/example/urd/urd/model/HashAlgorithm", "values", "()[Lcom/example/urd/urd/model/HashAlgorithm;"⟩ : MethodName) = true := by first | exact plainFor_of_name (by first | (simp [plainName, overriddenIn]; done) | decide +kernel) | decide +kernel
set_option maxRecDepth 65536 in
set_option maxHeartbeats 40000000 in
theorem rm2 (l : Launch) (Z : State) (a0 : Array Value) (hw : ∀ d ∈ tables_1, d.before a0 Z = true) (ws : List Jvm.Cond)  (w_VALUES : Addr) (c_w_VALUES : Cell) (w_SHA1 : Addr) (w_SHA256 : Addr) (w_SHA384 : Addr) (w_SHA512 : Addr) (w_EMPTY : Addr) (h0 : Heap) (I : own_Ini Z w_VALUES c_w_VALUES w_SHA1 w_SHA256 w_SHA384 w_SHA512 w_EMPTY)  :
    own_Met l Z (⟨"com/example/urd/urd/model/HashAlgorithm", "values", "()[Lcom/example/urd/urd/model/HashAlgorithm;"⟩ : MethodName) prog_35_method_1_code 0 (some (.array (.object "com/example/urd/urd/model/HashAlgorithm"))) ws ({ frames := 1, cells := 1, slots := 4, locals := 14 } : Room) #[] h0 (own_some (fun v h => ∃ b, v = .ref b ∧ Ext h0 h ∧ Arv Z h b c_w_VALUES.cls (.object "com/example/urd/urd/model/HashAlgorithm") (4 : Int32) [(.ref w_SHA1), (.ref w_SHA256), (.ref w_SHA384), (.ref w_SHA512)] .null)) := by
  have I' := I
  obtain ⟨S_w_VALUES, A_w_VALUES, E_w_VALUES, S_w_SHA1, E_w_SHA1, S_w_SHA256, E_w_SHA256, S_w_SHA384, E_w_SHA384, S_w_SHA512, E_w_SHA512, F_w_SHA1_id, F_w_SHA256_id, F_w_SHA384_id, F_w_SHA512_id, S_w_EMPTY, E_w_EMPTY, F_w_EMPTY_value, V_w_VALUES⟩ := I'
  refine own_met (ls0 := #[]) own_pf0 (fun m => by first | rfl | (simp [entryFrame, mkF, argsToLocals, Value.category, maxLocals]; done)) ?_
  intro p e s m below meth c
  refine own_old (fun O0 => ?_)
  refine own_getS 3 rfl (host := "") (Or.inl (hw _ (List.mem_of_getElem? (i := 11) rfl))) Via.refl S_w_VALUES d2_0 ?_
  refine own_clone 6 rfl 1 4 4 0 (hw _ (List.mem_of_getElem? (i := 13) rfl)) (hw _ (List.mem_of_getElem? (i := 14) rfl)) (hw _ (List.mem_of_getElem? (i := 18) rfl)) (hw _ (List.mem_of_getElem? (i := 16) rfl)) (hw _ (List.mem_of_getElem? (i := 17) rfl)) (hw _ (List.mem_of_getElem? (i := 19) rfl)) (V_w_VALUES.ext O0.2) (E_w_VALUES.ext O0.2) (by decide) d2_3 rfl (by decide) rfl (by decide) rfl rfl (by decide) (by decide) (fun h1 b1 z1 g_b1 E1 V1 X_b1 => ?_)
  have ne_w_VALUES_b1 : w_VALUES ≠ b1 := Nat.ne_of_lt (Nat.lt_of_lt_of_le (E_w_VALUES.ext O0.2).lt (Nat.le_of_eq z1.symm))
  have ne_w_SHA1_b1 : w_SHA1 ≠ b1 := Nat.ne_of_lt (Nat.lt_of_lt_of_le (E_w_SHA1.ext O0.2).lt (Nat.le_of_eq z1.symm))
  have ne_w_SHA256_b1 : w_SHA256 ≠ b1 := Nat.ne_of_lt (Nat.lt_of_lt_of_le (E_w_SHA256.ext O0.2).lt (Nat.le_of_eq z1.symm))
  have ne_w_SHA384_b1 : w_SHA384 ≠ b1 := Nat.ne_of_lt (Nat.lt_of_lt_of_le (E_w_SHA384.ext O0.2).lt (Nat.le_of_eq z1.symm))
  have ne_w_SHA512_b1 : w_SHA512 ≠ b1 := Nat.ne_of_lt (Nat.lt_of_lt_of_le (E_w_SHA512.ext O0.2).lt (Nat.le_of_eq z1.symm))
  have ne_w_EMPTY_b1 : w_EMPTY ≠ b1 := Nat.ne_of_lt (Nat.lt_of_lt_of_le (E_w_EMPTY.ext O0.2).lt (Nat.le_of_eq z1.symm))
  refine own_cast 9 rfl (hw _ (List.mem_of_getElem? (i := 25) rfl)) (Ins.self X_b1) d2_6 ?_
  refine own_retA rfl rfl rfl d2_9 (by decide) (by decide) ?_
  exact ⟨_, rfl, _, rfl, E1, V1⟩
theorem d4_0 : decode jdk_31_method_10_code 0 = .ok (.aload_n 0, 1) := by decide +kernel
theorem d4_1 : decode jdk_31_method_10_code 1 = .ok (.ifnonnull 11, 3) := by decide +kernel
theorem d4_12 : decode jdk_31_method_10_code 12 = .ok (.aload_n 0, 1) := by decide +kernel
theorem d4_13 : decode jdk_31_method_10_code 13 = .ok (.areturn, 1) := by decide +kernel
theorem own_pf1 : plainFor (⟨"java/util/Objects", "requireNonNull", "(Ljava/lang/Object;)Ljava/lang/Object;"⟩ : MethodName) = true := by first | exact plainFor_of_name (by first | (simp [plainName, overriddenIn]; done) | decide +kernel) | decide +kernel
set_option maxRecDepth 65536 in
set_option maxHeartbeats 40000000 in
theorem rm4 (l : Launch) (Z : State) (a0 : Array Value) (hw : ∀ d ∈ tables_1, d.before a0 Z = true) (ws : List Jvm.Cond) (p1 : Addr) (h0 : Heap)  :
    own_Met l Z (⟨"java/util/Objects", "requireNonNull", "(Ljava/lang/Object;)Ljava/lang/Object;"⟩ : MethodName) jdk_31_method_10_code 1 (some (.object "java/lang/Object")) ws ({ frames := 0, cells := 0, slots := 0, locals := 0 } : Room) #[(.ref p1)] h0 (own_some (fun v h => v = .ref p1 ∧ h = h0)) := by
  refine own_met (ls0 := #[.val (.ref p1)]) own_pf1 (fun m => by first | rfl | (simp [entryFrame, mkF, argsToLocals, Value.category, maxLocals]; done)) ?_
  intro p e s m below meth c
  refine own_old (fun O0 => ?_)
  refine own_aloadN 1 rfl d4_0 rfl rfl ?_
  refine own_ifnonnullYes 12 d4_1 (by decide) (by decide) ?_
  refine own_aloadN 13 rfl d4_12 rfl rfl ?_
  refine own_retA rfl rfl rfl d4_13 (by decide) (by decide) ?_
  exact ⟨_, rfl, rfl, rfl⟩
theorem d5_0 : decode jdk_32_method_2_code 0 = .ok (.aload_n 0, 1) := by decide +kernel
theorem d5_1 : decode jdk_32_method_2_code 1 = .ok (.invokespecial 7, 3) := by decide +kernel
theorem d5_4 : decode jdk_32_method_2_code 4 = .ok (.aload_n 0, 1) := by decide +kernel
theorem d5_5 : decode jdk_32_method_2_code 5 = .ok (.aload_n 1, 1) := by decide +kernel
theorem d5_6 : decode jdk_32_method_2_code 6 = .ok (.putfield 13, 3) := by decide +kernel
theorem d5_9 : decode jdk_32_method_2_code 9 = .ok (.return_, 1) := by decide +kernel
theorem own_pf2 : plainFor (⟨"java/util/Optional", "<init>", "(Ljava/lang/Object;)V"⟩ : MethodName) = true := by first | exact plainFor_of_name (by first | (simp [plainName, overriddenIn]; done) | decide +kernel) | decide +kernel
set_option maxRecDepth 65536 in
set_option maxHeartbeats 40000000 in
theorem rm5 (l : Launch) (Z : State) (a0 : Array Value) (hw : ∀ d ∈ tables_1, d.before a0 Z = true) (ws : List Jvm.Cond) (p1 p2 : Addr) (h0 : Heap) (gp1 : Z.heap.size ≤ p1) (Ep1 : Exa Z h0 p1 "java/util/Optional") (Fp1 : Fld Z h0 p1 "java/util/Optional" "value" "Ljava/lang/Object;" .null) :
    own_Met l Z (⟨"java/util/Optional", "<init>", "(Ljava/lang/Object;)V"⟩ : MethodName) jdk_32_method_2_code 2 none ws ({ frames := 1, cells := 0, slots := 0, locals := 12 } : Room) #[(.ref p1), (.ref p2)] h0 (own_none (fun h => Keep h0 h [p1] ∧ Fld Z h p1 "java/util/Optional" "value" "Ljava/lang/Object;" (.ref p2))) := by
  refine own_met (ls0 := #[.val (.ref p1), .val (.ref p2)]) own_pf2 (fun m => by first | rfl | (simp [entryFrame, mkF, argsToLocals, Value.category, maxLocals]; done)) ?_
  intro p e s m below meth c
  refine own_old (fun O0 => ?_)
  refine own_aloadN 1 rfl d5_0 rfl rfl ?_
  refine own_initO 4 rfl (hw _ (List.mem_of_getElem? (i := 43) rfl)) (hw _ (List.mem_of_getElem? (i := 44) rfl)) (hw _ (List.mem_of_getElem? (i := 45) rfl)) d5_1 rfl (by decide) 0 (Nat.le_of_eq rfl) (by decide) ?_
  refine own_aloadN 5 rfl d5_4 rfl rfl ?_
  refine own_aloadN 6 rfl d5_5 rfl rfl ?_
  refine own_putF 9 rfl (host := "") (Or.inl (hw _ (List.mem_of_getElem? (i := 46) rfl))) Via.refl gp1 Fp1 Ep1 (Or.inr ⟨(hw _ (List.mem_of_getElem? (i := 47) rfl)), rfl, rfl⟩) (hw _ (List.mem_of_getElem? (i := 34) rfl)) (ty := (.object "java/lang/Object")) (by decide) rfl rfl d5_6 (fun h1 W1 => ?_)
  refine own_ret rfl d5_9 (by decide) (by decide) ?_
  exact ⟨rfl, Keep.of_wr W1, (Fld.same W1 Fp1)⟩
theorem d3_0 : decode jdk_32_method_3_code 0 = .ok (.new 2, 3) := by decide +kernel
theorem d3_3 : decode jdk_32_method_3_code 3 = .ok (.dup, 1) := by decide +kernel
theorem d3_4 : decode jdk_32_method_3_code 4 = .ok (.aload_n 0, 1) := by decide +kernel
theorem d3_5 : decode jdk_32_method_3_code 5 = .ok (.invokestatic 17, 3) := by decide +kernel
theorem own_pd0 : parseMethodDescriptor "(Ljava/lang/Object;)Ljava/lang/Object;" = some ⟨[(.object "java/lang/Object")], some (.object "java/lang/Object")⟩ := by decide +kernel
theorem d3_8 : decode jdk_32_method_3_code 8 = .ok (.invokespecial 23, 3) := by decide +kernel
theorem own_pd1 : parseMethodDescriptor "(Ljava/lang/Object;)V" = some ⟨[(.object "java/lang/Object")], none⟩ := by decide +kernel
theorem d3_11 : decode jdk_32_method_3_code 11 = .ok (.areturn, 1) := by decide +kernel
theorem own_pf3 : plainFor (⟨"java/util/Optional", "of", "(Ljava/lang/Object;)Ljava/util/Optional;"⟩ : MethodName) = true := by first | exact plainFor_of_name (by first | (simp [plainName, overriddenIn]; done) | decide +kernel) | decide +kernel
set_option maxRecDepth 65536 in
set_option maxHeartbeats 40000000 in
theorem rm3 (l : Launch) (Z : State) (a0 : Array Value) (hw : ∀ d ∈ tables_1, d.before a0 Z = true) (ws : List Jvm.Cond) (p1 : Addr) (h0 : Heap)  :
    own_Met l Z (⟨"java/util/Optional", "of", "(Ljava/lang/Object;)Ljava/util/Optional;"⟩ : MethodName) jdk_32_method_3_code 1 (some (.object "java/util/Optional")) ws ({ frames := 2, cells := 1, slots := 1, locals := 26 } : Room) #[(.ref p1)] h0 (own_some (fun v h => ∃ b, v = .ref b ∧ Keep h0 h [] ∧ Exa Z h b "java/util/Optional" ∧ Fld Z h b "java/util/Optional" "value" "Ljava/lang/Object;" (.ref p1))) := by
  refine own_met (ls0 := #[.val (.ref p1)]) own_pf3 (fun m => by first | rfl | (simp [entryFrame, mkF, argsToLocals, Value.category, maxLocals]; done)) ?_
  intro p e s m below meth c
  refine own_old (fun O0 => ?_)
  refine own_newO 3 rfl 1 1 (hw _ (List.mem_of_getElem? (i := 33) rfl)) (hw _ (List.mem_of_getElem? (i := 34) rfl)) (hw _ (List.mem_of_getElem? (i := 31) rfl)) d3_0 rfl rfl (by decide) (by decide) (fun h1 b1 z1 g_b1 E1 X_b1 D1 => ?_)
  have F1_value : Fld Z h1 b1 "java/util/Optional" "value" "Ljava/lang/Object;" .null := D1 (Or.inr (hw _ (List.mem_of_getElem? (i := 47) rfl))) (ty := (.object "java/lang/Object")) (by decide)
  refine own_dup 4 rfl d3_3 rfl ?_
  refine own_aloadN 5 rfl d3_4 rfl rfl ?_
  refine own_callS 8 rfl 1 1 2 [(.ref p1)] [(.ref b1), (.ref b1)] (y := (⟨"java/util/Objects", "requireNonNull", "(Ljava/lang/Object;)Ljava/lang/Object;"⟩ : MethodName)) (hw _ (List.mem_of_getElem? (i := 35) rfl)) (hw _ (List.mem_of_getElem? (i := 36) rfl)) (hw _ (List.mem_of_getElem? (i := 37) rfl)) (hw _ (List.mem_of_getElem? (i := 38) rfl)) (by decide) (rm4 l Z a0 hw [] p1  h1 ) d3_5 rfl (lenOf own_pd0 rfl) rfl rfl rfl (by decide) (by decide) rfl rfl (by decide) (by decide) (own_kv fun v2 h2 q2 => ?_)
  obtain ⟨rfl, e2⟩ := q2
  rw [e2]
  refine own_callI 11 rfl 1 1 1 [(.ref p1)] [(.ref b1)] (y := (⟨"java/util/Optional", "<init>", "(Ljava/lang/Object;)V"⟩ : MethodName)) rfl (hw _ (List.mem_of_getElem? (i := 39) rfl)) (hw _ (List.mem_of_getElem? (i := 40) rfl)) (hw _ (List.mem_of_getElem? (i := 31) rfl)) (hw _ (List.mem_of_getElem? (i := 42) rfl)) (by decide) (rm5 l Z a0 hw [] b1 p1 h1 g_b1 X_b1 F1_value) d3_8 rfl (lenOf own_pd1 rfl) rfl rfl rfl (by decide) (by decide) rfl rfl (by decide) (by decide) (own_k0 fun h3 q3 => ?_)
  obtain ⟨K3, F3v⟩ := q3
  refine own_retA rfl rfl rfl d3_11 (by decide) (by decide) ?_
  exact ⟨_, rfl, _, rfl, (Keep.trans ((Keep.refl h0 []).ext E1) K3 (allS (Or.inr (Nat.le_of_eq z1.symm)) all0)), (X_b1.keep K3), F3v⟩
theorem d11_0 : decode jdk_32_method_1_code 0 = .ok (.getstatic 1, 3) := by decide +kernel
theorem d11_3 : decode jdk_32_method_1_code 3 = .ok (.astore_n 0, 1) := by decide +kernel
theorem d11_4 : decode jdk_32_method_1_code 4 = .ok (.aload_n 0, 1) := by decide +kernel
theorem d11_5 : decode jdk_32_method_1_code 5 = .ok (.areturn, 1) := by decide +kernel
theorem own_pf4 : plainFor (⟨"java/util/Optional", "empty", "()Ljava/util/Optional;"⟩ : MethodName) = true := by first | exact plainFor_of_name (by first | (simp [plainName, overriddenIn]; done) | decide +kernel) | decide +kernel
set_option maxRecDepth 65536 in
set_option maxHeartbeats 40000000 in
theorem rm11 (l : Launch) (Z : State) (a0 : Array Value) (hw : ∀ d ∈ tables_1, d.before a0 Z = true) (ws : List Jvm.Cond)  (w_VALUES : Addr) (c_w_VALUES : Cell) (w_SHA1 : Addr) (w_SHA256 : Addr) (w_SHA384 : Addr) (w_SHA512 : Addr) (w_EMPTY : Addr) (h0 : Heap) (I : own_Ini Z w_VALUES c_w_VALUES w_SHA1 w_SHA256 w_SHA384 w_SHA512 w_EMPTY)  :
    own_Met l Z (⟨"java/util/Optional", "empty", "()Ljava/util/Optional;"⟩ : MethodName) jdk_32_method_1_code 1 (some (.object "java/util/Optional")) ws ({ frames := 0, cells := 0, slots := 0, locals := 0 } : Room) #[] h0 (own_some (fun v h => v = .ref w_EMPTY ∧ h = h0)) := by
  have I' := I
  obtain ⟨S_w_VALUES, A_w_VALUES, E_w_VALUES, S_w_SHA1, E_w_SHA1, S_w_SHA256, E_w_SHA256, S_w_SHA384, E_w_SHA384, S_w_SHA512, E_w_SHA512, F_w_SHA1_id, F_w_SHA256_id, F_w_SHA384_id, F_w_SHA512_id, S_w_EMPTY, E_w_EMPTY, F_w_EMPTY_value, V_w_VALUES⟩ := I'
  refine own_met (ls0 := #[.unset]) own_pf4 (fun m => by first | rfl | (simp [entryFrame, mkF, argsToLocals, Value.category, maxLocals]; done)) ?_
  intro p e s m below meth c
  refine own_old (fun O0 => ?_)
  refine own_getS 3 rfl (host := "") (Or.inl (hw _ (List.mem_of_getElem? (i := 72) rfl))) Via.refl S_w_EMPTY d11_0 ?_
  refine own_astoreN 4 rfl #[.val (.ref w_EMPTY)] d11_3 rfl rfl ?_
  refine own_aloadN 5 rfl d11_4 rfl rfl ?_
  refine own_retA rfl rfl rfl d11_5 (by decide) (by decide) ?_
  exact ⟨_, rfl, rfl, rfl⟩
theorem d1_0 : decode prog_35_method_7_code 0 = .ok (.invokestatic 49, 3) := by decide +kernel
theorem own_pd2 : parseMethodDescriptor "()[Lcom/example/urd/urd/model/HashAlgorithm;" = some ⟨[], some (.array (.object "com/example/urd/urd/model/HashAlgorithm"))⟩ := by decide +kernel
theorem d1_3 : decode prog_35_method_7_code 3 = .ok (.astore_n 1, 1) := by decide +kernel
theorem d1_4 : decode prog_35_method_7_code 4 = .ok (.aload_n 1, 1) := by decide +kernel
theorem d1_5 : decode prog_35_method_7_code 5 = .ok (.arraylength, 1) := by decide +kernel
theorem d1_6 : decode prog_35_method_7_code 6 = .ok (.istore_n 2, 1) := by decide +kernel
theorem d1_7 : decode prog_35_method_7_code 7 = .ok (.iconst 0, 1) := by decide +kernel
theorem d1_8 : decode prog_35_method_7_code 8 = .ok (.istore_n 3, 1) := by decide +kernel
theorem d1_9 : decode prog_35_method_7_code 9 = .ok (.iload_n 3, 1) := by decide +kernel
theorem d1_10 : decode prog_35_method_7_code 10 = .ok (.iload_n 2, 1) := by decide +kernel
theorem d1_11 : decode prog_35_method_7_code 11 = .ok (.if_icmp .ge 29, 3) := by decide +kernel
theorem d1_14 : decode prog_35_method_7_code 14 = .ok (.aload_n 1, 1) := by decide +kernel
theorem d1_15 : decode prog_35_method_7_code 15 = .ok (.iload_n 3, 1) := by decide +kernel
theorem d1_16 : decode prog_35_method_7_code 16 = .ok (.aaload, 1) := by decide +kernel
theorem d1_17 : decode prog_35_method_7_code 17 = .ok (.astore 4, 2) := by decide +kernel
theorem d1_19 : decode prog_35_method_7_code 19 = .ok (.aload 4, 2) := by decide +kernel
theorem d1_21 : decode prog_35_method_7_code 21 = .ok (.getfield 35, 3) := by decide +kernel
theorem d1_24 : decode prog_35_method_7_code 24 = .ok (.iload_n 0, 1) := by decide +kernel
theorem d1_25 : decode prog_35_method_7_code 25 = .ok (.if_icmp .ne 9, 3) := by decide +kernel
theorem d1_28 : decode prog_35_method_7_code 28 = .ok (.aload 4, 2) := by decide +kernel
theorem d1_30 : decode prog_35_method_7_code 30 = .ok (.invokestatic 53, 3) := by decide +kernel
theorem own_pd3 : parseMethodDescriptor "(Ljava/lang/Object;)Ljava/util/Optional;" = some ⟨[(.object "java/lang/Object")], some (.object "java/util/Optional")⟩ := by decide +kernel
theorem d1_33 : decode prog_35_method_7_code 33 = .ok (.areturn, 1) := by decide +kernel
theorem d1_34 : decode prog_35_method_7_code 34 = .ok (.iinc 3 1, 3) := by decide +kernel
theorem d1_37 : decode prog_35_method_7_code 37 = .ok (.goto (-28), 3) := by decide +kernel
theorem d1_40 : decode prog_35_method_7_code 40 = .ok (.invokestatic 59, 3) := by decide +kernel
theorem own_pd4 : parseMethodDescriptor "()Ljava/util/Optional;" = some ⟨[], some (.object "java/util/Optional")⟩ := by decide +kernel
theorem d1_43 : decode prog_35_method_7_code 43 = .ok (.areturn, 1) := by decide +kernel
theorem own_pf5 : plainFor (⟨"com/example/urd/urd/model/HashAlgorithm", "fromId", "(I)Ljava/util/Optional;"⟩ : MethodName) = true := by first | exact plainFor_of_name (by first | (simp [plainName, overriddenIn]; done) | decide +kernel) | decide +kernel
set_option maxRecDepth 65536 in
set_option maxHeartbeats 40000000 in
theorem rm1 (l : Launch) (Z : State) (a0 : Array Value) (hw : ∀ d ∈ tables_1, d.before a0 Z = true) (ws : List Jvm.Cond) (p1 : Int32) (w_VALUES : Addr) (c_w_VALUES : Cell) (w_SHA1 : Addr) (w_SHA256 : Addr) (w_SHA384 : Addr) (w_SHA512 : Addr) (w_EMPTY : Addr) (h0 : Heap) (I : own_Ini Z w_VALUES c_w_VALUES w_SHA1 w_SHA256 w_SHA384 w_SHA512 w_EMPTY)  :
    own_Met l Z (⟨"com/example/urd/urd/model/HashAlgorithm", "fromId", "(I)Ljava/util/Optional;"⟩ : MethodName) prog_35_method_7_code 5 (some (.object "java/util/Optional")) ws ({ frames := 3, cells := 2, slots := 5, locals := 38 } : Room) #[(.int p1)] h0 (own_some (fun v h => Keep h0 h [] ∧ ((p1 = 4 ∧ (∃ b, v = .ref b ∧ Exa Z h b "java/util/Optional" ∧ Fld Z h b "java/util/Optional" "value" "Ljava/lang/Object;" (.ref w_SHA1))) ∨ (p1 = 11 ∧ (∃ b, v = .ref b ∧ Exa Z h b "java/util/Optional" ∧ Fld Z h b "java/util/Optional" "value" "Ljava/lang/Object;" (.ref w_SHA256))) ∨ (p1 = 12 ∧ (∃ b, v = .ref b ∧ Exa Z h b "java/util/Optional" ∧ Fld Z h b "java/util/Optional" "value" "Ljava/lang/Object;" (.ref w_SHA384))) ∨ (p1 = 13 ∧ (∃ b, v = .ref b ∧ Exa Z h b "java/util/Optional" ∧ Fld Z h b "java/util/Optional" "value" "Ljava/lang/Object;" (.ref w_SHA512))) ∨ ((¬ p1 = 4 ∧ ¬ p1 = 11 ∧ ¬ p1 = 12 ∧ ¬ p1 = 13) ∧ v = .ref w_EMPTY)))) := by
  have I' := I
  obtain ⟨S_w_VALUES, A_w_VALUES, E_w_VALUES, S_w_SHA1, E_w_SHA1, S_w_SHA256, E_w_SHA256, S_w_SHA384, E_w_SHA384, S_w_SHA512, E_w_SHA512, F_w_SHA1_id, F_w_SHA256_id, F_w_SHA384_id, F_w_SHA512_id, S_w_EMPTY, E_w_EMPTY, F_w_EMPTY_value, V_w_VALUES⟩ := I'
  refine own_met (ls0 := #[.val (.int p1), .unset, .unset, .unset, .unset]) own_pf5 (fun m => by first | rfl | (simp [entryFrame, mkF, argsToLocals, Value.category, maxLocals]; done)) ?_
  intro p e s m below meth c
  refine own_old (fun O0 => ?_)
  refine own_callS 3 rfl 1 4 0 [] [] (y := (⟨"com/example/urd/urd/model/HashAlgorithm", "values", "()[Lcom/example/urd/urd/model/HashAlgorithm;"⟩ : MethodName)) (hw _ (List.mem_of_getElem? (i := 8) rfl)) (hw _ (List.mem_of_getElem? (i := 9) rfl)) (hw _ (List.mem_of_getElem? (i := 6) rfl)) (hw _ (List.mem_of_getElem? (i := 10) rfl)) (by decide) (rm2 l Z a0 hw [] w_VALUES c_w_VALUES w_SHA1 w_SHA256 w_SHA384 w_SHA512 w_EMPTY h0 I) d1_0 rfl (lenOf own_pd2 rfl) rfl rfl rfl (by decide) (by decide) rfl rfl (by decide) (by decide) (own_kv fun v1 h1 q1 => ?_)
  obtain ⟨b1, rfl, E1, V1⟩ := q1
  refine own_astoreN 4 rfl #[.val (.int p1), .val (.ref b1), .unset, .unset, .unset] d1_3 rfl rfl ?_
  refine own_aloadN 5 rfl d1_4 rfl rfl ?_
  obtain ⟨c2, A2, q2, S2, N2, H2, G2⟩ := id V1
  refine own_alen 6 rfl A2 (4 : Int32) (len_of S2 N2) d1_5 ?_
  refine own_istoreN 7 rfl #[.val (.int p1), .val (.ref b1), .val (.int (4 : Int32)), .unset, .unset] d1_6 rfl ?_
  refine own_iconst 8 rfl (0 : Int32) d1_7 rfl ?_
  refine own_istoreN 9 rfl #[.val (.int p1), .val (.ref b1), .val (.int (4 : Int32)), .val (.int (0 : Int32)), .unset] d1_8 rfl ?_
  refine own_iloadN 10 rfl d1_9 rfl ?_
  refine own_iloadN 11 rfl d1_10 rfl ?_
  refine own_icmpNo 14 rfl d1_11 (tlt (by decide : (0 : Int32) < (4 : Int32))).2.1 ?_
  refine own_aloadN 15 rfl d1_14 rfl rfl ?_
  refine own_iloadN 16 rfl d1_15 rfl ?_
  obtain ⟨c3, A3, q3, S3, N3, H3, G3⟩ := id V1
  refine own_aaload 17 rfl A3 rfl (inb_of S3 ⟨by decide, by decide⟩) (Has.at H3 (inb_of S3 ⟨by decide, by decide⟩) rfl) d1_16 ?_
  refine own_astore 19 rfl #[.val (.int p1), .val (.ref b1), .val (.int (4 : Int32)), .val (.int (0 : Int32)), .val (.ref w_SHA1)] d1_17 rfl rfl ?_
  refine own_aload 21 rfl d1_19 rfl rfl ?_
  refine own_getF 24 rfl (host := "") (Or.inl (hw _ (List.mem_of_getElem? (i := 27) rfl))) Via.refl ((F_w_SHA1_id.ext O0.2).ext E1) d1_21 ?_
  refine own_iloadN 25 rfl d1_24 rfl ?_
  by_cases hc25 : (4 : Int32) = p1
  · have ihc25 : (4 : Int) = p1.toInt := own_eq hc25
    refine own_icmpNo 28 rfl d1_25 (teq hc25).2 ?_
    refine own_aload 30 rfl d1_28 rfl rfl ?_
    refine own_callS 33 rfl 2 5 0 [(.ref w_SHA1)] [] (y := (⟨"java/util/Optional", "of", "(Ljava/lang/Object;)Ljava/util/Optional;"⟩ : MethodName)) (hw _ (List.mem_of_getElem? (i := 29) rfl)) (hw _ (List.mem_of_getElem? (i := 30) rfl)) (hw _ (List.mem_of_getElem? (i := 31) rfl)) (hw _ (List.mem_of_getElem? (i := 32) rfl)) (by decide) (rm3 l Z a0 hw [] w_SHA1 h1) d1_30 rfl (lenOf own_pd3 rfl) rfl rfl rfl (by decide) (by decide) rfl rfl (by decide) (by decide) (own_kv fun v4 h4 q4 => ?_)
    obtain ⟨b4, rfl, K4, E4x, F4v⟩ := q4
    refine own_retA rfl rfl rfl d1_33 (by decide) (by decide) ?_
    exact ⟨_, rfl, (((Keep.refl h0 []).ext E1).trans K4 all0), Or.inl ⟨hc25.symm, _, rfl, E4x, F4v⟩⟩
  · have ihc25 : ¬ (4 : Int) = p1.toInt := own_neq hc25
    refine own_icmpYes 34 d1_25 (feq hc25).2 (by decide) (by decide) ?_
    refine own_iinc 37 rfl #[.val (.int p1), .val (.ref b1), .val (.int (4 : Int32)), .val (.int (1 : Int32)), .val (.ref w_SHA1)] (1 : Int32) d1_34 rfl rfl rfl ?_
    refine own_goto 9 d1_37 (by decide) (by decide) ?_
    refine own_iloadN 10 rfl d1_9 rfl ?_
    refine own_iloadN 11 rfl d1_10 rfl ?_
    refine own_icmpNo 14 rfl d1_11 (tlt (by decide : (1 : Int32) < (4 : Int32))).2.1 ?_
    refine own_aloadN 15 rfl d1_14 rfl rfl ?_
    refine own_iloadN 16 rfl d1_15 rfl ?_
    obtain ⟨c5, A5, q5, S5, N5, H5, G5⟩ := id V1
    refine own_aaload 17 rfl A5 rfl (inb_of S5 ⟨by decide, by decide⟩) (Has.at H5 (inb_of S5 ⟨by decide, by decide⟩) rfl) d1_16 ?_
    refine own_astore 19 rfl #[.val (.int p1), .val (.ref b1), .val (.int (4 : Int32)), .val (.int (1 : Int32)), .val (.ref w_SHA256)] d1_17 rfl rfl ?_
    refine own_aload 21 rfl d1_19 rfl rfl ?_
    refine own_getF 24 rfl (host := "") (Or.inl (hw _ (List.mem_of_getElem? (i := 27) rfl))) Via.refl ((F_w_SHA256_id.ext O0.2).ext E1) d1_21 ?_
    refine own_iloadN 25 rfl d1_24 rfl ?_
    by_cases hc25_6 : (11 : Int32) = p1
    · have ihc25_6 : (11 : Int) = p1.toInt := own_eq hc25_6
      refine own_icmpNo 28 rfl d1_25 (teq hc25_6).2 ?_
      refine own_aload 30 rfl d1_28 rfl rfl ?_
      refine own_callS 33 rfl 2 5 0 [(.ref w_SHA256)] [] (y := (⟨"java/util/Optional", "of", "(Ljava/lang/Object;)Ljava/util/Optional;"⟩ : MethodName)) (hw _ (List.mem_of_getElem? (i := 29) rfl)) (hw _ (List.mem_of_getElem? (i := 30) rfl)) (hw _ (List.mem_of_getElem? (i := 31) rfl)) (hw _ (List.mem_of_getElem? (i := 32) rfl)) (by decide) (rm3 l Z a0 hw [] w_SHA256 h1) d1_30 rfl (lenOf own_pd3 rfl) rfl rfl rfl (by decide) (by decide) rfl rfl (by decide) (by decide) (own_kv fun v7 h7 q7 => ?_)
      obtain ⟨b7, rfl, K7, E7x, F7v⟩ := q7
      refine own_retA rfl rfl rfl d1_33 (by decide) (by decide) ?_
      exact ⟨_, rfl, (((Keep.refl h0 []).ext E1).trans K7 all0), Or.inr (Or.inl ⟨hc25_6.symm, _, rfl, E7x, F7v⟩)⟩
    · have ihc25_6 : ¬ (11 : Int) = p1.toInt := own_neq hc25_6
      refine own_icmpYes 34 d1_25 (feq hc25_6).2 (by decide) (by decide) ?_
      refine own_iinc 37 rfl #[.val (.int p1), .val (.ref b1), .val (.int (4 : Int32)), .val (.int (2 : Int32)), .val (.ref w_SHA256)] (1 : Int32) d1_34 rfl rfl rfl ?_
      refine own_goto 9 d1_37 (by decide) (by decide) ?_
      refine own_iloadN 10 rfl d1_9 rfl ?_
      refine own_iloadN 11 rfl d1_10 rfl ?_
      refine own_icmpNo 14 rfl d1_11 (tlt (by decide : (2 : Int32) < (4 : Int32))).2.1 ?_
      refine own_aloadN 15 rfl d1_14 rfl rfl ?_
      refine own_iloadN 16 rfl d1_15 rfl ?_
      obtain ⟨c8, A8, q8, S8, N8, H8, G8⟩ := id V1
      refine own_aaload 17 rfl A8 rfl (inb_of S8 ⟨by decide, by decide⟩) (Has.at H8 (inb_of S8 ⟨by decide, by decide⟩) rfl) d1_16 ?_
      refine own_astore 19 rfl #[.val (.int p1), .val (.ref b1), .val (.int (4 : Int32)), .val (.int (2 : Int32)), .val (.ref w_SHA384)] d1_17 rfl rfl ?_
      refine own_aload 21 rfl d1_19 rfl rfl ?_
      refine own_getF 24 rfl (host := "") (Or.inl (hw _ (List.mem_of_getElem? (i := 27) rfl))) Via.refl ((F_w_SHA384_id.ext O0.2).ext E1) d1_21 ?_
      refine own_iloadN 25 rfl d1_24 rfl ?_
      by_cases hc25_9 : (12 : Int32) = p1
      · have ihc25_9 : (12 : Int) = p1.toInt := own_eq hc25_9
        refine own_icmpNo 28 rfl d1_25 (teq hc25_9).2 ?_
        refine own_aload 30 rfl d1_28 rfl rfl ?_
        refine own_callS 33 rfl 2 5 0 [(.ref w_SHA384)] [] (y := (⟨"java/util/Optional", "of", "(Ljava/lang/Object;)Ljava/util/Optional;"⟩ : MethodName)) (hw _ (List.mem_of_getElem? (i := 29) rfl)) (hw _ (List.mem_of_getElem? (i := 30) rfl)) (hw _ (List.mem_of_getElem? (i := 31) rfl)) (hw _ (List.mem_of_getElem? (i := 32) rfl)) (by decide) (rm3 l Z a0 hw [] w_SHA384 h1) d1_30 rfl (lenOf own_pd3 rfl) rfl rfl rfl (by decide) (by decide) rfl rfl (by decide) (by decide) (own_kv fun v10 h10 q10 => ?_)
        obtain ⟨b10, rfl, K10, E10x, F10v⟩ := q10
        refine own_retA rfl rfl rfl d1_33 (by decide) (by decide) ?_
        exact ⟨_, rfl, (((Keep.refl h0 []).ext E1).trans K10 all0), Or.inr (Or.inr (Or.inl ⟨hc25_9.symm, _, rfl, E10x, F10v⟩))⟩
      · have ihc25_9 : ¬ (12 : Int) = p1.toInt := own_neq hc25_9
        refine own_icmpYes 34 d1_25 (feq hc25_9).2 (by decide) (by decide) ?_
        refine own_iinc 37 rfl #[.val (.int p1), .val (.ref b1), .val (.int (4 : Int32)), .val (.int (3 : Int32)), .val (.ref w_SHA384)] (1 : Int32) d1_34 rfl rfl rfl ?_
        refine own_goto 9 d1_37 (by decide) (by decide) ?_
        refine own_iloadN 10 rfl d1_9 rfl ?_
        refine own_iloadN 11 rfl d1_10 rfl ?_
        refine own_icmpNo 14 rfl d1_11 (tlt (by decide : (3 : Int32) < (4 : Int32))).2.1 ?_
        refine own_aloadN 15 rfl d1_14 rfl rfl ?_
        refine own_iloadN 16 rfl d1_15 rfl ?_
        obtain ⟨c11, A11, q11, S11, N11, H11, G11⟩ := id V1
        refine own_aaload 17 rfl A11 rfl (inb_of S11 ⟨by decide, by decide⟩) (Has.at H11 (inb_of S11 ⟨by decide, by decide⟩) rfl) d1_16 ?_
        refine own_astore 19 rfl #[.val (.int p1), .val (.ref b1), .val (.int (4 : Int32)), .val (.int (3 : Int32)), .val (.ref w_SHA512)] d1_17 rfl rfl ?_
        refine own_aload 21 rfl d1_19 rfl rfl ?_
        refine own_getF 24 rfl (host := "") (Or.inl (hw _ (List.mem_of_getElem? (i := 27) rfl))) Via.refl ((F_w_SHA512_id.ext O0.2).ext E1) d1_21 ?_
        refine own_iloadN 25 rfl d1_24 rfl ?_
        by_cases hc25_12 : (13 : Int32) = p1
        · have ihc25_12 : (13 : Int) = p1.toInt := own_eq hc25_12
          refine own_icmpNo 28 rfl d1_25 (teq hc25_12).2 ?_
          refine own_aload 30 rfl d1_28 rfl rfl ?_
          refine own_callS 33 rfl 2 5 0 [(.ref w_SHA512)] [] (y := (⟨"java/util/Optional", "of", "(Ljava/lang/Object;)Ljava/util/Optional;"⟩ : MethodName)) (hw _ (List.mem_of_getElem? (i := 29) rfl)) (hw _ (List.mem_of_getElem? (i := 30) rfl)) (hw _ (List.mem_of_getElem? (i := 31) rfl)) (hw _ (List.mem_of_getElem? (i := 32) rfl)) (by decide) (rm3 l Z a0 hw [] w_SHA512 h1) d1_30 rfl (lenOf own_pd3 rfl) rfl rfl rfl (by decide) (by decide) rfl rfl (by decide) (by decide) (own_kv fun v13 h13 q13 => ?_)
          obtain ⟨b13, rfl, K13, E13x, F13v⟩ := q13
          refine own_retA rfl rfl rfl d1_33 (by decide) (by decide) ?_
          exact ⟨_, rfl, (((Keep.refl h0 []).ext E1).trans K13 all0), Or.inr (Or.inr (Or.inr (Or.inl ⟨hc25_12.symm, _, rfl, E13x, F13v⟩)))⟩
        · have ihc25_12 : ¬ (13 : Int) = p1.toInt := own_neq hc25_12
          refine own_icmpYes 34 d1_25 (feq hc25_12).2 (by decide) (by decide) ?_
          refine own_iinc 37 rfl #[.val (.int p1), .val (.ref b1), .val (.int (4 : Int32)), .val (.int (4 : Int32)), .val (.ref w_SHA512)] (1 : Int32) d1_34 rfl rfl rfl ?_
          refine own_goto 9 d1_37 (by decide) (by decide) ?_
          refine own_iloadN 10 rfl d1_9 rfl ?_
          refine own_iloadN 11 rfl d1_10 rfl ?_
          refine own_icmpYes 40 d1_11 (flt (by decide : ¬ ((4 : Int32) < (4 : Int32)))).2.1 (by decide) (by decide) ?_
          refine own_callS 43 rfl 1 4 0 [] [] (y := (⟨"java/util/Optional", "empty", "()Ljava/util/Optional;"⟩ : MethodName)) (hw _ (List.mem_of_getElem? (i := 69) rfl)) (hw _ (List.mem_of_getElem? (i := 70) rfl)) (hw _ (List.mem_of_getElem? (i := 31) rfl)) (hw _ (List.mem_of_getElem? (i := 71) rfl)) (by decide) (rm11 l Z a0 hw []  w_VALUES c_w_VALUES w_SHA1 w_SHA256 w_SHA384 w_SHA512 w_EMPTY h1 I) d1_40 rfl (lenOf own_pd4 rfl) rfl rfl rfl (by decide) (by decide) rfl rfl (by decide) (by decide) (own_kv fun v14 h14 q14 => ?_)
          obtain ⟨rfl, e14⟩ := q14
          rw [e14]
          refine own_retA rfl rfl rfl d1_43 (by decide) (by decide) ?_
          exact ⟨_, rfl, ((Keep.refl h0 []).ext E1), Or.inr (Or.inr (Or.inr (Or.inr ⟨⟨fun q => hc25 q.symm, fun q => hc25_6 q.symm, fun q => hc25_9 q.symm, fun q => hc25_12 q.symm⟩, rfl⟩)))⟩
def own_exp (p1 : Int32) (w_SHA1 w_SHA256 w_SHA384 w_SHA512 : Addr) : Value := if p1 = 4 then .ref w_SHA1 else if p1 = 11 then .ref w_SHA256 else if p1 = 12 then .ref w_SHA384 else if p1 = 13 then .ref w_SHA512 else .null
theorem d7_0 : decode method_2_code 0 = .ok (.iload_n 0, 1) := by decide +kernel
theorem d7_1 : decode method_2_code 1 = .ok (.iconst 4, 1) := by decide +kernel
theorem d7_2 : decode method_2_code 2 = .ok (.if_icmp .ne 7, 3) := by decide +kernel
theorem d7_5 : decode method_2_code 5 = .ok (.getstatic 7, 3) := by decide +kernel
theorem d7_8 : decode method_2_code 8 = .ok (.areturn, 1) := by decide +kernel
theorem d7_9 : decode method_2_code 9 = .ok (.iload_n 0, 1) := by decide +kernel
theorem d7_10 : decode method_2_code 10 = .ok (.bipush 11, 2) := by decide +kernel
theorem d7_12 : decode method_2_code 12 = .ok (.if_icmp .ne 7, 3) := by decide +kernel
theorem d7_15 : decode method_2_code 15 = .ok (.getstatic 13, 3) := by decide +kernel
theorem d7_18 : decode method_2_code 18 = .ok (.areturn, 1) := by decide +kernel
theorem d7_19 : decode method_2_code 19 = .ok (.iload_n 0, 1) := by decide +kernel
theorem d7_20 : decode method_2_code 20 = .ok (.bipush 12, 2) := by decide +kernel
theorem d7_22 : decode method_2_code 22 = .ok (.if_icmp .ne 7, 3) := by decide +kernel
theorem d7_25 : decode method_2_code 25 = .ok (.getstatic 16, 3) := by decide +kernel
theorem d7_28 : decode method_2_code 28 = .ok (.areturn, 1) := by decide +kernel
theorem d7_29 : decode method_2_code 29 = .ok (.iload_n 0, 1) := by decide +kernel
theorem d7_30 : decode method_2_code 30 = .ok (.bipush 13, 2) := by decide +kernel
theorem d7_32 : decode method_2_code 32 = .ok (.if_icmp .ne 7, 3) := by decide +kernel
theorem d7_35 : decode method_2_code 35 = .ok (.getstatic 19, 3) := by decide +kernel
theorem d7_38 : decode method_2_code 38 = .ok (.areturn, 1) := by decide +kernel
theorem d7_39 : decode method_2_code 39 = .ok (.aconst_null, 1) := by decide +kernel
theorem d7_40 : decode method_2_code 40 = .ok (.areturn, 1) := by decide +kernel
theorem own_pf6 : plainFor (⟨"com/example/urd/urd/model/HashAlgorithmFromIdPinLaw", "expected", "(I)Lcom/example/urd/urd/model/HashAlgorithm;"⟩ : MethodName) = true := by first | exact plainFor_of_name (by first | (simp [plainName, overriddenIn]; done) | decide +kernel) | decide +kernel
set_option maxRecDepth 65536 in
set_option maxHeartbeats 40000000 in
theorem rm7 (l : Launch) (Z : State) (a0 : Array Value) (hw : ∀ d ∈ tables_1, d.before a0 Z = true) (ws : List Jvm.Cond) (p1 : Int32) (w_VALUES : Addr) (c_w_VALUES : Cell) (w_SHA1 : Addr) (w_SHA256 : Addr) (w_SHA384 : Addr) (w_SHA512 : Addr) (w_EMPTY : Addr) (h0 : Heap) (I : own_Ini Z w_VALUES c_w_VALUES w_SHA1 w_SHA256 w_SHA384 w_SHA512 w_EMPTY)  :
    own_Met l Z (⟨"com/example/urd/urd/model/HashAlgorithmFromIdPinLaw", "expected", "(I)Lcom/example/urd/urd/model/HashAlgorithm;"⟩ : MethodName) method_2_code 1 (some (.object "com/example/urd/urd/model/HashAlgorithm")) ws ({ frames := 0, cells := 0, slots := 0, locals := 0 } : Room) #[(.int p1)] h0 (own_some (fun v h => v = own_exp p1 w_SHA1 w_SHA256 w_SHA384 w_SHA512 ∧ h = h0)) := by
  have I' := I
  obtain ⟨S_w_VALUES, A_w_VALUES, E_w_VALUES, S_w_SHA1, E_w_SHA1, S_w_SHA256, E_w_SHA256, S_w_SHA384, E_w_SHA384, S_w_SHA512, E_w_SHA512, F_w_SHA1_id, F_w_SHA256_id, F_w_SHA384_id, F_w_SHA512_id, S_w_EMPTY, E_w_EMPTY, F_w_EMPTY_value, V_w_VALUES⟩ := I'
  refine own_met (ls0 := #[.val (.int p1)]) own_pf6 (fun m => by first | rfl | (simp [entryFrame, mkF, argsToLocals, Value.category, maxLocals]; done)) ?_
  intro p e s m below meth c
  refine own_old (fun O0 => ?_)
  refine own_iloadN 1 rfl d7_0 rfl ?_
  refine own_iconst 2 rfl (4 : Int32) d7_1 rfl ?_
  by_cases hc2 : p1 = (4 : Int32)
  · have ihc2 : p1.toInt = (4 : Int) := own_eq hc2
    refine own_icmpNo 5 rfl d7_2 (teq hc2).2 ?_
    refine own_getS 8 rfl (host := "") (Or.inl (hw _ (List.mem_of_getElem? (i := 78) rfl))) Via.refl S_w_SHA1 d7_5 ?_
    refine own_retA rfl rfl rfl d7_8 (by decide) (by decide) ?_
    exact ⟨_, rfl, by simp [own_exp, hc2], rfl⟩
  · have ihc2 : ¬ p1.toInt = (4 : Int) := own_neq hc2
    refine own_icmpYes 9 d7_2 (feq hc2).2 (by decide) (by decide) ?_
    refine own_iloadN 10 rfl d7_9 rfl ?_
    refine own_bipush 12 rfl (11 : Int32) d7_10 rfl ?_
    by_cases hc12 : p1 = (11 : Int32)
    · have ihc12 : p1.toInt = (11 : Int) := own_eq hc12
      refine own_icmpNo 15 rfl d7_12 (teq hc12).2 ?_
      refine own_getS 18 rfl (host := "") (Or.inl (hw _ (List.mem_of_getElem? (i := 68) rfl))) Via.refl S_w_SHA256 d7_15 ?_
      refine own_retA rfl rfl rfl d7_18 (by decide) (by decide) ?_
      exact ⟨_, rfl, by simp [own_exp, hc2, hc12], rfl⟩
    · have ihc12 : ¬ p1.toInt = (11 : Int) := own_neq hc12
      refine own_icmpYes 19 d7_12 (feq hc12).2 (by decide) (by decide) ?_
      refine own_iloadN 20 rfl d7_19 rfl ?_
      refine own_bipush 22 rfl (12 : Int32) d7_20 rfl ?_
      by_cases hc22 : p1 = (12 : Int32)
      · have ihc22 : p1.toInt = (12 : Int) := own_eq hc22
        refine own_icmpNo 25 rfl d7_22 (teq hc22).2 ?_
        refine own_getS 28 rfl (host := "") (Or.inl (hw _ (List.mem_of_getElem? (i := 79) rfl))) Via.refl S_w_SHA384 d7_25 ?_
        refine own_retA rfl rfl rfl d7_28 (by decide) (by decide) ?_
        exact ⟨_, rfl, by simp [own_exp, hc2, hc12, hc22], rfl⟩
      · have ihc22 : ¬ p1.toInt = (12 : Int) := own_neq hc22
        refine own_icmpYes 29 d7_22 (feq hc22).2 (by decide) (by decide) ?_
        refine own_iloadN 30 rfl d7_29 rfl ?_
        refine own_bipush 32 rfl (13 : Int32) d7_30 rfl ?_
        by_cases hc32 : p1 = (13 : Int32)
        · have ihc32 : p1.toInt = (13 : Int) := own_eq hc32
          refine own_icmpNo 35 rfl d7_32 (teq hc32).2 ?_
          refine own_getS 38 rfl (host := "") (Or.inl (hw _ (List.mem_of_getElem? (i := 52) rfl))) Via.refl S_w_SHA512 d7_35 ?_
          refine own_retA rfl rfl rfl d7_38 (by decide) (by decide) ?_
          exact ⟨_, rfl, by simp [own_exp, hc2, hc12, hc22, hc32], rfl⟩
        · have ihc32 : ¬ p1.toInt = (13 : Int) := own_neq hc32
          refine own_icmpYes 39 d7_32 (feq hc32).2 (by decide) (by decide) ?_
          refine own_aconstNull 40 rfl d7_39 ?_
          refine own_retA rfl rfl rfl d7_40 (by decide) (by decide) ?_
          exact ⟨_, rfl, by simp [own_exp, hc2, hc12, hc22, hc32], rfl⟩
theorem d8_0 : decode jdk_32_method_6_code 0 = .ok (.aload_n 0, 1) := by decide +kernel
theorem d8_1 : decode jdk_32_method_6_code 1 = .ok (.getfield 13, 3) := by decide +kernel
theorem d8_4 : decode jdk_32_method_6_code 4 = .ok (.ifnull 7, 3) := by decide +kernel
theorem d8_7 : decode jdk_32_method_6_code 7 = .ok (.iconst 1, 1) := by decide +kernel
theorem d8_8 : decode jdk_32_method_6_code 8 = .ok (.goto 4, 3) := by decide +kernel
theorem d8_12 : decode jdk_32_method_6_code 12 = .ok (.ireturn, 1) := by decide +kernel
theorem own_pf7 : plainFor (⟨"java/util/Optional", "isPresent", "()Z"⟩ : MethodName) = true := by first | exact plainFor_of_name (by first | (simp [plainName, overriddenIn]; done) | decide +kernel) | decide +kernel
set_option maxRecDepth 65536 in
set_option maxHeartbeats 40000000 in
theorem rm8 (l : Launch) (Z : State) (a0 : Array Value) (hw : ∀ d ∈ tables_1, d.before a0 Z = true) (ws : List Jvm.Cond) (p1 : Addr) (x1 : Addr) (h0 : Heap) (Fp1 : Fld Z h0 p1 "java/util/Optional" "value" "Ljava/lang/Object;" (.ref x1)) :
    own_Met l Z (⟨"java/util/Optional", "isPresent", "()Z"⟩ : MethodName) jdk_32_method_6_code 1 (some .boolean) ws ({ frames := 0, cells := 0, slots := 0, locals := 0 } : Room) #[(.ref p1)] h0 (own_some (fun v h => v = .int 1 ∧ h = h0)) := by
  refine own_met (ls0 := #[.val (.ref p1)]) own_pf7 (fun m => by first | rfl | (simp [entryFrame, mkF, argsToLocals, Value.category, maxLocals]; done)) ?_
  intro p e s m below meth c
  refine own_old (fun O0 => ?_)
  refine own_aloadN 1 rfl d8_0 rfl rfl ?_
  refine own_getF 4 rfl (host := "") (Or.inl (hw _ (List.mem_of_getElem? (i := 46) rfl))) Via.refl Fp1 d8_1 ?_
  refine own_ifnullNo 7 rfl d8_4 ?_
  refine own_iconst 8 rfl (1 : Int32) d8_7 rfl ?_
  refine own_goto 12 d8_8 (by decide) (by decide) ?_
  refine own_retN rfl (by simp) d8_12 (by decide) (by decide) ?_
  exact ⟨_, rfl, rfl, rfl⟩
theorem d9_0 : decode jdk_32_method_5_code 0 = .ok (.aload_n 0, 1) := by decide +kernel
theorem d9_1 : decode jdk_32_method_5_code 1 = .ok (.getfield 13, 3) := by decide +kernel
theorem d9_4 : decode jdk_32_method_5_code 4 = .ok (.ifnonnull 13, 3) := by decide +kernel
theorem d9_17 : decode jdk_32_method_5_code 17 = .ok (.aload_n 0, 1) := by decide +kernel
theorem d9_18 : decode jdk_32_method_5_code 18 = .ok (.getfield 13, 3) := by decide +kernel
theorem d9_21 : decode jdk_32_method_5_code 21 = .ok (.areturn, 1) := by decide +kernel
theorem own_pf8 : plainFor (⟨"java/util/Optional", "get", "()Ljava/lang/Object;"⟩ : MethodName) = true := by first | exact plainFor_of_name (by first | (simp [plainName, overriddenIn]; done) | decide +kernel) | decide +kernel
set_option maxRecDepth 65536 in
set_option maxHeartbeats 40000000 in
theorem rm9 (l : Launch) (Z : State) (a0 : Array Value) (hw : ∀ d ∈ tables_1, d.before a0 Z = true) (ws : List Jvm.Cond) (p1 : Addr) (x1 : Addr) (h0 : Heap) (Fp1 : Fld Z h0 p1 "java/util/Optional" "value" "Ljava/lang/Object;" (.ref x1)) :
    own_Met l Z (⟨"java/util/Optional", "get", "()Ljava/lang/Object;"⟩ : MethodName) jdk_32_method_5_code 1 (some (.object "java/lang/Object")) ws ({ frames := 0, cells := 0, slots := 0, locals := 0 } : Room) #[(.ref p1)] h0 (own_some (fun v h => v = .ref x1 ∧ h = h0)) := by
  refine own_met (ls0 := #[.val (.ref p1)]) own_pf8 (fun m => by first | rfl | (simp [entryFrame, mkF, argsToLocals, Value.category, maxLocals]; done)) ?_
  intro p e s m below meth c
  refine own_old (fun O0 => ?_)
  refine own_aloadN 1 rfl d9_0 rfl rfl ?_
  refine own_getF 4 rfl (host := "") (Or.inl (hw _ (List.mem_of_getElem? (i := 46) rfl))) Via.refl Fp1 d9_1 ?_
  refine own_ifnonnullYes 17 d9_4 (by decide) (by decide) ?_
  refine own_aloadN 18 rfl d9_17 rfl rfl ?_
  refine own_getF 21 rfl (host := "") (Or.inl (hw _ (List.mem_of_getElem? (i := 46) rfl))) Via.refl Fp1 d9_18 ?_
  refine own_retA rfl rfl rfl d9_21 (by decide) (by decide) ?_
  exact ⟨_, rfl, rfl, rfl⟩
theorem d12_0 : decode jdk_32_method_7_code 0 = .ok (.aload_n 0, 1) := by decide +kernel
theorem d12_1 : decode jdk_32_method_7_code 1 = .ok (.getfield 13, 3) := by decide +kernel
theorem d12_4 : decode jdk_32_method_7_code 4 = .ok (.ifnonnull 7, 3) := by decide +kernel
theorem d12_7 : decode jdk_32_method_7_code 7 = .ok (.iconst 1, 1) := by decide +kernel
theorem d12_8 : decode jdk_32_method_7_code 8 = .ok (.goto 4, 3) := by decide +kernel
theorem d12_12 : decode jdk_32_method_7_code 12 = .ok (.ireturn, 1) := by decide +kernel
theorem own_pf9 : plainFor (⟨"java/util/Optional", "isEmpty", "()Z"⟩ : MethodName) = true := by first | exact plainFor_of_name (by first | (simp [plainName, overriddenIn]; done) | decide +kernel) | decide +kernel
set_option maxRecDepth 65536 in
set_option maxHeartbeats 40000000 in
theorem rm12 (l : Launch) (Z : State) (a0 : Array Value) (hw : ∀ d ∈ tables_1, d.before a0 Z = true) (ws : List Jvm.Cond) (p1 : Addr) (h0 : Heap) (Fp1 : Fld Z h0 p1 "java/util/Optional" "value" "Ljava/lang/Object;" .null) :
    own_Met l Z (⟨"java/util/Optional", "isEmpty", "()Z"⟩ : MethodName) jdk_32_method_7_code 1 (some .boolean) ws ({ frames := 0, cells := 0, slots := 0, locals := 0 } : Room) #[(.ref p1)] h0 (own_some (fun v h => v = .int 1 ∧ h = h0)) := by
  refine own_met (ls0 := #[.val (.ref p1)]) own_pf9 (fun m => by first | rfl | (simp [entryFrame, mkF, argsToLocals, Value.category, maxLocals]; done)) ?_
  intro p e s m below meth c
  refine own_old (fun O0 => ?_)
  refine own_aloadN 1 rfl d12_0 rfl rfl ?_
  refine own_getF 4 rfl (host := "") (Or.inl (hw _ (List.mem_of_getElem? (i := 46) rfl))) Via.refl Fp1 d12_1 ?_
  refine own_ifnonnullNo 7 rfl d12_4 ?_
  refine own_iconst 8 rfl (1 : Int32) d12_7 rfl ?_
  refine own_goto 12 d12_8 (by decide) (by decide) ?_
  refine own_retN rfl (by simp) d12_12 (by decide) (by decide) ?_
  exact ⟨_, rfl, rfl, rfl⟩
theorem d10_0 : decode prog_35_method_4_code 0 = .ok (.aload_n 0, 1) := by decide +kernel
theorem d10_1 : decode prog_35_method_4_code 1 = .ok (.getfield 35, 3) := by decide +kernel
theorem d10_4 : decode prog_35_method_4_code 4 = .ok (.ireturn, 1) := by decide +kernel
theorem own_pf10 : plainFor (⟨"com/example/urd/urd/model/HashAlgorithm", "id", "()I"⟩ : MethodName) = true := by first | exact plainFor_of_name (by first | (simp [plainName, overriddenIn]; done) | decide +kernel) | decide +kernel
set_option maxRecDepth 65536 in
set_option maxHeartbeats 40000000 in
theorem rm10 (l : Launch) (Z : State) (a0 : Array Value) (hw : ∀ d ∈ tables_1, d.before a0 Z = true) (ws : List Jvm.Cond) (p1 : Addr) (x1 : Int32) (h0 : Heap) (Fp1 : Fld Z h0 p1 "com/example/urd/urd/model/HashAlgorithm" "id" "I" (.int x1)) :
    own_Met l Z (⟨"com/example/urd/urd/model/HashAlgorithm", "id", "()I"⟩ : MethodName) prog_35_method_4_code 1 (some .int) ws ({ frames := 0, cells := 0, slots := 0, locals := 0 } : Room) #[(.ref p1)] h0 (own_some (fun v h => v = .int x1 ∧ h = h0)) := by
  refine own_met (ls0 := #[.val (.ref p1)]) own_pf10 (fun m => by first | rfl | (simp [entryFrame, mkF, argsToLocals, Value.category, maxLocals]; done)) ?_
  intro p e s m below meth c
  refine own_old (fun O0 => ?_)
  refine own_aloadN 1 rfl d10_0 rfl rfl ?_
  refine own_getF 4 rfl (host := "") (Or.inl (hw _ (List.mem_of_getElem? (i := 27) rfl))) Via.refl Fp1 d10_1 ?_
  refine own_retI rfl d10_4 (by decide) (by decide) ?_
  exact ⟨_, rfl, rfl, rfl⟩
theorem own_pd5 : parseMethodDescriptor "(I)Ljava/util/Optional;" = some ⟨[.int], some (.object "java/util/Optional")⟩ := by decide +kernel
theorem own_pd6 : parseMethodDescriptor "(I)Lcom/example/urd/urd/model/HashAlgorithm;" = some ⟨[.int], some (.object "com/example/urd/urd/model/HashAlgorithm")⟩ := by decide +kernel
theorem own_pd7 : parseMethodDescriptor "()Z" = some ⟨[], some .boolean⟩ := by decide +kernel
theorem own_pd8 : parseMethodDescriptor "()Ljava/lang/Object;" = some ⟨[], some (.object "java/lang/Object")⟩ := by decide +kernel
theorem own_pd9 : parseMethodDescriptor "()I" = some ⟨[], some .int⟩ := by decide +kernel
theorem own_pf11 : plainFor (⟨"com/example/urd/urd/model/HashAlgorithmFromIdPinLaw", "law", "(II)Z"⟩ : MethodName) = true := by first | exact plainFor_of_name (by first | (simp [plainName, overriddenIn]; done) | decide +kernel) | decide +kernel
set_option maxRecDepth 65536 in
set_option maxHeartbeats 40000000 in
theorem rm0 (l : Launch) (Z : State) (a0 : Array Value) (hw : ∀ d ∈ tables_1, d.before a0 Z = true) (ws : List Jvm.Cond) (p1 p2 : Int32) (w_VALUES : Addr) (c_w_VALUES : Cell) (w_SHA1 : Addr) (w_SHA256 : Addr) (w_SHA384 : Addr) (w_SHA512 : Addr) (w_EMPTY : Addr) (h0 : Heap) (I : own_Ini Z w_VALUES c_w_VALUES w_SHA1 w_SHA256 w_SHA384 w_SHA512 w_EMPTY)  :
    own_Met l Z x code maxLocals ret ws room_1 #[(.int p1), (.int p2)] h0 (own_some (fun v h => v = .int 1)) := by
  have I' := I
  obtain ⟨S_w_VALUES, A_w_VALUES, E_w_VALUES, S_w_SHA1, E_w_SHA1, S_w_SHA256, E_w_SHA256, S_w_SHA384, E_w_SHA384, S_w_SHA512, E_w_SHA512, F_w_SHA1_id, F_w_SHA256_id, F_w_SHA384_id, F_w_SHA512_id, S_w_EMPTY, E_w_EMPTY, F_w_EMPTY_value, V_w_VALUES⟩ := I'
  refine own_met (ls0 := #[.val (.int p1), .val (.int p2), .unset, .unset, .unset, .unset]) own_pf11 (fun m => by first | rfl | (simp [entryFrame, mkF, argsToLocals, Value.category, maxLocals]; done)) ?_
  intro p e s m below meth c
  refine own_old (fun O0 => ?_)
  refine own_bipush 2 rfl (16 : Int32) at_0 rfl ?_
  refine own_newP 4 rfl 1 16 16 "[I" (by decide) (hw _ (List.mem_of_getElem? (i := 0) rfl)) at_2 (by decide) (by decide) (by decide) rfl rfl (by decide) (by decide) (fun h1 b1 k1 z1 g_b1 E1 V1 X_b1 => ?_)
  have ne_w_VALUES_b1 : w_VALUES ≠ b1 := Nat.ne_of_lt (Nat.lt_of_lt_of_le (E_w_VALUES.ext O0.2).lt (Nat.le_of_eq z1.symm))
  have ne_w_SHA1_b1 : w_SHA1 ≠ b1 := Nat.ne_of_lt (Nat.lt_of_lt_of_le (E_w_SHA1.ext O0.2).lt (Nat.le_of_eq z1.symm))
  have ne_w_SHA256_b1 : w_SHA256 ≠ b1 := Nat.ne_of_lt (Nat.lt_of_lt_of_le (E_w_SHA256.ext O0.2).lt (Nat.le_of_eq z1.symm))
  have ne_w_SHA384_b1 : w_SHA384 ≠ b1 := Nat.ne_of_lt (Nat.lt_of_lt_of_le (E_w_SHA384.ext O0.2).lt (Nat.le_of_eq z1.symm))
  have ne_w_SHA512_b1 : w_SHA512 ≠ b1 := Nat.ne_of_lt (Nat.lt_of_lt_of_le (E_w_SHA512.ext O0.2).lt (Nat.le_of_eq z1.symm))
  have ne_w_EMPTY_b1 : w_EMPTY ≠ b1 := Nat.ne_of_lt (Nat.lt_of_lt_of_le (E_w_EMPTY.ext O0.2).lt (Nat.le_of_eq z1.symm))
  have V1p : Arv Z h1 b1 k1 .int (16 : Int32) [(.int (0 : Int32)), (.int (0 : Int32)), (.int (0 : Int32)), (.int (0 : Int32)), (.int (0 : Int32)), (.int (0 : Int32)), (.int (0 : Int32)), (.int (0 : Int32)), (.int (0 : Int32)), (.int (0 : Int32)), (.int (0 : Int32)), (.int (0 : Int32)), (.int (0 : Int32)), (.int (0 : Int32)), (.int (0 : Int32)), (.int (0 : Int32))] (.int (0 : Int32)) := V1.pad (pad_rep [] (.int (0 : Int32)) 16)
  refine own_dup 5 rfl at_4 rfl ?_
  refine own_iconst 6 rfl (0 : Int32) at_5 rfl ?_
  refine own_iconst 7 rfl (4 : Int32) at_6 rfl ?_
  obtain ⟨c2, A2, q2, S2, N2, H2, G2⟩ := id V1p
  refine own_iastore 8 rfl g_b1 A2 (inb_of S2 ⟨by decide, by decide⟩) at_7 (fun h2 W2 => ?_)
  have V2 : Arv Z h2 b1 k1 .int (16 : Int32) [(.int (4 : Int32)), (.int (0 : Int32)), (.int (0 : Int32)), (.int (0 : Int32)), (.int (0 : Int32)), (.int (0 : Int32)), (.int (0 : Int32)), (.int (0 : Int32)), (.int (0 : Int32)), (.int (0 : Int32)), (.int (0 : Int32)), (.int (0 : Int32)), (.int (0 : Int32)), (.int (0 : Int32)), (.int (0 : Int32)), (.int (0 : Int32))] (.int (0 : Int32)) := Arv.set A2 q2 S2 N2 H2 G2 rfl W2 0 rfl (Nat.le_of_ble_eq_true rfl)
  refine own_dup 9 rfl at_8 rfl ?_
  refine own_iconst 10 rfl (1 : Int32) at_9 rfl ?_
  refine own_bipush 12 rfl (11 : Int32) at_10 rfl ?_
  obtain ⟨c3, A3, q3, S3, N3, H3, G3⟩ := id V2
  refine own_iastore 13 rfl g_b1 A3 (inb_of S3 ⟨by decide, by decide⟩) at_12 (fun h3 W3 => ?_)
  have V3 : Arv Z h3 b1 k1 .int (16 : Int32) [(.int (4 : Int32)), (.int (11 : Int32)), (.int (0 : Int32)), (.int (0 : Int32)), (.int (0 : Int32)), (.int (0 : Int32)), (.int (0 : Int32)), (.int (0 : Int32)), (.int (0 : Int32)), (.int (0 : Int32)), (.int (0 : Int32)), (.int (0 : Int32)), (.int (0 : Int32)), (.int (0 : Int32)), (.int (0 : Int32)), (.int (0 : Int32))] (.int (0 : Int32)) := Arv.set A3 q3 S3 N3 H3 G3 rfl W3 1 rfl (Nat.le_of_ble_eq_true rfl)
  refine own_dup 14 rfl at_13 rfl ?_
  refine own_iconst 15 rfl (2 : Int32) at_14 rfl ?_
  refine own_bipush 17 rfl (12 : Int32) at_15 rfl ?_
  obtain ⟨c4, A4, q4, S4, N4, H4, G4⟩ := id V3
  refine own_iastore 18 rfl g_b1 A4 (inb_of S4 ⟨by decide, by decide⟩) at_17 (fun h4 W4 => ?_)
  have V4 : Arv Z h4 b1 k1 .int (16 : Int32) [(.int (4 : Int32)), (.int (11 : Int32)), (.int (12 : Int32)), (.int (0 : Int32)), (.int (0 : Int32)), (.int (0 : Int32)), (.int (0 : Int32)), (.int (0 : Int32)), (.int (0 : Int32)), (.int (0 : Int32)), (.int (0 : Int32)), (.int (0 : Int32)), (.int (0 : Int32)), (.int (0 : Int32)), (.int (0 : Int32)), (.int (0 : Int32))] (.int (0 : Int32)) := Arv.set A4 q4 S4 N4 H4 G4 rfl W4 2 rfl (Nat.le_of_ble_eq_true rfl)
  refine own_dup 19 rfl at_18 rfl ?_
  refine own_iconst 20 rfl (3 : Int32) at_19 rfl ?_
  refine own_bipush 22 rfl (13 : Int32) at_20 rfl ?_
  obtain ⟨c5, A5, q5, S5, N5, H5, G5⟩ := id V4
  refine own_iastore 23 rfl g_b1 A5 (inb_of S5 ⟨by decide, by decide⟩) at_22 (fun h5 W5 => ?_)
  have V5 : Arv Z h5 b1 k1 .int (16 : Int32) [(.int (4 : Int32)), (.int (11 : Int32)), (.int (12 : Int32)), (.int (13 : Int32)), (.int (0 : Int32)), (.int (0 : Int32)), (.int (0 : Int32)), (.int (0 : Int32)), (.int (0 : Int32)), (.int (0 : Int32)), (.int (0 : Int32)), (.int (0 : Int32)), (.int (0 : Int32)), (.int (0 : Int32)), (.int (0 : Int32)), (.int (0 : Int32))] (.int (0 : Int32)) := Arv.set A5 q5 S5 N5 H5 G5 rfl W5 3 rfl (Nat.le_of_ble_eq_true rfl)
  refine own_dup 24 rfl at_23 rfl ?_
  refine own_iconst 25 rfl (4 : Int32) at_24 rfl ?_
  refine own_iconst 26 rfl (3 : Int32) at_25 rfl ?_
  obtain ⟨c6, A6, q6, S6, N6, H6, G6⟩ := id V5
  refine own_iastore 27 rfl g_b1 A6 (inb_of S6 ⟨by decide, by decide⟩) at_26 (fun h6 W6 => ?_)
  have V6 : Arv Z h6 b1 k1 .int (16 : Int32) [(.int (4 : Int32)), (.int (11 : Int32)), (.int (12 : Int32)), (.int (13 : Int32)), (.int (3 : Int32)), (.int (0 : Int32)), (.int (0 : Int32)), (.int (0 : Int32)), (.int (0 : Int32)), (.int (0 : Int32)), (.int (0 : Int32)), (.int (0 : Int32)), (.int (0 : Int32)), (.int (0 : Int32)), (.int (0 : Int32)), (.int (0 : Int32))] (.int (0 : Int32)) := Arv.set A6 q6 S6 N6 H6 G6 rfl W6 4 rfl (Nat.le_of_ble_eq_true rfl)
  refine own_dup 28 rfl at_27 rfl ?_
  refine own_iconst 29 rfl (5 : Int32) at_28 rfl ?_
  refine own_iconst 30 rfl (5 : Int32) at_29 rfl ?_
  obtain ⟨c7, A7, q7, S7, N7, H7, G7⟩ := id V6
  refine own_iastore 31 rfl g_b1 A7 (inb_of S7 ⟨by decide, by decide⟩) at_30 (fun h7 W7 => ?_)
  have V7 : Arv Z h7 b1 k1 .int (16 : Int32) [(.int (4 : Int32)), (.int (11 : Int32)), (.int (12 : Int32)), (.int (13 : Int32)), (.int (3 : Int32)), (.int (5 : Int32)), (.int (0 : Int32)), (.int (0 : Int32)), (.int (0 : Int32)), (.int (0 : Int32)), (.int (0 : Int32)), (.int (0 : Int32)), (.int (0 : Int32)), (.int (0 : Int32)), (.int (0 : Int32)), (.int (0 : Int32))] (.int (0 : Int32)) := Arv.set A7 q7 S7 N7 H7 G7 rfl W7 5 rfl (Nat.le_of_ble_eq_true rfl)
  refine own_dup 32 rfl at_31 rfl ?_
  refine own_bipush 34 rfl (6 : Int32) at_32 rfl ?_
  refine own_bipush 36 rfl (10 : Int32) at_34 rfl ?_
  obtain ⟨c8, A8, q8, S8, N8, H8, G8⟩ := id V7
  refine own_iastore 37 rfl g_b1 A8 (inb_of S8 ⟨by decide, by decide⟩) at_36 (fun h8 W8 => ?_)
  have V8 : Arv Z h8 b1 k1 .int (16 : Int32) [(.int (4 : Int32)), (.int (11 : Int32)), (.int (12 : Int32)), (.int (13 : Int32)), (.int (3 : Int32)), (.int (5 : Int32)), (.int (10 : Int32)), (.int (0 : Int32)), (.int (0 : Int32)), (.int (0 : Int32)), (.int (0 : Int32)), (.int (0 : Int32)), (.int (0 : Int32)), (.int (0 : Int32)), (.int (0 : Int32)), (.int (0 : Int32))] (.int (0 : Int32)) := Arv.set A8 q8 S8 N8 H8 G8 rfl W8 6 rfl (Nat.le_of_ble_eq_true rfl)
  refine own_dup 38 rfl at_37 rfl ?_
  refine own_bipush 40 rfl (7 : Int32) at_38 rfl ?_
  refine own_bipush 42 rfl (14 : Int32) at_40 rfl ?_
  obtain ⟨c9, A9, q9, S9, N9, H9, G9⟩ := id V8
  refine own_iastore 43 rfl g_b1 A9 (inb_of S9 ⟨by decide, by decide⟩) at_42 (fun h9 W9 => ?_)
  have V9 : Arv Z h9 b1 k1 .int (16 : Int32) [(.int (4 : Int32)), (.int (11 : Int32)), (.int (12 : Int32)), (.int (13 : Int32)), (.int (3 : Int32)), (.int (5 : Int32)), (.int (10 : Int32)), (.int (14 : Int32)), (.int (0 : Int32)), (.int (0 : Int32)), (.int (0 : Int32)), (.int (0 : Int32)), (.int (0 : Int32)), (.int (0 : Int32)), (.int (0 : Int32)), (.int (0 : Int32))] (.int (0 : Int32)) := Arv.set A9 q9 S9 N9 H9 G9 rfl W9 7 rfl (Nat.le_of_ble_eq_true rfl)
  refine own_dup 44 rfl at_43 rfl ?_
  refine own_bipush 46 rfl (8 : Int32) at_44 rfl ?_
  refine own_bipush 48 rfl (18 : Int32) at_46 rfl ?_
  obtain ⟨c10, A10, q10, S10, N10, H10, G10⟩ := id V9
  refine own_iastore 49 rfl g_b1 A10 (inb_of S10 ⟨by decide, by decide⟩) at_48 (fun h10 W10 => ?_)
  have V10 : Arv Z h10 b1 k1 .int (16 : Int32) [(.int (4 : Int32)), (.int (11 : Int32)), (.int (12 : Int32)), (.int (13 : Int32)), (.int (3 : Int32)), (.int (5 : Int32)), (.int (10 : Int32)), (.int (14 : Int32)), (.int (18 : Int32)), (.int (0 : Int32)), (.int (0 : Int32)), (.int (0 : Int32)), (.int (0 : Int32)), (.int (0 : Int32)), (.int (0 : Int32)), (.int (0 : Int32))] (.int (0 : Int32)) := Arv.set A10 q10 S10 N10 H10 G10 rfl W10 8 rfl (Nat.le_of_ble_eq_true rfl)
  refine own_dup 50 rfl at_49 rfl ?_
  refine own_bipush 52 rfl (9 : Int32) at_50 rfl ?_
  refine own_iconst 53 rfl (0 : Int32) at_52 rfl ?_
  obtain ⟨c11, A11, q11, S11, N11, H11, G11⟩ := id V10
  refine own_iastore 54 rfl g_b1 A11 (inb_of S11 ⟨by decide, by decide⟩) at_53 (fun h11 W11 => ?_)
  have V11 : Arv Z h11 b1 k1 .int (16 : Int32) [(.int (4 : Int32)), (.int (11 : Int32)), (.int (12 : Int32)), (.int (13 : Int32)), (.int (3 : Int32)), (.int (5 : Int32)), (.int (10 : Int32)), (.int (14 : Int32)), (.int (18 : Int32)), (.int (0 : Int32)), (.int (0 : Int32)), (.int (0 : Int32)), (.int (0 : Int32)), (.int (0 : Int32)), (.int (0 : Int32)), (.int (0 : Int32))] (.int (0 : Int32)) := Arv.set A11 q11 S11 N11 H11 G11 rfl W11 9 rfl (Nat.le_of_ble_eq_true rfl)
  refine own_dup 55 rfl at_54 rfl ?_
  refine own_bipush 57 rfl (10 : Int32) at_55 rfl ?_
  refine own_iconst 58 rfl (-1 : Int32) at_57 rfl ?_
  obtain ⟨c12, A12, q12, S12, N12, H12, G12⟩ := id V11
  refine own_iastore 59 rfl g_b1 A12 (inb_of S12 ⟨by decide, by decide⟩) at_58 (fun h12 W12 => ?_)
  have V12 : Arv Z h12 b1 k1 .int (16 : Int32) [(.int (4 : Int32)), (.int (11 : Int32)), (.int (12 : Int32)), (.int (13 : Int32)), (.int (3 : Int32)), (.int (5 : Int32)), (.int (10 : Int32)), (.int (14 : Int32)), (.int (18 : Int32)), (.int (0 : Int32)), (.int (-1 : Int32)), (.int (0 : Int32)), (.int (0 : Int32)), (.int (0 : Int32)), (.int (0 : Int32)), (.int (0 : Int32))] (.int (0 : Int32)) := Arv.set A12 q12 S12 N12 H12 G12 rfl W12 10 rfl (Nat.le_of_ble_eq_true rfl)
  refine own_dup 60 rfl at_59 rfl ?_
  refine own_bipush 62 rfl (11 : Int32) at_60 rfl ?_
  refine own_ldcInt 64 rfl (hw _ (List.mem_of_getElem? (i := 1) rfl)) at_62 ?_
  obtain ⟨c13, A13, q13, S13, N13, H13, G13⟩ := id V12
  refine own_iastore 65 rfl g_b1 A13 (inb_of S13 ⟨by decide, by decide⟩) at_64 (fun h13 W13 => ?_)
  have V13 : Arv Z h13 b1 k1 .int (16 : Int32) [(.int (4 : Int32)), (.int (11 : Int32)), (.int (12 : Int32)), (.int (13 : Int32)), (.int (3 : Int32)), (.int (5 : Int32)), (.int (10 : Int32)), (.int (14 : Int32)), (.int (18 : Int32)), (.int (0 : Int32)), (.int (-1 : Int32)), (.int (65540 : Int32)), (.int (0 : Int32)), (.int (0 : Int32)), (.int (0 : Int32)), (.int (0 : Int32))] (.int (0 : Int32)) := Arv.set A13 q13 S13 N13 H13 G13 rfl W13 11 rfl (Nat.le_of_ble_eq_true rfl)
  refine own_dup 66 rfl at_65 rfl ?_
  refine own_bipush 68 rfl (12 : Int32) at_66 rfl ?_
  refine own_ldcInt 70 rfl (hw _ (List.mem_of_getElem? (i := 2) rfl)) at_68 ?_
  obtain ⟨c14, A14, q14, S14, N14, H14, G14⟩ := id V13
  refine own_iastore 71 rfl g_b1 A14 (inb_of S14 ⟨by decide, by decide⟩) at_70 (fun h14 W14 => ?_)
  have V14 : Arv Z h14 b1 k1 .int (16 : Int32) [(.int (4 : Int32)), (.int (11 : Int32)), (.int (12 : Int32)), (.int (13 : Int32)), (.int (3 : Int32)), (.int (5 : Int32)), (.int (10 : Int32)), (.int (14 : Int32)), (.int (18 : Int32)), (.int (0 : Int32)), (.int (-1 : Int32)), (.int (65540 : Int32)), (.int (-2147483637 : Int32)), (.int (0 : Int32)), (.int (0 : Int32)), (.int (0 : Int32))] (.int (0 : Int32)) := Arv.set A14 q14 S14 N14 H14 G14 rfl W14 12 rfl (Nat.le_of_ble_eq_true rfl)
  refine own_dup 72 rfl at_71 rfl ?_
  refine own_bipush 74 rfl (13 : Int32) at_72 rfl ?_
  refine own_ldcInt 76 rfl (hw _ (List.mem_of_getElem? (i := 3) rfl)) at_74 ?_
  obtain ⟨c15, A15, q15, S15, N15, H15, G15⟩ := id V14
  refine own_iastore 77 rfl g_b1 A15 (inb_of S15 ⟨by decide, by decide⟩) at_76 (fun h15 W15 => ?_)
  have V15 : Arv Z h15 b1 k1 .int (16 : Int32) [(.int (4 : Int32)), (.int (11 : Int32)), (.int (12 : Int32)), (.int (13 : Int32)), (.int (3 : Int32)), (.int (5 : Int32)), (.int (10 : Int32)), (.int (14 : Int32)), (.int (18 : Int32)), (.int (0 : Int32)), (.int (-1 : Int32)), (.int (65540 : Int32)), (.int (-2147483637 : Int32)), (.int (-2147483648 : Int32)), (.int (0 : Int32)), (.int (0 : Int32))] (.int (0 : Int32)) := Arv.set A15 q15 S15 N15 H15 G15 rfl W15 13 rfl (Nat.le_of_ble_eq_true rfl)
  refine own_dup 78 rfl at_77 rfl ?_
  refine own_bipush 80 rfl (14 : Int32) at_78 rfl ?_
  refine own_iloadN 81 rfl at_80 rfl ?_
  obtain ⟨c16, A16, q16, S16, N16, H16, G16⟩ := id V15
  refine own_iastore 82 rfl g_b1 A16 (inb_of S16 ⟨by decide, by decide⟩) at_81 (fun h16 W16 => ?_)
  have V16 : Arv Z h16 b1 k1 .int (16 : Int32) [(.int (4 : Int32)), (.int (11 : Int32)), (.int (12 : Int32)), (.int (13 : Int32)), (.int (3 : Int32)), (.int (5 : Int32)), (.int (10 : Int32)), (.int (14 : Int32)), (.int (18 : Int32)), (.int (0 : Int32)), (.int (-1 : Int32)), (.int (65540 : Int32)), (.int (-2147483637 : Int32)), (.int (-2147483648 : Int32)), (.int p1), (.int (0 : Int32))] (.int (0 : Int32)) := Arv.set A16 q16 S16 N16 H16 G16 rfl W16 14 rfl (Nat.le_of_ble_eq_true rfl)
  refine own_dup 83 rfl at_82 rfl ?_
  refine own_bipush 85 rfl (15 : Int32) at_83 rfl ?_
  refine own_iloadN 86 rfl at_85 rfl ?_
  obtain ⟨c17, A17, q17, S17, N17, H17, G17⟩ := id V16
  refine own_iastore 87 rfl g_b1 A17 (inb_of S17 ⟨by decide, by decide⟩) at_86 (fun h17 W17 => ?_)
  have V17 : Arv Z h17 b1 k1 .int (16 : Int32) [(.int (4 : Int32)), (.int (11 : Int32)), (.int (12 : Int32)), (.int (13 : Int32)), (.int (3 : Int32)), (.int (5 : Int32)), (.int (10 : Int32)), (.int (14 : Int32)), (.int (18 : Int32)), (.int (0 : Int32)), (.int (-1 : Int32)), (.int (65540 : Int32)), (.int (-2147483637 : Int32)), (.int (-2147483648 : Int32)), (.int p1), (.int p1)] (.int (0 : Int32)) := Arv.set A17 q17 S17 N17 H17 G17 rfl W17 15 rfl (Nat.le_of_ble_eq_true rfl)
  refine own_astoreN 88 rfl #[.val (.int p1), .val (.int p2), .val (.ref b1), .unset, .unset, .unset] at_87 rfl rfl ?_
  refine own_aloadN 89 rfl at_88 rfl rfl ?_
  refine own_iloadN 90 rfl at_89 rfl ?_
  refine own_bipush 92 rfl (15 : Int32) at_90 rfl ?_
  refine own_iand 93 rfl at_92 ?_
  have c1 := c_mask p2 15 4 (by decide) (by decide)
  generalize hK : (p2 &&& (15 : Int32)) = k at c1 ⊢
  have kb : 0 ≤ k.toInt ∧ k.toInt ≤ 15 := by omega
  clear c1 hK
  have hr_k : k = (0 : Int32) ∨ k = (1 : Int32) ∨ k = (2 : Int32) ∨ k = (3 : Int32) ∨ k = (4 : Int32) ∨ k = (5 : Int32) ∨ k = (6 : Int32) ∨ k = (7 : Int32) ∨ k = (8 : Int32) ∨ k = (9 : Int32) ∨ k = (10 : Int32) ∨ k = (11 : Int32) ∨ k = (12 : Int32) ∨ k = (13 : Int32) ∨ k = (14 : Int32) ∨ k = (15 : Int32) := by
    have hrz : k.toInt = 0 ∨ k.toInt = 1 ∨ k.toInt = 2 ∨ k.toInt = 3 ∨ k.toInt = 4 ∨ k.toInt = 5 ∨ k.toInt = 6 ∨ k.toInt = 7 ∨ k.toInt = 8 ∨ k.toInt = 9 ∨ k.toInt = 10 ∨ k.toInt = 11 ∨ k.toInt = 12 ∨ k.toInt = 13 ∨ k.toInt = 14 ∨ k.toInt = 15 := by omega
    rcases hrz with q | q | q | q | q | q | q | q | q | q | q | q | q | q | q | q
    · exact Or.inl (own_eq' q)
    · exact Or.inr (Or.inl (own_eq' q))
    · exact Or.inr (Or.inr (Or.inl (own_eq' q)))
    · exact Or.inr (Or.inr (Or.inr (Or.inl (own_eq' q))))
    · exact Or.inr (Or.inr (Or.inr (Or.inr (Or.inl (own_eq' q)))))
    · exact Or.inr (Or.inr (Or.inr (Or.inr (Or.inr (Or.inl (own_eq' q))))))
    · exact Or.inr (Or.inr (Or.inr (Or.inr (Or.inr (Or.inr (Or.inl (own_eq' q)))))))
    · exact Or.inr (Or.inr (Or.inr (Or.inr (Or.inr (Or.inr (Or.inr (Or.inl (own_eq' q))))))))
    · exact Or.inr (Or.inr (Or.inr (Or.inr (Or.inr (Or.inr (Or.inr (Or.inr (Or.inl (own_eq' q)))))))))
    · exact Or.inr (Or.inr (Or.inr (Or.inr (Or.inr (Or.inr (Or.inr (Or.inr (Or.inr (Or.inl (own_eq' q))))))))))
    · exact Or.inr (Or.inr (Or.inr (Or.inr (Or.inr (Or.inr (Or.inr (Or.inr (Or.inr (Or.inr (Or.inl (own_eq' q)))))))))))
    · exact Or.inr (Or.inr (Or.inr (Or.inr (Or.inr (Or.inr (Or.inr (Or.inr (Or.inr (Or.inr (Or.inr (Or.inl (own_eq' q))))))))))))
    · exact Or.inr (Or.inr (Or.inr (Or.inr (Or.inr (Or.inr (Or.inr (Or.inr (Or.inr (Or.inr (Or.inr (Or.inr (Or.inl (own_eq' q)))))))))))))
    · exact Or.inr (Or.inr (Or.inr (Or.inr (Or.inr (Or.inr (Or.inr (Or.inr (Or.inr (Or.inr (Or.inr (Or.inr (Or.inr (Or.inl (own_eq' q))))))))))))))
    · exact Or.inr (Or.inr (Or.inr (Or.inr (Or.inr (Or.inr (Or.inr (Or.inr (Or.inr (Or.inr (Or.inr (Or.inr (Or.inr (Or.inr (Or.inl (own_eq' q)))))))))))))))
    · exact Or.inr (Or.inr (Or.inr (Or.inr (Or.inr (Or.inr (Or.inr (Or.inr (Or.inr (Or.inr (Or.inr (Or.inr (Or.inr (Or.inr (Or.inr (own_eq' q)))))))))))))))
  rcases hr_k with rfl | rfl | rfl | rfl | rfl | rfl | rfl | rfl | rfl | rfl | rfl | rfl | rfl | rfl | rfl | rfl
  · have hin_k := (rfl : (0 : Int) = 0)
    obtain ⟨c18, A18, q18, S18, N18, H18, G18⟩ := id V17
    refine own_iaload 94 rfl A18 (inb_of S18 ⟨by decide, by decide⟩) (Has.at H18 (inb_of S18 ⟨by decide, by decide⟩) rfl) at_93 ?_
    refine own_istoreN 95 rfl #[.val (.int p1), .val (.int p2), .val (.ref b1), .val (.int (4 : Int32)), .unset, .unset] at_94 rfl ?_
    refine own_iloadN 96 rfl at_95 rfl ?_
    refine own_callS 99 rfl 3 21 0 [(.int (4 : Int32))] [] (y := (⟨"com/example/urd/urd/model/HashAlgorithm", "fromId", "(I)Ljava/util/Optional;"⟩ : MethodName)) (hw _ (List.mem_of_getElem? (i := 4) rfl)) (hw _ (List.mem_of_getElem? (i := 5) rfl)) (hw _ (List.mem_of_getElem? (i := 6) rfl)) (hw _ (List.mem_of_getElem? (i := 7) rfl)) (by decide) (rm1 l Z a0 hw [] (4 : Int32) w_VALUES c_w_VALUES w_SHA1 w_SHA256 w_SHA384 w_SHA512 w_EMPTY h17 I) at_96 rfl (lenOf own_pd5 rfl) rfl rfl rfl (by decide) (by decide) rfl rfl (by decide) (by decide) (own_kv fun v19 h19 q19 => ?_)
    obtain ⟨K19, hq19⟩ := q19
    rcases hq19 with ⟨hk, b19, rfl, E19x, F19v⟩ | ⟨hk, b19, rfl, E19x, F19v⟩ | ⟨hk, b19, rfl, E19x, F19v⟩ | ⟨hk, b19, rfl, E19x, F19v⟩ | ⟨hk, rfl⟩
    · have hdone := trivial
      refine own_astore 101 rfl #[.val (.int p1), .val (.int p2), .val (.ref b1), .val (.int (4 : Int32)), .val (.ref b19), .unset] at_99 rfl rfl ?_
      refine own_iloadN 102 rfl at_101 rfl ?_
      refine own_callS 105 rfl 3 21 0 [(.int (4 : Int32))] [] (y := (⟨"com/example/urd/urd/model/HashAlgorithmFromIdPinLaw", "expected", "(I)Lcom/example/urd/urd/model/HashAlgorithm;"⟩ : MethodName)) (hw _ (List.mem_of_getElem? (i := 48) rfl)) (hw _ (List.mem_of_getElem? (i := 49) rfl)) (hw _ (List.mem_of_getElem? (i := 50) rfl)) (hw _ (List.mem_of_getElem? (i := 51) rfl)) (by decide) (rm7 l Z a0 hw [] (4 : Int32) w_VALUES c_w_VALUES w_SHA1 w_SHA256 w_SHA384 w_SHA512 w_EMPTY h19 I) at_102 rfl (lenOf own_pd6 rfl) rfl rfl rfl (by decide) (by decide) rfl rfl (by decide) (by decide) (own_kv fun v20 h20 q20 => ?_)
      obtain ⟨rfl, e20⟩ := q20
      rw [e20]
      rw [show own_exp (4 : Int32) w_SHA1 w_SHA256 w_SHA384 w_SHA512 = .ref w_SHA1 from rfl]
      refine own_astore 107 rfl #[.val (.int p1), .val (.int p2), .val (.ref b1), .val (.int (4 : Int32)), .val (.ref b19), .val (.ref w_SHA1)] at_105 rfl rfl ?_
      refine own_aload 109 rfl at_107 rfl rfl ?_
      refine own_ifnonnullYes 118 at_109 (by decide) (by decide) ?_
      refine own_aload 120 rfl at_118 rfl rfl ?_
      refine own_callV 123 rfl 3 21 0 [] [] (y := (⟨"java/util/Optional", "isPresent", "()Z"⟩ : MethodName)) (z := (⟨"java/util/Optional", "isPresent", "()Z"⟩ : MethodName)) (hw _ (List.mem_of_getElem? (i := 53) rfl)) (hw _ (List.mem_of_getElem? (i := 54) rfl)) (fun hZ => notFace_of_selects (args := #[]) (mvT hZ (hw _ (List.mem_of_getElem? (i := 56) rfl)))) (hw _ (List.mem_of_getElem? (i := 56) rfl)) (hw _ (List.mem_of_getElem? (i := 55) rfl)) (hw _ (List.mem_of_getElem? (i := 31) rfl)) (hw _ (List.mem_of_getElem? (i := 57) rfl)) (by decide) E19x (rm8 l Z a0 hw [] b19 w_SHA1 h19 F19v) at_120 rfl (lenOf own_pd7 rfl) rfl rfl rfl (by decide) (by decide) rfl rfl (by decide) (by decide) (own_kv fun v21 h21 q21 => ?_)
      obtain ⟨rfl, e21⟩ := q21
      rw [e21]
      refine own_ifNo 126 rfl at_123 (feq (by decide : ¬ ((1 : Int32) = (0 : Int32)))).1 ?_
      refine own_aload 128 rfl at_126 rfl rfl ?_
      refine own_callV 131 rfl 3 21 0 [] [] (y := (⟨"java/util/Optional", "get", "()Ljava/lang/Object;"⟩ : MethodName)) (z := (⟨"java/util/Optional", "get", "()Ljava/lang/Object;"⟩ : MethodName)) (hw _ (List.mem_of_getElem? (i := 58) rfl)) (hw _ (List.mem_of_getElem? (i := 59) rfl)) (fun hZ => notFace_of_selects (args := #[]) (mvT hZ (hw _ (List.mem_of_getElem? (i := 61) rfl)))) (hw _ (List.mem_of_getElem? (i := 61) rfl)) (hw _ (List.mem_of_getElem? (i := 60) rfl)) (hw _ (List.mem_of_getElem? (i := 31) rfl)) (hw _ (List.mem_of_getElem? (i := 62) rfl)) (by decide) E19x (rm9 l Z a0 hw [] b19 w_SHA1 h19 F19v) at_128 rfl (lenOf own_pd8 rfl) rfl rfl rfl (by decide) (by decide) rfl rfl (by decide) (by decide) (own_kv fun v22 h22 q22 => ?_)
      obtain ⟨rfl, e22⟩ := q22
      rw [e22]
      refine own_aload 133 rfl at_131 rfl rfl ?_
      refine own_acmpNo 136 rfl at_133 rfl rfl (own_teq (rfl : ((.ref w_SHA1) : Value) = (.ref w_SHA1))).2 ?_
      refine own_aload 138 rfl at_136 rfl rfl ?_
      refine own_callV 141 rfl 3 21 0 [] [] (y := (⟨"com/example/urd/urd/model/HashAlgorithm", "id", "()I"⟩ : MethodName)) (z := (⟨"com/example/urd/urd/model/HashAlgorithm", "id", "()I"⟩ : MethodName)) (hw _ (List.mem_of_getElem? (i := 63) rfl)) (hw _ (List.mem_of_getElem? (i := 64) rfl)) (fun hZ => notFace_of_selects (args := #[]) (mvT hZ (hw _ (List.mem_of_getElem? (i := 66) rfl)))) (hw _ (List.mem_of_getElem? (i := 66) rfl)) (hw _ (List.mem_of_getElem? (i := 65) rfl)) (hw _ (List.mem_of_getElem? (i := 6) rfl)) (hw _ (List.mem_of_getElem? (i := 67) rfl)) (by decide) (((((((((((((((((((E_w_SHA1.ext O0.2).ext E1).wr W2).wr W3).wr W4).wr W5).wr W6).wr W7).wr W8).wr W9).wr W10).wr W11).wr W12).wr W13).wr W14).wr W15).wr W16).wr W17).keep K19) (rm10 l Z a0 hw [] w_SHA1 (4 : Int32) h19 (((((((((((((((((((F_w_SHA1_id.ext O0.2).ext E1).other W2 (Or.inl ne_w_SHA1_b1)).other W3 (Or.inl ne_w_SHA1_b1)).other W4 (Or.inl ne_w_SHA1_b1)).other W5 (Or.inl ne_w_SHA1_b1)).other W6 (Or.inl ne_w_SHA1_b1)).other W7 (Or.inl ne_w_SHA1_b1)).other W8 (Or.inl ne_w_SHA1_b1)).other W9 (Or.inl ne_w_SHA1_b1)).other W10 (Or.inl ne_w_SHA1_b1)).other W11 (Or.inl ne_w_SHA1_b1)).other W12 (Or.inl ne_w_SHA1_b1)).other W13 (Or.inl ne_w_SHA1_b1)).other W14 (Or.inl ne_w_SHA1_b1)).other W15 (Or.inl ne_w_SHA1_b1)).other W16 (Or.inl ne_w_SHA1_b1)).other W17 (Or.inl ne_w_SHA1_b1)).keep K19 nin0)) at_138 rfl (lenOf own_pd9 rfl) rfl rfl rfl (by decide) (by decide) rfl rfl (by decide) (by decide) (own_kv fun v23 h23 q23 => ?_)
      obtain ⟨rfl, e23⟩ := q23
      rw [e23]
      refine own_iloadN 142 rfl at_141 rfl ?_
      refine own_icmpNo 145 rfl at_142 (teq (rfl : (4 : Int32) = (4 : Int32))).2 ?_
      refine own_iconst 146 rfl (1 : Int32) at_145 rfl ?_
      refine own_goto 150 at_146 (by decide) (by decide) ?_
      refine own_retN rfl (by simp) at_150 (by decide) (by decide) ?_
      exact ⟨_, rfl, rfl⟩
    · have hdone := trivial
      exact absurd hk (by decide)
    · have hdone := trivial
      exact absurd hk (by decide)
    · have hdone := trivial
      exact absurd hk (by decide)
    · obtain ⟨e0, e1, e2, e3⟩ := hk
      exact absurd rfl e0
  · have hin_k := (rfl : (1 : Int) = 1)
    obtain ⟨c24, A24, q24, S24, N24, H24, G24⟩ := id V17
    refine own_iaload 94 rfl A24 (inb_of S24 ⟨by decide, by decide⟩) (Has.at H24 (inb_of S24 ⟨by decide, by decide⟩) rfl) at_93 ?_
    refine own_istoreN 95 rfl #[.val (.int p1), .val (.int p2), .val (.ref b1), .val (.int (11 : Int32)), .unset, .unset] at_94 rfl ?_
    refine own_iloadN 96 rfl at_95 rfl ?_
    refine own_callS 99 rfl 3 21 0 [(.int (11 : Int32))] [] (y := (⟨"com/example/urd/urd/model/HashAlgorithm", "fromId", "(I)Ljava/util/Optional;"⟩ : MethodName)) (hw _ (List.mem_of_getElem? (i := 4) rfl)) (hw _ (List.mem_of_getElem? (i := 5) rfl)) (hw _ (List.mem_of_getElem? (i := 6) rfl)) (hw _ (List.mem_of_getElem? (i := 7) rfl)) (by decide) (rm1 l Z a0 hw [] (11 : Int32) w_VALUES c_w_VALUES w_SHA1 w_SHA256 w_SHA384 w_SHA512 w_EMPTY h17 I) at_96 rfl (lenOf own_pd5 rfl) rfl rfl rfl (by decide) (by decide) rfl rfl (by decide) (by decide) (own_kv fun v25 h25 q25 => ?_)
    obtain ⟨K25, hq25⟩ := q25
    rcases hq25 with ⟨hk, b25, rfl, E25x, F25v⟩ | ⟨hk, b25, rfl, E25x, F25v⟩ | ⟨hk, b25, rfl, E25x, F25v⟩ | ⟨hk, b25, rfl, E25x, F25v⟩ | ⟨hk, rfl⟩
    · have hdone := trivial
      exact absurd hk (by decide)
    · have hdone := trivial
      refine own_astore 101 rfl #[.val (.int p1), .val (.int p2), .val (.ref b1), .val (.int (11 : Int32)), .val (.ref b25), .unset] at_99 rfl rfl ?_
      refine own_iloadN 102 rfl at_101 rfl ?_
      refine own_callS 105 rfl 3 21 0 [(.int (11 : Int32))] [] (y := (⟨"com/example/urd/urd/model/HashAlgorithmFromIdPinLaw", "expected", "(I)Lcom/example/urd/urd/model/HashAlgorithm;"⟩ : MethodName)) (hw _ (List.mem_of_getElem? (i := 48) rfl)) (hw _ (List.mem_of_getElem? (i := 49) rfl)) (hw _ (List.mem_of_getElem? (i := 50) rfl)) (hw _ (List.mem_of_getElem? (i := 51) rfl)) (by decide) (rm7 l Z a0 hw [] (11 : Int32) w_VALUES c_w_VALUES w_SHA1 w_SHA256 w_SHA384 w_SHA512 w_EMPTY h25 I) at_102 rfl (lenOf own_pd6 rfl) rfl rfl rfl (by decide) (by decide) rfl rfl (by decide) (by decide) (own_kv fun v26 h26 q26 => ?_)
      obtain ⟨rfl, e26⟩ := q26
      rw [e26]
      rw [show own_exp (11 : Int32) w_SHA1 w_SHA256 w_SHA384 w_SHA512 = .ref w_SHA256 from rfl]
      refine own_astore 107 rfl #[.val (.int p1), .val (.int p2), .val (.ref b1), .val (.int (11 : Int32)), .val (.ref b25), .val (.ref w_SHA256)] at_105 rfl rfl ?_
      refine own_aload 109 rfl at_107 rfl rfl ?_
      refine own_ifnonnullYes 118 at_109 (by decide) (by decide) ?_
      refine own_aload 120 rfl at_118 rfl rfl ?_
      refine own_callV 123 rfl 3 21 0 [] [] (y := (⟨"java/util/Optional", "isPresent", "()Z"⟩ : MethodName)) (z := (⟨"java/util/Optional", "isPresent", "()Z"⟩ : MethodName)) (hw _ (List.mem_of_getElem? (i := 53) rfl)) (hw _ (List.mem_of_getElem? (i := 54) rfl)) (fun hZ => notFace_of_selects (args := #[]) (mvT hZ (hw _ (List.mem_of_getElem? (i := 56) rfl)))) (hw _ (List.mem_of_getElem? (i := 56) rfl)) (hw _ (List.mem_of_getElem? (i := 55) rfl)) (hw _ (List.mem_of_getElem? (i := 31) rfl)) (hw _ (List.mem_of_getElem? (i := 57) rfl)) (by decide) E25x (rm8 l Z a0 hw [] b25 w_SHA256 h25 F25v) at_120 rfl (lenOf own_pd7 rfl) rfl rfl rfl (by decide) (by decide) rfl rfl (by decide) (by decide) (own_kv fun v27 h27 q27 => ?_)
      obtain ⟨rfl, e27⟩ := q27
      rw [e27]
      refine own_ifNo 126 rfl at_123 (feq (by decide : ¬ ((1 : Int32) = (0 : Int32)))).1 ?_
      refine own_aload 128 rfl at_126 rfl rfl ?_
      refine own_callV 131 rfl 3 21 0 [] [] (y := (⟨"java/util/Optional", "get", "()Ljava/lang/Object;"⟩ : MethodName)) (z := (⟨"java/util/Optional", "get", "()Ljava/lang/Object;"⟩ : MethodName)) (hw _ (List.mem_of_getElem? (i := 58) rfl)) (hw _ (List.mem_of_getElem? (i := 59) rfl)) (fun hZ => notFace_of_selects (args := #[]) (mvT hZ (hw _ (List.mem_of_getElem? (i := 61) rfl)))) (hw _ (List.mem_of_getElem? (i := 61) rfl)) (hw _ (List.mem_of_getElem? (i := 60) rfl)) (hw _ (List.mem_of_getElem? (i := 31) rfl)) (hw _ (List.mem_of_getElem? (i := 62) rfl)) (by decide) E25x (rm9 l Z a0 hw [] b25 w_SHA256 h25 F25v) at_128 rfl (lenOf own_pd8 rfl) rfl rfl rfl (by decide) (by decide) rfl rfl (by decide) (by decide) (own_kv fun v28 h28 q28 => ?_)
      obtain ⟨rfl, e28⟩ := q28
      rw [e28]
      refine own_aload 133 rfl at_131 rfl rfl ?_
      refine own_acmpNo 136 rfl at_133 rfl rfl (own_teq (rfl : ((.ref w_SHA256) : Value) = (.ref w_SHA256))).2 ?_
      refine own_aload 138 rfl at_136 rfl rfl ?_
      refine own_callV 141 rfl 3 21 0 [] [] (y := (⟨"com/example/urd/urd/model/HashAlgorithm", "id", "()I"⟩ : MethodName)) (z := (⟨"com/example/urd/urd/model/HashAlgorithm", "id", "()I"⟩ : MethodName)) (hw _ (List.mem_of_getElem? (i := 63) rfl)) (hw _ (List.mem_of_getElem? (i := 64) rfl)) (fun hZ => notFace_of_selects (args := #[]) (mvT hZ (hw _ (List.mem_of_getElem? (i := 66) rfl)))) (hw _ (List.mem_of_getElem? (i := 66) rfl)) (hw _ (List.mem_of_getElem? (i := 65) rfl)) (hw _ (List.mem_of_getElem? (i := 6) rfl)) (hw _ (List.mem_of_getElem? (i := 67) rfl)) (by decide) (((((((((((((((((((E_w_SHA256.ext O0.2).ext E1).wr W2).wr W3).wr W4).wr W5).wr W6).wr W7).wr W8).wr W9).wr W10).wr W11).wr W12).wr W13).wr W14).wr W15).wr W16).wr W17).keep K25) (rm10 l Z a0 hw [] w_SHA256 (11 : Int32) h25 (((((((((((((((((((F_w_SHA256_id.ext O0.2).ext E1).other W2 (Or.inl ne_w_SHA256_b1)).other W3 (Or.inl ne_w_SHA256_b1)).other W4 (Or.inl ne_w_SHA256_b1)).other W5 (Or.inl ne_w_SHA256_b1)).other W6 (Or.inl ne_w_SHA256_b1)).other W7 (Or.inl ne_w_SHA256_b1)).other W8 (Or.inl ne_w_SHA256_b1)).other W9 (Or.inl ne_w_SHA256_b1)).other W10 (Or.inl ne_w_SHA256_b1)).other W11 (Or.inl ne_w_SHA256_b1)).other W12 (Or.inl ne_w_SHA256_b1)).other W13 (Or.inl ne_w_SHA256_b1)).other W14 (Or.inl ne_w_SHA256_b1)).other W15 (Or.inl ne_w_SHA256_b1)).other W16 (Or.inl ne_w_SHA256_b1)).other W17 (Or.inl ne_w_SHA256_b1)).keep K25 nin0)) at_138 rfl (lenOf own_pd9 rfl) rfl rfl rfl (by decide) (by decide) rfl rfl (by decide) (by decide) (own_kv fun v29 h29 q29 => ?_)
      obtain ⟨rfl, e29⟩ := q29
      rw [e29]
      refine own_iloadN 142 rfl at_141 rfl ?_
      refine own_icmpNo 145 rfl at_142 (teq (rfl : (11 : Int32) = (11 : Int32))).2 ?_
      refine own_iconst 146 rfl (1 : Int32) at_145 rfl ?_
      refine own_goto 150 at_146 (by decide) (by decide) ?_
      refine own_retN rfl (by simp) at_150 (by decide) (by decide) ?_
      exact ⟨_, rfl, rfl⟩
    · have hdone := trivial
      exact absurd hk (by decide)
    · have hdone := trivial
      exact absurd hk (by decide)
    · obtain ⟨e0, e1, e2, e3⟩ := hk
      exact absurd rfl e1
  · have hin_k := (rfl : (2 : Int) = 2)
    obtain ⟨c30, A30, q30, S30, N30, H30, G30⟩ := id V17
    refine own_iaload 94 rfl A30 (inb_of S30 ⟨by decide, by decide⟩) (Has.at H30 (inb_of S30 ⟨by decide, by decide⟩) rfl) at_93 ?_
    refine own_istoreN 95 rfl #[.val (.int p1), .val (.int p2), .val (.ref b1), .val (.int (12 : Int32)), .unset, .unset] at_94 rfl ?_
    refine own_iloadN 96 rfl at_95 rfl ?_
    refine own_callS 99 rfl 3 21 0 [(.int (12 : Int32))] [] (y := (⟨"com/example/urd/urd/model/HashAlgorithm", "fromId", "(I)Ljava/util/Optional;"⟩ : MethodName)) (hw _ (List.mem_of_getElem? (i := 4) rfl)) (hw _ (List.mem_of_getElem? (i := 5) rfl)) (hw _ (List.mem_of_getElem? (i := 6) rfl)) (hw _ (List.mem_of_getElem? (i := 7) rfl)) (by decide) (rm1 l Z a0 hw [] (12 : Int32) w_VALUES c_w_VALUES w_SHA1 w_SHA256 w_SHA384 w_SHA512 w_EMPTY h17 I) at_96 rfl (lenOf own_pd5 rfl) rfl rfl rfl (by decide) (by decide) rfl rfl (by decide) (by decide) (own_kv fun v31 h31 q31 => ?_)
    obtain ⟨K31, hq31⟩ := q31
    rcases hq31 with ⟨hk, b31, rfl, E31x, F31v⟩ | ⟨hk, b31, rfl, E31x, F31v⟩ | ⟨hk, b31, rfl, E31x, F31v⟩ | ⟨hk, b31, rfl, E31x, F31v⟩ | ⟨hk, rfl⟩
    · have hdone := trivial
      exact absurd hk (by decide)
    · have hdone := trivial
      exact absurd hk (by decide)
    · have hdone := trivial
      refine own_astore 101 rfl #[.val (.int p1), .val (.int p2), .val (.ref b1), .val (.int (12 : Int32)), .val (.ref b31), .unset] at_99 rfl rfl ?_
      refine own_iloadN 102 rfl at_101 rfl ?_
      refine own_callS 105 rfl 3 21 0 [(.int (12 : Int32))] [] (y := (⟨"com/example/urd/urd/model/HashAlgorithmFromIdPinLaw", "expected", "(I)Lcom/example/urd/urd/model/HashAlgorithm;"⟩ : MethodName)) (hw _ (List.mem_of_getElem? (i := 48) rfl)) (hw _ (List.mem_of_getElem? (i := 49) rfl)) (hw _ (List.mem_of_getElem? (i := 50) rfl)) (hw _ (List.mem_of_getElem? (i := 51) rfl)) (by decide) (rm7 l Z a0 hw [] (12 : Int32) w_VALUES c_w_VALUES w_SHA1 w_SHA256 w_SHA384 w_SHA512 w_EMPTY h31 I) at_102 rfl (lenOf own_pd6 rfl) rfl rfl rfl (by decide) (by decide) rfl rfl (by decide) (by decide) (own_kv fun v32 h32 q32 => ?_)
      obtain ⟨rfl, e32⟩ := q32
      rw [e32]
      rw [show own_exp (12 : Int32) w_SHA1 w_SHA256 w_SHA384 w_SHA512 = .ref w_SHA384 from rfl]
      refine own_astore 107 rfl #[.val (.int p1), .val (.int p2), .val (.ref b1), .val (.int (12 : Int32)), .val (.ref b31), .val (.ref w_SHA384)] at_105 rfl rfl ?_
      refine own_aload 109 rfl at_107 rfl rfl ?_
      refine own_ifnonnullYes 118 at_109 (by decide) (by decide) ?_
      refine own_aload 120 rfl at_118 rfl rfl ?_
      refine own_callV 123 rfl 3 21 0 [] [] (y := (⟨"java/util/Optional", "isPresent", "()Z"⟩ : MethodName)) (z := (⟨"java/util/Optional", "isPresent", "()Z"⟩ : MethodName)) (hw _ (List.mem_of_getElem? (i := 53) rfl)) (hw _ (List.mem_of_getElem? (i := 54) rfl)) (fun hZ => notFace_of_selects (args := #[]) (mvT hZ (hw _ (List.mem_of_getElem? (i := 56) rfl)))) (hw _ (List.mem_of_getElem? (i := 56) rfl)) (hw _ (List.mem_of_getElem? (i := 55) rfl)) (hw _ (List.mem_of_getElem? (i := 31) rfl)) (hw _ (List.mem_of_getElem? (i := 57) rfl)) (by decide) E31x (rm8 l Z a0 hw [] b31 w_SHA384 h31 F31v) at_120 rfl (lenOf own_pd7 rfl) rfl rfl rfl (by decide) (by decide) rfl rfl (by decide) (by decide) (own_kv fun v33 h33 q33 => ?_)
      obtain ⟨rfl, e33⟩ := q33
      rw [e33]
      refine own_ifNo 126 rfl at_123 (feq (by decide : ¬ ((1 : Int32) = (0 : Int32)))).1 ?_
      refine own_aload 128 rfl at_126 rfl rfl ?_
      refine own_callV 131 rfl 3 21 0 [] [] (y := (⟨"java/util/Optional", "get", "()Ljava/lang/Object;"⟩ : MethodName)) (z := (⟨"java/util/Optional", "get", "()Ljava/lang/Object;"⟩ : MethodName)) (hw _ (List.mem_of_getElem? (i := 58) rfl)) (hw _ (List.mem_of_getElem? (i := 59) rfl)) (fun hZ => notFace_of_selects (args := #[]) (mvT hZ (hw _ (List.mem_of_getElem? (i := 61) rfl)))) (hw _ (List.mem_of_getElem? (i := 61) rfl)) (hw _ (List.mem_of_getElem? (i := 60) rfl)) (hw _ (List.mem_of_getElem? (i := 31) rfl)) (hw _ (List.mem_of_getElem? (i := 62) rfl)) (by decide) E31x (rm9 l Z a0 hw [] b31 w_SHA384 h31 F31v) at_128 rfl (lenOf own_pd8 rfl) rfl rfl rfl (by decide) (by decide) rfl rfl (by decide) (by decide) (own_kv fun v34 h34 q34 => ?_)
      obtain ⟨rfl, e34⟩ := q34
      rw [e34]
      refine own_aload 133 rfl at_131 rfl rfl ?_
      refine own_acmpNo 136 rfl at_133 rfl rfl (own_teq (rfl : ((.ref w_SHA384) : Value) = (.ref w_SHA384))).2 ?_
      refine own_aload 138 rfl at_136 rfl rfl ?_
      refine own_callV 141 rfl 3 21 0 [] [] (y := (⟨"com/example/urd/urd/model/HashAlgorithm", "id", "()I"⟩ : MethodName)) (z := (⟨"com/example/urd/urd/model/HashAlgorithm", "id", "()I"⟩ : MethodName)) (hw _ (List.mem_of_getElem? (i := 63) rfl)) (hw _ (List.mem_of_getElem? (i := 64) rfl)) (fun hZ => notFace_of_selects (args := #[]) (mvT hZ (hw _ (List.mem_of_getElem? (i := 66) rfl)))) (hw _ (List.mem_of_getElem? (i := 66) rfl)) (hw _ (List.mem_of_getElem? (i := 65) rfl)) (hw _ (List.mem_of_getElem? (i := 6) rfl)) (hw _ (List.mem_of_getElem? (i := 67) rfl)) (by decide) (((((((((((((((((((E_w_SHA384.ext O0.2).ext E1).wr W2).wr W3).wr W4).wr W5).wr W6).wr W7).wr W8).wr W9).wr W10).wr W11).wr W12).wr W13).wr W14).wr W15).wr W16).wr W17).keep K31) (rm10 l Z a0 hw [] w_SHA384 (12 : Int32) h31 (((((((((((((((((((F_w_SHA384_id.ext O0.2).ext E1).other W2 (Or.inl ne_w_SHA384_b1)).other W3 (Or.inl ne_w_SHA384_b1)).other W4 (Or.inl ne_w_SHA384_b1)).other W5 (Or.inl ne_w_SHA384_b1)).other W6 (Or.inl ne_w_SHA384_b1)).other W7 (Or.inl ne_w_SHA384_b1)).other W8 (Or.inl ne_w_SHA384_b1)).other W9 (Or.inl ne_w_SHA384_b1)).other W10 (Or.inl ne_w_SHA384_b1)).other W11 (Or.inl ne_w_SHA384_b1)).other W12 (Or.inl ne_w_SHA384_b1)).other W13 (Or.inl ne_w_SHA384_b1)).other W14 (Or.inl ne_w_SHA384_b1)).other W15 (Or.inl ne_w_SHA384_b1)).other W16 (Or.inl ne_w_SHA384_b1)).other W17 (Or.inl ne_w_SHA384_b1)).keep K31 nin0)) at_138 rfl (lenOf own_pd9 rfl) rfl rfl rfl (by decide) (by decide) rfl rfl (by decide) (by decide) (own_kv fun v35 h35 q35 => ?_)
      obtain ⟨rfl, e35⟩ := q35
      rw [e35]
      refine own_iloadN 142 rfl at_141 rfl ?_
      refine own_icmpNo 145 rfl at_142 (teq (rfl : (12 : Int32) = (12 : Int32))).2 ?_
      refine own_iconst 146 rfl (1 : Int32) at_145 rfl ?_
      refine own_goto 150 at_146 (by decide) (by decide) ?_
      refine own_retN rfl (by simp) at_150 (by decide) (by decide) ?_
      exact ⟨_, rfl, rfl⟩
    · have hdone := trivial
      exact absurd hk (by decide)
    · obtain ⟨e0, e1, e2, e3⟩ := hk
      exact absurd rfl e2
  · have hin_k := (rfl : (3 : Int) = 3)
    obtain ⟨c36, A36, q36, S36, N36, H36, G36⟩ := id V17
    refine own_iaload 94 rfl A36 (inb_of S36 ⟨by decide, by decide⟩) (Has.at H36 (inb_of S36 ⟨by decide, by decide⟩) rfl) at_93 ?_
    refine own_istoreN 95 rfl #[.val (.int p1), .val (.int p2), .val (.ref b1), .val (.int (13 : Int32)), .unset, .unset] at_94 rfl ?_
    refine own_iloadN 96 rfl at_95 rfl ?_
    refine own_callS 99 rfl 3 21 0 [(.int (13 : Int32))] [] (y := (⟨"com/example/urd/urd/model/HashAlgorithm", "fromId", "(I)Ljava/util/Optional;"⟩ : MethodName)) (hw _ (List.mem_of_getElem? (i := 4) rfl)) (hw _ (List.mem_of_getElem? (i := 5) rfl)) (hw _ (List.mem_of_getElem? (i := 6) rfl)) (hw _ (List.mem_of_getElem? (i := 7) rfl)) (by decide) (rm1 l Z a0 hw [] (13 : Int32) w_VALUES c_w_VALUES w_SHA1 w_SHA256 w_SHA384 w_SHA512 w_EMPTY h17 I) at_96 rfl (lenOf own_pd5 rfl) rfl rfl rfl (by decide) (by decide) rfl rfl (by decide) (by decide) (own_kv fun v37 h37 q37 => ?_)
    obtain ⟨K37, hq37⟩ := q37
    rcases hq37 with ⟨hk, b37, rfl, E37x, F37v⟩ | ⟨hk, b37, rfl, E37x, F37v⟩ | ⟨hk, b37, rfl, E37x, F37v⟩ | ⟨hk, b37, rfl, E37x, F37v⟩ | ⟨hk, rfl⟩
    · have hdone := trivial
      exact absurd hk (by decide)
    · have hdone := trivial
      exact absurd hk (by decide)
    · have hdone := trivial
      exact absurd hk (by decide)
    · have hdone := trivial
      refine own_astore 101 rfl #[.val (.int p1), .val (.int p2), .val (.ref b1), .val (.int (13 : Int32)), .val (.ref b37), .unset] at_99 rfl rfl ?_
      refine own_iloadN 102 rfl at_101 rfl ?_
      refine own_callS 105 rfl 3 21 0 [(.int (13 : Int32))] [] (y := (⟨"com/example/urd/urd/model/HashAlgorithmFromIdPinLaw", "expected", "(I)Lcom/example/urd/urd/model/HashAlgorithm;"⟩ : MethodName)) (hw _ (List.mem_of_getElem? (i := 48) rfl)) (hw _ (List.mem_of_getElem? (i := 49) rfl)) (hw _ (List.mem_of_getElem? (i := 50) rfl)) (hw _ (List.mem_of_getElem? (i := 51) rfl)) (by decide) (rm7 l Z a0 hw [] (13 : Int32) w_VALUES c_w_VALUES w_SHA1 w_SHA256 w_SHA384 w_SHA512 w_EMPTY h37 I) at_102 rfl (lenOf own_pd6 rfl) rfl rfl rfl (by decide) (by decide) rfl rfl (by decide) (by decide) (own_kv fun v38 h38 q38 => ?_)
      obtain ⟨rfl, e38⟩ := q38
      rw [e38]
      rw [show own_exp (13 : Int32) w_SHA1 w_SHA256 w_SHA384 w_SHA512 = .ref w_SHA512 from rfl]
      refine own_astore 107 rfl #[.val (.int p1), .val (.int p2), .val (.ref b1), .val (.int (13 : Int32)), .val (.ref b37), .val (.ref w_SHA512)] at_105 rfl rfl ?_
      refine own_aload 109 rfl at_107 rfl rfl ?_
      refine own_ifnonnullYes 118 at_109 (by decide) (by decide) ?_
      refine own_aload 120 rfl at_118 rfl rfl ?_
      refine own_callV 123 rfl 3 21 0 [] [] (y := (⟨"java/util/Optional", "isPresent", "()Z"⟩ : MethodName)) (z := (⟨"java/util/Optional", "isPresent", "()Z"⟩ : MethodName)) (hw _ (List.mem_of_getElem? (i := 53) rfl)) (hw _ (List.mem_of_getElem? (i := 54) rfl)) (fun hZ => notFace_of_selects (args := #[]) (mvT hZ (hw _ (List.mem_of_getElem? (i := 56) rfl)))) (hw _ (List.mem_of_getElem? (i := 56) rfl)) (hw _ (List.mem_of_getElem? (i := 55) rfl)) (hw _ (List.mem_of_getElem? (i := 31) rfl)) (hw _ (List.mem_of_getElem? (i := 57) rfl)) (by decide) E37x (rm8 l Z a0 hw [] b37 w_SHA512 h37 F37v) at_120 rfl (lenOf own_pd7 rfl) rfl rfl rfl (by decide) (by decide) rfl rfl (by decide) (by decide) (own_kv fun v39 h39 q39 => ?_)
      obtain ⟨rfl, e39⟩ := q39
      rw [e39]
      refine own_ifNo 126 rfl at_123 (feq (by decide : ¬ ((1 : Int32) = (0 : Int32)))).1 ?_
      refine own_aload 128 rfl at_126 rfl rfl ?_
      refine own_callV 131 rfl 3 21 0 [] [] (y := (⟨"java/util/Optional", "get", "()Ljava/lang/Object;"⟩ : MethodName)) (z := (⟨"java/util/Optional", "get", "()Ljava/lang/Object;"⟩ : MethodName)) (hw _ (List.mem_of_getElem? (i := 58) rfl)) (hw _ (List.mem_of_getElem? (i := 59) rfl)) (fun hZ => notFace_of_selects (args := #[]) (mvT hZ (hw _ (List.mem_of_getElem? (i := 61) rfl)))) (hw _ (List.mem_of_getElem? (i := 61) rfl)) (hw _ (List.mem_of_getElem? (i := 60) rfl)) (hw _ (List.mem_of_getElem? (i := 31) rfl)) (hw _ (List.mem_of_getElem? (i := 62) rfl)) (by decide) E37x (rm9 l Z a0 hw [] b37 w_SHA512 h37 F37v) at_128 rfl (lenOf own_pd8 rfl) rfl rfl rfl (by decide) (by decide) rfl rfl (by decide) (by decide) (own_kv fun v40 h40 q40 => ?_)
      obtain ⟨rfl, e40⟩ := q40
      rw [e40]
      refine own_aload 133 rfl at_131 rfl rfl ?_
      refine own_acmpNo 136 rfl at_133 rfl rfl (own_teq (rfl : ((.ref w_SHA512) : Value) = (.ref w_SHA512))).2 ?_
      refine own_aload 138 rfl at_136 rfl rfl ?_
      refine own_callV 141 rfl 3 21 0 [] [] (y := (⟨"com/example/urd/urd/model/HashAlgorithm", "id", "()I"⟩ : MethodName)) (z := (⟨"com/example/urd/urd/model/HashAlgorithm", "id", "()I"⟩ : MethodName)) (hw _ (List.mem_of_getElem? (i := 63) rfl)) (hw _ (List.mem_of_getElem? (i := 64) rfl)) (fun hZ => notFace_of_selects (args := #[]) (mvT hZ (hw _ (List.mem_of_getElem? (i := 66) rfl)))) (hw _ (List.mem_of_getElem? (i := 66) rfl)) (hw _ (List.mem_of_getElem? (i := 65) rfl)) (hw _ (List.mem_of_getElem? (i := 6) rfl)) (hw _ (List.mem_of_getElem? (i := 67) rfl)) (by decide) (((((((((((((((((((E_w_SHA512.ext O0.2).ext E1).wr W2).wr W3).wr W4).wr W5).wr W6).wr W7).wr W8).wr W9).wr W10).wr W11).wr W12).wr W13).wr W14).wr W15).wr W16).wr W17).keep K37) (rm10 l Z a0 hw [] w_SHA512 (13 : Int32) h37 (((((((((((((((((((F_w_SHA512_id.ext O0.2).ext E1).other W2 (Or.inl ne_w_SHA512_b1)).other W3 (Or.inl ne_w_SHA512_b1)).other W4 (Or.inl ne_w_SHA512_b1)).other W5 (Or.inl ne_w_SHA512_b1)).other W6 (Or.inl ne_w_SHA512_b1)).other W7 (Or.inl ne_w_SHA512_b1)).other W8 (Or.inl ne_w_SHA512_b1)).other W9 (Or.inl ne_w_SHA512_b1)).other W10 (Or.inl ne_w_SHA512_b1)).other W11 (Or.inl ne_w_SHA512_b1)).other W12 (Or.inl ne_w_SHA512_b1)).other W13 (Or.inl ne_w_SHA512_b1)).other W14 (Or.inl ne_w_SHA512_b1)).other W15 (Or.inl ne_w_SHA512_b1)).other W16 (Or.inl ne_w_SHA512_b1)).other W17 (Or.inl ne_w_SHA512_b1)).keep K37 nin0)) at_138 rfl (lenOf own_pd9 rfl) rfl rfl rfl (by decide) (by decide) rfl rfl (by decide) (by decide) (own_kv fun v41 h41 q41 => ?_)
      obtain ⟨rfl, e41⟩ := q41
      rw [e41]
      refine own_iloadN 142 rfl at_141 rfl ?_
      refine own_icmpNo 145 rfl at_142 (teq (rfl : (13 : Int32) = (13 : Int32))).2 ?_
      refine own_iconst 146 rfl (1 : Int32) at_145 rfl ?_
      refine own_goto 150 at_146 (by decide) (by decide) ?_
      refine own_retN rfl (by simp) at_150 (by decide) (by decide) ?_
      exact ⟨_, rfl, rfl⟩
    · obtain ⟨e0, e1, e2, e3⟩ := hk
      exact absurd rfl e3
  · have hin_k := (rfl : (4 : Int) = 4)
    obtain ⟨c42, A42, q42, S42, N42, H42, G42⟩ := id V17
    refine own_iaload 94 rfl A42 (inb_of S42 ⟨by decide, by decide⟩) (Has.at H42 (inb_of S42 ⟨by decide, by decide⟩) rfl) at_93 ?_
    refine own_istoreN 95 rfl #[.val (.int p1), .val (.int p2), .val (.ref b1), .val (.int (3 : Int32)), .unset, .unset] at_94 rfl ?_
    refine own_iloadN 96 rfl at_95 rfl ?_
    refine own_callS 99 rfl 3 21 0 [(.int (3 : Int32))] [] (y := (⟨"com/example/urd/urd/model/HashAlgorithm", "fromId", "(I)Ljava/util/Optional;"⟩ : MethodName)) (hw _ (List.mem_of_getElem? (i := 4) rfl)) (hw _ (List.mem_of_getElem? (i := 5) rfl)) (hw _ (List.mem_of_getElem? (i := 6) rfl)) (hw _ (List.mem_of_getElem? (i := 7) rfl)) (by decide) (rm1 l Z a0 hw [] (3 : Int32) w_VALUES c_w_VALUES w_SHA1 w_SHA256 w_SHA384 w_SHA512 w_EMPTY h17 I) at_96 rfl (lenOf own_pd5 rfl) rfl rfl rfl (by decide) (by decide) rfl rfl (by decide) (by decide) (own_kv fun v43 h43 q43 => ?_)
    obtain ⟨K43, hq43⟩ := q43
    rcases hq43 with ⟨hk, b43, rfl, E43x, F43v⟩ | ⟨hk, b43, rfl, E43x, F43v⟩ | ⟨hk, b43, rfl, E43x, F43v⟩ | ⟨hk, b43, rfl, E43x, F43v⟩ | ⟨hk, rfl⟩
    · have hdone := trivial
      exact absurd hk (by decide)
    · have hdone := trivial
      exact absurd hk (by decide)
    · have hdone := trivial
      exact absurd hk (by decide)
    · have hdone := trivial
      exact absurd hk (by decide)
    · obtain ⟨e0, e1, e2, e3⟩ := hk
      refine own_astore 101 rfl #[.val (.int p1), .val (.int p2), .val (.ref b1), .val (.int (3 : Int32)), .val (.ref w_EMPTY), .unset] at_99 rfl rfl ?_
      refine own_iloadN 102 rfl at_101 rfl ?_
      refine own_callS 105 rfl 3 21 0 [(.int (3 : Int32))] [] (y := (⟨"com/example/urd/urd/model/HashAlgorithmFromIdPinLaw", "expected", "(I)Lcom/example/urd/urd/model/HashAlgorithm;"⟩ : MethodName)) (hw _ (List.mem_of_getElem? (i := 48) rfl)) (hw _ (List.mem_of_getElem? (i := 49) rfl)) (hw _ (List.mem_of_getElem? (i := 50) rfl)) (hw _ (List.mem_of_getElem? (i := 51) rfl)) (by decide) (rm7 l Z a0 hw [] (3 : Int32) w_VALUES c_w_VALUES w_SHA1 w_SHA256 w_SHA384 w_SHA512 w_EMPTY h43 I) at_102 rfl (lenOf own_pd6 rfl) rfl rfl rfl (by decide) (by decide) rfl rfl (by decide) (by decide) (own_kv fun v44 h44 q44 => ?_)
      obtain ⟨rfl, e44⟩ := q44
      rw [e44]
      rw [show own_exp (3 : Int32) w_SHA1 w_SHA256 w_SHA384 w_SHA512 = .null from rfl]
      refine own_astore 107 rfl #[.val (.int p1), .val (.int p2), .val (.ref b1), .val (.int (3 : Int32)), .val (.ref w_EMPTY), .val .null] at_105 rfl rfl ?_
      refine own_aload 109 rfl at_107 rfl rfl ?_
      refine own_ifnonnullNo 112 rfl at_109 ?_
      refine own_aload 114 rfl at_112 rfl rfl ?_
      refine own_callV 117 rfl 3 21 0 [] [] (y := (⟨"java/util/Optional", "isEmpty", "()Z"⟩ : MethodName)) (z := (⟨"java/util/Optional", "isEmpty", "()Z"⟩ : MethodName)) (hw _ (List.mem_of_getElem? (i := 73) rfl)) (hw _ (List.mem_of_getElem? (i := 74) rfl)) (fun hZ => notFace_of_selects (args := #[]) (mvT hZ (hw _ (List.mem_of_getElem? (i := 76) rfl)))) (hw _ (List.mem_of_getElem? (i := 76) rfl)) (hw _ (List.mem_of_getElem? (i := 75) rfl)) (hw _ (List.mem_of_getElem? (i := 31) rfl)) (hw _ (List.mem_of_getElem? (i := 77) rfl)) (by decide) (((((((((((((((((((E_w_EMPTY.ext O0.2).ext E1).wr W2).wr W3).wr W4).wr W5).wr W6).wr W7).wr W8).wr W9).wr W10).wr W11).wr W12).wr W13).wr W14).wr W15).wr W16).wr W17).keep K43) (rm12 l Z a0 hw [] w_EMPTY  h43 (((((((((((((((((((F_w_EMPTY_value.ext O0.2).ext E1).other W2 (Or.inl ne_w_EMPTY_b1)).other W3 (Or.inl ne_w_EMPTY_b1)).other W4 (Or.inl ne_w_EMPTY_b1)).other W5 (Or.inl ne_w_EMPTY_b1)).other W6 (Or.inl ne_w_EMPTY_b1)).other W7 (Or.inl ne_w_EMPTY_b1)).other W8 (Or.inl ne_w_EMPTY_b1)).other W9 (Or.inl ne_w_EMPTY_b1)).other W10 (Or.inl ne_w_EMPTY_b1)).other W11 (Or.inl ne_w_EMPTY_b1)).other W12 (Or.inl ne_w_EMPTY_b1)).other W13 (Or.inl ne_w_EMPTY_b1)).other W14 (Or.inl ne_w_EMPTY_b1)).other W15 (Or.inl ne_w_EMPTY_b1)).other W16 (Or.inl ne_w_EMPTY_b1)).other W17 (Or.inl ne_w_EMPTY_b1)).keep K43 nin0)) at_114 rfl (lenOf own_pd7 rfl) rfl rfl rfl (by decide) (by decide) rfl rfl (by decide) (by decide) (own_kv fun v45 h45 q45 => ?_)
      obtain ⟨rfl, e45⟩ := q45
      rw [e45]
      refine own_retN rfl (by simp) at_117 (by decide) (by decide) ?_
      exact ⟨_, rfl, rfl⟩
  · have hin_k := (rfl : (5 : Int) = 5)
    obtain ⟨c46, A46, q46, S46, N46, H46, G46⟩ := id V17
    refine own_iaload 94 rfl A46 (inb_of S46 ⟨by decide, by decide⟩) (Has.at H46 (inb_of S46 ⟨by decide, by decide⟩) rfl) at_93 ?_
    refine own_istoreN 95 rfl #[.val (.int p1), .val (.int p2), .val (.ref b1), .val (.int (5 : Int32)), .unset, .unset] at_94 rfl ?_
    refine own_iloadN 96 rfl at_95 rfl ?_
    refine own_callS 99 rfl 3 21 0 [(.int (5 : Int32))] [] (y := (⟨"com/example/urd/urd/model/HashAlgorithm", "fromId", "(I)Ljava/util/Optional;"⟩ : MethodName)) (hw _ (List.mem_of_getElem? (i := 4) rfl)) (hw _ (List.mem_of_getElem? (i := 5) rfl)) (hw _ (List.mem_of_getElem? (i := 6) rfl)) (hw _ (List.mem_of_getElem? (i := 7) rfl)) (by decide) (rm1 l Z a0 hw [] (5 : Int32) w_VALUES c_w_VALUES w_SHA1 w_SHA256 w_SHA384 w_SHA512 w_EMPTY h17 I) at_96 rfl (lenOf own_pd5 rfl) rfl rfl rfl (by decide) (by decide) rfl rfl (by decide) (by decide) (own_kv fun v47 h47 q47 => ?_)
    obtain ⟨K47, hq47⟩ := q47
    rcases hq47 with ⟨hk, b47, rfl, E47x, F47v⟩ | ⟨hk, b47, rfl, E47x, F47v⟩ | ⟨hk, b47, rfl, E47x, F47v⟩ | ⟨hk, b47, rfl, E47x, F47v⟩ | ⟨hk, rfl⟩
    · have hdone := trivial
      exact absurd hk (by decide)
    · have hdone := trivial
      exact absurd hk (by decide)
    · have hdone := trivial
      exact absurd hk (by decide)
    · have hdone := trivial
      exact absurd hk (by decide)
    · obtain ⟨e0, e1, e2, e3⟩ := hk
      refine own_astore 101 rfl #[.val (.int p1), .val (.int p2), .val (.ref b1), .val (.int (5 : Int32)), .val (.ref w_EMPTY), .unset] at_99 rfl rfl ?_
      refine own_iloadN 102 rfl at_101 rfl ?_
      refine own_callS 105 rfl 3 21 0 [(.int (5 : Int32))] [] (y := (⟨"com/example/urd/urd/model/HashAlgorithmFromIdPinLaw", "expected", "(I)Lcom/example/urd/urd/model/HashAlgorithm;"⟩ : MethodName)) (hw _ (List.mem_of_getElem? (i := 48) rfl)) (hw _ (List.mem_of_getElem? (i := 49) rfl)) (hw _ (List.mem_of_getElem? (i := 50) rfl)) (hw _ (List.mem_of_getElem? (i := 51) rfl)) (by decide) (rm7 l Z a0 hw [] (5 : Int32) w_VALUES c_w_VALUES w_SHA1 w_SHA256 w_SHA384 w_SHA512 w_EMPTY h47 I) at_102 rfl (lenOf own_pd6 rfl) rfl rfl rfl (by decide) (by decide) rfl rfl (by decide) (by decide) (own_kv fun v48 h48 q48 => ?_)
      obtain ⟨rfl, e48⟩ := q48
      rw [e48]
      rw [show own_exp (5 : Int32) w_SHA1 w_SHA256 w_SHA384 w_SHA512 = .null from rfl]
      refine own_astore 107 rfl #[.val (.int p1), .val (.int p2), .val (.ref b1), .val (.int (5 : Int32)), .val (.ref w_EMPTY), .val .null] at_105 rfl rfl ?_
      refine own_aload 109 rfl at_107 rfl rfl ?_
      refine own_ifnonnullNo 112 rfl at_109 ?_
      refine own_aload 114 rfl at_112 rfl rfl ?_
      refine own_callV 117 rfl 3 21 0 [] [] (y := (⟨"java/util/Optional", "isEmpty", "()Z"⟩ : MethodName)) (z := (⟨"java/util/Optional", "isEmpty", "()Z"⟩ : MethodName)) (hw _ (List.mem_of_getElem? (i := 73) rfl)) (hw _ (List.mem_of_getElem? (i := 74) rfl)) (fun hZ => notFace_of_selects (args := #[]) (mvT hZ (hw _ (List.mem_of_getElem? (i := 76) rfl)))) (hw _ (List.mem_of_getElem? (i := 76) rfl)) (hw _ (List.mem_of_getElem? (i := 75) rfl)) (hw _ (List.mem_of_getElem? (i := 31) rfl)) (hw _ (List.mem_of_getElem? (i := 77) rfl)) (by decide) (((((((((((((((((((E_w_EMPTY.ext O0.2).ext E1).wr W2).wr W3).wr W4).wr W5).wr W6).wr W7).wr W8).wr W9).wr W10).wr W11).wr W12).wr W13).wr W14).wr W15).wr W16).wr W17).keep K47) (rm12 l Z a0 hw [] w_EMPTY  h47 (((((((((((((((((((F_w_EMPTY_value.ext O0.2).ext E1).other W2 (Or.inl ne_w_EMPTY_b1)).other W3 (Or.inl ne_w_EMPTY_b1)).other W4 (Or.inl ne_w_EMPTY_b1)).other W5 (Or.inl ne_w_EMPTY_b1)).other W6 (Or.inl ne_w_EMPTY_b1)).other W7 (Or.inl ne_w_EMPTY_b1)).other W8 (Or.inl ne_w_EMPTY_b1)).other W9 (Or.inl ne_w_EMPTY_b1)).other W10 (Or.inl ne_w_EMPTY_b1)).other W11 (Or.inl ne_w_EMPTY_b1)).other W12 (Or.inl ne_w_EMPTY_b1)).other W13 (Or.inl ne_w_EMPTY_b1)).other W14 (Or.inl ne_w_EMPTY_b1)).other W15 (Or.inl ne_w_EMPTY_b1)).other W16 (Or.inl ne_w_EMPTY_b1)).other W17 (Or.inl ne_w_EMPTY_b1)).keep K47 nin0)) at_114 rfl (lenOf own_pd7 rfl) rfl rfl rfl (by decide) (by decide) rfl rfl (by decide) (by decide) (own_kv fun v49 h49 q49 => ?_)
      obtain ⟨rfl, e49⟩ := q49
      rw [e49]
      refine own_retN rfl (by simp) at_117 (by decide) (by decide) ?_
      exact ⟨_, rfl, rfl⟩
  · have hin_k := (rfl : (6 : Int) = 6)
    obtain ⟨c50, A50, q50, S50, N50, H50, G50⟩ := id V17
    refine own_iaload 94 rfl A50 (inb_of S50 ⟨by decide, by decide⟩) (Has.at H50 (inb_of S50 ⟨by decide, by decide⟩) rfl) at_93 ?_
    refine own_istoreN 95 rfl #[.val (.int p1), .val (.int p2), .val (.ref b1), .val (.int (10 : Int32)), .unset, .unset] at_94 rfl ?_
    refine own_iloadN 96 rfl at_95 rfl ?_
    refine own_callS 99 rfl 3 21 0 [(.int (10 : Int32))] [] (y := (⟨"com/example/urd/urd/model/HashAlgorithm", "fromId", "(I)Ljava/util/Optional;"⟩ : MethodName)) (hw _ (List.mem_of_getElem? (i := 4) rfl)) (hw _ (List.mem_of_getElem? (i := 5) rfl)) (hw _ (List.mem_of_getElem? (i := 6) rfl)) (hw _ (List.mem_of_getElem? (i := 7) rfl)) (by decide) (rm1 l Z a0 hw [] (10 : Int32) w_VALUES c_w_VALUES w_SHA1 w_SHA256 w_SHA384 w_SHA512 w_EMPTY h17 I) at_96 rfl (lenOf own_pd5 rfl) rfl rfl rfl (by decide) (by decide) rfl rfl (by decide) (by decide) (own_kv fun v51 h51 q51 => ?_)
    obtain ⟨K51, hq51⟩ := q51
    rcases hq51 with ⟨hk, b51, rfl, E51x, F51v⟩ | ⟨hk, b51, rfl, E51x, F51v⟩ | ⟨hk, b51, rfl, E51x, F51v⟩ | ⟨hk, b51, rfl, E51x, F51v⟩ | ⟨hk, rfl⟩
    · have hdone := trivial
      exact absurd hk (by decide)
    · have hdone := trivial
      exact absurd hk (by decide)
    · have hdone := trivial
      exact absurd hk (by decide)
    · have hdone := trivial
      exact absurd hk (by decide)
    · obtain ⟨e0, e1, e2, e3⟩ := hk
      refine own_astore 101 rfl #[.val (.int p1), .val (.int p2), .val (.ref b1), .val (.int (10 : Int32)), .val (.ref w_EMPTY), .unset] at_99 rfl rfl ?_
      refine own_iloadN 102 rfl at_101 rfl ?_
      refine own_callS 105 rfl 3 21 0 [(.int (10 : Int32))] [] (y := (⟨"com/example/urd/urd/model/HashAlgorithmFromIdPinLaw", "expected", "(I)Lcom/example/urd/urd/model/HashAlgorithm;"⟩ : MethodName)) (hw _ (List.mem_of_getElem? (i := 48) rfl)) (hw _ (List.mem_of_getElem? (i := 49) rfl)) (hw _ (List.mem_of_getElem? (i := 50) rfl)) (hw _ (List.mem_of_getElem? (i := 51) rfl)) (by decide) (rm7 l Z a0 hw [] (10 : Int32) w_VALUES c_w_VALUES w_SHA1 w_SHA256 w_SHA384 w_SHA512 w_EMPTY h51 I) at_102 rfl (lenOf own_pd6 rfl) rfl rfl rfl (by decide) (by decide) rfl rfl (by decide) (by decide) (own_kv fun v52 h52 q52 => ?_)
      obtain ⟨rfl, e52⟩ := q52
      rw [e52]
      rw [show own_exp (10 : Int32) w_SHA1 w_SHA256 w_SHA384 w_SHA512 = .null from rfl]
      refine own_astore 107 rfl #[.val (.int p1), .val (.int p2), .val (.ref b1), .val (.int (10 : Int32)), .val (.ref w_EMPTY), .val .null] at_105 rfl rfl ?_
      refine own_aload 109 rfl at_107 rfl rfl ?_
      refine own_ifnonnullNo 112 rfl at_109 ?_
      refine own_aload 114 rfl at_112 rfl rfl ?_
      refine own_callV 117 rfl 3 21 0 [] [] (y := (⟨"java/util/Optional", "isEmpty", "()Z"⟩ : MethodName)) (z := (⟨"java/util/Optional", "isEmpty", "()Z"⟩ : MethodName)) (hw _ (List.mem_of_getElem? (i := 73) rfl)) (hw _ (List.mem_of_getElem? (i := 74) rfl)) (fun hZ => notFace_of_selects (args := #[]) (mvT hZ (hw _ (List.mem_of_getElem? (i := 76) rfl)))) (hw _ (List.mem_of_getElem? (i := 76) rfl)) (hw _ (List.mem_of_getElem? (i := 75) rfl)) (hw _ (List.mem_of_getElem? (i := 31) rfl)) (hw _ (List.mem_of_getElem? (i := 77) rfl)) (by decide) (((((((((((((((((((E_w_EMPTY.ext O0.2).ext E1).wr W2).wr W3).wr W4).wr W5).wr W6).wr W7).wr W8).wr W9).wr W10).wr W11).wr W12).wr W13).wr W14).wr W15).wr W16).wr W17).keep K51) (rm12 l Z a0 hw [] w_EMPTY  h51 (((((((((((((((((((F_w_EMPTY_value.ext O0.2).ext E1).other W2 (Or.inl ne_w_EMPTY_b1)).other W3 (Or.inl ne_w_EMPTY_b1)).other W4 (Or.inl ne_w_EMPTY_b1)).other W5 (Or.inl ne_w_EMPTY_b1)).other W6 (Or.inl ne_w_EMPTY_b1)).other W7 (Or.inl ne_w_EMPTY_b1)).other W8 (Or.inl ne_w_EMPTY_b1)).other W9 (Or.inl ne_w_EMPTY_b1)).other W10 (Or.inl ne_w_EMPTY_b1)).other W11 (Or.inl ne_w_EMPTY_b1)).other W12 (Or.inl ne_w_EMPTY_b1)).other W13 (Or.inl ne_w_EMPTY_b1)).other W14 (Or.inl ne_w_EMPTY_b1)).other W15 (Or.inl ne_w_EMPTY_b1)).other W16 (Or.inl ne_w_EMPTY_b1)).other W17 (Or.inl ne_w_EMPTY_b1)).keep K51 nin0)) at_114 rfl (lenOf own_pd7 rfl) rfl rfl rfl (by decide) (by decide) rfl rfl (by decide) (by decide) (own_kv fun v53 h53 q53 => ?_)
      obtain ⟨rfl, e53⟩ := q53
      rw [e53]
      refine own_retN rfl (by simp) at_117 (by decide) (by decide) ?_
      exact ⟨_, rfl, rfl⟩
  · have hin_k := (rfl : (7 : Int) = 7)
    obtain ⟨c54, A54, q54, S54, N54, H54, G54⟩ := id V17
    refine own_iaload 94 rfl A54 (inb_of S54 ⟨by decide, by decide⟩) (Has.at H54 (inb_of S54 ⟨by decide, by decide⟩) rfl) at_93 ?_
    refine own_istoreN 95 rfl #[.val (.int p1), .val (.int p2), .val (.ref b1), .val (.int (14 : Int32)), .unset, .unset] at_94 rfl ?_
    refine own_iloadN 96 rfl at_95 rfl ?_
    refine own_callS 99 rfl 3 21 0 [(.int (14 : Int32))] [] (y := (⟨"com/example/urd/urd/model/HashAlgorithm", "fromId", "(I)Ljava/util/Optional;"⟩ : MethodName)) (hw _ (List.mem_of_getElem? (i := 4) rfl)) (hw _ (List.mem_of_getElem? (i := 5) rfl)) (hw _ (List.mem_of_getElem? (i := 6) rfl)) (hw _ (List.mem_of_getElem? (i := 7) rfl)) (by decide) (rm1 l Z a0 hw [] (14 : Int32) w_VALUES c_w_VALUES w_SHA1 w_SHA256 w_SHA384 w_SHA512 w_EMPTY h17 I) at_96 rfl (lenOf own_pd5 rfl) rfl rfl rfl (by decide) (by decide) rfl rfl (by decide) (by decide) (own_kv fun v55 h55 q55 => ?_)
    obtain ⟨K55, hq55⟩ := q55
    rcases hq55 with ⟨hk, b55, rfl, E55x, F55v⟩ | ⟨hk, b55, rfl, E55x, F55v⟩ | ⟨hk, b55, rfl, E55x, F55v⟩ | ⟨hk, b55, rfl, E55x, F55v⟩ | ⟨hk, rfl⟩
    · have hdone := trivial
      exact absurd hk (by decide)
    · have hdone := trivial
      exact absurd hk (by decide)
    · have hdone := trivial
      exact absurd hk (by decide)
    · have hdone := trivial
      exact absurd hk (by decide)
    · obtain ⟨e0, e1, e2, e3⟩ := hk
      refine own_astore 101 rfl #[.val (.int p1), .val (.int p2), .val (.ref b1), .val (.int (14 : Int32)), .val (.ref w_EMPTY), .unset] at_99 rfl rfl ?_
      refine own_iloadN 102 rfl at_101 rfl ?_
      refine own_callS 105 rfl 3 21 0 [(.int (14 : Int32))] [] (y := (⟨"com/example/urd/urd/model/HashAlgorithmFromIdPinLaw", "expected", "(I)Lcom/example/urd/urd/model/HashAlgorithm;"⟩ : MethodName)) (hw _ (List.mem_of_getElem? (i := 48) rfl)) (hw _ (List.mem_of_getElem? (i := 49) rfl)) (hw _ (List.mem_of_getElem? (i := 50) rfl)) (hw _ (List.mem_of_getElem? (i := 51) rfl)) (by decide) (rm7 l Z a0 hw [] (14 : Int32) w_VALUES c_w_VALUES w_SHA1 w_SHA256 w_SHA384 w_SHA512 w_EMPTY h55 I) at_102 rfl (lenOf own_pd6 rfl) rfl rfl rfl (by decide) (by decide) rfl rfl (by decide) (by decide) (own_kv fun v56 h56 q56 => ?_)
      obtain ⟨rfl, e56⟩ := q56
      rw [e56]
      rw [show own_exp (14 : Int32) w_SHA1 w_SHA256 w_SHA384 w_SHA512 = .null from rfl]
      refine own_astore 107 rfl #[.val (.int p1), .val (.int p2), .val (.ref b1), .val (.int (14 : Int32)), .val (.ref w_EMPTY), .val .null] at_105 rfl rfl ?_
      refine own_aload 109 rfl at_107 rfl rfl ?_
      refine own_ifnonnullNo 112 rfl at_109 ?_
      refine own_aload 114 rfl at_112 rfl rfl ?_
      refine own_callV 117 rfl 3 21 0 [] [] (y := (⟨"java/util/Optional", "isEmpty", "()Z"⟩ : MethodName)) (z := (⟨"java/util/Optional", "isEmpty", "()Z"⟩ : MethodName)) (hw _ (List.mem_of_getElem? (i := 73) rfl)) (hw _ (List.mem_of_getElem? (i := 74) rfl)) (fun hZ => notFace_of_selects (args := #[]) (mvT hZ (hw _ (List.mem_of_getElem? (i := 76) rfl)))) (hw _ (List.mem_of_getElem? (i := 76) rfl)) (hw _ (List.mem_of_getElem? (i := 75) rfl)) (hw _ (List.mem_of_getElem? (i := 31) rfl)) (hw _ (List.mem_of_getElem? (i := 77) rfl)) (by decide) (((((((((((((((((((E_w_EMPTY.ext O0.2).ext E1).wr W2).wr W3).wr W4).wr W5).wr W6).wr W7).wr W8).wr W9).wr W10).wr W11).wr W12).wr W13).wr W14).wr W15).wr W16).wr W17).keep K55) (rm12 l Z a0 hw [] w_EMPTY  h55 (((((((((((((((((((F_w_EMPTY_value.ext O0.2).ext E1).other W2 (Or.inl ne_w_EMPTY_b1)).other W3 (Or.inl ne_w_EMPTY_b1)).other W4 (Or.inl ne_w_EMPTY_b1)).other W5 (Or.inl ne_w_EMPTY_b1)).other W6 (Or.inl ne_w_EMPTY_b1)).other W7 (Or.inl ne_w_EMPTY_b1)).other W8 (Or.inl ne_w_EMPTY_b1)).other W9 (Or.inl ne_w_EMPTY_b1)).other W10 (Or.inl ne_w_EMPTY_b1)).other W11 (Or.inl ne_w_EMPTY_b1)).other W12 (Or.inl ne_w_EMPTY_b1)).other W13 (Or.inl ne_w_EMPTY_b1)).other W14 (Or.inl ne_w_EMPTY_b1)).other W15 (Or.inl ne_w_EMPTY_b1)).other W16 (Or.inl ne_w_EMPTY_b1)).other W17 (Or.inl ne_w_EMPTY_b1)).keep K55 nin0)) at_114 rfl (lenOf own_pd7 rfl) rfl rfl rfl (by decide) (by decide) rfl rfl (by decide) (by decide) (own_kv fun v57 h57 q57 => ?_)
      obtain ⟨rfl, e57⟩ := q57
      rw [e57]
      refine own_retN rfl (by simp) at_117 (by decide) (by decide) ?_
      exact ⟨_, rfl, rfl⟩
  · have hin_k := (rfl : (8 : Int) = 8)
    obtain ⟨c58, A58, q58, S58, N58, H58, G58⟩ := id V17
    refine own_iaload 94 rfl A58 (inb_of S58 ⟨by decide, by decide⟩) (Has.at H58 (inb_of S58 ⟨by decide, by decide⟩) rfl) at_93 ?_
    refine own_istoreN 95 rfl #[.val (.int p1), .val (.int p2), .val (.ref b1), .val (.int (18 : Int32)), .unset, .unset] at_94 rfl ?_
    refine own_iloadN 96 rfl at_95 rfl ?_
    refine own_callS 99 rfl 3 21 0 [(.int (18 : Int32))] [] (y := (⟨"com/example/urd/urd/model/HashAlgorithm", "fromId", "(I)Ljava/util/Optional;"⟩ : MethodName)) (hw _ (List.mem_of_getElem? (i := 4) rfl)) (hw _ (List.mem_of_getElem? (i := 5) rfl)) (hw _ (List.mem_of_getElem? (i := 6) rfl)) (hw _ (List.mem_of_getElem? (i := 7) rfl)) (by decide) (rm1 l Z a0 hw [] (18 : Int32) w_VALUES c_w_VALUES w_SHA1 w_SHA256 w_SHA384 w_SHA512 w_EMPTY h17 I) at_96 rfl (lenOf own_pd5 rfl) rfl rfl rfl (by decide) (by decide) rfl rfl (by decide) (by decide) (own_kv fun v59 h59 q59 => ?_)
    obtain ⟨K59, hq59⟩ := q59
    rcases hq59 with ⟨hk, b59, rfl, E59x, F59v⟩ | ⟨hk, b59, rfl, E59x, F59v⟩ | ⟨hk, b59, rfl, E59x, F59v⟩ | ⟨hk, b59, rfl, E59x, F59v⟩ | ⟨hk, rfl⟩
    · have hdone := trivial
      exact absurd hk (by decide)
    · have hdone := trivial
      exact absurd hk (by decide)
    · have hdone := trivial
      exact absurd hk (by decide)
    · have hdone := trivial
      exact absurd hk (by decide)
    · obtain ⟨e0, e1, e2, e3⟩ := hk
      refine own_astore 101 rfl #[.val (.int p1), .val (.int p2), .val (.ref b1), .val (.int (18 : Int32)), .val (.ref w_EMPTY), .unset] at_99 rfl rfl ?_
      refine own_iloadN 102 rfl at_101 rfl ?_
      refine own_callS 105 rfl 3 21 0 [(.int (18 : Int32))] [] (y := (⟨"com/example/urd/urd/model/HashAlgorithmFromIdPinLaw", "expected", "(I)Lcom/example/urd/urd/model/HashAlgorithm;"⟩ : MethodName)) (hw _ (List.mem_of_getElem? (i := 48) rfl)) (hw _ (List.mem_of_getElem? (i := 49) rfl)) (hw _ (List.mem_of_getElem? (i := 50) rfl)) (hw _ (List.mem_of_getElem? (i := 51) rfl)) (by decide) (rm7 l Z a0 hw [] (18 : Int32) w_VALUES c_w_VALUES w_SHA1 w_SHA256 w_SHA384 w_SHA512 w_EMPTY h59 I) at_102 rfl (lenOf own_pd6 rfl) rfl rfl rfl (by decide) (by decide) rfl rfl (by decide) (by decide) (own_kv fun v60 h60 q60 => ?_)
      obtain ⟨rfl, e60⟩ := q60
      rw [e60]
      rw [show own_exp (18 : Int32) w_SHA1 w_SHA256 w_SHA384 w_SHA512 = .null from rfl]
      refine own_astore 107 rfl #[.val (.int p1), .val (.int p2), .val (.ref b1), .val (.int (18 : Int32)), .val (.ref w_EMPTY), .val .null] at_105 rfl rfl ?_
      refine own_aload 109 rfl at_107 rfl rfl ?_
      refine own_ifnonnullNo 112 rfl at_109 ?_
      refine own_aload 114 rfl at_112 rfl rfl ?_
      refine own_callV 117 rfl 3 21 0 [] [] (y := (⟨"java/util/Optional", "isEmpty", "()Z"⟩ : MethodName)) (z := (⟨"java/util/Optional", "isEmpty", "()Z"⟩ : MethodName)) (hw _ (List.mem_of_getElem? (i := 73) rfl)) (hw _ (List.mem_of_getElem? (i := 74) rfl)) (fun hZ => notFace_of_selects (args := #[]) (mvT hZ (hw _ (List.mem_of_getElem? (i := 76) rfl)))) (hw _ (List.mem_of_getElem? (i := 76) rfl)) (hw _ (List.mem_of_getElem? (i := 75) rfl)) (hw _ (List.mem_of_getElem? (i := 31) rfl)) (hw _ (List.mem_of_getElem? (i := 77) rfl)) (by decide) (((((((((((((((((((E_w_EMPTY.ext O0.2).ext E1).wr W2).wr W3).wr W4).wr W5).wr W6).wr W7).wr W8).wr W9).wr W10).wr W11).wr W12).wr W13).wr W14).wr W15).wr W16).wr W17).keep K59) (rm12 l Z a0 hw [] w_EMPTY  h59 (((((((((((((((((((F_w_EMPTY_value.ext O0.2).ext E1).other W2 (Or.inl ne_w_EMPTY_b1)).other W3 (Or.inl ne_w_EMPTY_b1)).other W4 (Or.inl ne_w_EMPTY_b1)).other W5 (Or.inl ne_w_EMPTY_b1)).other W6 (Or.inl ne_w_EMPTY_b1)).other W7 (Or.inl ne_w_EMPTY_b1)).other W8 (Or.inl ne_w_EMPTY_b1)).other W9 (Or.inl ne_w_EMPTY_b1)).other W10 (Or.inl ne_w_EMPTY_b1)).other W11 (Or.inl ne_w_EMPTY_b1)).other W12 (Or.inl ne_w_EMPTY_b1)).other W13 (Or.inl ne_w_EMPTY_b1)).other W14 (Or.inl ne_w_EMPTY_b1)).other W15 (Or.inl ne_w_EMPTY_b1)).other W16 (Or.inl ne_w_EMPTY_b1)).other W17 (Or.inl ne_w_EMPTY_b1)).keep K59 nin0)) at_114 rfl (lenOf own_pd7 rfl) rfl rfl rfl (by decide) (by decide) rfl rfl (by decide) (by decide) (own_kv fun v61 h61 q61 => ?_)
      obtain ⟨rfl, e61⟩ := q61
      rw [e61]
      refine own_retN rfl (by simp) at_117 (by decide) (by decide) ?_
      exact ⟨_, rfl, rfl⟩
  · have hin_k := (rfl : (9 : Int) = 9)
    obtain ⟨c62, A62, q62, S62, N62, H62, G62⟩ := id V17
    refine own_iaload 94 rfl A62 (inb_of S62 ⟨by decide, by decide⟩) (Has.at H62 (inb_of S62 ⟨by decide, by decide⟩) rfl) at_93 ?_
    refine own_istoreN 95 rfl #[.val (.int p1), .val (.int p2), .val (.ref b1), .val (.int (0 : Int32)), .unset, .unset] at_94 rfl ?_
    refine own_iloadN 96 rfl at_95 rfl ?_
    refine own_callS 99 rfl 3 21 0 [(.int (0 : Int32))] [] (y := (⟨"com/example/urd/urd/model/HashAlgorithm", "fromId", "(I)Ljava/util/Optional;"⟩ : MethodName)) (hw _ (List.mem_of_getElem? (i := 4) rfl)) (hw _ (List.mem_of_getElem? (i := 5) rfl)) (hw _ (List.mem_of_getElem? (i := 6) rfl)) (hw _ (List.mem_of_getElem? (i := 7) rfl)) (by decide) (rm1 l Z a0 hw [] (0 : Int32) w_VALUES c_w_VALUES w_SHA1 w_SHA256 w_SHA384 w_SHA512 w_EMPTY h17 I) at_96 rfl (lenOf own_pd5 rfl) rfl rfl rfl (by decide) (by decide) rfl rfl (by decide) (by decide) (own_kv fun v63 h63 q63 => ?_)
    obtain ⟨K63, hq63⟩ := q63
    rcases hq63 with ⟨hk, b63, rfl, E63x, F63v⟩ | ⟨hk, b63, rfl, E63x, F63v⟩ | ⟨hk, b63, rfl, E63x, F63v⟩ | ⟨hk, b63, rfl, E63x, F63v⟩ | ⟨hk, rfl⟩
    · have hdone := trivial
      exact absurd hk (by decide)
    · have hdone := trivial
      exact absurd hk (by decide)
    · have hdone := trivial
      exact absurd hk (by decide)
    · have hdone := trivial
      exact absurd hk (by decide)
    · obtain ⟨e0, e1, e2, e3⟩ := hk
      refine own_astore 101 rfl #[.val (.int p1), .val (.int p2), .val (.ref b1), .val (.int (0 : Int32)), .val (.ref w_EMPTY), .unset] at_99 rfl rfl ?_
      refine own_iloadN 102 rfl at_101 rfl ?_
      refine own_callS 105 rfl 3 21 0 [(.int (0 : Int32))] [] (y := (⟨"com/example/urd/urd/model/HashAlgorithmFromIdPinLaw", "expected", "(I)Lcom/example/urd/urd/model/HashAlgorithm;"⟩ : MethodName)) (hw _ (List.mem_of_getElem? (i := 48) rfl)) (hw _ (List.mem_of_getElem? (i := 49) rfl)) (hw _ (List.mem_of_getElem? (i := 50) rfl)) (hw _ (List.mem_of_getElem? (i := 51) rfl)) (by decide) (rm7 l Z a0 hw [] (0 : Int32) w_VALUES c_w_VALUES w_SHA1 w_SHA256 w_SHA384 w_SHA512 w_EMPTY h63 I) at_102 rfl (lenOf own_pd6 rfl) rfl rfl rfl (by decide) (by decide) rfl rfl (by decide) (by decide) (own_kv fun v64 h64 q64 => ?_)
      obtain ⟨rfl, e64⟩ := q64
      rw [e64]
      rw [show own_exp (0 : Int32) w_SHA1 w_SHA256 w_SHA384 w_SHA512 = .null from rfl]
      refine own_astore 107 rfl #[.val (.int p1), .val (.int p2), .val (.ref b1), .val (.int (0 : Int32)), .val (.ref w_EMPTY), .val .null] at_105 rfl rfl ?_
      refine own_aload 109 rfl at_107 rfl rfl ?_
      refine own_ifnonnullNo 112 rfl at_109 ?_
      refine own_aload 114 rfl at_112 rfl rfl ?_
      refine own_callV 117 rfl 3 21 0 [] [] (y := (⟨"java/util/Optional", "isEmpty", "()Z"⟩ : MethodName)) (z := (⟨"java/util/Optional", "isEmpty", "()Z"⟩ : MethodName)) (hw _ (List.mem_of_getElem? (i := 73) rfl)) (hw _ (List.mem_of_getElem? (i := 74) rfl)) (fun hZ => notFace_of_selects (args := #[]) (mvT hZ (hw _ (List.mem_of_getElem? (i := 76) rfl)))) (hw _ (List.mem_of_getElem? (i := 76) rfl)) (hw _ (List.mem_of_getElem? (i := 75) rfl)) (hw _ (List.mem_of_getElem? (i := 31) rfl)) (hw _ (List.mem_of_getElem? (i := 77) rfl)) (by decide) (((((((((((((((((((E_w_EMPTY.ext O0.2).ext E1).wr W2).wr W3).wr W4).wr W5).wr W6).wr W7).wr W8).wr W9).wr W10).wr W11).wr W12).wr W13).wr W14).wr W15).wr W16).wr W17).keep K63) (rm12 l Z a0 hw [] w_EMPTY  h63 (((((((((((((((((((F_w_EMPTY_value.ext O0.2).ext E1).other W2 (Or.inl ne_w_EMPTY_b1)).other W3 (Or.inl ne_w_EMPTY_b1)).other W4 (Or.inl ne_w_EMPTY_b1)).other W5 (Or.inl ne_w_EMPTY_b1)).other W6 (Or.inl ne_w_EMPTY_b1)).other W7 (Or.inl ne_w_EMPTY_b1)).other W8 (Or.inl ne_w_EMPTY_b1)).other W9 (Or.inl ne_w_EMPTY_b1)).other W10 (Or.inl ne_w_EMPTY_b1)).other W11 (Or.inl ne_w_EMPTY_b1)).other W12 (Or.inl ne_w_EMPTY_b1)).other W13 (Or.inl ne_w_EMPTY_b1)).other W14 (Or.inl ne_w_EMPTY_b1)).other W15 (Or.inl ne_w_EMPTY_b1)).other W16 (Or.inl ne_w_EMPTY_b1)).other W17 (Or.inl ne_w_EMPTY_b1)).keep K63 nin0)) at_114 rfl (lenOf own_pd7 rfl) rfl rfl rfl (by decide) (by decide) rfl rfl (by decide) (by decide) (own_kv fun v65 h65 q65 => ?_)
      obtain ⟨rfl, e65⟩ := q65
      rw [e65]
      refine own_retN rfl (by simp) at_117 (by decide) (by decide) ?_
      exact ⟨_, rfl, rfl⟩
  · have hin_k := (rfl : (10 : Int) = 10)
    obtain ⟨c66, A66, q66, S66, N66, H66, G66⟩ := id V17
    refine own_iaload 94 rfl A66 (inb_of S66 ⟨by decide, by decide⟩) (Has.at H66 (inb_of S66 ⟨by decide, by decide⟩) rfl) at_93 ?_
    refine own_istoreN 95 rfl #[.val (.int p1), .val (.int p2), .val (.ref b1), .val (.int (-1 : Int32)), .unset, .unset] at_94 rfl ?_
    refine own_iloadN 96 rfl at_95 rfl ?_
    refine own_callS 99 rfl 3 21 0 [(.int (-1 : Int32))] [] (y := (⟨"com/example/urd/urd/model/HashAlgorithm", "fromId", "(I)Ljava/util/Optional;"⟩ : MethodName)) (hw _ (List.mem_of_getElem? (i := 4) rfl)) (hw _ (List.mem_of_getElem? (i := 5) rfl)) (hw _ (List.mem_of_getElem? (i := 6) rfl)) (hw _ (List.mem_of_getElem? (i := 7) rfl)) (by decide) (rm1 l Z a0 hw [] (-1 : Int32) w_VALUES c_w_VALUES w_SHA1 w_SHA256 w_SHA384 w_SHA512 w_EMPTY h17 I) at_96 rfl (lenOf own_pd5 rfl) rfl rfl rfl (by decide) (by decide) rfl rfl (by decide) (by decide) (own_kv fun v67 h67 q67 => ?_)
    obtain ⟨K67, hq67⟩ := q67
    rcases hq67 with ⟨hk, b67, rfl, E67x, F67v⟩ | ⟨hk, b67, rfl, E67x, F67v⟩ | ⟨hk, b67, rfl, E67x, F67v⟩ | ⟨hk, b67, rfl, E67x, F67v⟩ | ⟨hk, rfl⟩
    · have hdone := trivial
      exact absurd hk (by decide)
    · have hdone := trivial
      exact absurd hk (by decide)
    · have hdone := trivial
      exact absurd hk (by decide)
    · have hdone := trivial
      exact absurd hk (by decide)
    · obtain ⟨e0, e1, e2, e3⟩ := hk
      refine own_astore 101 rfl #[.val (.int p1), .val (.int p2), .val (.ref b1), .val (.int (-1 : Int32)), .val (.ref w_EMPTY), .unset] at_99 rfl rfl ?_
      refine own_iloadN 102 rfl at_101 rfl ?_
      refine own_callS 105 rfl 3 21 0 [(.int (-1 : Int32))] [] (y := (⟨"com/example/urd/urd/model/HashAlgorithmFromIdPinLaw", "expected", "(I)Lcom/example/urd/urd/model/HashAlgorithm;"⟩ : MethodName)) (hw _ (List.mem_of_getElem? (i := 48) rfl)) (hw _ (List.mem_of_getElem? (i := 49) rfl)) (hw _ (List.mem_of_getElem? (i := 50) rfl)) (hw _ (List.mem_of_getElem? (i := 51) rfl)) (by decide) (rm7 l Z a0 hw [] (-1 : Int32) w_VALUES c_w_VALUES w_SHA1 w_SHA256 w_SHA384 w_SHA512 w_EMPTY h67 I) at_102 rfl (lenOf own_pd6 rfl) rfl rfl rfl (by decide) (by decide) rfl rfl (by decide) (by decide) (own_kv fun v68 h68 q68 => ?_)
      obtain ⟨rfl, e68⟩ := q68
      rw [e68]
      rw [show own_exp (-1 : Int32) w_SHA1 w_SHA256 w_SHA384 w_SHA512 = .null from rfl]
      refine own_astore 107 rfl #[.val (.int p1), .val (.int p2), .val (.ref b1), .val (.int (-1 : Int32)), .val (.ref w_EMPTY), .val .null] at_105 rfl rfl ?_
      refine own_aload 109 rfl at_107 rfl rfl ?_
      refine own_ifnonnullNo 112 rfl at_109 ?_
      refine own_aload 114 rfl at_112 rfl rfl ?_
      refine own_callV 117 rfl 3 21 0 [] [] (y := (⟨"java/util/Optional", "isEmpty", "()Z"⟩ : MethodName)) (z := (⟨"java/util/Optional", "isEmpty", "()Z"⟩ : MethodName)) (hw _ (List.mem_of_getElem? (i := 73) rfl)) (hw _ (List.mem_of_getElem? (i := 74) rfl)) (fun hZ => notFace_of_selects (args := #[]) (mvT hZ (hw _ (List.mem_of_getElem? (i := 76) rfl)))) (hw _ (List.mem_of_getElem? (i := 76) rfl)) (hw _ (List.mem_of_getElem? (i := 75) rfl)) (hw _ (List.mem_of_getElem? (i := 31) rfl)) (hw _ (List.mem_of_getElem? (i := 77) rfl)) (by decide) (((((((((((((((((((E_w_EMPTY.ext O0.2).ext E1).wr W2).wr W3).wr W4).wr W5).wr W6).wr W7).wr W8).wr W9).wr W10).wr W11).wr W12).wr W13).wr W14).wr W15).wr W16).wr W17).keep K67) (rm12 l Z a0 hw [] w_EMPTY  h67 (((((((((((((((((((F_w_EMPTY_value.ext O0.2).ext E1).other W2 (Or.inl ne_w_EMPTY_b1)).other W3 (Or.inl ne_w_EMPTY_b1)).other W4 (Or.inl ne_w_EMPTY_b1)).other W5 (Or.inl ne_w_EMPTY_b1)).other W6 (Or.inl ne_w_EMPTY_b1)).other W7 (Or.inl ne_w_EMPTY_b1)).other W8 (Or.inl ne_w_EMPTY_b1)).other W9 (Or.inl ne_w_EMPTY_b1)).other W10 (Or.inl ne_w_EMPTY_b1)).other W11 (Or.inl ne_w_EMPTY_b1)).other W12 (Or.inl ne_w_EMPTY_b1)).other W13 (Or.inl ne_w_EMPTY_b1)).other W14 (Or.inl ne_w_EMPTY_b1)).other W15 (Or.inl ne_w_EMPTY_b1)).other W16 (Or.inl ne_w_EMPTY_b1)).other W17 (Or.inl ne_w_EMPTY_b1)).keep K67 nin0)) at_114 rfl (lenOf own_pd7 rfl) rfl rfl rfl (by decide) (by decide) rfl rfl (by decide) (by decide) (own_kv fun v69 h69 q69 => ?_)
      obtain ⟨rfl, e69⟩ := q69
      rw [e69]
      refine own_retN rfl (by simp) at_117 (by decide) (by decide) ?_
      exact ⟨_, rfl, rfl⟩
  · have hin_k := (rfl : (11 : Int) = 11)
    obtain ⟨c70, A70, q70, S70, N70, H70, G70⟩ := id V17
    refine own_iaload 94 rfl A70 (inb_of S70 ⟨by decide, by decide⟩) (Has.at H70 (inb_of S70 ⟨by decide, by decide⟩) rfl) at_93 ?_
    refine own_istoreN 95 rfl #[.val (.int p1), .val (.int p2), .val (.ref b1), .val (.int (65540 : Int32)), .unset, .unset] at_94 rfl ?_
    refine own_iloadN 96 rfl at_95 rfl ?_
    refine own_callS 99 rfl 3 21 0 [(.int (65540 : Int32))] [] (y := (⟨"com/example/urd/urd/model/HashAlgorithm", "fromId", "(I)Ljava/util/Optional;"⟩ : MethodName)) (hw _ (List.mem_of_getElem? (i := 4) rfl)) (hw _ (List.mem_of_getElem? (i := 5) rfl)) (hw _ (List.mem_of_getElem? (i := 6) rfl)) (hw _ (List.mem_of_getElem? (i := 7) rfl)) (by decide) (rm1 l Z a0 hw [] (65540 : Int32) w_VALUES c_w_VALUES w_SHA1 w_SHA256 w_SHA384 w_SHA512 w_EMPTY h17 I) at_96 rfl (lenOf own_pd5 rfl) rfl rfl rfl (by decide) (by decide) rfl rfl (by decide) (by decide) (own_kv fun v71 h71 q71 => ?_)
    obtain ⟨K71, hq71⟩ := q71
    rcases hq71 with ⟨hk, b71, rfl, E71x, F71v⟩ | ⟨hk, b71, rfl, E71x, F71v⟩ | ⟨hk, b71, rfl, E71x, F71v⟩ | ⟨hk, b71, rfl, E71x, F71v⟩ | ⟨hk, rfl⟩
    · have hdone := trivial
      exact absurd hk (by decide)
    · have hdone := trivial
      exact absurd hk (by decide)
    · have hdone := trivial
      exact absurd hk (by decide)
    · have hdone := trivial
      exact absurd hk (by decide)
    · obtain ⟨e0, e1, e2, e3⟩ := hk
      refine own_astore 101 rfl #[.val (.int p1), .val (.int p2), .val (.ref b1), .val (.int (65540 : Int32)), .val (.ref w_EMPTY), .unset] at_99 rfl rfl ?_
      refine own_iloadN 102 rfl at_101 rfl ?_
      refine own_callS 105 rfl 3 21 0 [(.int (65540 : Int32))] [] (y := (⟨"com/example/urd/urd/model/HashAlgorithmFromIdPinLaw", "expected", "(I)Lcom/example/urd/urd/model/HashAlgorithm;"⟩ : MethodName)) (hw _ (List.mem_of_getElem? (i := 48) rfl)) (hw _ (List.mem_of_getElem? (i := 49) rfl)) (hw _ (List.mem_of_getElem? (i := 50) rfl)) (hw _ (List.mem_of_getElem? (i := 51) rfl)) (by decide) (rm7 l Z a0 hw [] (65540 : Int32) w_VALUES c_w_VALUES w_SHA1 w_SHA256 w_SHA384 w_SHA512 w_EMPTY h71 I) at_102 rfl (lenOf own_pd6 rfl) rfl rfl rfl (by decide) (by decide) rfl rfl (by decide) (by decide) (own_kv fun v72 h72 q72 => ?_)
      obtain ⟨rfl, e72⟩ := q72
      rw [e72]
      rw [show own_exp (65540 : Int32) w_SHA1 w_SHA256 w_SHA384 w_SHA512 = .null from rfl]
      refine own_astore 107 rfl #[.val (.int p1), .val (.int p2), .val (.ref b1), .val (.int (65540 : Int32)), .val (.ref w_EMPTY), .val .null] at_105 rfl rfl ?_
      refine own_aload 109 rfl at_107 rfl rfl ?_
      refine own_ifnonnullNo 112 rfl at_109 ?_
      refine own_aload 114 rfl at_112 rfl rfl ?_
      refine own_callV 117 rfl 3 21 0 [] [] (y := (⟨"java/util/Optional", "isEmpty", "()Z"⟩ : MethodName)) (z := (⟨"java/util/Optional", "isEmpty", "()Z"⟩ : MethodName)) (hw _ (List.mem_of_getElem? (i := 73) rfl)) (hw _ (List.mem_of_getElem? (i := 74) rfl)) (fun hZ => notFace_of_selects (args := #[]) (mvT hZ (hw _ (List.mem_of_getElem? (i := 76) rfl)))) (hw _ (List.mem_of_getElem? (i := 76) rfl)) (hw _ (List.mem_of_getElem? (i := 75) rfl)) (hw _ (List.mem_of_getElem? (i := 31) rfl)) (hw _ (List.mem_of_getElem? (i := 77) rfl)) (by decide) (((((((((((((((((((E_w_EMPTY.ext O0.2).ext E1).wr W2).wr W3).wr W4).wr W5).wr W6).wr W7).wr W8).wr W9).wr W10).wr W11).wr W12).wr W13).wr W14).wr W15).wr W16).wr W17).keep K71) (rm12 l Z a0 hw [] w_EMPTY  h71 (((((((((((((((((((F_w_EMPTY_value.ext O0.2).ext E1).other W2 (Or.inl ne_w_EMPTY_b1)).other W3 (Or.inl ne_w_EMPTY_b1)).other W4 (Or.inl ne_w_EMPTY_b1)).other W5 (Or.inl ne_w_EMPTY_b1)).other W6 (Or.inl ne_w_EMPTY_b1)).other W7 (Or.inl ne_w_EMPTY_b1)).other W8 (Or.inl ne_w_EMPTY_b1)).other W9 (Or.inl ne_w_EMPTY_b1)).other W10 (Or.inl ne_w_EMPTY_b1)).other W11 (Or.inl ne_w_EMPTY_b1)).other W12 (Or.inl ne_w_EMPTY_b1)).other W13 (Or.inl ne_w_EMPTY_b1)).other W14 (Or.inl ne_w_EMPTY_b1)).other W15 (Or.inl ne_w_EMPTY_b1)).other W16 (Or.inl ne_w_EMPTY_b1)).other W17 (Or.inl ne_w_EMPTY_b1)).keep K71 nin0)) at_114 rfl (lenOf own_pd7 rfl) rfl rfl rfl (by decide) (by decide) rfl rfl (by decide) (by decide) (own_kv fun v73 h73 q73 => ?_)
      obtain ⟨rfl, e73⟩ := q73
      rw [e73]
      refine own_retN rfl (by simp) at_117 (by decide) (by decide) ?_
      exact ⟨_, rfl, rfl⟩
  · have hin_k := (rfl : (12 : Int) = 12)
    obtain ⟨c74, A74, q74, S74, N74, H74, G74⟩ := id V17
    refine own_iaload 94 rfl A74 (inb_of S74 ⟨by decide, by decide⟩) (Has.at H74 (inb_of S74 ⟨by decide, by decide⟩) rfl) at_93 ?_
    refine own_istoreN 95 rfl #[.val (.int p1), .val (.int p2), .val (.ref b1), .val (.int (-2147483637 : Int32)), .unset, .unset] at_94 rfl ?_
    refine own_iloadN 96 rfl at_95 rfl ?_
    refine own_callS 99 rfl 3 21 0 [(.int (-2147483637 : Int32))] [] (y := (⟨"com/example/urd/urd/model/HashAlgorithm", "fromId", "(I)Ljava/util/Optional;"⟩ : MethodName)) (hw _ (List.mem_of_getElem? (i := 4) rfl)) (hw _ (List.mem_of_getElem? (i := 5) rfl)) (hw _ (List.mem_of_getElem? (i := 6) rfl)) (hw _ (List.mem_of_getElem? (i := 7) rfl)) (by decide) (rm1 l Z a0 hw [] (-2147483637 : Int32) w_VALUES c_w_VALUES w_SHA1 w_SHA256 w_SHA384 w_SHA512 w_EMPTY h17 I) at_96 rfl (lenOf own_pd5 rfl) rfl rfl rfl (by decide) (by decide) rfl rfl (by decide) (by decide) (own_kv fun v75 h75 q75 => ?_)
    obtain ⟨K75, hq75⟩ := q75
    rcases hq75 with ⟨hk, b75, rfl, E75x, F75v⟩ | ⟨hk, b75, rfl, E75x, F75v⟩ | ⟨hk, b75, rfl, E75x, F75v⟩ | ⟨hk, b75, rfl, E75x, F75v⟩ | ⟨hk, rfl⟩
    · have hdone := trivial
      exact absurd hk (by decide)
    · have hdone := trivial
      exact absurd hk (by decide)
    · have hdone := trivial
      exact absurd hk (by decide)
    · have hdone := trivial
      exact absurd hk (by decide)
    · obtain ⟨e0, e1, e2, e3⟩ := hk
      refine own_astore 101 rfl #[.val (.int p1), .val (.int p2), .val (.ref b1), .val (.int (-2147483637 : Int32)), .val (.ref w_EMPTY), .unset] at_99 rfl rfl ?_
      refine own_iloadN 102 rfl at_101 rfl ?_
      refine own_callS 105 rfl 3 21 0 [(.int (-2147483637 : Int32))] [] (y := (⟨"com/example/urd/urd/model/HashAlgorithmFromIdPinLaw", "expected", "(I)Lcom/example/urd/urd/model/HashAlgorithm;"⟩ : MethodName)) (hw _ (List.mem_of_getElem? (i := 48) rfl)) (hw _ (List.mem_of_getElem? (i := 49) rfl)) (hw _ (List.mem_of_getElem? (i := 50) rfl)) (hw _ (List.mem_of_getElem? (i := 51) rfl)) (by decide) (rm7 l Z a0 hw [] (-2147483637 : Int32) w_VALUES c_w_VALUES w_SHA1 w_SHA256 w_SHA384 w_SHA512 w_EMPTY h75 I) at_102 rfl (lenOf own_pd6 rfl) rfl rfl rfl (by decide) (by decide) rfl rfl (by decide) (by decide) (own_kv fun v76 h76 q76 => ?_)
      obtain ⟨rfl, e76⟩ := q76
      rw [e76]
      rw [show own_exp (-2147483637 : Int32) w_SHA1 w_SHA256 w_SHA384 w_SHA512 = .null from rfl]
      refine own_astore 107 rfl #[.val (.int p1), .val (.int p2), .val (.ref b1), .val (.int (-2147483637 : Int32)), .val (.ref w_EMPTY), .val .null] at_105 rfl rfl ?_
      refine own_aload 109 rfl at_107 rfl rfl ?_
      refine own_ifnonnullNo 112 rfl at_109 ?_
      refine own_aload 114 rfl at_112 rfl rfl ?_
      refine own_callV 117 rfl 3 21 0 [] [] (y := (⟨"java/util/Optional", "isEmpty", "()Z"⟩ : MethodName)) (z := (⟨"java/util/Optional", "isEmpty", "()Z"⟩ : MethodName)) (hw _ (List.mem_of_getElem? (i := 73) rfl)) (hw _ (List.mem_of_getElem? (i := 74) rfl)) (fun hZ => notFace_of_selects (args := #[]) (mvT hZ (hw _ (List.mem_of_getElem? (i := 76) rfl)))) (hw _ (List.mem_of_getElem? (i := 76) rfl)) (hw _ (List.mem_of_getElem? (i := 75) rfl)) (hw _ (List.mem_of_getElem? (i := 31) rfl)) (hw _ (List.mem_of_getElem? (i := 77) rfl)) (by decide) (((((((((((((((((((E_w_EMPTY.ext O0.2).ext E1).wr W2).wr W3).wr W4).wr W5).wr W6).wr W7).wr W8).wr W9).wr W10).wr W11).wr W12).wr W13).wr W14).wr W15).wr W16).wr W17).keep K75) (rm12 l Z a0 hw [] w_EMPTY  h75 (((((((((((((((((((F_w_EMPTY_value.ext O0.2).ext E1).other W2 (Or.inl ne_w_EMPTY_b1)).other W3 (Or.inl ne_w_EMPTY_b1)).other W4 (Or.inl ne_w_EMPTY_b1)).other W5 (Or.inl ne_w_EMPTY_b1)).other W6 (Or.inl ne_w_EMPTY_b1)).other W7 (Or.inl ne_w_EMPTY_b1)).other W8 (Or.inl ne_w_EMPTY_b1)).other W9 (Or.inl ne_w_EMPTY_b1)).other W10 (Or.inl ne_w_EMPTY_b1)).other W11 (Or.inl ne_w_EMPTY_b1)).other W12 (Or.inl ne_w_EMPTY_b1)).other W13 (Or.inl ne_w_EMPTY_b1)).other W14 (Or.inl ne_w_EMPTY_b1)).other W15 (Or.inl ne_w_EMPTY_b1)).other W16 (Or.inl ne_w_EMPTY_b1)).other W17 (Or.inl ne_w_EMPTY_b1)).keep K75 nin0)) at_114 rfl (lenOf own_pd7 rfl) rfl rfl rfl (by decide) (by decide) rfl rfl (by decide) (by decide) (own_kv fun v77 h77 q77 => ?_)
      obtain ⟨rfl, e77⟩ := q77
      rw [e77]
      refine own_retN rfl (by simp) at_117 (by decide) (by decide) ?_
      exact ⟨_, rfl, rfl⟩
  · have hin_k := (rfl : (13 : Int) = 13)
    obtain ⟨c78, A78, q78, S78, N78, H78, G78⟩ := id V17
    refine own_iaload 94 rfl A78 (inb_of S78 ⟨by decide, by decide⟩) (Has.at H78 (inb_of S78 ⟨by decide, by decide⟩) rfl) at_93 ?_
    refine own_istoreN 95 rfl #[.val (.int p1), .val (.int p2), .val (.ref b1), .val (.int (-2147483648 : Int32)), .unset, .unset] at_94 rfl ?_
    refine own_iloadN 96 rfl at_95 rfl ?_
    refine own_callS 99 rfl 3 21 0 [(.int (-2147483648 : Int32))] [] (y := (⟨"com/example/urd/urd/model/HashAlgorithm", "fromId", "(I)Ljava/util/Optional;"⟩ : MethodName)) (hw _ (List.mem_of_getElem? (i := 4) rfl)) (hw _ (List.mem_of_getElem? (i := 5) rfl)) (hw _ (List.mem_of_getElem? (i := 6) rfl)) (hw _ (List.mem_of_getElem? (i := 7) rfl)) (by decide) (rm1 l Z a0 hw [] (-2147483648 : Int32) w_VALUES c_w_VALUES w_SHA1 w_SHA256 w_SHA384 w_SHA512 w_EMPTY h17 I) at_96 rfl (lenOf own_pd5 rfl) rfl rfl rfl (by decide) (by decide) rfl rfl (by decide) (by decide) (own_kv fun v79 h79 q79 => ?_)
    obtain ⟨K79, hq79⟩ := q79
    rcases hq79 with ⟨hk, b79, rfl, E79x, F79v⟩ | ⟨hk, b79, rfl, E79x, F79v⟩ | ⟨hk, b79, rfl, E79x, F79v⟩ | ⟨hk, b79, rfl, E79x, F79v⟩ | ⟨hk, rfl⟩
    · have hdone := trivial
      exact absurd hk (by decide)
    · have hdone := trivial
      exact absurd hk (by decide)
    · have hdone := trivial
      exact absurd hk (by decide)
    · have hdone := trivial
      exact absurd hk (by decide)
    · obtain ⟨e0, e1, e2, e3⟩ := hk
      refine own_astore 101 rfl #[.val (.int p1), .val (.int p2), .val (.ref b1), .val (.int (-2147483648 : Int32)), .val (.ref w_EMPTY), .unset] at_99 rfl rfl ?_
      refine own_iloadN 102 rfl at_101 rfl ?_
      refine own_callS 105 rfl 3 21 0 [(.int (-2147483648 : Int32))] [] (y := (⟨"com/example/urd/urd/model/HashAlgorithmFromIdPinLaw", "expected", "(I)Lcom/example/urd/urd/model/HashAlgorithm;"⟩ : MethodName)) (hw _ (List.mem_of_getElem? (i := 48) rfl)) (hw _ (List.mem_of_getElem? (i := 49) rfl)) (hw _ (List.mem_of_getElem? (i := 50) rfl)) (hw _ (List.mem_of_getElem? (i := 51) rfl)) (by decide) (rm7 l Z a0 hw [] (-2147483648 : Int32) w_VALUES c_w_VALUES w_SHA1 w_SHA256 w_SHA384 w_SHA512 w_EMPTY h79 I) at_102 rfl (lenOf own_pd6 rfl) rfl rfl rfl (by decide) (by decide) rfl rfl (by decide) (by decide) (own_kv fun v80 h80 q80 => ?_)
      obtain ⟨rfl, e80⟩ := q80
      rw [e80]
      rw [show own_exp (-2147483648 : Int32) w_SHA1 w_SHA256 w_SHA384 w_SHA512 = .null from rfl]
      refine own_astore 107 rfl #[.val (.int p1), .val (.int p2), .val (.ref b1), .val (.int (-2147483648 : Int32)), .val (.ref w_EMPTY), .val .null] at_105 rfl rfl ?_
      refine own_aload 109 rfl at_107 rfl rfl ?_
      refine own_ifnonnullNo 112 rfl at_109 ?_
      refine own_aload 114 rfl at_112 rfl rfl ?_
      refine own_callV 117 rfl 3 21 0 [] [] (y := (⟨"java/util/Optional", "isEmpty", "()Z"⟩ : MethodName)) (z := (⟨"java/util/Optional", "isEmpty", "()Z"⟩ : MethodName)) (hw _ (List.mem_of_getElem? (i := 73) rfl)) (hw _ (List.mem_of_getElem? (i := 74) rfl)) (fun hZ => notFace_of_selects (args := #[]) (mvT hZ (hw _ (List.mem_of_getElem? (i := 76) rfl)))) (hw _ (List.mem_of_getElem? (i := 76) rfl)) (hw _ (List.mem_of_getElem? (i := 75) rfl)) (hw _ (List.mem_of_getElem? (i := 31) rfl)) (hw _ (List.mem_of_getElem? (i := 77) rfl)) (by decide) (((((((((((((((((((E_w_EMPTY.ext O0.2).ext E1).wr W2).wr W3).wr W4).wr W5).wr W6).wr W7).wr W8).wr W9).wr W10).wr W11).wr W12).wr W13).wr W14).wr W15).wr W16).wr W17).keep K79) (rm12 l Z a0 hw [] w_EMPTY  h79 (((((((((((((((((((F_w_EMPTY_value.ext O0.2).ext E1).other W2 (Or.inl ne_w_EMPTY_b1)).other W3 (Or.inl ne_w_EMPTY_b1)).other W4 (Or.inl ne_w_EMPTY_b1)).other W5 (Or.inl ne_w_EMPTY_b1)).other W6 (Or.inl ne_w_EMPTY_b1)).other W7 (Or.inl ne_w_EMPTY_b1)).other W8 (Or.inl ne_w_EMPTY_b1)).other W9 (Or.inl ne_w_EMPTY_b1)).other W10 (Or.inl ne_w_EMPTY_b1)).other W11 (Or.inl ne_w_EMPTY_b1)).other W12 (Or.inl ne_w_EMPTY_b1)).other W13 (Or.inl ne_w_EMPTY_b1)).other W14 (Or.inl ne_w_EMPTY_b1)).other W15 (Or.inl ne_w_EMPTY_b1)).other W16 (Or.inl ne_w_EMPTY_b1)).other W17 (Or.inl ne_w_EMPTY_b1)).keep K79 nin0)) at_114 rfl (lenOf own_pd7 rfl) rfl rfl rfl (by decide) (by decide) rfl rfl (by decide) (by decide) (own_kv fun v81 h81 q81 => ?_)
      obtain ⟨rfl, e81⟩ := q81
      rw [e81]
      refine own_retN rfl (by simp) at_117 (by decide) (by decide) ?_
      exact ⟨_, rfl, rfl⟩
  · have hin_k := (rfl : (14 : Int) = 14)
    obtain ⟨c82, A82, q82, S82, N82, H82, G82⟩ := id V17
    refine own_iaload 94 rfl A82 (inb_of S82 ⟨by decide, by decide⟩) (Has.at H82 (inb_of S82 ⟨by decide, by decide⟩) rfl) at_93 ?_
    refine own_istoreN 95 rfl #[.val (.int p1), .val (.int p2), .val (.ref b1), .val (.int p1), .unset, .unset] at_94 rfl ?_
    refine own_iloadN 96 rfl at_95 rfl ?_
    refine own_callS 99 rfl 3 21 0 [(.int p1)] [] (y := (⟨"com/example/urd/urd/model/HashAlgorithm", "fromId", "(I)Ljava/util/Optional;"⟩ : MethodName)) (hw _ (List.mem_of_getElem? (i := 4) rfl)) (hw _ (List.mem_of_getElem? (i := 5) rfl)) (hw _ (List.mem_of_getElem? (i := 6) rfl)) (hw _ (List.mem_of_getElem? (i := 7) rfl)) (by decide) (rm1 l Z a0 hw [] p1 w_VALUES c_w_VALUES w_SHA1 w_SHA256 w_SHA384 w_SHA512 w_EMPTY h17 I) at_96 rfl (lenOf own_pd5 rfl) rfl rfl rfl (by decide) (by decide) rfl rfl (by decide) (by decide) (own_kv fun v83 h83 q83 => ?_)
    obtain ⟨K83, hq83⟩ := q83
    rcases hq83 with ⟨rfl, b83, rfl, E83x, F83v⟩ | ⟨rfl, b83, rfl, E83x, F83v⟩ | ⟨rfl, b83, rfl, E83x, F83v⟩ | ⟨rfl, b83, rfl, E83x, F83v⟩ | ⟨hk, rfl⟩
    · have hdone := trivial
      refine own_astore 101 rfl #[.val (.int (4 : Int32)), .val (.int p2), .val (.ref b1), .val (.int (4 : Int32)), .val (.ref b83), .unset] at_99 rfl rfl ?_
      refine own_iloadN 102 rfl at_101 rfl ?_
      refine own_callS 105 rfl 3 21 0 [(.int (4 : Int32))] [] (y := (⟨"com/example/urd/urd/model/HashAlgorithmFromIdPinLaw", "expected", "(I)Lcom/example/urd/urd/model/HashAlgorithm;"⟩ : MethodName)) (hw _ (List.mem_of_getElem? (i := 48) rfl)) (hw _ (List.mem_of_getElem? (i := 49) rfl)) (hw _ (List.mem_of_getElem? (i := 50) rfl)) (hw _ (List.mem_of_getElem? (i := 51) rfl)) (by decide) (rm7 l Z a0 hw [] (4 : Int32) w_VALUES c_w_VALUES w_SHA1 w_SHA256 w_SHA384 w_SHA512 w_EMPTY h83 I) at_102 rfl (lenOf own_pd6 rfl) rfl rfl rfl (by decide) (by decide) rfl rfl (by decide) (by decide) (own_kv fun v84 h84 q84 => ?_)
      obtain ⟨rfl, e84⟩ := q84
      rw [e84]
      rw [show own_exp (4 : Int32) w_SHA1 w_SHA256 w_SHA384 w_SHA512 = .ref w_SHA1 from rfl]
      refine own_astore 107 rfl #[.val (.int (4 : Int32)), .val (.int p2), .val (.ref b1), .val (.int (4 : Int32)), .val (.ref b83), .val (.ref w_SHA1)] at_105 rfl rfl ?_
      refine own_aload 109 rfl at_107 rfl rfl ?_
      refine own_ifnonnullYes 118 at_109 (by decide) (by decide) ?_
      refine own_aload 120 rfl at_118 rfl rfl ?_
      refine own_callV 123 rfl 3 21 0 [] [] (y := (⟨"java/util/Optional", "isPresent", "()Z"⟩ : MethodName)) (z := (⟨"java/util/Optional", "isPresent", "()Z"⟩ : MethodName)) (hw _ (List.mem_of_getElem? (i := 53) rfl)) (hw _ (List.mem_of_getElem? (i := 54) rfl)) (fun hZ => notFace_of_selects (args := #[]) (mvT hZ (hw _ (List.mem_of_getElem? (i := 56) rfl)))) (hw _ (List.mem_of_getElem? (i := 56) rfl)) (hw _ (List.mem_of_getElem? (i := 55) rfl)) (hw _ (List.mem_of_getElem? (i := 31) rfl)) (hw _ (List.mem_of_getElem? (i := 57) rfl)) (by decide) E83x (rm8 l Z a0 hw [] b83 w_SHA1 h83 F83v) at_120 rfl (lenOf own_pd7 rfl) rfl rfl rfl (by decide) (by decide) rfl rfl (by decide) (by decide) (own_kv fun v85 h85 q85 => ?_)
      obtain ⟨rfl, e85⟩ := q85
      rw [e85]
      refine own_ifNo 126 rfl at_123 (feq (by decide : ¬ ((1 : Int32) = (0 : Int32)))).1 ?_
      refine own_aload 128 rfl at_126 rfl rfl ?_
      refine own_callV 131 rfl 3 21 0 [] [] (y := (⟨"java/util/Optional", "get", "()Ljava/lang/Object;"⟩ : MethodName)) (z := (⟨"java/util/Optional", "get", "()Ljava/lang/Object;"⟩ : MethodName)) (hw _ (List.mem_of_getElem? (i := 58) rfl)) (hw _ (List.mem_of_getElem? (i := 59) rfl)) (fun hZ => notFace_of_selects (args := #[]) (mvT hZ (hw _ (List.mem_of_getElem? (i := 61) rfl)))) (hw _ (List.mem_of_getElem? (i := 61) rfl)) (hw _ (List.mem_of_getElem? (i := 60) rfl)) (hw _ (List.mem_of_getElem? (i := 31) rfl)) (hw _ (List.mem_of_getElem? (i := 62) rfl)) (by decide) E83x (rm9 l Z a0 hw [] b83 w_SHA1 h83 F83v) at_128 rfl (lenOf own_pd8 rfl) rfl rfl rfl (by decide) (by decide) rfl rfl (by decide) (by decide) (own_kv fun v86 h86 q86 => ?_)
      obtain ⟨rfl, e86⟩ := q86
      rw [e86]
      refine own_aload 133 rfl at_131 rfl rfl ?_
      refine own_acmpNo 136 rfl at_133 rfl rfl (own_teq (rfl : ((.ref w_SHA1) : Value) = (.ref w_SHA1))).2 ?_
      refine own_aload 138 rfl at_136 rfl rfl ?_
      refine own_callV 141 rfl 3 21 0 [] [] (y := (⟨"com/example/urd/urd/model/HashAlgorithm", "id", "()I"⟩ : MethodName)) (z := (⟨"com/example/urd/urd/model/HashAlgorithm", "id", "()I"⟩ : MethodName)) (hw _ (List.mem_of_getElem? (i := 63) rfl)) (hw _ (List.mem_of_getElem? (i := 64) rfl)) (fun hZ => notFace_of_selects (args := #[]) (mvT hZ (hw _ (List.mem_of_getElem? (i := 66) rfl)))) (hw _ (List.mem_of_getElem? (i := 66) rfl)) (hw _ (List.mem_of_getElem? (i := 65) rfl)) (hw _ (List.mem_of_getElem? (i := 6) rfl)) (hw _ (List.mem_of_getElem? (i := 67) rfl)) (by decide) (((((((((((((((((((E_w_SHA1.ext O0.2).ext E1).wr W2).wr W3).wr W4).wr W5).wr W6).wr W7).wr W8).wr W9).wr W10).wr W11).wr W12).wr W13).wr W14).wr W15).wr W16).wr W17).keep K83) (rm10 l Z a0 hw [] w_SHA1 (4 : Int32) h83 (((((((((((((((((((F_w_SHA1_id.ext O0.2).ext E1).other W2 (Or.inl ne_w_SHA1_b1)).other W3 (Or.inl ne_w_SHA1_b1)).other W4 (Or.inl ne_w_SHA1_b1)).other W5 (Or.inl ne_w_SHA1_b1)).other W6 (Or.inl ne_w_SHA1_b1)).other W7 (Or.inl ne_w_SHA1_b1)).other W8 (Or.inl ne_w_SHA1_b1)).other W9 (Or.inl ne_w_SHA1_b1)).other W10 (Or.inl ne_w_SHA1_b1)).other W11 (Or.inl ne_w_SHA1_b1)).other W12 (Or.inl ne_w_SHA1_b1)).other W13 (Or.inl ne_w_SHA1_b1)).other W14 (Or.inl ne_w_SHA1_b1)).other W15 (Or.inl ne_w_SHA1_b1)).other W16 (Or.inl ne_w_SHA1_b1)).other W17 (Or.inl ne_w_SHA1_b1)).keep K83 nin0)) at_138 rfl (lenOf own_pd9 rfl) rfl rfl rfl (by decide) (by decide) rfl rfl (by decide) (by decide) (own_kv fun v87 h87 q87 => ?_)
      obtain ⟨rfl, e87⟩ := q87
      rw [e87]
      refine own_iloadN 142 rfl at_141 rfl ?_
      refine own_icmpNo 145 rfl at_142 (teq (rfl : (4 : Int32) = (4 : Int32))).2 ?_
      refine own_iconst 146 rfl (1 : Int32) at_145 rfl ?_
      refine own_goto 150 at_146 (by decide) (by decide) ?_
      refine own_retN rfl (by simp) at_150 (by decide) (by decide) ?_
      exact ⟨_, rfl, rfl⟩
    · have hdone := trivial
      refine own_astore 101 rfl #[.val (.int (11 : Int32)), .val (.int p2), .val (.ref b1), .val (.int (11 : Int32)), .val (.ref b83), .unset] at_99 rfl rfl ?_
      refine own_iloadN 102 rfl at_101 rfl ?_
      refine own_callS 105 rfl 3 21 0 [(.int (11 : Int32))] [] (y := (⟨"com/example/urd/urd/model/HashAlgorithmFromIdPinLaw", "expected", "(I)Lcom/example/urd/urd/model/HashAlgorithm;"⟩ : MethodName)) (hw _ (List.mem_of_getElem? (i := 48) rfl)) (hw _ (List.mem_of_getElem? (i := 49) rfl)) (hw _ (List.mem_of_getElem? (i := 50) rfl)) (hw _ (List.mem_of_getElem? (i := 51) rfl)) (by decide) (rm7 l Z a0 hw [] (11 : Int32) w_VALUES c_w_VALUES w_SHA1 w_SHA256 w_SHA384 w_SHA512 w_EMPTY h83 I) at_102 rfl (lenOf own_pd6 rfl) rfl rfl rfl (by decide) (by decide) rfl rfl (by decide) (by decide) (own_kv fun v88 h88 q88 => ?_)
      obtain ⟨rfl, e88⟩ := q88
      rw [e88]
      rw [show own_exp (11 : Int32) w_SHA1 w_SHA256 w_SHA384 w_SHA512 = .ref w_SHA256 from rfl]
      refine own_astore 107 rfl #[.val (.int (11 : Int32)), .val (.int p2), .val (.ref b1), .val (.int (11 : Int32)), .val (.ref b83), .val (.ref w_SHA256)] at_105 rfl rfl ?_
      refine own_aload 109 rfl at_107 rfl rfl ?_
      refine own_ifnonnullYes 118 at_109 (by decide) (by decide) ?_
      refine own_aload 120 rfl at_118 rfl rfl ?_
      refine own_callV 123 rfl 3 21 0 [] [] (y := (⟨"java/util/Optional", "isPresent", "()Z"⟩ : MethodName)) (z := (⟨"java/util/Optional", "isPresent", "()Z"⟩ : MethodName)) (hw _ (List.mem_of_getElem? (i := 53) rfl)) (hw _ (List.mem_of_getElem? (i := 54) rfl)) (fun hZ => notFace_of_selects (args := #[]) (mvT hZ (hw _ (List.mem_of_getElem? (i := 56) rfl)))) (hw _ (List.mem_of_getElem? (i := 56) rfl)) (hw _ (List.mem_of_getElem? (i := 55) rfl)) (hw _ (List.mem_of_getElem? (i := 31) rfl)) (hw _ (List.mem_of_getElem? (i := 57) rfl)) (by decide) E83x (rm8 l Z a0 hw [] b83 w_SHA256 h83 F83v) at_120 rfl (lenOf own_pd7 rfl) rfl rfl rfl (by decide) (by decide) rfl rfl (by decide) (by decide) (own_kv fun v89 h89 q89 => ?_)
      obtain ⟨rfl, e89⟩ := q89
      rw [e89]
      refine own_ifNo 126 rfl at_123 (feq (by decide : ¬ ((1 : Int32) = (0 : Int32)))).1 ?_
      refine own_aload 128 rfl at_126 rfl rfl ?_
      refine own_callV 131 rfl 3 21 0 [] [] (y := (⟨"java/util/Optional", "get", "()Ljava/lang/Object;"⟩ : MethodName)) (z := (⟨"java/util/Optional", "get", "()Ljava/lang/Object;"⟩ : MethodName)) (hw _ (List.mem_of_getElem? (i := 58) rfl)) (hw _ (List.mem_of_getElem? (i := 59) rfl)) (fun hZ => notFace_of_selects (args := #[]) (mvT hZ (hw _ (List.mem_of_getElem? (i := 61) rfl)))) (hw _ (List.mem_of_getElem? (i := 61) rfl)) (hw _ (List.mem_of_getElem? (i := 60) rfl)) (hw _ (List.mem_of_getElem? (i := 31) rfl)) (hw _ (List.mem_of_getElem? (i := 62) rfl)) (by decide) E83x (rm9 l Z a0 hw [] b83 w_SHA256 h83 F83v) at_128 rfl (lenOf own_pd8 rfl) rfl rfl rfl (by decide) (by decide) rfl rfl (by decide) (by decide) (own_kv fun v90 h90 q90 => ?_)
      obtain ⟨rfl, e90⟩ := q90
      rw [e90]
      refine own_aload 133 rfl at_131 rfl rfl ?_
      refine own_acmpNo 136 rfl at_133 rfl rfl (own_teq (rfl : ((.ref w_SHA256) : Value) = (.ref w_SHA256))).2 ?_
      refine own_aload 138 rfl at_136 rfl rfl ?_
      refine own_callV 141 rfl 3 21 0 [] [] (y := (⟨"com/example/urd/urd/model/HashAlgorithm", "id", "()I"⟩ : MethodName)) (z := (⟨"com/example/urd/urd/model/HashAlgorithm", "id", "()I"⟩ : MethodName)) (hw _ (List.mem_of_getElem? (i := 63) rfl)) (hw _ (List.mem_of_getElem? (i := 64) rfl)) (fun hZ => notFace_of_selects (args := #[]) (mvT hZ (hw _ (List.mem_of_getElem? (i := 66) rfl)))) (hw _ (List.mem_of_getElem? (i := 66) rfl)) (hw _ (List.mem_of_getElem? (i := 65) rfl)) (hw _ (List.mem_of_getElem? (i := 6) rfl)) (hw _ (List.mem_of_getElem? (i := 67) rfl)) (by decide) (((((((((((((((((((E_w_SHA256.ext O0.2).ext E1).wr W2).wr W3).wr W4).wr W5).wr W6).wr W7).wr W8).wr W9).wr W10).wr W11).wr W12).wr W13).wr W14).wr W15).wr W16).wr W17).keep K83) (rm10 l Z a0 hw [] w_SHA256 (11 : Int32) h83 (((((((((((((((((((F_w_SHA256_id.ext O0.2).ext E1).other W2 (Or.inl ne_w_SHA256_b1)).other W3 (Or.inl ne_w_SHA256_b1)).other W4 (Or.inl ne_w_SHA256_b1)).other W5 (Or.inl ne_w_SHA256_b1)).other W6 (Or.inl ne_w_SHA256_b1)).other W7 (Or.inl ne_w_SHA256_b1)).other W8 (Or.inl ne_w_SHA256_b1)).other W9 (Or.inl ne_w_SHA256_b1)).other W10 (Or.inl ne_w_SHA256_b1)).other W11 (Or.inl ne_w_SHA256_b1)).other W12 (Or.inl ne_w_SHA256_b1)).other W13 (Or.inl ne_w_SHA256_b1)).other W14 (Or.inl ne_w_SHA256_b1)).other W15 (Or.inl ne_w_SHA256_b1)).other W16 (Or.inl ne_w_SHA256_b1)).other W17 (Or.inl ne_w_SHA256_b1)).keep K83 nin0)) at_138 rfl (lenOf own_pd9 rfl) rfl rfl rfl (by decide) (by decide) rfl rfl (by decide) (by decide) (own_kv fun v91 h91 q91 => ?_)
      obtain ⟨rfl, e91⟩ := q91
      rw [e91]
      refine own_iloadN 142 rfl at_141 rfl ?_
      refine own_icmpNo 145 rfl at_142 (teq (rfl : (11 : Int32) = (11 : Int32))).2 ?_
      refine own_iconst 146 rfl (1 : Int32) at_145 rfl ?_
      refine own_goto 150 at_146 (by decide) (by decide) ?_
      refine own_retN rfl (by simp) at_150 (by decide) (by decide) ?_
      exact ⟨_, rfl, rfl⟩
    · have hdone := trivial
      refine own_astore 101 rfl #[.val (.int (12 : Int32)), .val (.int p2), .val (.ref b1), .val (.int (12 : Int32)), .val (.ref b83), .unset] at_99 rfl rfl ?_
      refine own_iloadN 102 rfl at_101 rfl ?_
      refine own_callS 105 rfl 3 21 0 [(.int (12 : Int32))] [] (y := (⟨"com/example/urd/urd/model/HashAlgorithmFromIdPinLaw", "expected", "(I)Lcom/example/urd/urd/model/HashAlgorithm;"⟩ : MethodName)) (hw _ (List.mem_of_getElem? (i := 48) rfl)) (hw _ (List.mem_of_getElem? (i := 49) rfl)) (hw _ (List.mem_of_getElem? (i := 50) rfl)) (hw _ (List.mem_of_getElem? (i := 51) rfl)) (by decide) (rm7 l Z a0 hw [] (12 : Int32) w_VALUES c_w_VALUES w_SHA1 w_SHA256 w_SHA384 w_SHA512 w_EMPTY h83 I) at_102 rfl (lenOf own_pd6 rfl) rfl rfl rfl (by decide) (by decide) rfl rfl (by decide) (by decide) (own_kv fun v92 h92 q92 => ?_)
      obtain ⟨rfl, e92⟩ := q92
      rw [e92]
      rw [show own_exp (12 : Int32) w_SHA1 w_SHA256 w_SHA384 w_SHA512 = .ref w_SHA384 from rfl]
      refine own_astore 107 rfl #[.val (.int (12 : Int32)), .val (.int p2), .val (.ref b1), .val (.int (12 : Int32)), .val (.ref b83), .val (.ref w_SHA384)] at_105 rfl rfl ?_
      refine own_aload 109 rfl at_107 rfl rfl ?_
      refine own_ifnonnullYes 118 at_109 (by decide) (by decide) ?_
      refine own_aload 120 rfl at_118 rfl rfl ?_
      refine own_callV 123 rfl 3 21 0 [] [] (y := (⟨"java/util/Optional", "isPresent", "()Z"⟩ : MethodName)) (z := (⟨"java/util/Optional", "isPresent", "()Z"⟩ : MethodName)) (hw _ (List.mem_of_getElem? (i := 53) rfl)) (hw _ (List.mem_of_getElem? (i := 54) rfl)) (fun hZ => notFace_of_selects (args := #[]) (mvT hZ (hw _ (List.mem_of_getElem? (i := 56) rfl)))) (hw _ (List.mem_of_getElem? (i := 56) rfl)) (hw _ (List.mem_of_getElem? (i := 55) rfl)) (hw _ (List.mem_of_getElem? (i := 31) rfl)) (hw _ (List.mem_of_getElem? (i := 57) rfl)) (by decide) E83x (rm8 l Z a0 hw [] b83 w_SHA384 h83 F83v) at_120 rfl (lenOf own_pd7 rfl) rfl rfl rfl (by decide) (by decide) rfl rfl (by decide) (by decide) (own_kv fun v93 h93 q93 => ?_)
      obtain ⟨rfl, e93⟩ := q93
      rw [e93]
      refine own_ifNo 126 rfl at_123 (feq (by decide : ¬ ((1 : Int32) = (0 : Int32)))).1 ?_
      refine own_aload 128 rfl at_126 rfl rfl ?_
      refine own_callV 131 rfl 3 21 0 [] [] (y := (⟨"java/util/Optional", "get", "()Ljava/lang/Object;"⟩ : MethodName)) (z := (⟨"java/util/Optional", "get", "()Ljava/lang/Object;"⟩ : MethodName)) (hw _ (List.mem_of_getElem? (i := 58) rfl)) (hw _ (List.mem_of_getElem? (i := 59) rfl)) (fun hZ => notFace_of_selects (args := #[]) (mvT hZ (hw _ (List.mem_of_getElem? (i := 61) rfl)))) (hw _ (List.mem_of_getElem? (i := 61) rfl)) (hw _ (List.mem_of_getElem? (i := 60) rfl)) (hw _ (List.mem_of_getElem? (i := 31) rfl)) (hw _ (List.mem_of_getElem? (i := 62) rfl)) (by decide) E83x (rm9 l Z a0 hw [] b83 w_SHA384 h83 F83v) at_128 rfl (lenOf own_pd8 rfl) rfl rfl rfl (by decide) (by decide) rfl rfl (by decide) (by decide) (own_kv fun v94 h94 q94 => ?_)
      obtain ⟨rfl, e94⟩ := q94
      rw [e94]
      refine own_aload 133 rfl at_131 rfl rfl ?_
      refine own_acmpNo 136 rfl at_133 rfl rfl (own_teq (rfl : ((.ref w_SHA384) : Value) = (.ref w_SHA384))).2 ?_
      refine own_aload 138 rfl at_136 rfl rfl ?_
      refine own_callV 141 rfl 3 21 0 [] [] (y := (⟨"com/example/urd/urd/model/HashAlgorithm", "id", "()I"⟩ : MethodName)) (z := (⟨"com/example/urd/urd/model/HashAlgorithm", "id", "()I"⟩ : MethodName)) (hw _ (List.mem_of_getElem? (i := 63) rfl)) (hw _ (List.mem_of_getElem? (i := 64) rfl)) (fun hZ => notFace_of_selects (args := #[]) (mvT hZ (hw _ (List.mem_of_getElem? (i := 66) rfl)))) (hw _ (List.mem_of_getElem? (i := 66) rfl)) (hw _ (List.mem_of_getElem? (i := 65) rfl)) (hw _ (List.mem_of_getElem? (i := 6) rfl)) (hw _ (List.mem_of_getElem? (i := 67) rfl)) (by decide) (((((((((((((((((((E_w_SHA384.ext O0.2).ext E1).wr W2).wr W3).wr W4).wr W5).wr W6).wr W7).wr W8).wr W9).wr W10).wr W11).wr W12).wr W13).wr W14).wr W15).wr W16).wr W17).keep K83) (rm10 l Z a0 hw [] w_SHA384 (12 : Int32) h83 (((((((((((((((((((F_w_SHA384_id.ext O0.2).ext E1).other W2 (Or.inl ne_w_SHA384_b1)).other W3 (Or.inl ne_w_SHA384_b1)).other W4 (Or.inl ne_w_SHA384_b1)).other W5 (Or.inl ne_w_SHA384_b1)).other W6 (Or.inl ne_w_SHA384_b1)).other W7 (Or.inl ne_w_SHA384_b1)).other W8 (Or.inl ne_w_SHA384_b1)).other W9 (Or.inl ne_w_SHA384_b1)).other W10 (Or.inl ne_w_SHA384_b1)).other W11 (Or.inl ne_w_SHA384_b1)).other W12 (Or.inl ne_w_SHA384_b1)).other W13 (Or.inl ne_w_SHA384_b1)).other W14 (Or.inl ne_w_SHA384_b1)).other W15 (Or.inl ne_w_SHA384_b1)).other W16 (Or.inl ne_w_SHA384_b1)).other W17 (Or.inl ne_w_SHA384_b1)).keep K83 nin0)) at_138 rfl (lenOf own_pd9 rfl) rfl rfl rfl (by decide) (by decide) rfl rfl (by decide) (by decide) (own_kv fun v95 h95 q95 => ?_)
      obtain ⟨rfl, e95⟩ := q95
      rw [e95]
      refine own_iloadN 142 rfl at_141 rfl ?_
      refine own_icmpNo 145 rfl at_142 (teq (rfl : (12 : Int32) = (12 : Int32))).2 ?_
      refine own_iconst 146 rfl (1 : Int32) at_145 rfl ?_
      refine own_goto 150 at_146 (by decide) (by decide) ?_
      refine own_retN rfl (by simp) at_150 (by decide) (by decide) ?_
      exact ⟨_, rfl, rfl⟩
    · have hdone := trivial
      refine own_astore 101 rfl #[.val (.int (13 : Int32)), .val (.int p2), .val (.ref b1), .val (.int (13 : Int32)), .val (.ref b83), .unset] at_99 rfl rfl ?_
      refine own_iloadN 102 rfl at_101 rfl ?_
      refine own_callS 105 rfl 3 21 0 [(.int (13 : Int32))] [] (y := (⟨"com/example/urd/urd/model/HashAlgorithmFromIdPinLaw", "expected", "(I)Lcom/example/urd/urd/model/HashAlgorithm;"⟩ : MethodName)) (hw _ (List.mem_of_getElem? (i := 48) rfl)) (hw _ (List.mem_of_getElem? (i := 49) rfl)) (hw _ (List.mem_of_getElem? (i := 50) rfl)) (hw _ (List.mem_of_getElem? (i := 51) rfl)) (by decide) (rm7 l Z a0 hw [] (13 : Int32) w_VALUES c_w_VALUES w_SHA1 w_SHA256 w_SHA384 w_SHA512 w_EMPTY h83 I) at_102 rfl (lenOf own_pd6 rfl) rfl rfl rfl (by decide) (by decide) rfl rfl (by decide) (by decide) (own_kv fun v96 h96 q96 => ?_)
      obtain ⟨rfl, e96⟩ := q96
      rw [e96]
      rw [show own_exp (13 : Int32) w_SHA1 w_SHA256 w_SHA384 w_SHA512 = .ref w_SHA512 from rfl]
      refine own_astore 107 rfl #[.val (.int (13 : Int32)), .val (.int p2), .val (.ref b1), .val (.int (13 : Int32)), .val (.ref b83), .val (.ref w_SHA512)] at_105 rfl rfl ?_
      refine own_aload 109 rfl at_107 rfl rfl ?_
      refine own_ifnonnullYes 118 at_109 (by decide) (by decide) ?_
      refine own_aload 120 rfl at_118 rfl rfl ?_
      refine own_callV 123 rfl 3 21 0 [] [] (y := (⟨"java/util/Optional", "isPresent", "()Z"⟩ : MethodName)) (z := (⟨"java/util/Optional", "isPresent", "()Z"⟩ : MethodName)) (hw _ (List.mem_of_getElem? (i := 53) rfl)) (hw _ (List.mem_of_getElem? (i := 54) rfl)) (fun hZ => notFace_of_selects (args := #[]) (mvT hZ (hw _ (List.mem_of_getElem? (i := 56) rfl)))) (hw _ (List.mem_of_getElem? (i := 56) rfl)) (hw _ (List.mem_of_getElem? (i := 55) rfl)) (hw _ (List.mem_of_getElem? (i := 31) rfl)) (hw _ (List.mem_of_getElem? (i := 57) rfl)) (by decide) E83x (rm8 l Z a0 hw [] b83 w_SHA512 h83 F83v) at_120 rfl (lenOf own_pd7 rfl) rfl rfl rfl (by decide) (by decide) rfl rfl (by decide) (by decide) (own_kv fun v97 h97 q97 => ?_)
      obtain ⟨rfl, e97⟩ := q97
      rw [e97]
      refine own_ifNo 126 rfl at_123 (feq (by decide : ¬ ((1 : Int32) = (0 : Int32)))).1 ?_
      refine own_aload 128 rfl at_126 rfl rfl ?_
      refine own_callV 131 rfl 3 21 0 [] [] (y := (⟨"java/util/Optional", "get", "()Ljava/lang/Object;"⟩ : MethodName)) (z := (⟨"java/util/Optional", "get", "()Ljava/lang/Object;"⟩ : MethodName)) (hw _ (List.mem_of_getElem? (i := 58) rfl)) (hw _ (List.mem_of_getElem? (i := 59) rfl)) (fun hZ => notFace_of_selects (args := #[]) (mvT hZ (hw _ (List.mem_of_getElem? (i := 61) rfl)))) (hw _ (List.mem_of_getElem? (i := 61) rfl)) (hw _ (List.mem_of_getElem? (i := 60) rfl)) (hw _ (List.mem_of_getElem? (i := 31) rfl)) (hw _ (List.mem_of_getElem? (i := 62) rfl)) (by decide) E83x (rm9 l Z a0 hw [] b83 w_SHA512 h83 F83v) at_128 rfl (lenOf own_pd8 rfl) rfl rfl rfl (by decide) (by decide) rfl rfl (by decide) (by decide) (own_kv fun v98 h98 q98 => ?_)
      obtain ⟨rfl, e98⟩ := q98
      rw [e98]
      refine own_aload 133 rfl at_131 rfl rfl ?_
      refine own_acmpNo 136 rfl at_133 rfl rfl (own_teq (rfl : ((.ref w_SHA512) : Value) = (.ref w_SHA512))).2 ?_
      refine own_aload 138 rfl at_136 rfl rfl ?_
      refine own_callV 141 rfl 3 21 0 [] [] (y := (⟨"com/example/urd/urd/model/HashAlgorithm", "id", "()I"⟩ : MethodName)) (z := (⟨"com/example/urd/urd/model/HashAlgorithm", "id", "()I"⟩ : MethodName)) (hw _ (List.mem_of_getElem? (i := 63) rfl)) (hw _ (List.mem_of_getElem? (i := 64) rfl)) (fun hZ => notFace_of_selects (args := #[]) (mvT hZ (hw _ (List.mem_of_getElem? (i := 66) rfl)))) (hw _ (List.mem_of_getElem? (i := 66) rfl)) (hw _ (List.mem_of_getElem? (i := 65) rfl)) (hw _ (List.mem_of_getElem? (i := 6) rfl)) (hw _ (List.mem_of_getElem? (i := 67) rfl)) (by decide) (((((((((((((((((((E_w_SHA512.ext O0.2).ext E1).wr W2).wr W3).wr W4).wr W5).wr W6).wr W7).wr W8).wr W9).wr W10).wr W11).wr W12).wr W13).wr W14).wr W15).wr W16).wr W17).keep K83) (rm10 l Z a0 hw [] w_SHA512 (13 : Int32) h83 (((((((((((((((((((F_w_SHA512_id.ext O0.2).ext E1).other W2 (Or.inl ne_w_SHA512_b1)).other W3 (Or.inl ne_w_SHA512_b1)).other W4 (Or.inl ne_w_SHA512_b1)).other W5 (Or.inl ne_w_SHA512_b1)).other W6 (Or.inl ne_w_SHA512_b1)).other W7 (Or.inl ne_w_SHA512_b1)).other W8 (Or.inl ne_w_SHA512_b1)).other W9 (Or.inl ne_w_SHA512_b1)).other W10 (Or.inl ne_w_SHA512_b1)).other W11 (Or.inl ne_w_SHA512_b1)).other W12 (Or.inl ne_w_SHA512_b1)).other W13 (Or.inl ne_w_SHA512_b1)).other W14 (Or.inl ne_w_SHA512_b1)).other W15 (Or.inl ne_w_SHA512_b1)).other W16 (Or.inl ne_w_SHA512_b1)).other W17 (Or.inl ne_w_SHA512_b1)).keep K83 nin0)) at_138 rfl (lenOf own_pd9 rfl) rfl rfl rfl (by decide) (by decide) rfl rfl (by decide) (by decide) (own_kv fun v99 h99 q99 => ?_)
      obtain ⟨rfl, e99⟩ := q99
      rw [e99]
      refine own_iloadN 142 rfl at_141 rfl ?_
      refine own_icmpNo 145 rfl at_142 (teq (rfl : (13 : Int32) = (13 : Int32))).2 ?_
      refine own_iconst 146 rfl (1 : Int32) at_145 rfl ?_
      refine own_goto 150 at_146 (by decide) (by decide) ?_
      refine own_retN rfl (by simp) at_150 (by decide) (by decide) ?_
      exact ⟨_, rfl, rfl⟩
    · obtain ⟨e0, e1, e2, e3⟩ := hk
      refine own_astore 101 rfl #[.val (.int p1), .val (.int p2), .val (.ref b1), .val (.int p1), .val (.ref w_EMPTY), .unset] at_99 rfl rfl ?_
      refine own_iloadN 102 rfl at_101 rfl ?_
      refine own_callS 105 rfl 3 21 0 [(.int p1)] [] (y := (⟨"com/example/urd/urd/model/HashAlgorithmFromIdPinLaw", "expected", "(I)Lcom/example/urd/urd/model/HashAlgorithm;"⟩ : MethodName)) (hw _ (List.mem_of_getElem? (i := 48) rfl)) (hw _ (List.mem_of_getElem? (i := 49) rfl)) (hw _ (List.mem_of_getElem? (i := 50) rfl)) (hw _ (List.mem_of_getElem? (i := 51) rfl)) (by decide) (rm7 l Z a0 hw [] p1 w_VALUES c_w_VALUES w_SHA1 w_SHA256 w_SHA384 w_SHA512 w_EMPTY h83 I) at_102 rfl (lenOf own_pd6 rfl) rfl rfl rfl (by decide) (by decide) rfl rfl (by decide) (by decide) (own_kv fun v100 h100 q100 => ?_)
      obtain ⟨rfl, e100⟩ := q100
      rw [e100]
      rw [show own_exp p1 w_SHA1 w_SHA256 w_SHA384 w_SHA512 = .null from by simp [own_exp, e0, e1, e2, e3]]
      refine own_astore 107 rfl #[.val (.int p1), .val (.int p2), .val (.ref b1), .val (.int p1), .val (.ref w_EMPTY), .val .null] at_105 rfl rfl ?_
      refine own_aload 109 rfl at_107 rfl rfl ?_
      refine own_ifnonnullNo 112 rfl at_109 ?_
      refine own_aload 114 rfl at_112 rfl rfl ?_
      refine own_callV 117 rfl 3 21 0 [] [] (y := (⟨"java/util/Optional", "isEmpty", "()Z"⟩ : MethodName)) (z := (⟨"java/util/Optional", "isEmpty", "()Z"⟩ : MethodName)) (hw _ (List.mem_of_getElem? (i := 73) rfl)) (hw _ (List.mem_of_getElem? (i := 74) rfl)) (fun hZ => notFace_of_selects (args := #[]) (mvT hZ (hw _ (List.mem_of_getElem? (i := 76) rfl)))) (hw _ (List.mem_of_getElem? (i := 76) rfl)) (hw _ (List.mem_of_getElem? (i := 75) rfl)) (hw _ (List.mem_of_getElem? (i := 31) rfl)) (hw _ (List.mem_of_getElem? (i := 77) rfl)) (by decide) (((((((((((((((((((E_w_EMPTY.ext O0.2).ext E1).wr W2).wr W3).wr W4).wr W5).wr W6).wr W7).wr W8).wr W9).wr W10).wr W11).wr W12).wr W13).wr W14).wr W15).wr W16).wr W17).keep K83) (rm12 l Z a0 hw [] w_EMPTY  h83 (((((((((((((((((((F_w_EMPTY_value.ext O0.2).ext E1).other W2 (Or.inl ne_w_EMPTY_b1)).other W3 (Or.inl ne_w_EMPTY_b1)).other W4 (Or.inl ne_w_EMPTY_b1)).other W5 (Or.inl ne_w_EMPTY_b1)).other W6 (Or.inl ne_w_EMPTY_b1)).other W7 (Or.inl ne_w_EMPTY_b1)).other W8 (Or.inl ne_w_EMPTY_b1)).other W9 (Or.inl ne_w_EMPTY_b1)).other W10 (Or.inl ne_w_EMPTY_b1)).other W11 (Or.inl ne_w_EMPTY_b1)).other W12 (Or.inl ne_w_EMPTY_b1)).other W13 (Or.inl ne_w_EMPTY_b1)).other W14 (Or.inl ne_w_EMPTY_b1)).other W15 (Or.inl ne_w_EMPTY_b1)).other W16 (Or.inl ne_w_EMPTY_b1)).other W17 (Or.inl ne_w_EMPTY_b1)).keep K83 nin0)) at_114 rfl (lenOf own_pd7 rfl) rfl rfl rfl (by decide) (by decide) rfl rfl (by decide) (by decide) (own_kv fun v101 h101 q101 => ?_)
      obtain ⟨rfl, e101⟩ := q101
      rw [e101]
      refine own_retN rfl (by simp) at_117 (by decide) (by decide) ?_
      exact ⟨_, rfl, rfl⟩
  · have hin_k := (rfl : (15 : Int) = 15)
    obtain ⟨c102, A102, q102, S102, N102, H102, G102⟩ := id V17
    refine own_iaload 94 rfl A102 (inb_of S102 ⟨by decide, by decide⟩) (Has.at H102 (inb_of S102 ⟨by decide, by decide⟩) rfl) at_93 ?_
    refine own_istoreN 95 rfl #[.val (.int p1), .val (.int p2), .val (.ref b1), .val (.int p1), .unset, .unset] at_94 rfl ?_
    refine own_iloadN 96 rfl at_95 rfl ?_
    refine own_callS 99 rfl 3 21 0 [(.int p1)] [] (y := (⟨"com/example/urd/urd/model/HashAlgorithm", "fromId", "(I)Ljava/util/Optional;"⟩ : MethodName)) (hw _ (List.mem_of_getElem? (i := 4) rfl)) (hw _ (List.mem_of_getElem? (i := 5) rfl)) (hw _ (List.mem_of_getElem? (i := 6) rfl)) (hw _ (List.mem_of_getElem? (i := 7) rfl)) (by decide) (rm1 l Z a0 hw [] p1 w_VALUES c_w_VALUES w_SHA1 w_SHA256 w_SHA384 w_SHA512 w_EMPTY h17 I) at_96 rfl (lenOf own_pd5 rfl) rfl rfl rfl (by decide) (by decide) rfl rfl (by decide) (by decide) (own_kv fun v103 h103 q103 => ?_)
    obtain ⟨K103, hq103⟩ := q103
    rcases hq103 with ⟨rfl, b103, rfl, E103x, F103v⟩ | ⟨rfl, b103, rfl, E103x, F103v⟩ | ⟨rfl, b103, rfl, E103x, F103v⟩ | ⟨rfl, b103, rfl, E103x, F103v⟩ | ⟨hk, rfl⟩
    · have hdone := trivial
      refine own_astore 101 rfl #[.val (.int (4 : Int32)), .val (.int p2), .val (.ref b1), .val (.int (4 : Int32)), .val (.ref b103), .unset] at_99 rfl rfl ?_
      refine own_iloadN 102 rfl at_101 rfl ?_
      refine own_callS 105 rfl 3 21 0 [(.int (4 : Int32))] [] (y := (⟨"com/example/urd/urd/model/HashAlgorithmFromIdPinLaw", "expected", "(I)Lcom/example/urd/urd/model/HashAlgorithm;"⟩ : MethodName)) (hw _ (List.mem_of_getElem? (i := 48) rfl)) (hw _ (List.mem_of_getElem? (i := 49) rfl)) (hw _ (List.mem_of_getElem? (i := 50) rfl)) (hw _ (List.mem_of_getElem? (i := 51) rfl)) (by decide) (rm7 l Z a0 hw [] (4 : Int32) w_VALUES c_w_VALUES w_SHA1 w_SHA256 w_SHA384 w_SHA512 w_EMPTY h103 I) at_102 rfl (lenOf own_pd6 rfl) rfl rfl rfl (by decide) (by decide) rfl rfl (by decide) (by decide) (own_kv fun v104 h104 q104 => ?_)
      obtain ⟨rfl, e104⟩ := q104
      rw [e104]
      rw [show own_exp (4 : Int32) w_SHA1 w_SHA256 w_SHA384 w_SHA512 = .ref w_SHA1 from rfl]
      refine own_astore 107 rfl #[.val (.int (4 : Int32)), .val (.int p2), .val (.ref b1), .val (.int (4 : Int32)), .val (.ref b103), .val (.ref w_SHA1)] at_105 rfl rfl ?_
      refine own_aload 109 rfl at_107 rfl rfl ?_
      refine own_ifnonnullYes 118 at_109 (by decide) (by decide) ?_
      refine own_aload 120 rfl at_118 rfl rfl ?_
      refine own_callV 123 rfl 3 21 0 [] [] (y := (⟨"java/util/Optional", "isPresent", "()Z"⟩ : MethodName)) (z := (⟨"java/util/Optional", "isPresent", "()Z"⟩ : MethodName)) (hw _ (List.mem_of_getElem? (i := 53) rfl)) (hw _ (List.mem_of_getElem? (i := 54) rfl)) (fun hZ => notFace_of_selects (args := #[]) (mvT hZ (hw _ (List.mem_of_getElem? (i := 56) rfl)))) (hw _ (List.mem_of_getElem? (i := 56) rfl)) (hw _ (List.mem_of_getElem? (i := 55) rfl)) (hw _ (List.mem_of_getElem? (i := 31) rfl)) (hw _ (List.mem_of_getElem? (i := 57) rfl)) (by decide) E103x (rm8 l Z a0 hw [] b103 w_SHA1 h103 F103v) at_120 rfl (lenOf own_pd7 rfl) rfl rfl rfl (by decide) (by decide) rfl rfl (by decide) (by decide) (own_kv fun v105 h105 q105 => ?_)
      obtain ⟨rfl, e105⟩ := q105
      rw [e105]
      refine own_ifNo 126 rfl at_123 (feq (by decide : ¬ ((1 : Int32) = (0 : Int32)))).1 ?_
      refine own_aload 128 rfl at_126 rfl rfl ?_
      refine own_callV 131 rfl 3 21 0 [] [] (y := (⟨"java/util/Optional", "get", "()Ljava/lang/Object;"⟩ : MethodName)) (z := (⟨"java/util/Optional", "get", "()Ljava/lang/Object;"⟩ : MethodName)) (hw _ (List.mem_of_getElem? (i := 58) rfl)) (hw _ (List.mem_of_getElem? (i := 59) rfl)) (fun hZ => notFace_of_selects (args := #[]) (mvT hZ (hw _ (List.mem_of_getElem? (i := 61) rfl)))) (hw _ (List.mem_of_getElem? (i := 61) rfl)) (hw _ (List.mem_of_getElem? (i := 60) rfl)) (hw _ (List.mem_of_getElem? (i := 31) rfl)) (hw _ (List.mem_of_getElem? (i := 62) rfl)) (by decide) E103x (rm9 l Z a0 hw [] b103 w_SHA1 h103 F103v) at_128 rfl (lenOf own_pd8 rfl) rfl rfl rfl (by decide) (by decide) rfl rfl (by decide) (by decide) (own_kv fun v106 h106 q106 => ?_)
      obtain ⟨rfl, e106⟩ := q106
      rw [e106]
      refine own_aload 133 rfl at_131 rfl rfl ?_
      refine own_acmpNo 136 rfl at_133 rfl rfl (own_teq (rfl : ((.ref w_SHA1) : Value) = (.ref w_SHA1))).2 ?_
      refine own_aload 138 rfl at_136 rfl rfl ?_
      refine own_callV 141 rfl 3 21 0 [] [] (y := (⟨"com/example/urd/urd/model/HashAlgorithm", "id", "()I"⟩ : MethodName)) (z := (⟨"com/example/urd/urd/model/HashAlgorithm", "id", "()I"⟩ : MethodName)) (hw _ (List.mem_of_getElem? (i := 63) rfl)) (hw _ (List.mem_of_getElem? (i := 64) rfl)) (fun hZ => notFace_of_selects (args := #[]) (mvT hZ (hw _ (List.mem_of_getElem? (i := 66) rfl)))) (hw _ (List.mem_of_getElem? (i := 66) rfl)) (hw _ (List.mem_of_getElem? (i := 65) rfl)) (hw _ (List.mem_of_getElem? (i := 6) rfl)) (hw _ (List.mem_of_getElem? (i := 67) rfl)) (by decide) (((((((((((((((((((E_w_SHA1.ext O0.2).ext E1).wr W2).wr W3).wr W4).wr W5).wr W6).wr W7).wr W8).wr W9).wr W10).wr W11).wr W12).wr W13).wr W14).wr W15).wr W16).wr W17).keep K103) (rm10 l Z a0 hw [] w_SHA1 (4 : Int32) h103 (((((((((((((((((((F_w_SHA1_id.ext O0.2).ext E1).other W2 (Or.inl ne_w_SHA1_b1)).other W3 (Or.inl ne_w_SHA1_b1)).other W4 (Or.inl ne_w_SHA1_b1)).other W5 (Or.inl ne_w_SHA1_b1)).other W6 (Or.inl ne_w_SHA1_b1)).other W7 (Or.inl ne_w_SHA1_b1)).other W8 (Or.inl ne_w_SHA1_b1)).other W9 (Or.inl ne_w_SHA1_b1)).other W10 (Or.inl ne_w_SHA1_b1)).other W11 (Or.inl ne_w_SHA1_b1)).other W12 (Or.inl ne_w_SHA1_b1)).other W13 (Or.inl ne_w_SHA1_b1)).other W14 (Or.inl ne_w_SHA1_b1)).other W15 (Or.inl ne_w_SHA1_b1)).other W16 (Or.inl ne_w_SHA1_b1)).other W17 (Or.inl ne_w_SHA1_b1)).keep K103 nin0)) at_138 rfl (lenOf own_pd9 rfl) rfl rfl rfl (by decide) (by decide) rfl rfl (by decide) (by decide) (own_kv fun v107 h107 q107 => ?_)
      obtain ⟨rfl, e107⟩ := q107
      rw [e107]
      refine own_iloadN 142 rfl at_141 rfl ?_
      refine own_icmpNo 145 rfl at_142 (teq (rfl : (4 : Int32) = (4 : Int32))).2 ?_
      refine own_iconst 146 rfl (1 : Int32) at_145 rfl ?_
      refine own_goto 150 at_146 (by decide) (by decide) ?_
      refine own_retN rfl (by simp) at_150 (by decide) (by decide) ?_
      exact ⟨_, rfl, rfl⟩
    · have hdone := trivial
      refine own_astore 101 rfl #[.val (.int (11 : Int32)), .val (.int p2), .val (.ref b1), .val (.int (11 : Int32)), .val (.ref b103), .unset] at_99 rfl rfl ?_
      refine own_iloadN 102 rfl at_101 rfl ?_
      refine own_callS 105 rfl 3 21 0 [(.int (11 : Int32))] [] (y := (⟨"com/example/urd/urd/model/HashAlgorithmFromIdPinLaw", "expected", "(I)Lcom/example/urd/urd/model/HashAlgorithm;"⟩ : MethodName)) (hw _ (List.mem_of_getElem? (i := 48) rfl)) (hw _ (List.mem_of_getElem? (i := 49) rfl)) (hw _ (List.mem_of_getElem? (i := 50) rfl)) (hw _ (List.mem_of_getElem? (i := 51) rfl)) (by decide) (rm7 l Z a0 hw [] (11 : Int32) w_VALUES c_w_VALUES w_SHA1 w_SHA256 w_SHA384 w_SHA512 w_EMPTY h103 I) at_102 rfl (lenOf own_pd6 rfl) rfl rfl rfl (by decide) (by decide) rfl rfl (by decide) (by decide) (own_kv fun v108 h108 q108 => ?_)
      obtain ⟨rfl, e108⟩ := q108
      rw [e108]
      rw [show own_exp (11 : Int32) w_SHA1 w_SHA256 w_SHA384 w_SHA512 = .ref w_SHA256 from rfl]
      refine own_astore 107 rfl #[.val (.int (11 : Int32)), .val (.int p2), .val (.ref b1), .val (.int (11 : Int32)), .val (.ref b103), .val (.ref w_SHA256)] at_105 rfl rfl ?_
      refine own_aload 109 rfl at_107 rfl rfl ?_
      refine own_ifnonnullYes 118 at_109 (by decide) (by decide) ?_
      refine own_aload 120 rfl at_118 rfl rfl ?_
      refine own_callV 123 rfl 3 21 0 [] [] (y := (⟨"java/util/Optional", "isPresent", "()Z"⟩ : MethodName)) (z := (⟨"java/util/Optional", "isPresent", "()Z"⟩ : MethodName)) (hw _ (List.mem_of_getElem? (i := 53) rfl)) (hw _ (List.mem_of_getElem? (i := 54) rfl)) (fun hZ => notFace_of_selects (args := #[]) (mvT hZ (hw _ (List.mem_of_getElem? (i := 56) rfl)))) (hw _ (List.mem_of_getElem? (i := 56) rfl)) (hw _ (List.mem_of_getElem? (i := 55) rfl)) (hw _ (List.mem_of_getElem? (i := 31) rfl)) (hw _ (List.mem_of_getElem? (i := 57) rfl)) (by decide) E103x (rm8 l Z a0 hw [] b103 w_SHA256 h103 F103v) at_120 rfl (lenOf own_pd7 rfl) rfl rfl rfl (by decide) (by decide) rfl rfl (by decide) (by decide) (own_kv fun v109 h109 q109 => ?_)
      obtain ⟨rfl, e109⟩ := q109
      rw [e109]
      refine own_ifNo 126 rfl at_123 (feq (by decide : ¬ ((1 : Int32) = (0 : Int32)))).1 ?_
      refine own_aload 128 rfl at_126 rfl rfl ?_
      refine own_callV 131 rfl 3 21 0 [] [] (y := (⟨"java/util/Optional", "get", "()Ljava/lang/Object;"⟩ : MethodName)) (z := (⟨"java/util/Optional", "get", "()Ljava/lang/Object;"⟩ : MethodName)) (hw _ (List.mem_of_getElem? (i := 58) rfl)) (hw _ (List.mem_of_getElem? (i := 59) rfl)) (fun hZ => notFace_of_selects (args := #[]) (mvT hZ (hw _ (List.mem_of_getElem? (i := 61) rfl)))) (hw _ (List.mem_of_getElem? (i := 61) rfl)) (hw _ (List.mem_of_getElem? (i := 60) rfl)) (hw _ (List.mem_of_getElem? (i := 31) rfl)) (hw _ (List.mem_of_getElem? (i := 62) rfl)) (by decide) E103x (rm9 l Z a0 hw [] b103 w_SHA256 h103 F103v) at_128 rfl (lenOf own_pd8 rfl) rfl rfl rfl (by decide) (by decide) rfl rfl (by decide) (by decide) (own_kv fun v110 h110 q110 => ?_)
      obtain ⟨rfl, e110⟩ := q110
      rw [e110]
      refine own_aload 133 rfl at_131 rfl rfl ?_
      refine own_acmpNo 136 rfl at_133 rfl rfl (own_teq (rfl : ((.ref w_SHA256) : Value) = (.ref w_SHA256))).2 ?_
      refine own_aload 138 rfl at_136 rfl rfl ?_
      refine own_callV 141 rfl 3 21 0 [] [] (y := (⟨"com/example/urd/urd/model/HashAlgorithm", "id", "()I"⟩ : MethodName)) (z := (⟨"com/example/urd/urd/model/HashAlgorithm", "id", "()I"⟩ : MethodName)) (hw _ (List.mem_of_getElem? (i := 63) rfl)) (hw _ (List.mem_of_getElem? (i := 64) rfl)) (fun hZ => notFace_of_selects (args := #[]) (mvT hZ (hw _ (List.mem_of_getElem? (i := 66) rfl)))) (hw _ (List.mem_of_getElem? (i := 66) rfl)) (hw _ (List.mem_of_getElem? (i := 65) rfl)) (hw _ (List.mem_of_getElem? (i := 6) rfl)) (hw _ (List.mem_of_getElem? (i := 67) rfl)) (by decide) (((((((((((((((((((E_w_SHA256.ext O0.2).ext E1).wr W2).wr W3).wr W4).wr W5).wr W6).wr W7).wr W8).wr W9).wr W10).wr W11).wr W12).wr W13).wr W14).wr W15).wr W16).wr W17).keep K103) (rm10 l Z a0 hw [] w_SHA256 (11 : Int32) h103 (((((((((((((((((((F_w_SHA256_id.ext O0.2).ext E1).other W2 (Or.inl ne_w_SHA256_b1)).other W3 (Or.inl ne_w_SHA256_b1)).other W4 (Or.inl ne_w_SHA256_b1)).other W5 (Or.inl ne_w_SHA256_b1)).other W6 (Or.inl ne_w_SHA256_b1)).other W7 (Or.inl ne_w_SHA256_b1)).other W8 (Or.inl ne_w_SHA256_b1)).other W9 (Or.inl ne_w_SHA256_b1)).other W10 (Or.inl ne_w_SHA256_b1)).other W11 (Or.inl ne_w_SHA256_b1)).other W12 (Or.inl ne_w_SHA256_b1)).other W13 (Or.inl ne_w_SHA256_b1)).other W14 (Or.inl ne_w_SHA256_b1)).other W15 (Or.inl ne_w_SHA256_b1)).other W16 (Or.inl ne_w_SHA256_b1)).other W17 (Or.inl ne_w_SHA256_b1)).keep K103 nin0)) at_138 rfl (lenOf own_pd9 rfl) rfl rfl rfl (by decide) (by decide) rfl rfl (by decide) (by decide) (own_kv fun v111 h111 q111 => ?_)
      obtain ⟨rfl, e111⟩ := q111
      rw [e111]
      refine own_iloadN 142 rfl at_141 rfl ?_
      refine own_icmpNo 145 rfl at_142 (teq (rfl : (11 : Int32) = (11 : Int32))).2 ?_
      refine own_iconst 146 rfl (1 : Int32) at_145 rfl ?_
      refine own_goto 150 at_146 (by decide) (by decide) ?_
      refine own_retN rfl (by simp) at_150 (by decide) (by decide) ?_
      exact ⟨_, rfl, rfl⟩
    · have hdone := trivial
      refine own_astore 101 rfl #[.val (.int (12 : Int32)), .val (.int p2), .val (.ref b1), .val (.int (12 : Int32)), .val (.ref b103), .unset] at_99 rfl rfl ?_
      refine own_iloadN 102 rfl at_101 rfl ?_
      refine own_callS 105 rfl 3 21 0 [(.int (12 : Int32))] [] (y := (⟨"com/example/urd/urd/model/HashAlgorithmFromIdPinLaw", "expected", "(I)Lcom/example/urd/urd/model/HashAlgorithm;"⟩ : MethodName)) (hw _ (List.mem_of_getElem? (i := 48) rfl)) (hw _ (List.mem_of_getElem? (i := 49) rfl)) (hw _ (List.mem_of_getElem? (i := 50) rfl)) (hw _ (List.mem_of_getElem? (i := 51) rfl)) (by decide) (rm7 l Z a0 hw [] (12 : Int32) w_VALUES c_w_VALUES w_SHA1 w_SHA256 w_SHA384 w_SHA512 w_EMPTY h103 I) at_102 rfl (lenOf own_pd6 rfl) rfl rfl rfl (by decide) (by decide) rfl rfl (by decide) (by decide) (own_kv fun v112 h112 q112 => ?_)
      obtain ⟨rfl, e112⟩ := q112
      rw [e112]
      rw [show own_exp (12 : Int32) w_SHA1 w_SHA256 w_SHA384 w_SHA512 = .ref w_SHA384 from rfl]
      refine own_astore 107 rfl #[.val (.int (12 : Int32)), .val (.int p2), .val (.ref b1), .val (.int (12 : Int32)), .val (.ref b103), .val (.ref w_SHA384)] at_105 rfl rfl ?_
      refine own_aload 109 rfl at_107 rfl rfl ?_
      refine own_ifnonnullYes 118 at_109 (by decide) (by decide) ?_
      refine own_aload 120 rfl at_118 rfl rfl ?_
      refine own_callV 123 rfl 3 21 0 [] [] (y := (⟨"java/util/Optional", "isPresent", "()Z"⟩ : MethodName)) (z := (⟨"java/util/Optional", "isPresent", "()Z"⟩ : MethodName)) (hw _ (List.mem_of_getElem? (i := 53) rfl)) (hw _ (List.mem_of_getElem? (i := 54) rfl)) (fun hZ => notFace_of_selects (args := #[]) (mvT hZ (hw _ (List.mem_of_getElem? (i := 56) rfl)))) (hw _ (List.mem_of_getElem? (i := 56) rfl)) (hw _ (List.mem_of_getElem? (i := 55) rfl)) (hw _ (List.mem_of_getElem? (i := 31) rfl)) (hw _ (List.mem_of_getElem? (i := 57) rfl)) (by decide) E103x (rm8 l Z a0 hw [] b103 w_SHA384 h103 F103v) at_120 rfl (lenOf own_pd7 rfl) rfl rfl rfl (by decide) (by decide) rfl rfl (by decide) (by decide) (own_kv fun v113 h113 q113 => ?_)
      obtain ⟨rfl, e113⟩ := q113
      rw [e113]
      refine own_ifNo 126 rfl at_123 (feq (by decide : ¬ ((1 : Int32) = (0 : Int32)))).1 ?_
      refine own_aload 128 rfl at_126 rfl rfl ?_
      refine own_callV 131 rfl 3 21 0 [] [] (y := (⟨"java/util/Optional", "get", "()Ljava/lang/Object;"⟩ : MethodName)) (z := (⟨"java/util/Optional", "get", "()Ljava/lang/Object;"⟩ : MethodName)) (hw _ (List.mem_of_getElem? (i := 58) rfl)) (hw _ (List.mem_of_getElem? (i := 59) rfl)) (fun hZ => notFace_of_selects (args := #[]) (mvT hZ (hw _ (List.mem_of_getElem? (i := 61) rfl)))) (hw _ (List.mem_of_getElem? (i := 61) rfl)) (hw _ (List.mem_of_getElem? (i := 60) rfl)) (hw _ (List.mem_of_getElem? (i := 31) rfl)) (hw _ (List.mem_of_getElem? (i := 62) rfl)) (by decide) E103x (rm9 l Z a0 hw [] b103 w_SHA384 h103 F103v) at_128 rfl (lenOf own_pd8 rfl) rfl rfl rfl (by decide) (by decide) rfl rfl (by decide) (by decide) (own_kv fun v114 h114 q114 => ?_)
      obtain ⟨rfl, e114⟩ := q114
      rw [e114]
      refine own_aload 133 rfl at_131 rfl rfl ?_
      refine own_acmpNo 136 rfl at_133 rfl rfl (own_teq (rfl : ((.ref w_SHA384) : Value) = (.ref w_SHA384))).2 ?_
      refine own_aload 138 rfl at_136 rfl rfl ?_
      refine own_callV 141 rfl 3 21 0 [] [] (y := (⟨"com/example/urd/urd/model/HashAlgorithm", "id", "()I"⟩ : MethodName)) (z := (⟨"com/example/urd/urd/model/HashAlgorithm", "id", "()I"⟩ : MethodName)) (hw _ (List.mem_of_getElem? (i := 63) rfl)) (hw _ (List.mem_of_getElem? (i := 64) rfl)) (fun hZ => notFace_of_selects (args := #[]) (mvT hZ (hw _ (List.mem_of_getElem? (i := 66) rfl)))) (hw _ (List.mem_of_getElem? (i := 66) rfl)) (hw _ (List.mem_of_getElem? (i := 65) rfl)) (hw _ (List.mem_of_getElem? (i := 6) rfl)) (hw _ (List.mem_of_getElem? (i := 67) rfl)) (by decide) (((((((((((((((((((E_w_SHA384.ext O0.2).ext E1).wr W2).wr W3).wr W4).wr W5).wr W6).wr W7).wr W8).wr W9).wr W10).wr W11).wr W12).wr W13).wr W14).wr W15).wr W16).wr W17).keep K103) (rm10 l Z a0 hw [] w_SHA384 (12 : Int32) h103 (((((((((((((((((((F_w_SHA384_id.ext O0.2).ext E1).other W2 (Or.inl ne_w_SHA384_b1)).other W3 (Or.inl ne_w_SHA384_b1)).other W4 (Or.inl ne_w_SHA384_b1)).other W5 (Or.inl ne_w_SHA384_b1)).other W6 (Or.inl ne_w_SHA384_b1)).other W7 (Or.inl ne_w_SHA384_b1)).other W8 (Or.inl ne_w_SHA384_b1)).other W9 (Or.inl ne_w_SHA384_b1)).other W10 (Or.inl ne_w_SHA384_b1)).other W11 (Or.inl ne_w_SHA384_b1)).other W12 (Or.inl ne_w_SHA384_b1)).other W13 (Or.inl ne_w_SHA384_b1)).other W14 (Or.inl ne_w_SHA384_b1)).other W15 (Or.inl ne_w_SHA384_b1)).other W16 (Or.inl ne_w_SHA384_b1)).other W17 (Or.inl ne_w_SHA384_b1)).keep K103 nin0)) at_138 rfl (lenOf own_pd9 rfl) rfl rfl rfl (by decide) (by decide) rfl rfl (by decide) (by decide) (own_kv fun v115 h115 q115 => ?_)
      obtain ⟨rfl, e115⟩ := q115
      rw [e115]
      refine own_iloadN 142 rfl at_141 rfl ?_
      refine own_icmpNo 145 rfl at_142 (teq (rfl : (12 : Int32) = (12 : Int32))).2 ?_
      refine own_iconst 146 rfl (1 : Int32) at_145 rfl ?_
      refine own_goto 150 at_146 (by decide) (by decide) ?_
      refine own_retN rfl (by simp) at_150 (by decide) (by decide) ?_
      exact ⟨_, rfl, rfl⟩
    · have hdone := trivial
      refine own_astore 101 rfl #[.val (.int (13 : Int32)), .val (.int p2), .val (.ref b1), .val (.int (13 : Int32)), .val (.ref b103), .unset] at_99 rfl rfl ?_
      refine own_iloadN 102 rfl at_101 rfl ?_
      refine own_callS 105 rfl 3 21 0 [(.int (13 : Int32))] [] (y := (⟨"com/example/urd/urd/model/HashAlgorithmFromIdPinLaw", "expected", "(I)Lcom/example/urd/urd/model/HashAlgorithm;"⟩ : MethodName)) (hw _ (List.mem_of_getElem? (i := 48) rfl)) (hw _ (List.mem_of_getElem? (i := 49) rfl)) (hw _ (List.mem_of_getElem? (i := 50) rfl)) (hw _ (List.mem_of_getElem? (i := 51) rfl)) (by decide) (rm7 l Z a0 hw [] (13 : Int32) w_VALUES c_w_VALUES w_SHA1 w_SHA256 w_SHA384 w_SHA512 w_EMPTY h103 I) at_102 rfl (lenOf own_pd6 rfl) rfl rfl rfl (by decide) (by decide) rfl rfl (by decide) (by decide) (own_kv fun v116 h116 q116 => ?_)
      obtain ⟨rfl, e116⟩ := q116
      rw [e116]
      rw [show own_exp (13 : Int32) w_SHA1 w_SHA256 w_SHA384 w_SHA512 = .ref w_SHA512 from rfl]
      refine own_astore 107 rfl #[.val (.int (13 : Int32)), .val (.int p2), .val (.ref b1), .val (.int (13 : Int32)), .val (.ref b103), .val (.ref w_SHA512)] at_105 rfl rfl ?_
      refine own_aload 109 rfl at_107 rfl rfl ?_
      refine own_ifnonnullYes 118 at_109 (by decide) (by decide) ?_
      refine own_aload 120 rfl at_118 rfl rfl ?_
      refine own_callV 123 rfl 3 21 0 [] [] (y := (⟨"java/util/Optional", "isPresent", "()Z"⟩ : MethodName)) (z := (⟨"java/util/Optional", "isPresent", "()Z"⟩ : MethodName)) (hw _ (List.mem_of_getElem? (i := 53) rfl)) (hw _ (List.mem_of_getElem? (i := 54) rfl)) (fun hZ => notFace_of_selects (args := #[]) (mvT hZ (hw _ (List.mem_of_getElem? (i := 56) rfl)))) (hw _ (List.mem_of_getElem? (i := 56) rfl)) (hw _ (List.mem_of_getElem? (i := 55) rfl)) (hw _ (List.mem_of_getElem? (i := 31) rfl)) (hw _ (List.mem_of_getElem? (i := 57) rfl)) (by decide) E103x (rm8 l Z a0 hw [] b103 w_SHA512 h103 F103v) at_120 rfl (lenOf own_pd7 rfl) rfl rfl rfl (by decide) (by decide) rfl rfl (by decide) (by decide) (own_kv fun v117 h117 q117 => ?_)
      obtain ⟨rfl, e117⟩ := q117
      rw [e117]
      refine own_ifNo 126 rfl at_123 (feq (by decide : ¬ ((1 : Int32) = (0 : Int32)))).1 ?_
      refine own_aload 128 rfl at_126 rfl rfl ?_
      refine own_callV 131 rfl 3 21 0 [] [] (y := (⟨"java/util/Optional", "get", "()Ljava/lang/Object;"⟩ : MethodName)) (z := (⟨"java/util/Optional", "get", "()Ljava/lang/Object;"⟩ : MethodName)) (hw _ (List.mem_of_getElem? (i := 58) rfl)) (hw _ (List.mem_of_getElem? (i := 59) rfl)) (fun hZ => notFace_of_selects (args := #[]) (mvT hZ (hw _ (List.mem_of_getElem? (i := 61) rfl)))) (hw _ (List.mem_of_getElem? (i := 61) rfl)) (hw _ (List.mem_of_getElem? (i := 60) rfl)) (hw _ (List.mem_of_getElem? (i := 31) rfl)) (hw _ (List.mem_of_getElem? (i := 62) rfl)) (by decide) E103x (rm9 l Z a0 hw [] b103 w_SHA512 h103 F103v) at_128 rfl (lenOf own_pd8 rfl) rfl rfl rfl (by decide) (by decide) rfl rfl (by decide) (by decide) (own_kv fun v118 h118 q118 => ?_)
      obtain ⟨rfl, e118⟩ := q118
      rw [e118]
      refine own_aload 133 rfl at_131 rfl rfl ?_
      refine own_acmpNo 136 rfl at_133 rfl rfl (own_teq (rfl : ((.ref w_SHA512) : Value) = (.ref w_SHA512))).2 ?_
      refine own_aload 138 rfl at_136 rfl rfl ?_
      refine own_callV 141 rfl 3 21 0 [] [] (y := (⟨"com/example/urd/urd/model/HashAlgorithm", "id", "()I"⟩ : MethodName)) (z := (⟨"com/example/urd/urd/model/HashAlgorithm", "id", "()I"⟩ : MethodName)) (hw _ (List.mem_of_getElem? (i := 63) rfl)) (hw _ (List.mem_of_getElem? (i := 64) rfl)) (fun hZ => notFace_of_selects (args := #[]) (mvT hZ (hw _ (List.mem_of_getElem? (i := 66) rfl)))) (hw _ (List.mem_of_getElem? (i := 66) rfl)) (hw _ (List.mem_of_getElem? (i := 65) rfl)) (hw _ (List.mem_of_getElem? (i := 6) rfl)) (hw _ (List.mem_of_getElem? (i := 67) rfl)) (by decide) (((((((((((((((((((E_w_SHA512.ext O0.2).ext E1).wr W2).wr W3).wr W4).wr W5).wr W6).wr W7).wr W8).wr W9).wr W10).wr W11).wr W12).wr W13).wr W14).wr W15).wr W16).wr W17).keep K103) (rm10 l Z a0 hw [] w_SHA512 (13 : Int32) h103 (((((((((((((((((((F_w_SHA512_id.ext O0.2).ext E1).other W2 (Or.inl ne_w_SHA512_b1)).other W3 (Or.inl ne_w_SHA512_b1)).other W4 (Or.inl ne_w_SHA512_b1)).other W5 (Or.inl ne_w_SHA512_b1)).other W6 (Or.inl ne_w_SHA512_b1)).other W7 (Or.inl ne_w_SHA512_b1)).other W8 (Or.inl ne_w_SHA512_b1)).other W9 (Or.inl ne_w_SHA512_b1)).other W10 (Or.inl ne_w_SHA512_b1)).other W11 (Or.inl ne_w_SHA512_b1)).other W12 (Or.inl ne_w_SHA512_b1)).other W13 (Or.inl ne_w_SHA512_b1)).other W14 (Or.inl ne_w_SHA512_b1)).other W15 (Or.inl ne_w_SHA512_b1)).other W16 (Or.inl ne_w_SHA512_b1)).other W17 (Or.inl ne_w_SHA512_b1)).keep K103 nin0)) at_138 rfl (lenOf own_pd9 rfl) rfl rfl rfl (by decide) (by decide) rfl rfl (by decide) (by decide) (own_kv fun v119 h119 q119 => ?_)
      obtain ⟨rfl, e119⟩ := q119
      rw [e119]
      refine own_iloadN 142 rfl at_141 rfl ?_
      refine own_icmpNo 145 rfl at_142 (teq (rfl : (13 : Int32) = (13 : Int32))).2 ?_
      refine own_iconst 146 rfl (1 : Int32) at_145 rfl ?_
      refine own_goto 150 at_146 (by decide) (by decide) ?_
      refine own_retN rfl (by simp) at_150 (by decide) (by decide) ?_
      exact ⟨_, rfl, rfl⟩
    · obtain ⟨e0, e1, e2, e3⟩ := hk
      refine own_astore 101 rfl #[.val (.int p1), .val (.int p2), .val (.ref b1), .val (.int p1), .val (.ref w_EMPTY), .unset] at_99 rfl rfl ?_
      refine own_iloadN 102 rfl at_101 rfl ?_
      refine own_callS 105 rfl 3 21 0 [(.int p1)] [] (y := (⟨"com/example/urd/urd/model/HashAlgorithmFromIdPinLaw", "expected", "(I)Lcom/example/urd/urd/model/HashAlgorithm;"⟩ : MethodName)) (hw _ (List.mem_of_getElem? (i := 48) rfl)) (hw _ (List.mem_of_getElem? (i := 49) rfl)) (hw _ (List.mem_of_getElem? (i := 50) rfl)) (hw _ (List.mem_of_getElem? (i := 51) rfl)) (by decide) (rm7 l Z a0 hw [] p1 w_VALUES c_w_VALUES w_SHA1 w_SHA256 w_SHA384 w_SHA512 w_EMPTY h103 I) at_102 rfl (lenOf own_pd6 rfl) rfl rfl rfl (by decide) (by decide) rfl rfl (by decide) (by decide) (own_kv fun v120 h120 q120 => ?_)
      obtain ⟨rfl, e120⟩ := q120
      rw [e120]
      rw [show own_exp p1 w_SHA1 w_SHA256 w_SHA384 w_SHA512 = .null from by simp [own_exp, e0, e1, e2, e3]]
      refine own_astore 107 rfl #[.val (.int p1), .val (.int p2), .val (.ref b1), .val (.int p1), .val (.ref w_EMPTY), .val .null] at_105 rfl rfl ?_
      refine own_aload 109 rfl at_107 rfl rfl ?_
      refine own_ifnonnullNo 112 rfl at_109 ?_
      refine own_aload 114 rfl at_112 rfl rfl ?_
      refine own_callV 117 rfl 3 21 0 [] [] (y := (⟨"java/util/Optional", "isEmpty", "()Z"⟩ : MethodName)) (z := (⟨"java/util/Optional", "isEmpty", "()Z"⟩ : MethodName)) (hw _ (List.mem_of_getElem? (i := 73) rfl)) (hw _ (List.mem_of_getElem? (i := 74) rfl)) (fun hZ => notFace_of_selects (args := #[]) (mvT hZ (hw _ (List.mem_of_getElem? (i := 76) rfl)))) (hw _ (List.mem_of_getElem? (i := 76) rfl)) (hw _ (List.mem_of_getElem? (i := 75) rfl)) (hw _ (List.mem_of_getElem? (i := 31) rfl)) (hw _ (List.mem_of_getElem? (i := 77) rfl)) (by decide) (((((((((((((((((((E_w_EMPTY.ext O0.2).ext E1).wr W2).wr W3).wr W4).wr W5).wr W6).wr W7).wr W8).wr W9).wr W10).wr W11).wr W12).wr W13).wr W14).wr W15).wr W16).wr W17).keep K103) (rm12 l Z a0 hw [] w_EMPTY  h103 (((((((((((((((((((F_w_EMPTY_value.ext O0.2).ext E1).other W2 (Or.inl ne_w_EMPTY_b1)).other W3 (Or.inl ne_w_EMPTY_b1)).other W4 (Or.inl ne_w_EMPTY_b1)).other W5 (Or.inl ne_w_EMPTY_b1)).other W6 (Or.inl ne_w_EMPTY_b1)).other W7 (Or.inl ne_w_EMPTY_b1)).other W8 (Or.inl ne_w_EMPTY_b1)).other W9 (Or.inl ne_w_EMPTY_b1)).other W10 (Or.inl ne_w_EMPTY_b1)).other W11 (Or.inl ne_w_EMPTY_b1)).other W12 (Or.inl ne_w_EMPTY_b1)).other W13 (Or.inl ne_w_EMPTY_b1)).other W14 (Or.inl ne_w_EMPTY_b1)).other W15 (Or.inl ne_w_EMPTY_b1)).other W16 (Or.inl ne_w_EMPTY_b1)).other W17 (Or.inl ne_w_EMPTY_b1)).keep K103 nin0)) at_114 rfl (lenOf own_pd7 rfl) rfl rfl rfl (by decide) (by decide) rfl rfl (by decide) (by decide) (own_kv fun v121 h121 q121 => ?_)
      obtain ⟨rfl, e121⟩ := q121
      rw [e121]
      refine own_retN rfl (by simp) at_117 (by decide) (by decide) ?_
      exact ⟨_, rfl, rfl⟩
set_option maxRecDepth 65536 in
set_option maxHeartbeats 40000000 in
theorem comes_1 {Post : Tables → Env → Array Value → State → Outcome → State → Prop} (hpost : ∀ tb e args s v u, (limb_1_1.after args s (.returned v) u = true ∧ limb_1_2.after args s (.returned v) u = true ∧ True) → FrameEnd s (.returned v) u (Jvm.fieldLocs frame_1_writes args s ++ Jvm.arrayLocs frame_1_arrays args s ++ Jvm.staticLocs frame_1_statics s) 16 128 → Post tb e args s (.returned v) u) :
    ArmFor flags0 classFile x code maxLocals ret World_1 tables_1 room_1 Calls_1 rest_1 Pre_1 Post := by
  intro l hfl _ _ p e ha hc hk s m args below hf hA hF happ hP
  obtain ⟨hcalls, hrest, hpre⟩ := hP
  obtain ⟨-, -, -, hnamed, -, -, -, hat⟩ := (Spec.applies_iff hf).mp happ
  obtain ⟨hg, hn⟩ := and_e (Cond.before_iff.mp (show (Jvm.Cond.and given_1 narrow_1).before args s = true from hpre))
  obtain ⟨g0, gr0⟩ := and_e hg
  obtain ⟨g1, gr1⟩ := and_e gr0
  have g2 := gr1
  obtain ⟨w0, w1, rfl⟩ : ∃ w0 w1 : Value, args = #[w0, w1] := by
    have hs : args.size = 2 := by simpa [Cond.value, given_1] using g0
    obtain ⟨L⟩ := args
    match L, hs with
    | [w0, w1], _ => exact ⟨w0, w1, rfl⟩
  have hw := fun d (hd : d ∈ tables_1) => atoms_spec (ws := Jvm.Cond.code x code maxLocals ret :: tables_1) hat d (List.mem_cons_of_mem _ hd)
  have hfit : Fit s := fun {y c} hc i hi => by
    obtain ⟨ha, rfl⟩ := Array.getElem?_eq_some_iff.mp hc
    have q := List.all_eq_true.mp ((Array.all_eq_true_iff_forall_mem.mp hF) _ (Array.getElem_mem ha)) i (List.mem_range.mpr hi)
    simpa [Array.getElem?_eq_getElem hi] using q
  obtain ⟨i0, ei0⟩ := is_v g1
  obtain rfl : w0 = (.int i0) := Option.some.inj ei0
  obtain ⟨i1, ei1⟩ := is_v g2
  obtain rfl : w1 = (.int i1) := Option.some.inj ei1
  obtain ⟨n0, r0⟩ := and_e hn
  obtain ⟨n1, r1⟩ := and_e r0
  obtain ⟨n2, r2⟩ := and_e r1
  obtain ⟨n3, r3⟩ := and_e r2
  obtain ⟨n4, r4⟩ := and_e r3
  obtain ⟨n5, r5⟩ := and_e r4
  obtain ⟨n6, r6⟩ := and_e r5
  obtain ⟨n7, r7⟩ := and_e r6
  obtain ⟨n8, r8⟩ := and_e r7
  obtain ⟨n9, r9⟩ := and_e r8
  obtain ⟨n10, r10⟩ := and_e r9
  obtain ⟨n11, r11⟩ := and_e r10
  obtain ⟨n12, r12⟩ := and_e r11
  obtain ⟨n13, r13⟩ := and_e r12
  have n14 := r13
  obtain ⟨n15, r15⟩ := and_e (Cond.before_iff.mp (show rest_1_c.before _ s = true from hrest))
  obtain ⟨n16, r16⟩ := and_e r15
  obtain ⟨n17, r17⟩ := and_e r16
  obtain ⟨n18, r18⟩ := and_e r17
  have n19 := r18
  obtain ⟨w_VALUES, ev_w_VALUES⟩ := arr_v n0
  obtain ⟨c_w_VALUES, A0_w_VALUES⟩ := Arr.start ev_w_VALUES n0
  have aa_w_VALUES := A0_w_VALUES.fin (Vm.Alike.refl _)
  have S_w_VALUES : Sta s s.heap "com/example/urd/urd/model/HashAlgorithm" "$VALUES" "[Lcom/example/urd/urd/model/HashAlgorithm;" (.ref w_VALUES) := Sta.start ev_w_VALUES (Or.inl (hw _ (List.mem_of_getElem? (i := 24) rfl)))
  have A_w_VALUES : Arr s s.heap w_VALUES c_w_VALUES (.object "com/example/urd/urd/model/HashAlgorithm") := A0_w_VALUES
  have E_w_VALUES : Exa s s.heap w_VALUES "[Lcom/example/urd/urd/model/HashAlgorithm;" := Exa.start ev_w_VALUES n1
  have len_w_VALUES := own_len (own_eqI n2) ev_w_VALUES aa_w_VALUES
  obtain ⟨w_SHA1, ev_w_SHA1⟩ := exa_v n3
  have S_w_SHA1 : Sta s s.heap "com/example/urd/urd/model/HashAlgorithm" "SHA1" "Lcom/example/urd/urd/model/HashAlgorithm;" (.ref w_SHA1) := Sta.start ev_w_SHA1 (Or.inr ⟨(hw _ (List.mem_of_getElem? (i := 6) rfl)), (hw _ (List.mem_of_getElem? (i := 20) rfl))⟩)
  have E_w_SHA1 : Exa s s.heap w_SHA1 "com/example/urd/urd/model/HashAlgorithm" := Exa.start ev_w_SHA1 n3
  have el_w_VALUES_0 := own_elem (own_eqR n4 ev_w_SHA1) ev_w_VALUES A0_w_VALUES.1
  obtain ⟨w_SHA256, ev_w_SHA256⟩ := exa_v n5
  have S_w_SHA256 : Sta s s.heap "com/example/urd/urd/model/HashAlgorithm" "SHA256" "Lcom/example/urd/urd/model/HashAlgorithm;" (.ref w_SHA256) := Sta.start ev_w_SHA256 (Or.inr ⟨(hw _ (List.mem_of_getElem? (i := 6) rfl)), (hw _ (List.mem_of_getElem? (i := 21) rfl))⟩)
  have E_w_SHA256 : Exa s s.heap w_SHA256 "com/example/urd/urd/model/HashAlgorithm" := Exa.start ev_w_SHA256 n5
  have el_w_VALUES_1 := own_elem (own_eqR n6 ev_w_SHA256) ev_w_VALUES A0_w_VALUES.1
  obtain ⟨w_SHA384, ev_w_SHA384⟩ := exa_v n7
  have S_w_SHA384 : Sta s s.heap "com/example/urd/urd/model/HashAlgorithm" "SHA384" "Lcom/example/urd/urd/model/HashAlgorithm;" (.ref w_SHA384) := Sta.start ev_w_SHA384 (Or.inr ⟨(hw _ (List.mem_of_getElem? (i := 6) rfl)), (hw _ (List.mem_of_getElem? (i := 22) rfl))⟩)
  have E_w_SHA384 : Exa s s.heap w_SHA384 "com/example/urd/urd/model/HashAlgorithm" := Exa.start ev_w_SHA384 n7
  have el_w_VALUES_2 := own_elem (own_eqR n8 ev_w_SHA384) ev_w_VALUES A0_w_VALUES.1
  obtain ⟨w_SHA512, ev_w_SHA512⟩ := exa_v n9
  have S_w_SHA512 : Sta s s.heap "com/example/urd/urd/model/HashAlgorithm" "SHA512" "Lcom/example/urd/urd/model/HashAlgorithm;" (.ref w_SHA512) := Sta.start ev_w_SHA512 (Or.inr ⟨(hw _ (List.mem_of_getElem? (i := 6) rfl)), (hw _ (List.mem_of_getElem? (i := 23) rfl))⟩)
  have E_w_SHA512 : Exa s s.heap w_SHA512 "com/example/urd/urd/model/HashAlgorithm" := Exa.start ev_w_SHA512 n9
  have el_w_VALUES_3 := own_elem (own_eqR n10 ev_w_SHA512) ev_w_VALUES A0_w_VALUES.1
  have F_w_SHA1_id : Fld s s.heap w_SHA1 "com/example/urd/urd/model/HashAlgorithm" "id" "I" (.int (4 : Int32)) := Fld.start (by rw [← fld_at ev_w_SHA1]; exact own_eqI n11)
  have F_w_SHA256_id : Fld s s.heap w_SHA256 "com/example/urd/urd/model/HashAlgorithm" "id" "I" (.int (11 : Int32)) := Fld.start (by rw [← fld_at ev_w_SHA256]; exact own_eqI n12)
  have F_w_SHA384_id : Fld s s.heap w_SHA384 "com/example/urd/urd/model/HashAlgorithm" "id" "I" (.int (12 : Int32)) := Fld.start (by rw [← fld_at ev_w_SHA384]; exact own_eqI n13)
  have F_w_SHA512_id : Fld s s.heap w_SHA512 "com/example/urd/urd/model/HashAlgorithm" "id" "I" (.int (13 : Int32)) := Fld.start (by rw [← fld_at ev_w_SHA512]; exact own_eqI n14)
  obtain ⟨w_EMPTY, ev_w_EMPTY⟩ := exa_v n17
  have S_w_EMPTY : Sta s s.heap "java/util/Optional" "EMPTY" "Ljava/util/Optional;" (.ref w_EMPTY) := Sta.start ev_w_EMPTY (Or.inl (Cond.before_iff.mpr n16))
  have E_w_EMPTY : Exa s s.heap w_EMPTY "java/util/Optional" := Exa.start ev_w_EMPTY n17
  have F_w_EMPTY_value : Fld s s.heap w_EMPTY "java/util/Optional" "value" "Ljava/lang/Object;" .null := Fld.start (by rw [← fld_at ev_w_EMPTY]; exact null_v n18)
  have V_w_VALUES : Arv s s.heap w_VALUES c_w_VALUES.cls (.object "com/example/urd/urd/model/HashAlgorithm") (4 : Int32) [(.ref w_SHA1), (.ref w_SHA256), (.ref w_SHA384), (.ref w_SHA512)] .null := Arv.start hfit A0_w_VALUES len_w_VALUES.2 len_w_VALUES.1 (by decide) rfl ⟨el_w_VALUES_0, el_w_VALUES_1, el_w_VALUES_2, el_w_VALUES_3, trivial⟩
  obtain ⟨n', o, h1, h2, h3, _, L, rfl, ⟨⟨_, rfl, rfl⟩, N, -⟩, hq⟩ := rm0 l s _ hw tables_1 i0 i1 w_VALUES c_w_VALUES w_SHA1 w_SHA256 w_SHA384 w_SHA512 w_EMPTY s.heap (show own_Ini s w_VALUES c_w_VALUES w_SHA1 w_SHA256 w_SHA384 w_SHA512 w_EMPTY from ⟨S_w_VALUES, A_w_VALUES, E_w_VALUES, S_w_SHA1, E_w_SHA1, S_w_SHA256, E_w_SHA256, S_w_SHA384, E_w_SHA384, S_w_SHA512, E_w_SHA512, F_w_SHA1_id, F_w_SHA256_id, F_w_SHA384_id, F_w_SHA512_id, S_w_EMPTY, E_w_EMPTY, F_w_EMPTY_value, V_w_VALUES⟩) (Old.start s) p e ha hc hk s m _ below hf ((Spec.applies_iff_loose hf).mp happ).1 ⟨rfl, State.Warmed39.refl s, rfl⟩ trivial
  refine ⟨n', _, h1, h2, h3, hpost _ _ _ _ _ _ ⟨Cond.after_iff.mpr rfl, Cond.after_iff.mpr (eq_i res_at (Term.int_eval (1)) rfl), trivial⟩ ⟨hq.1, hq.2.1, (hq.2.2.sift fun y hy => Or.inr (N y hy)).mono (by decide) (by decide)⟩⟩
theorem main_1_1 : Claimed_1_1 := comes_1 fun _ _ _ _ _ _ h hF => ⟨h.1, hF⟩
theorem main_1_2 : Claimed_1_2 := comes_1 fun _ _ _ _ _ _ h hF => ⟨h.2.1, hF⟩
end Jvm.Pilot.@@N@@
namespace Jvm.Pilot.@@N@@
open Jvm Jvm.ClassFile Sem Op Lib Jvm.Free Jvm.Stand Jvm.Pilot.@@N@@.Jvm.D
/-! MADE BY PROGRAM (witnessworld.py) out of the Statement's table words and the real class files: 15 classes; the members and pool entries that the words name. The judged class is class 1, her method 2. -/
namespace start1
open Jvm.ClassFile
def u (s : String) : CpInfo := .utf8 (stringToUtf16 s)
/-- a pool by its gaps: so many unusable entries, then the entry; so many at the end -/
def gap : Nat → List CpInfo → List CpInfo
  | 0, r => r
  | n + 1, r => .unusable :: gap n r
def poolList (es : List (Nat × CpInfo)) (last : Nat) : List CpInfo := es.foldr (fun e r => gap e.1 (e.2 :: r)) (gap last [])
def pool (es : List (Nat × CpInfo)) (last : Nat) : Array CpInfo := ⟨poolList es last⟩
def fileOf (pool : Array CpInfo) (this : Nat) (attrs : Array Attribute := #[]) (ms : Array MethodInfo := #[]) (fl : Nat := 33) (sup : Nat := 0) (ifs : Array Nat := #[]) (fds : Array FieldInfo := #[]) : ClassFile where
  minorVersion := 0
  majorVersion := 65
  constantPool := pool
  accessFlags := fl
  thisClass := this
  superClass := sup
  interfaces := ifs
  fields := fds
  methods := ms
  attributes := attrs
def plain (name : String) (sup : Option ClassId) : Class where
  name := name
  kind := .ordinary
  loader := none
  accessFlags := 33
  super := sup
  interfaces := #[]
  cf := none
  fields := #[]
  methods := #[]
  instanceTypes := #[]
  staticTypes := #[]
  resolved := #[]
  callSites := []
  init := .initialized
  statics := none
  mirror := none

def pool0 : Array CpInfo := pool [(5, u "<init>"), (0, u "()V"), (1, .class_ 10), (1, u "java/lang/Object"), (85, u "clone"), (0, u "()Ljava/lang/Object;")] 26

def k0c0 : Code := { maxStack := 0, maxLocals := 1, code := object_method_1_code, exceptionTable := #[], attributes := #[] }
def k0m0 : Method := { name := "<init>", desc := "()V", sig := { parameters := [], returnType := none }, accessFlags := 1, code := some k0c0 }
def k0m1 : Method := { name := "clone", desc := "()Ljava/lang/Object;", sig := { parameters := [], returnType := some (.object "java/lang/Object") }, accessFlags := 260, code := none }
/-- java/lang/Object -/
def k0 : Class := { plain "java/lang/Object" none with
  accessFlags := 33
  interfaces := #[]
  cf := some (fileOf pool0 8 #[] #[{ accessFlags := 1, nameIndex := 5, descriptorIndex := 6, attributes := #[] }, { accessFlags := 260, nameIndex := 96, descriptorIndex := 97, attributes := #[] }] 33 0 #[] #[])
  fields := #[]
  methods := #[k0m0, k0m1]
  instanceTypes := #[]
  staticTypes := #[]
  resolved := Array.replicate 124 none
  statics := none }

def pool1 : Array CpInfo := pool [(2, .class_ 4), (1, u "java/lang/Object"), (0, u "<init>"), (0, u "()V"), (0, .fieldref 8 9), (0, .class_ 10), (0, .nameAndType 11 12), (0, u "com/example/urd/urd/model/HashAlgorithm"), (0, u "SHA1"), (0, u "Lcom/example/urd/urd/model/HashAlgorithm;"), (0, .fieldref 8 14), (0, .nameAndType 15 12), (0, u "SHA256"), (0, .fieldref 8 17), (0, .nameAndType 18 12), (0, u "SHA384"), (0, .fieldref 8 20), (0, .nameAndType 21 12), (0, u "SHA512"), (0, .integer 65540), (0, .integer 2147483659), (2, .integer 2147483648), (0, .methodref 8 28), (0, .nameAndType 29 30), (0, u "fromId"), (0, u "(I)Ljava/util/Optional;"), (0, .methodref 32 33), (0, .class_ 34), (0, .nameAndType 35 36), (0, u "com/example/urd/urd/model/HashAlgorithmFromIdPinLaw"), (0, u "expected"), (0, u "(I)Lcom/example/urd/urd/model/HashAlgorithm;"), (0, .methodref 38 39), (0, .class_ 40), (0, .nameAndType 41 42), (0, u "java/util/Optional"), (0, u "isEmpty"), (0, u "()Z"), (0, .methodref 38 44), (0, .nameAndType 45 42), (0, u "isPresent"), (0, .methodref 38 47), (0, .nameAndType 48 49), (0, u "get"), (0, u "()Ljava/lang/Object;"), (0, .methodref 8 51), (0, .nameAndType 52 53), (0, u "id"), (0, u "()I"), (3, u "law"), (0, u "(II)Z")] 4

def k1m0 : Method := { name := "<init>", desc := "()V", sig := { parameters := [], returnType := none }, accessFlags := 1, code := none }
def k1c1 : Code := { maxStack := 2, maxLocals := 1, code := method_2_code, exceptionTable := #[], attributes := #[] }
def k1m1 : Method := { name := "expected", desc := "(I)Lcom/example/urd/urd/model/HashAlgorithm;", sig := { parameters := [.int], returnType := some (.object "com/example/urd/urd/model/HashAlgorithm") }, accessFlags := 10, code := some k1c1 }
def k1c2 : Code := { maxStack := 4, maxLocals := 6, code := code, exceptionTable := #[], attributes := #[] }
def k1m2 : Method := { name := "law", desc := "(II)Z", sig := { parameters := [.int, .int], returnType := some .boolean }, accessFlags := 9, code := some k1c2 }
/-- com/example/urd/urd/model/HashAlgorithmFromIdPinLaw -/
def k1 : Class := { plain "com/example/urd/urd/model/HashAlgorithmFromIdPinLaw" (some 0) with
  accessFlags := 49
  interfaces := #[]
  cf := some (fileOf pool1 32 #[] #[{ accessFlags := 1, nameIndex := 5, descriptorIndex := 6, attributes := #[] }, { accessFlags := 10, nameIndex := 35, descriptorIndex := 36, attributes := #[] }, { accessFlags := 9, nameIndex := 57, descriptorIndex := 58, attributes := #[] }] 49 2 #[] #[])
  fields := #[]
  methods := #[k1m0, k1m1, k1m2]
  instanceTypes := #[]
  staticTypes := #[]
  resolved := Array.replicate 63 none
  statics := none }

def pool2 : Array CpInfo := pool [(1, .class_ 2), (0, u "java/lang/constant/Constable"), (0, .class_ 4), (0, u "java/lang/Object")] 6

/-- java/lang/constant/Constable -/
def k2 : Class := { plain "java/lang/constant/Constable" (some 0) with
  accessFlags := 1537
  interfaces := #[]
  cf := some (fileOf pool2 1 #[] #[] 1537 3 #[] #[])
  fields := #[]
  methods := #[]
  instanceTypes := #[]
  staticTypes := #[]
  resolved := Array.replicate 11 none
  statics := none }

def pool3 : Array CpInfo := pool [(1, .class_ 2), (0, u "java/lang/Comparable"), (0, .class_ 4), (0, u "java/lang/Object")] 7

/-- java/lang/Comparable -/
def k3 : Class := { plain "java/lang/Comparable" (some 0) with
  accessFlags := 1537
  interfaces := #[]
  cf := some (fileOf pool3 1 #[] #[] 1537 3 #[] #[])
  fields := #[]
  methods := #[]
  instanceTypes := #[]
  staticTypes := #[]
  resolved := Array.replicate 12 none
  statics := none }

def pool4 : Array CpInfo := pool [(1, .class_ 2), (0, u "java/io/Serializable"), (0, .class_ 4), (0, u "java/lang/Object")] 2

/-- java/io/Serializable -/
def k4 : Class := { plain "java/io/Serializable" (some 0) with
  accessFlags := 1537
  interfaces := #[]
  cf := some (fileOf pool4 1 #[] #[] 1537 3 #[] #[])
  fields := #[]
  methods := #[]
  instanceTypes := #[]
  staticTypes := #[]
  resolved := Array.replicate 7 none
  statics := none }

def pool5 : Array CpInfo := pool [(2, .class_ 4), (1, u "java/lang/Enum"), (0, u "name"), (0, u "Ljava/lang/String;"), (2, u "ordinal"), (0, u "I"), (1, .class_ 14), (1, u "java/lang/Object"), (4, u "hash"), (86, .class_ 108), (1, u "java/lang/Enum$EnumDesc"), (2, .class_ 112), (0, u "java/lang/constant/Constable"), (0, .class_ 114), (0, u "java/lang/Comparable"), (0, .class_ 116), (0, u "java/io/Serializable")] 87

/-- java/lang/Enum -/
def k5 : Class := { plain "java/lang/Enum" (some 0) with
  accessFlags := 1057
  interfaces := #[2, 3, 4]
  cf := some (fileOf pool5 2 #[.nestMembers #[106]] #[] 1057 12 #[111, 113, 115] #[{ accessFlags := 18, nameIndex := 5, descriptorIndex := 6, attributes := #[] }, { accessFlags := 18, nameIndex := 9, descriptorIndex := 10, attributes := #[] }, { accessFlags := 2, nameIndex := 19, descriptorIndex := 10, attributes := #[] }])
  fields := #[{ name := "name", type := (.object "java/lang/String"), accessFlags := 18, slot := 0, constantValue := 0 }, { name := "ordinal", type := .int, accessFlags := 18, slot := 1, constantValue := 0 }, { name := "hash", type := .int, accessFlags := 2, slot := 2, constantValue := 0 }]
  methods := #[]
  instanceTypes := #[(.object "java/lang/String"), .int, .int]
  staticTypes := #[]
  resolved := Array.replicate 204 none
  statics := none }

def pool6 : Array CpInfo := pool [(1, .class_ 2), (0, u "com/example/urd/urd/model/HashAlgorithm"), (2, u "SHA1"), (0, u "Lcom/example/urd/urd/model/HashAlgorithm;"), (2, u "SHA256"), (2, u "SHA384"), (2, u "SHA512"), (0, .fieldref 1 17), (0, .nameAndType 18 19), (0, u "$VALUES"), (0, u "[Lcom/example/urd/urd/model/HashAlgorithm;"), (0, .methodref 21 22), (0, .class_ 19), (0, .nameAndType 23 24), (0, u "clone"), (0, u "()Ljava/lang/Object;"), (1, .class_ 28), (1, u "java/lang/Enum"), (6, .fieldref 1 36), (0, .nameAndType 37 38), (0, u "id"), (0, u "I"), (2, u "bankName"), (0, u "Ljava/lang/String;"), (2, u "digestSize"), (2, u "jdkName"), (0, .methodref 1 50), (0, .nameAndType 51 52), (0, u "values"), (0, u "()[Lcom/example/urd/urd/model/HashAlgorithm;"), (0, .methodref 54 55), (0, .class_ 56), (0, .nameAndType 57 58), (0, u "java/util/Optional"), (0, u "of"), (0, u "(Ljava/lang/Object;)Ljava/util/Optional;"), (0, .methodref 54 60), (0, .nameAndType 61 62), (0, u "empty"), (0, u "()Ljava/util/Optional;"), (2, u "fromId"), (0, u "(I)Ljava/util/Optional;"), (78, u "prototype"), (0, u "Ljava/security/MessageDigest;"), (65, u "()I")] 53

def k6c0 : Code := { maxStack := 1, maxLocals := 0, code := prog_35_method_1_code, exceptionTable := #[], attributes := #[] }
def k6m0 : Method := { name := "values", desc := "()[Lcom/example/urd/urd/model/HashAlgorithm;", sig := { parameters := [], returnType := some (.array (.object "com/example/urd/urd/model/HashAlgorithm")) }, accessFlags := 9, code := some k6c0 }
def k6c1 : Code := { maxStack := 1, maxLocals := 1, code := prog_35_method_4_code, exceptionTable := #[], attributes := #[] }
def k6m1 : Method := { name := "id", desc := "()I", sig := { parameters := [], returnType := some .int }, accessFlags := 1, code := some k6c1 }
def k6c2 : Code := { maxStack := 2, maxLocals := 5, code := prog_35_method_7_code, exceptionTable := #[], attributes := #[] }
def k6m2 : Method := { name := "fromId", desc := "(I)Ljava/util/Optional;", sig := { parameters := [.int], returnType := some (.object "java/util/Optional") }, accessFlags := 9, code := some k6c2 }
/-- com/example/urd/urd/model/HashAlgorithm -/
def k6 : Class := { plain "com/example/urd/urd/model/HashAlgorithm" (some 5) with
  accessFlags := 16433
  interfaces := #[]
  cf := some (fileOf pool6 1 #[] #[{ accessFlags := 9, nameIndex := 51, descriptorIndex := 52, attributes := #[] }, { accessFlags := 1, nameIndex := 37, descriptorIndex := 212, attributes := #[] }, { accessFlags := 9, nameIndex := 65, descriptorIndex := 66, attributes := #[] }] 16433 26 #[] #[{ accessFlags := 16409, nameIndex := 5, descriptorIndex := 6, attributes := #[] }, { accessFlags := 16409, nameIndex := 9, descriptorIndex := 6, attributes := #[] }, { accessFlags := 16409, nameIndex := 12, descriptorIndex := 6, attributes := #[] }, { accessFlags := 16409, nameIndex := 15, descriptorIndex := 6, attributes := #[] }, { accessFlags := 18, nameIndex := 37, descriptorIndex := 38, attributes := #[] }, { accessFlags := 18, nameIndex := 41, descriptorIndex := 42, attributes := #[] }, { accessFlags := 18, nameIndex := 45, descriptorIndex := 38, attributes := #[] }, { accessFlags := 18, nameIndex := 48, descriptorIndex := 42, attributes := #[] }, { accessFlags := 66, nameIndex := 145, descriptorIndex := 146, attributes := #[] }, { accessFlags := 4122, nameIndex := 18, descriptorIndex := 19, attributes := #[] }])
  fields := #[{ name := "SHA1", type := (.object "com/example/urd/urd/model/HashAlgorithm"), accessFlags := 16409, slot := 0, constantValue := 0 }, { name := "SHA256", type := (.object "com/example/urd/urd/model/HashAlgorithm"), accessFlags := 16409, slot := 1, constantValue := 0 }, { name := "SHA384", type := (.object "com/example/urd/urd/model/HashAlgorithm"), accessFlags := 16409, slot := 2, constantValue := 0 }, { name := "SHA512", type := (.object "com/example/urd/urd/model/HashAlgorithm"), accessFlags := 16409, slot := 3, constantValue := 0 }, { name := "id", type := .int, accessFlags := 18, slot := 3, constantValue := 0 }, { name := "bankName", type := (.object "java/lang/String"), accessFlags := 18, slot := 4, constantValue := 0 }, { name := "digestSize", type := .int, accessFlags := 18, slot := 5, constantValue := 0 }, { name := "jdkName", type := (.object "java/lang/String"), accessFlags := 18, slot := 6, constantValue := 0 }, { name := "prototype", type := (.object "java/security/MessageDigest"), accessFlags := 66, slot := 7, constantValue := 0 }, { name := "$VALUES", type := (.array (.object "com/example/urd/urd/model/HashAlgorithm")), accessFlags := 4122, slot := 4, constantValue := 0 }]
  methods := #[k6m0, k6m1, k6m2]
  instanceTypes := #[(.object "java/lang/String"), .int, .int, .int, (.object "java/lang/String"), .int, (.object "java/lang/String"), (.object "java/security/MessageDigest")]
  staticTypes := #[(.object "com/example/urd/urd/model/HashAlgorithm"), (.object "com/example/urd/urd/model/HashAlgorithm"), (.object "com/example/urd/urd/model/HashAlgorithm"), (.object "com/example/urd/urd/model/HashAlgorithm"), (.array (.object "com/example/urd/urd/model/HashAlgorithm"))]
  resolved := Array.replicate 266 none
  statics := some 0 }

def pool7 : Array CpInfo := pool [(1, .class_ 2), (0, u "java/lang/Cloneable"), (0, .class_ 4), (0, u "java/lang/Object")] 2

/-- java/lang/Cloneable -/
def k7 : Class := { plain "java/lang/Cloneable" (some 0) with
  accessFlags := 1537
  interfaces := #[]
  cf := some (fileOf pool7 1 #[] #[] 1537 3 #[] #[])
  fields := #[]
  methods := #[]
  instanceTypes := #[]
  staticTypes := #[]
  resolved := Array.replicate 7 none
  statics := none }

def pool8 : Array CpInfo := pool [(1, .fieldref 2 3), (0, .class_ 4), (0, .nameAndType 5 6), (0, u "java/util/Optional"), (0, u "EMPTY"), (0, u "Ljava/util/Optional;"), (0, .methodref 8 9), (0, .class_ 10), (0, .nameAndType 11 12), (0, u "java/lang/Object"), (0, u "<init>"), (0, u "()V"), (0, .fieldref 2 14), (0, .nameAndType 15 16), (0, u "value"), (0, u "Ljava/lang/Object;"), (0, .methodref 18 19), (0, .class_ 20), (0, .nameAndType 21 22), (0, u "java/util/Objects"), (0, u "requireNonNull"), (0, u "(Ljava/lang/Object;)Ljava/lang/Object;"), (0, .methodref 2 24), (0, .nameAndType 11 25), (0, u "(Ljava/lang/Object;)V"), (19, u "isEmpty"), (0, u "()Z"), (8, u "empty"), (0, u "()Ljava/util/Optional;"), (8, u "(Ljava/lang/Object;)Ljava/util/Optional;"), (2, u "isPresent"), (4, u "get"), (0, u "()Ljava/lang/Object;"), (7, u "of")] 104

def k8c0 : Code := { maxStack := 1, maxLocals := 1, code := jdk_32_method_1_code, exceptionTable := #[], attributes := #[] }
def k8m0 : Method := { name := "empty", desc := "()Ljava/util/Optional;", sig := { parameters := [], returnType := some (.object "java/util/Optional") }, accessFlags := 9, code := some k8c0 }
def k8c1 : Code := { maxStack := 2, maxLocals := 2, code := jdk_32_method_2_code, exceptionTable := #[], attributes := #[] }
def k8m1 : Method := { name := "<init>", desc := "(Ljava/lang/Object;)V", sig := { parameters := [(.object "java/lang/Object")], returnType := none }, accessFlags := 2, code := some k8c1 }
def k8c2 : Code := { maxStack := 3, maxLocals := 1, code := jdk_32_method_3_code, exceptionTable := #[], attributes := #[] }
def k8m2 : Method := { name := "of", desc := "(Ljava/lang/Object;)Ljava/util/Optional;", sig := { parameters := [(.object "java/lang/Object")], returnType := some (.object "java/util/Optional") }, accessFlags := 9, code := some k8c2 }
def k8c3 : Code := { maxStack := 3, maxLocals := 1, code := jdk_32_method_5_code, exceptionTable := #[], attributes := #[] }
def k8m3 : Method := { name := "get", desc := "()Ljava/lang/Object;", sig := { parameters := [], returnType := some (.object "java/lang/Object") }, accessFlags := 1, code := some k8c3 }
def k8c4 : Code := { maxStack := 1, maxLocals := 1, code := jdk_32_method_6_code, exceptionTable := #[], attributes := #[] }
def k8m4 : Method := { name := "isPresent", desc := "()Z", sig := { parameters := [], returnType := some .boolean }, accessFlags := 1, code := some k8c4 }
def k8c5 : Code := { maxStack := 1, maxLocals := 1, code := jdk_32_method_7_code, exceptionTable := #[], attributes := #[] }
def k8m5 : Method := { name := "isEmpty", desc := "()Z", sig := { parameters := [], returnType := some .boolean }, accessFlags := 1, code := some k8c5 }
/-- java/util/Optional -/
def k8 : Class := { plain "java/util/Optional" (some 0) with
  accessFlags := 49
  interfaces := #[]
  cf := some (fileOf pool8 2 #[] #[{ accessFlags := 9, nameIndex := 55, descriptorIndex := 56, attributes := #[] }, { accessFlags := 2, nameIndex := 11, descriptorIndex := 25, attributes := #[] }, { accessFlags := 9, nameIndex := 82, descriptorIndex := 65, attributes := #[] }, { accessFlags := 1, nameIndex := 73, descriptorIndex := 74, attributes := #[] }, { accessFlags := 1, nameIndex := 68, descriptorIndex := 46, attributes := #[] }, { accessFlags := 1, nameIndex := 45, descriptorIndex := 46, attributes := #[] }] 49 8 #[] #[{ accessFlags := 26, nameIndex := 5, descriptorIndex := 6, attributes := #[] }, { accessFlags := 18, nameIndex := 15, descriptorIndex := 16, attributes := #[] }])
  fields := #[{ name := "EMPTY", type := (.object "java/util/Optional"), accessFlags := 26, slot := 0, constantValue := 0 }, { name := "value", type := (.object "java/lang/Object"), accessFlags := 18, slot := 0, constantValue := 0 }]
  methods := #[k8m0, k8m1, k8m2, k8m3, k8m4, k8m5]
  instanceTypes := #[(.object "java/lang/Object")]
  staticTypes := #[(.object "java/util/Optional")]
  resolved := Array.replicate 187 none
  statics := some 1 }

def pool9 : Array CpInfo := pool [(2, .class_ 4), (1, u "java/lang/Object"), (0, u "<init>"), (0, u "()V"), (35, .class_ 44), (1, u "java/util/Objects"), (0, u "requireNonNull"), (0, u "(Ljava/lang/Object;)Ljava/lang/Object;")] 137

def k9m0 : Method := { name := "<init>", desc := "()V", sig := { parameters := [], returnType := none }, accessFlags := 2, code := none }
def k9c1 : Code := { maxStack := 2, maxLocals := 1, code := jdk_31_method_10_code, exceptionTable := #[], attributes := #[] }
def k9m1 : Method := { name := "requireNonNull", desc := "(Ljava/lang/Object;)Ljava/lang/Object;", sig := { parameters := [(.object "java/lang/Object")], returnType := some (.object "java/lang/Object") }, accessFlags := 9, code := some k9c1 }
/-- java/util/Objects -/
def k9 : Class := { plain "java/util/Objects" (some 0) with
  accessFlags := 49
  interfaces := #[]
  cf := some (fileOf pool9 42 #[] #[{ accessFlags := 2, nameIndex := 5, descriptorIndex := 6, attributes := #[] }, { accessFlags := 9, nameIndex := 45, descriptorIndex := 46, attributes := #[] }] 49 2 #[] #[])
  fields := #[]
  methods := #[k9m0, k9m1]
  instanceTypes := #[]
  staticTypes := #[]
  resolved := Array.replicate 184 none
  statics := none }

/-- the primitive byte -/
def k10 : Class := { plain "byte" none with kind := .primitive 'B', accessFlags := 0x411 }
/-- [B -/
def k11 : Class := { plain "[B" (some 0) with kind := .array 10 .byte, interfaces := #[7, 4], accessFlags := 1041 }

/-- the primitive int -/
def k12 : Class := { plain "int" none with kind := .primitive 'I', accessFlags := 0x411 }
/-- [I -/
def k13 : Class := { plain "[I" (some 0) with kind := .array 12 .int, interfaces := #[7, 4], accessFlags := 1041 }

/-- [Lcom/example/urd/urd/model/HashAlgorithm; -/
def k14 : Class := { plain "[Lcom/example/urd/urd/model/HashAlgorithm;" (some 0) with kind := .array 6 (.object "com/example/urd/urd/model/HashAlgorithm"), interfaces := #[7, 4], accessFlags := 1041 }

def heap : Heap := #[{ cls := 6, slots := #[.ref 3, .ref 4, .ref 5, .ref 6, .ref 2], vm := .statics 6 },
  { cls := 8, slots := #[.ref 7], vm := .statics 8 },
  { cls := 14, slots := #[.ref 3, .ref 4, .ref 5, .ref 6], vm := .none },
  { cls := 6, slots := #[.null, .int 0, .int 0, .int 4, .null, .int 0, .null, .null], vm := .none },
  { cls := 6, slots := #[.null, .int 0, .int 0, .int 11, .null, .int 0, .null, .null], vm := .none },
  { cls := 6, slots := #[.null, .int 0, .int 0, .int 12, .null, .int 0, .null, .null], vm := .none },
  { cls := 6, slots := #[.null, .int 0, .int 0, .int 13, .null, .int 0, .null, .null], vm := .none },
  { cls := 8, slots := #[.null], vm := .none }]
def classes : Array Class := #[k0, k1, k2, k3, k4, k5, k6, k7, k8, k9, k10, k11, k12, k13, k14]
def interned : List (Array UInt16 × Addr) := []
def slotsUsed : Nat := 43
def theMethod : MethodId := ⟨1, 2⟩
def args0 : Array Value := #[.int 5, .int 1]
def aboutOver (below : List Frame) : State where
  vm := { classes := classes, interned := interned.toArray }
  heap := heap
  slotsUsed := slotsUsed
  threads := #[{ frames := .invoking theMethod args0 :: below }]
def below0 : List Frame := [.native { method := ⟨0, 0⟩, args := #[] }]
def about1 : State := aboutOver below0
def p0 : Program := .bare "" "" ""
def e0 : Env := launch0.env 0 0 0
theorem w_frames : about1.frames = Frame.invoking theMethod args0 :: below0 := rfl
set_option maxRecDepth 65536 in
theorem w_args : argsFit about1.vm theMethod args0 = true := by decide +kernel
set_option maxRecDepth 65536 in
theorem w_heap : heapFits about1 = true := by decide +kernel
set_option maxRecDepth 65536 in
theorem w_runnable : about1.curStatus? = some .runnable := by decide +kernel
set_option maxRecDepth 65536 in
theorem w_alone : about1.alone = true := by decide +kernel
set_option maxRecDepth 65536 in
theorem w_named : about1.methodNamed? x = some theMethod := by decide +kernel
set_option maxRecDepth 65536 in
theorem w_hears : about1.hears theMethod below0 = true := by decide +kernel
set_option maxRecDepth 65536 in
theorem w_ripe : about1.ripe theMethod args0 below0 = true := by decide +kernel
theorem w_running : about1.status = .running := rfl
set_option maxRecDepth 65536 in
theorem w_room : about1.hasRoom e0.platform room_1 = true :=
  launch0.hasRoom_least _ room_1 (by decide +kernel) (by decide +kernel) (by decide +kernel) (by decide +kernel) (by decide +kernel) (by decide +kernel)
theorem allAtoms_all (ts : List Jvm.Cond) (a : Array Jvm.Value) (st : Jvm.State) : (allAtoms ts).before a st = ts.all (fun c => c.before a st) := by
  induction ts with
  | nil => rfl
  | cons c t ih =>
    show (Jvm.Cond.and c (allAtoms t)).before a st = _
    rw [Jvm.Cond.before_and, ih, List.all_cons]
def words1 : List Jvm.Cond := Jvm.Cond.code x code maxLocals ret :: tables_1
/-- a 'code' word, met by the world's own term for the bytes: nothing is compared byte by byte -/
theorem code_word {y : MethodName} {bytes : ByteArray} {mx : Nat} {rt : Option FieldType} {a : Array Value} {s : State} {m : MethodId} {meth : Method} {c : Code} (h1 : s.methodNamed? y = some m) (h2 : s.vm.method? m = some meth) (h3 : meth.code = some c) (h4 : c.code = bytes)
    (h5 : (c.maxLocals == mx && c.exceptionTable.isEmpty && decide (c.maxStack ≤ mostOperands) && decide (meth.sig.returnType = rt) && !meth.locks && decide (parseMethodDescriptor y.desc = some meth.sig)) = true) : (Jvm.Cond.code y bytes mx rt).before a s = true := by
  simp only [Bool.and_eq_true, beq_iff_eq, Bool.not_eq_true', decide_eq_true_eq] at h5
  obtain ⟨⟨⟨⟨⟨g1, g2⟩, g3⟩, g4⟩, g5⟩, g6⟩ := h5
  simp [Cond.before, Cond.holds, Cond.value, h1, h2, h3, h4, g1, g2, g3, g4, g5, g6]
def isCode : Jvm.Cond → Bool
  | .code _ _ _ _ => true
  | _ => false
theorem all_split {L : List Jvm.Cond} {P : Jvm.Cond → Bool} (h1 : L.all (fun c => isCode c || P c) = true) (h2 : ∀ c ∈ L.filter isCode, P c = true) : L.all P = true := by
  refine List.all_eq_true.mpr fun c hc => ?_
  have h := List.all_eq_true.mp h1 c hc
  rcases Bool.eq_false_or_eq_true (isCode c) with hi | hi
  · exact h2 c (List.mem_filter.mpr ⟨hc, hi⟩)
  · simpa [hi] using h
set_option maxRecDepth 65536 in
theorem w_c0 : (Jvm.Cond.code x code maxLocals ret).before args0 about1 = true := code_word (m := ⟨1, 2⟩) (meth := k1m2) (c := k1c2) (by decide +kernel) rfl rfl rfl (by decide +kernel)
set_option maxRecDepth 65536 in
theorem w_c1 : (Jvm.Cond.code ({ cls := "com/example/urd/urd/model/HashAlgorithm", name := "fromId", desc := "(I)Ljava/util/Optional;" } : Jvm.MethodName) prog_35_method_7_code (5 : Nat) (Option.some (Jvm.ClassFile.FieldType.object "java/util/Optional"))).before args0 about1 = true := code_word (m := ⟨6, 2⟩) (meth := k6m2) (c := k6c2) (by decide +kernel) rfl rfl rfl (by decide +kernel)
set_option maxRecDepth 65536 in
theorem w_c2 : (Jvm.Cond.code ({ cls := "com/example/urd/urd/model/HashAlgorithm", name := "values", desc := "()[Lcom/example/urd/urd/model/HashAlgorithm;" } : Jvm.MethodName) prog_35_method_1_code (0 : Nat) (Option.some (Jvm.ClassFile.FieldType.array (Jvm.ClassFile.FieldType.object "com/example/urd/urd/model/HashAlgorithm")))).before args0 about1 = true := code_word (m := ⟨6, 0⟩) (meth := k6m0) (c := k6c0) (by decide +kernel) rfl rfl rfl (by decide +kernel)
set_option maxRecDepth 65536 in
theorem w_c3 : (Jvm.Cond.code ({ cls := "java/util/Optional", name := "of", desc := "(Ljava/lang/Object;)Ljava/util/Optional;" } : Jvm.MethodName) jdk_32_method_3_code (1 : Nat) (Option.some (Jvm.ClassFile.FieldType.object "java/util/Optional"))).before args0 about1 = true := code_word (m := ⟨8, 2⟩) (meth := k8m2) (c := k8c2) (by decide +kernel) rfl rfl rfl (by decide +kernel)
set_option maxRecDepth 65536 in
theorem w_c4 : (Jvm.Cond.code ({ cls := "java/util/Objects", name := "requireNonNull", desc := "(Ljava/lang/Object;)Ljava/lang/Object;" } : Jvm.MethodName) jdk_31_method_10_code (1 : Nat) (Option.some (Jvm.ClassFile.FieldType.object "java/lang/Object"))).before args0 about1 = true := code_word (m := ⟨9, 1⟩) (meth := k9m1) (c := k9c1) (by decide +kernel) rfl rfl rfl (by decide +kernel)
set_option maxRecDepth 65536 in
theorem w_c5 : (Jvm.Cond.code ({ cls := "java/util/Optional", name := "<init>", desc := "(Ljava/lang/Object;)V" } : Jvm.MethodName) jdk_32_method_2_code (2 : Nat) (Option.none : Option Jvm.ClassFile.FieldType)).before args0 about1 = true := code_word (m := ⟨8, 1⟩) (meth := k8m1) (c := k8c1) (by decide +kernel) rfl rfl rfl (by decide +kernel)
set_option maxRecDepth 65536 in
theorem w_c6 : (Jvm.Cond.code ({ cls := "java/lang/Object", name := "<init>", desc := "()V" } : Jvm.MethodName) object_method_1_code (1 : Nat) (Option.none : Option Jvm.ClassFile.FieldType)).before args0 about1 = true := code_word (m := ⟨0, 0⟩) (meth := k0m0) (c := k0c0) (by decide +kernel) rfl rfl rfl (by decide +kernel)
set_option maxRecDepth 65536 in
theorem w_c7 : (Jvm.Cond.code ({ cls := "com/example/urd/urd/model/HashAlgorithmFromIdPinLaw", name := "expected", desc := "(I)Lcom/example/urd/urd/model/HashAlgorithm;" } : Jvm.MethodName) method_2_code (1 : Nat) (Option.some (Jvm.ClassFile.FieldType.object "com/example/urd/urd/model/HashAlgorithm"))).before args0 about1 = true := code_word (m := ⟨1, 1⟩) (meth := k1m1) (c := k1c1) (by decide +kernel) rfl rfl rfl (by decide +kernel)
set_option maxRecDepth 65536 in
theorem w_c8 : (Jvm.Cond.code ({ cls := "java/util/Optional", name := "isPresent", desc := "()Z" } : Jvm.MethodName) jdk_32_method_6_code (1 : Nat) (Option.some Jvm.ClassFile.FieldType.boolean)).before args0 about1 = true := code_word (m := ⟨8, 4⟩) (meth := k8m4) (c := k8c4) (by decide +kernel) rfl rfl rfl (by decide +kernel)
set_option maxRecDepth 65536 in
theorem w_c9 : (Jvm.Cond.code ({ cls := "java/util/Optional", name := "get", desc := "()Ljava/lang/Object;" } : Jvm.MethodName) jdk_32_method_5_code (1 : Nat) (Option.some (Jvm.ClassFile.FieldType.object "java/lang/Object"))).before args0 about1 = true := code_word (m := ⟨8, 3⟩) (meth := k8m3) (c := k8c3) (by decide +kernel) rfl rfl rfl (by decide +kernel)
set_option maxRecDepth 65536 in
theorem w_c10 : (Jvm.Cond.code ({ cls := "com/example/urd/urd/model/HashAlgorithm", name := "id", desc := "()I" } : Jvm.MethodName) prog_35_method_4_code (1 : Nat) (Option.some Jvm.ClassFile.FieldType.int)).before args0 about1 = true := code_word (m := ⟨6, 1⟩) (meth := k6m1) (c := k6c1) (by decide +kernel) rfl rfl rfl (by decide +kernel)
set_option maxRecDepth 65536 in
theorem w_c11 : (Jvm.Cond.code ({ cls := "java/util/Optional", name := "empty", desc := "()Ljava/util/Optional;" } : Jvm.MethodName) jdk_32_method_1_code (1 : Nat) (Option.some (Jvm.ClassFile.FieldType.object "java/util/Optional"))).before args0 about1 = true := code_word (m := ⟨8, 0⟩) (meth := k8m0) (c := k8c0) (by decide +kernel) rfl rfl rfl (by decide +kernel)
set_option maxRecDepth 65536 in
theorem w_c12 : (Jvm.Cond.code ({ cls := "java/util/Optional", name := "isEmpty", desc := "()Z" } : Jvm.MethodName) jdk_32_method_7_code (1 : Nat) (Option.some Jvm.ClassFile.FieldType.boolean)).before args0 about1 = true := code_word (m := ⟨8, 5⟩) (meth := k8m5) (c := k8c5) (by decide +kernel) rfl rfl rfl (by decide +kernel)
def codes1 : List Jvm.Cond := [Jvm.Cond.code x code maxLocals ret, Jvm.Cond.code ({ cls := "com/example/urd/urd/model/HashAlgorithm", name := "fromId", desc := "(I)Ljava/util/Optional;" } : Jvm.MethodName) prog_35_method_7_code (5 : Nat) (Option.some (Jvm.ClassFile.FieldType.object "java/util/Optional")), Jvm.Cond.code ({ cls := "com/example/urd/urd/model/HashAlgorithm", name := "values", desc := "()[Lcom/example/urd/urd/model/HashAlgorithm;" } : Jvm.MethodName) prog_35_method_1_code (0 : Nat) (Option.some (Jvm.ClassFile.FieldType.array (Jvm.ClassFile.FieldType.object "com/example/urd/urd/model/HashAlgorithm"))), Jvm.Cond.code ({ cls := "java/util/Optional", name := "of", desc := "(Ljava/lang/Object;)Ljava/util/Optional;" } : Jvm.MethodName) jdk_32_method_3_code (1 : Nat) (Option.some (Jvm.ClassFile.FieldType.object "java/util/Optional")), Jvm.Cond.code ({ cls := "java/util/Objects", name := "requireNonNull", desc := "(Ljava/lang/Object;)Ljava/lang/Object;" } : Jvm.MethodName) jdk_31_method_10_code (1 : Nat) (Option.some (Jvm.ClassFile.FieldType.object "java/lang/Object")), Jvm.Cond.code ({ cls := "java/util/Optional", name := "<init>", desc := "(Ljava/lang/Object;)V" } : Jvm.MethodName) jdk_32_method_2_code (2 : Nat) (Option.none : Option Jvm.ClassFile.FieldType), Jvm.Cond.code ({ cls := "java/lang/Object", name := "<init>", desc := "()V" } : Jvm.MethodName) object_method_1_code (1 : Nat) (Option.none : Option Jvm.ClassFile.FieldType), Jvm.Cond.code ({ cls := "com/example/urd/urd/model/HashAlgorithmFromIdPinLaw", name := "expected", desc := "(I)Lcom/example/urd/urd/model/HashAlgorithm;" } : Jvm.MethodName) method_2_code (1 : Nat) (Option.some (Jvm.ClassFile.FieldType.object "com/example/urd/urd/model/HashAlgorithm")), Jvm.Cond.code ({ cls := "java/util/Optional", name := "isPresent", desc := "()Z" } : Jvm.MethodName) jdk_32_method_6_code (1 : Nat) (Option.some Jvm.ClassFile.FieldType.boolean), Jvm.Cond.code ({ cls := "java/util/Optional", name := "get", desc := "()Ljava/lang/Object;" } : Jvm.MethodName) jdk_32_method_5_code (1 : Nat) (Option.some (Jvm.ClassFile.FieldType.object "java/lang/Object")), Jvm.Cond.code ({ cls := "com/example/urd/urd/model/HashAlgorithm", name := "id", desc := "()I" } : Jvm.MethodName) prog_35_method_4_code (1 : Nat) (Option.some Jvm.ClassFile.FieldType.int), Jvm.Cond.code ({ cls := "java/util/Optional", name := "empty", desc := "()Ljava/util/Optional;" } : Jvm.MethodName) jdk_32_method_1_code (1 : Nat) (Option.some (Jvm.ClassFile.FieldType.object "java/util/Optional")), Jvm.Cond.code ({ cls := "java/util/Optional", name := "isEmpty", desc := "()Z" } : Jvm.MethodName) jdk_32_method_7_code (1 : Nat) (Option.some Jvm.ClassFile.FieldType.boolean)]
set_option maxRecDepth 65536 in
theorem codes_eq : words1.filter isCode = codes1 := rfl
theorem w_codes : ∀ c ∈ words1.filter isCode, c.before args0 about1 = true := by
  rw [codes_eq]
  intro c hc
  simp only [codes1, List.mem_cons, List.not_mem_nil, or_false] at hc
  rcases hc with rfl | rfl | rfl | rfl | rfl | rfl | rfl | rfl | rfl | rfl | rfl | rfl | rfl
  · exact w_c0
  · exact w_c1
  · exact w_c2
  · exact w_c3
  · exact w_c4
  · exact w_c5
  · exact w_c6
  · exact w_c7
  · exact w_c8
  · exact w_c9
  · exact w_c10
  · exact w_c11
  · exact w_c12
set_option maxRecDepth 65536 in
theorem w_t1 : (words1.take 24).all (fun c => isCode c || c.before args0 about1) = true := by decide +kernel
set_option maxRecDepth 65536 in
theorem w_t2 : ((words1.drop 24).take 24).all (fun c => isCode c || c.before args0 about1) = true := by decide +kernel
set_option maxRecDepth 65536 in
theorem w_t3 : (((words1.drop 24).drop 24).take 24).all (fun c => isCode c || c.before args0 about1) = true := by decide +kernel
set_option maxRecDepth 65536 in
theorem w_t4 : (((words1.drop 24).drop 24).drop 24).all (fun c => isCode c || c.before args0 about1) = true := by decide +kernel
theorem w_tables : (allAtoms (Jvm.Cond.code x code maxLocals ret :: tables_1)).before args0 about1 = true := by
  rw [allAtoms_all]
  show words1.all (fun c => c.before args0 about1) = true
  refine all_split ?_ w_codes
  rw [← List.take_append_drop 24 words1, List.all_append, w_t1, ← List.take_append_drop 24 (words1.drop 24), List.all_append, w_t2, ← List.take_append_drop 24 ((words1.drop 24).drop 24), List.all_append, w_t3, w_t4]
  rfl
set_option maxRecDepth 65536 in
theorem w_rest : rest_1_c.before args0 about1 = true := by decide +kernel
set_option maxRecDepth 65536 in
theorem w_case : (Jvm.Cond.and given_1 narrow_1).before args0 about1 = true := by decide +kernel
theorem w_applies : (headSpec (Jvm.Cond.code x code maxLocals ret :: tables_1) room_1).applies x e0.platform about1 = true :=
  (Spec.applies_iff w_frames).mpr ⟨w_running, w_runnable, w_alone, w_named, w_hears, w_ripe, w_room, w_tables⟩
theorem atStart : AtStart classFile x code maxLocals ret World_1 tables_1 room_1 Calls_1 rest_1 Pre_1 launch0 p0 e0 about1 theMethod args0 below0 :=
  ⟨lists_1, trivial, launch0.admits_env _ _ _, launch0.least_env, fairChoices_fair.cas, fairChoices_fair.clock, w_frames, w_args, w_heap, w_applies, trivial, w_rest, w_case⟩
end start1
theorem witness_1 : WitnessClaimed_1 := ⟨start1.p0, start1.e0, start1.about1, start1.theMethod, start1.args0, start1.below0, start1.atStart⟩
end Jvm.Pilot.@@N@@
