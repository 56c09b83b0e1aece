import JvmDerived
import JvmDerived.Pilot.@@N@@Statement
import JvmDerived.Pilot.@@N@@Code
set_option linter.unusedVariables false
set_option linter.unusedSimpArgs false
namespace Jvm.Pilot.@@N@@
open Jvm Jvm.ClassFile Sem Op Lib Jvm.Free Jvm.Stand Jvm.LawKit Jvm.RoadKit Bundle Jvm.Pilot.@@N@@.Jvm.D
section Own
variable {p : Program} {l : Launch} {e : Env} {R : Room} {s : State} {m : MethodId} {args : Array Value} {below : List Frame} {meth : Method} {c : Code} {bytes : ByteArray} {mx : Nat} {rt : Option FieldType} {own nm : String} {Z : State} {Q : Option Value → Heap → Prop} {pc : Nat} {ls : Array Slot} {st : List Value} {h : Heap} {cs sl : Nat} {a0 : Array Value}
/-- from A the invocation comes back, and what it leaves is as Q says; nothing old is written -/
def own_G (p : Program) (e : Env) (s : State) (below : List Frame) (Z : State) (Q : Option Value → Heap → Prop) (cs sl : Nat) (A : State) : Prop :=
  ∃ s₂ o, Steps p.tables e below A s₂ ∧ s₂.status = .running ∧ Ended s₂ below o ∧ ∃ v L, o = .returned v ∧ (Q v s₂.heap ∧ Fr Z.heap.size L ∧ Old Z Z.heap.size s₂.heap) ∧ FrameEnd s o s₂ L cs sl
theorem own_go {A B : State} (f : ∀ t, Steps p.tables e below B t → Steps p.tables e below A t) (k : own_G p e s below Z Q cs sl B) : own_G p e s below Z Q cs sl A := by
  obtain ⟨t, o, h1, h2⟩ := k
  exact ⟨t, o, f t h1, h2⟩
/-- the run, wherever it stands in this body with this pc, these locals, this stack and this heap, comes back as Q says -/
def own_K (p : Program) (l : Launch) (e : Env) (R : Room) (s : State) (m : MethodId) (args : Array Value) (below : List Frame) (meth : Method) (c : Code) (bytes : ByteArray) (mx : Nat) (rt : Option FieldType) (own nm : String) (Z : State) (Q : Option Value → Heap → Prop)
    (pc : Nat) (ls : Array Slot) (st : List Value) (h : Heap) (cs sl : Nat) : Prop :=
  ∀ (T : State) (L : List Loc), p.tables.exec = Jvm.exec → c.code = bytes → c.maxLocals = mx → meth.sig.returnType = rt → meth.locks = false → s.vm.findClass own = some m.cls → meth.name = nm → Z.Warmed39 s.vm →
    Stand p l e R s m args below meth c T L cs sl → T.heap = h → Fr Z.heap.size L → Old Z Z.heap.size h → own_G p e s below Z Q R.cells R.slots (T.setTop (mkF m pc ls st))
/-- a body's contract, asked at the heap h0 -/
def own_Met (l : Launch) (Z : State) (y : MethodName) (bytes : ByteArray) (mx : Nat) (rt : Option FieldType) (ws : List Jvm.Cond) (rm : Room) (as : Array Value) (h0 : Heap) (Q : Option Value → Heap → Prop) : Prop :=
  Old Z Z.heap.size h0 → MetFree l y (head1 (Jvm.Cond.code y bytes mx rt :: ws) rm) (fun a U => a = as ∧ Z.Warmed39 U.vm ∧ U.heap = h0) (fun _ _ _ _ _ => True)
    (fun _ U o U' => ∃ v L, o = .returned v ∧ (Q v U'.heap ∧ Fr Z.heap.size L ∧ Old Z Z.heap.size U'.heap) ∧ FrameEnd U o U' L rm.cells rm.slots)
def own_some (Qv : Value → Heap → Prop) : Option Value → Heap → Prop := fun v h => ∃ x, v = some x ∧ Qv x h
def own_none (Qn : Heap → Prop) : Option Value → Heap → Prop := fun v h => v = none ∧ Qn h
theorem own_met {y : MethodName} {ws : List Jvm.Cond} {rm : Room} {as : Array Value} {h0 : Heap} {ls0 : Array Slot} (pn : plainFor y = true) (hef : ∀ m, entryFrame m as mx = mkF m 0 ls0 [])
    (body : ∀ p e s m below meth c, own_K p l e rm s m as below meth c bytes mx rt y.cls y.name Z Q 0 ls0 [] h0 0 0) : own_Met l Z y bytes mx rt ws rm as h0 Q := by
  intro O
  refine MetFree.of_bodySF pn hisR ?_
  intro p e s m args below meth c s₁ Bd hml0 hP hK
  obtain ⟨rfl, hZ, hh⟩ := hP
  have X0 : Stand p l e rm s m _ below meth c s₁ [] 0 0 := Stand.of_body Bd
  have e0 : s₁.heap = h0 := by rw [← hh, Bd.state]; rfl
  obtain ⟨t, o, h1, h2⟩ := body p e s m below meth c s₁ [] Bd.exec Bd.bytes hml0 Bd.returns Bd.notSynchronized (findClass_of_methodNamed Bd.named) (name_of_methodNamed Bd.named Bd.method).1 hZ X0 e0 (Fr.nil _) O
  exact ⟨t, o, castTop (hef m) h1, h2⟩
theorem own_old (k : Old Z Z.heap.size h → own_K p l e R s m args below meth c bytes mx rt own nm Z Q pc ls st h cs sl) : own_K p l e R s m args below meth c bytes mx rt own nm Z Q pc ls st h cs sl := fun T L a b c d e' f g i j n o q => k q T L a b c d e' f g i j n o q
theorem own_more {cs' sl' : Nat} (h1 : cs ≤ cs') (h2 : sl ≤ sl') (k : own_K p l e R s m args below meth c bytes mx rt own nm Z Q pc ls st h cs' sl') : own_K p l e R s m args below meth c bytes mx rt own nm Z Q pc ls st h cs sl := fun T L a b c d e' f g i X n o q =>
  k T L a b c d e' f g i ⟨X.admits, X.cas, X.clock, X.frames, X.room, X.hears, X.method, X.code, X.here, X.tail, X.warmed, X.limits, X.bytes, X.same.mono h1 h2⟩ n o q
/-- one plain step -/
theorem own_xs {r : Except ClassFile.DecodeError (ClassFile.Instr × Nat)} {pc' : Nat} {ls' : Array Slot} {st' : List Value} (hd : decode bytes pc = r)
    (k : own_K p l e R s m args below meth c bytes mx rt own nm Z Q pc' ls' st' h cs sl)
    (f : ∀ (T t : State), At T m c below → p.tables.exec = Jvm.exec → decode c.code pc = r → Steps p.tables e below (T.setTop (mkF m pc' ls' st')) t → Steps p.tables e below (T.setTop (mkF m pc ls st)) t) : own_K p l e R s m args below meth c bytes mx rt own nm Z Q pc ls st h cs sl := fun T L hx hby hml hrt hlk hown hnm hZ X eT N O =>
  own_go (fun t q => f T t X.here hx (hb hby hd) q) (k T L hx hby hml hrt hlk hown hnm hZ X eT N O)
theorem own_nop {A : Prop} (h : A) : A := h
-- loads and stores
theorem own_iloadN (pc' : Nat) (hp : pc + 1 = pc') {k : Fin 4} {v : Int32} (hd : decode bytes pc = .ok (.iload_n k, 1)) (hl : ls[k.val]? = some (.val (.int v))) (q : own_K p l e R s m args below meth c bytes mx rt own nm Z Q pc' ls (.int v :: st) h cs sl) : own_K p l e R s m args below meth c bytes mx rt own nm Z Q pc ls st h cs sl := by subst hp; exact own_xs hd q (fun T t ha hx hd => XS.iloadN (g := mkF m pc ls st) ha hx rfl hd hl)
theorem own_iload (pc' : Nat) (hp : pc + 2 = pc') {k : Nat} {v : Int32} (hd : decode bytes pc = .ok (.iload k, 2)) (hl : ls[k]? = some (.val (.int v))) (q : own_K p l e R s m args below meth c bytes mx rt own nm Z Q pc' ls (.int v :: st) h cs sl) : own_K p l e R s m args below meth c bytes mx rt own nm Z Q pc ls st h cs sl := by subst hp; exact own_xs hd q (fun T t ha hx hd => XS.iload (g := mkF m pc ls st) ha hx rfl hd hl)
theorem own_lloadN (pc' : Nat) (hp : pc + 1 = pc') {k : Fin 4} {v : Int64} (hd : decode bytes pc = .ok (.lload_n k, 1)) (hl : ls[k.val]? = some (.val (.long v))) (q : own_K p l e R s m args below meth c bytes mx rt own nm Z Q pc' ls (.long v :: st) h cs sl) : own_K p l e R s m args below meth c bytes mx rt own nm Z Q pc ls st h cs sl := by subst hp; exact own_xs hd q (fun T t ha hx hd => XS.lloadN (g := mkF m pc ls st) ha hx rfl hd hl)
theorem own_lload (pc' : Nat) (hp : pc + 2 = pc') {k : Nat} {v : Int64} (hd : decode bytes pc = .ok (.lload k, 2)) (hl : ls[k]? = some (.val (.long v))) (q : own_K p l e R s m args below meth c bytes mx rt own nm Z Q pc' ls (.long v :: st) h cs sl) : own_K p l e R s m args below meth c bytes mx rt own nm Z Q pc ls st h cs sl := by subst hp; exact own_xs hd q (fun T t ha hx hd => XS.lload (g := mkF m pc ls st) ha hx rfl hd hl)
theorem own_aloadN (pc' : Nat) (hp : pc + 1 = pc') {k : Fin 4} {v : Value} (hd : decode bytes pc = .ok (.aload_n k, 1)) (hl : ls[k.val]? = some (.val v)) (hv : v.isRef = true) (q : own_K p l e R s m args below meth c bytes mx rt own nm Z Q pc' ls (v :: st) h cs sl) : own_K p l e R s m args below meth c bytes mx rt own nm Z Q pc ls st h cs sl := by subst hp; exact own_xs hd q (fun T t ha hx hd => XS.aloadN (g := mkF m pc ls st) ha hx rfl hd hl hv)
theorem own_aload (pc' : Nat) (hp : pc + 2 = pc') {k : Nat} {v : Value} (hd : decode bytes pc = .ok (.aload k, 2)) (hl : ls[k]? = some (.val v)) (hv : v.isRef = true) (q : own_K p l e R s m args below meth c bytes mx rt own nm Z Q pc' ls (v :: st) h cs sl) : own_K p l e R s m args below meth c bytes mx rt own nm Z Q pc ls st h cs sl := by subst hp; exact own_xs hd q (fun T t ha hx hd => XS.aload (g := mkF m pc ls st) ha hx rfl hd hl hv)
theorem own_istoreN (pc' : Nat) (hp : pc + 1 = pc') (ls' : Array Slot) {k : Fin 4} {v : Int32} (hd : decode bytes pc = .ok (.istore_n k, 1)) (hl : storeLocals ls k.val (.int v) = some ls') (q : own_K p l e R s m args below meth c bytes mx rt own nm Z Q pc' ls' st h cs sl) : own_K p l e R s m args below meth c bytes mx rt own nm Z Q pc ls (.int v :: st) h cs sl := by subst hp; exact own_xs hd q (fun T t ha hx hd => XS.istoreN (g := mkF m pc ls (.int v :: st)) ha hx rfl hd rfl hl)
theorem own_istore (pc' : Nat) (hp : pc + 2 = pc') (ls' : Array Slot) {k : Nat} {v : Int32} (hd : decode bytes pc = .ok (.istore k, 2)) (hl : storeLocals ls k (.int v) = some ls') (q : own_K p l e R s m args below meth c bytes mx rt own nm Z Q pc' ls' st h cs sl) : own_K p l e R s m args below meth c bytes mx rt own nm Z Q pc ls (.int v :: st) h cs sl := by subst hp; exact own_xs hd q (fun T t ha hx hd => XS.istore (g := mkF m pc ls (.int v :: st)) ha hx rfl hd rfl hl)
theorem own_lstoreN (pc' : Nat) (hp : pc + 1 = pc') (ls' : Array Slot) {k : Fin 4} {v : Int64} (hd : decode bytes pc = .ok (.lstore_n k, 1)) (hl : storeLocals ls k.val (.long v) = some ls') (q : own_K p l e R s m args below meth c bytes mx rt own nm Z Q pc' ls' st h cs sl) : own_K p l e R s m args below meth c bytes mx rt own nm Z Q pc ls (.long v :: st) h cs sl := by subst hp; exact own_xs hd q (fun T t ha hx hd => XS.lstoreN (g := mkF m pc ls (.long v :: st)) ha hx rfl hd rfl hl)
theorem own_lstore (pc' : Nat) (hp : pc + 2 = pc') (ls' : Array Slot) {k : Nat} {v : Int64} (hd : decode bytes pc = .ok (.lstore k, 2)) (hl : storeLocals ls k (.long v) = some ls') (q : own_K p l e R s m args below meth c bytes mx rt own nm Z Q pc' ls' st h cs sl) : own_K p l e R s m args below meth c bytes mx rt own nm Z Q pc ls (.long v :: st) h cs sl := by subst hp; exact own_xs hd q (fun T t ha hx hd => XS.lstore (g := mkF m pc ls (.long v :: st)) ha hx rfl hd rfl hl)
theorem own_astoreN (pc' : Nat) (hp : pc + 1 = pc') (ls' : Array Slot) {k : Fin 4} {v : Value} (hd : decode bytes pc = .ok (.astore_n k, 1)) (hv : v.isRef = true) (hl : storeLocals ls k.val v = some ls') (q : own_K p l e R s m args below meth c bytes mx rt own nm Z Q pc' ls' st h cs sl) : own_K p l e R s m args below meth c bytes mx rt own nm Z Q pc ls (v :: st) h cs sl := by subst hp; exact own_xs hd q (fun T t ha hx hd => XS.astoreN (g := mkF m pc ls (v :: st)) ha hx rfl hd rfl hv hl)
theorem own_astore (pc' : Nat) (hp : pc + 2 = pc') (ls' : Array Slot) {k : Nat} {v : Value} (hd : decode bytes pc = .ok (.astore k, 2)) (hv : v.isRef = true) (hl : storeLocals ls k v = some ls') (q : own_K p l e R s m args below meth c bytes mx rt own nm Z Q pc' ls' st h cs sl) : own_K p l e R s m args below meth c bytes mx rt own nm Z Q pc ls (v :: st) h cs sl := by subst hp; exact own_xs hd q (fun T t ha hx hd => XS.astore (g := mkF m pc ls (v :: st)) ha hx rfl hd rfl hv hl)
theorem own_iinc (pc' : Nat) (hp : pc + 3 = pc') (ls' : Array Slot) {k : Nat} {i : Int} {x : Int32} (v : Int32) (hd : decode bytes pc = .ok (.iinc k i, 3)) (hv : Int32.ofInt i = v) (hl : ls[k]? = some (.val (.int x))) (hl' : storeLocals ls k (.int (x + v)) = some ls') (q : own_K p l e R s m args below meth c bytes mx rt own nm Z Q pc' ls' st h cs sl) : own_K p l e R s m args below meth c bytes mx rt own nm Z Q pc ls st h cs sl := by subst hp; subst hv; exact own_xs hd q (fun T t ha hx hd => XS.iinc (g := mkF m pc ls st) ha hx rfl hd hl hl')
-- constants
theorem own_iconst (pc' : Nat) (hp : pc + 1 = pc') (v : Int32) {i : Int} (hd : decode bytes pc = .ok (.iconst i, 1)) (hv : Int32.ofInt i = v) (q : own_K p l e R s m args below meth c bytes mx rt own nm Z Q pc' ls (.int v :: st) h cs sl) : own_K p l e R s m args below meth c bytes mx rt own nm Z Q pc ls st h cs sl := by subst hp; subst hv; exact own_xs hd q (fun T t ha hx hd => XS.iconst (g := mkF m pc ls st) ha hx rfl hd)
theorem own_bipush (pc' : Nat) (hp : pc + 2 = pc') (v : Int32) {i : Int} (hd : decode bytes pc = .ok (.bipush i, 2)) (hv : (Int8.ofInt i).toInt32 = v) (q : own_K p l e R s m args below meth c bytes mx rt own nm Z Q pc' ls (.int v :: st) h cs sl) : own_K p l e R s m args below meth c bytes mx rt own nm Z Q pc ls st h cs sl := by subst hp; subst hv; exact own_xs hd q (fun T t ha hx hd => XS.bipush (g := mkF m pc ls st) ha hx rfl hd)
theorem own_sipush (pc' : Nat) (hp : pc + 3 = pc') (v : Int32) {i : Int} (hd : decode bytes pc = .ok (.sipush i, 3)) (hv : (Int16.ofInt i).toInt32 = v) (q : own_K p l e R s m args below meth c bytes mx rt own nm Z Q pc' ls (.int v :: st) h cs sl) : own_K p l e R s m args below meth c bytes mx rt own nm Z Q pc ls st h cs sl := by subst hp; subst hv; exact own_xs hd q (fun T t ha hx hd => XS.sipush (g := mkF m pc ls st) ha hx rfl hd)
theorem own_lconst (pc' : Nat) (hp : pc + 1 = pc') (v : Int64) {i : Fin 2} (hd : decode bytes pc = .ok (.lconst i, 1)) (hv : Int64.ofNat i = v) (q : own_K p l e R s m args below meth c bytes mx rt own nm Z Q pc' ls (.long v :: st) h cs sl) : own_K p l e R s m args below meth c bytes mx rt own nm Z Q pc ls st h cs sl := by subst hp; subst hv; exact own_xs hd q (fun T t ha hx hd => XT.lconst (g := mkF m pc ls st) ha hx rfl hd)
theorem own_aconstNull (pc' : Nat) (hp : pc + 1 = pc') (hd : decode bytes pc = .ok (.aconst_null, 1)) (q : own_K p l e R s m args below meth c bytes mx rt own nm Z Q pc' ls (.null :: st) h cs sl) : own_K p l e R s m args below meth c bytes mx rt own nm Z Q pc ls st h cs sl := by subst hp; exact own_xs hd q (fun T t ha hx hd => XS.aconstNull (g := mkF m pc ls st) ha hx rfl hd)
theorem own_ldcInt (pc' : Nat) (hp : pc + 2 = pc') {v : Int32} {index : Nat} (w : (Jvm.Cond.constant own index v).before a0 Z = true) (hd : decode bytes pc = .ok (.ldc index, 2)) (q : own_K p l e R s m args below meth c bytes mx rt own nm Z Q pc' ls (.int v :: st) h cs sl) : own_K p l e R s m args below meth c bytes mx rt own nm Z Q pc ls st h cs sl := fun T L hx hby hml hrt hlk hown hnm hZ X eT N O => by
  subst hp; exact own_go (X.ldcInt hx hown (mvT hZ w) (g := mkF m pc ls st) rfl (hb hby hd)) (q T L hx hby hml hrt hlk hown hnm hZ X eT N O)
theorem own_ldc2Long (pc' : Nat) (hp : pc + 3 = pc') {v : Int64} {index : Nat} (w : (Jvm.Cond.constantLong own index v).before a0 Z = true) (hd : decode bytes pc = .ok (.ldc2_w index, 3)) (q : own_K p l e R s m args below meth c bytes mx rt own nm Z Q pc' ls (.long v :: st) h cs sl) : own_K p l e R s m args below meth c bytes mx rt own nm Z Q pc ls st h cs sl := fun T L hx hby hml hrt hlk hown hnm hZ X eT N O => by
  subst hp; exact own_go (X.ldc2Long hx hown (mvT hZ w) (g := mkF m pc ls st) rfl (hb hby hd)) (q T L hx hby hml hrt hlk hown hnm hZ X eT N O)
theorem own_ldcFloat (pc' : Nat) (hp : pc + 2 = pc') {b : UInt32} {index : Nat} (w : (Jvm.Cond.constantFloat own index b).before a0 Z = true) (hd : decode bytes pc = .ok (.ldc index, 2)) (q : own_K p l e R s m args below meth c bytes mx rt own nm Z Q pc' ls (.float b :: st) h cs sl) : own_K p l e R s m args below meth c bytes mx rt own nm Z Q pc ls st h cs sl := fun T L hx hby hml hrt hlk hown hnm hZ X eT N O => by
  subst hp; exact own_go (X.ldcFloatC hx hown (mvT hZ w) (g := mkF m pc ls st) rfl (hb hby hd)) (q T L hx hby hml hrt hlk hown hnm hZ X eT N O)
-- arithmetic
theorem own_iadd (pc' : Nat) (hp : pc + 1 = pc') {x y : Int32} (hd : decode bytes pc = .ok (.iadd, 1)) (q : own_K p l e R s m args below meth c bytes mx rt own nm Z Q pc' ls (.int (x + y) :: st) h cs sl) : own_K p l e R s m args below meth c bytes mx rt own nm Z Q pc ls (.int y :: .int x :: st) h cs sl := by subst hp; exact own_xs hd q (fun T t ha hx hd => XS.iadd (g := mkF m pc ls (.int y :: .int x :: st)) ha hx rfl hd rfl)
theorem own_isub (pc' : Nat) (hp : pc + 1 = pc') {x y : Int32} (hd : decode bytes pc = .ok (.isub, 1)) (q : own_K p l e R s m args below meth c bytes mx rt own nm Z Q pc' ls (.int (x - y) :: st) h cs sl) : own_K p l e R s m args below meth c bytes mx rt own nm Z Q pc ls (.int y :: .int x :: st) h cs sl := by subst hp; exact own_xs hd q (fun T t ha hx hd => XS.isub (g := mkF m pc ls (.int y :: .int x :: st)) ha hx rfl hd rfl)
theorem own_imul (pc' : Nat) (hp : pc + 1 = pc') {x y : Int32} (hd : decode bytes pc = .ok (.imul, 1)) (q : own_K p l e R s m args below meth c bytes mx rt own nm Z Q pc' ls (.int (x * y) :: st) h cs sl) : own_K p l e R s m args below meth c bytes mx rt own nm Z Q pc ls (.int y :: .int x :: st) h cs sl := by subst hp; exact own_xs hd q (fun T t ha hx hd => XS.imul (g := mkF m pc ls (.int y :: .int x :: st)) ha hx rfl hd rfl)
theorem own_iand (pc' : Nat) (hp : pc + 1 = pc') {x y : Int32} (hd : decode bytes pc = .ok (.iand, 1)) (q : own_K p l e R s m args below meth c bytes mx rt own nm Z Q pc' ls (.int (x &&& y) :: st) h cs sl) : own_K p l e R s m args below meth c bytes mx rt own nm Z Q pc ls (.int y :: .int x :: st) h cs sl := by subst hp; exact own_xs hd q (fun T t ha hx hd => XS.iand (g := mkF m pc ls (.int y :: .int x :: st)) ha hx rfl hd rfl)
theorem own_ior (pc' : Nat) (hp : pc + 1 = pc') {x y : Int32} (hd : decode bytes pc = .ok (.ior, 1)) (q : own_K p l e R s m args below meth c bytes mx rt own nm Z Q pc' ls (.int (x ||| y) :: st) h cs sl) : own_K p l e R s m args below meth c bytes mx rt own nm Z Q pc ls (.int y :: .int x :: st) h cs sl := by subst hp; exact own_xs hd q (fun T t ha hx hd => XS.ior (g := mkF m pc ls (.int y :: .int x :: st)) ha hx rfl hd rfl)
theorem own_ixor (pc' : Nat) (hp : pc + 1 = pc') {x y : Int32} (hd : decode bytes pc = .ok (.ixor, 1)) (q : own_K p l e R s m args below meth c bytes mx rt own nm Z Q pc' ls (.int (x ^^^ y) :: st) h cs sl) : own_K p l e R s m args below meth c bytes mx rt own nm Z Q pc ls (.int y :: .int x :: st) h cs sl := by subst hp; exact own_xs hd q (fun T t ha hx hd => XS.ixor (g := mkF m pc ls (.int y :: .int x :: st)) ha hx rfl hd rfl)
theorem own_idiv (pc' : Nat) (hp : pc + 1 = pc') {x y : Int32} (hd : decode bytes pc = .ok (.idiv, 1)) (hy : y ≠ 0) (q : own_K p l e R s m args below meth c bytes mx rt own nm Z Q pc' ls (.int (x / y) :: st) h cs sl) : own_K p l e R s m args below meth c bytes mx rt own nm Z Q pc ls (.int y :: .int x :: st) h cs sl := by subst hp; exact own_xs hd q (fun T t ha hx hd => XS.idiv (g := mkF m pc ls (.int y :: .int x :: st)) ha hx rfl hd rfl hy)
theorem own_irem (pc' : Nat) (hp : pc + 1 = pc') {x y : Int32} (hd : decode bytes pc = .ok (.irem, 1)) (hy : y ≠ 0) (q : own_K p l e R s m args below meth c bytes mx rt own nm Z Q pc' ls (.int (x % y) :: st) h cs sl) : own_K p l e R s m args below meth c bytes mx rt own nm Z Q pc ls (.int y :: .int x :: st) h cs sl := fun T L hx hby hml hrt hlk hown hnm hZ X eT N O => by
  subst hp; exact own_go (fun t k => iremM (g := mkF m pc ls (.int y :: .int x :: st)) X hx rfl (hb hby hd) rfl hy k) (q T L hx hby hml hrt hlk hown hnm hZ X eT N O)
theorem own_ineg (pc' : Nat) (hp : pc + 1 = pc') {x : Int32} (hd : decode bytes pc = .ok (.ineg, 1)) (q : own_K p l e R s m args below meth c bytes mx rt own nm Z Q pc' ls (.int (-x) :: st) h cs sl) : own_K p l e R s m args below meth c bytes mx rt own nm Z Q pc ls (.int x :: st) h cs sl := by subst hp; exact own_xs hd q (fun T t ha hx hd => XS.ineg (g := mkF m pc ls (.int x :: st)) ha hx rfl hd rfl)
theorem own_ishl (pc' : Nat) (hp : pc + 1 = pc') {x y : Int32} (hd : decode bytes pc = .ok (.ishl, 1)) (q : own_K p l e R s m args below meth c bytes mx rt own nm Z Q pc' ls (.int (x <<< (y &&& 31)) :: st) h cs sl) : own_K p l e R s m args below meth c bytes mx rt own nm Z Q pc ls (.int y :: .int x :: st) h cs sl := by subst hp; exact own_xs hd q (fun T t ha hx hd => XS.ishl (g := mkF m pc ls (.int y :: .int x :: st)) ha hx rfl hd rfl)
theorem own_ishr (pc' : Nat) (hp : pc + 1 = pc') {x y : Int32} (hd : decode bytes pc = .ok (.ishr, 1)) (q : own_K p l e R s m args below meth c bytes mx rt own nm Z Q pc' ls (.int (x >>> (y &&& 31)) :: st) h cs sl) : own_K p l e R s m args below meth c bytes mx rt own nm Z Q pc ls (.int y :: .int x :: st) h cs sl := by subst hp; exact own_xs hd q (fun T t ha hx hd => XS.ishr (g := mkF m pc ls (.int y :: .int x :: st)) ha hx rfl hd rfl)
theorem own_iushr (pc' : Nat) (hp : pc + 1 = pc') {x y : Int32} (hd : decode bytes pc = .ok (.iushr, 1)) (q : own_K p l e R s m args below meth c bytes mx rt own nm Z Q pc' ls (.int ((x.toUInt32 >>> (y &&& 31).toUInt32).toInt32) :: st) h cs sl) : own_K p l e R s m args below meth c bytes mx rt own nm Z Q pc ls (.int y :: .int x :: st) h cs sl := by subst hp; exact own_xs hd q (fun T t ha hx hd => XS.iushr (g := mkF m pc ls (.int y :: .int x :: st)) ha hx rfl hd rfl)
theorem own_i2l (pc' : Nat) (hp : pc + 1 = pc') {x : Int32} (hd : decode bytes pc = .ok (.i2l, 1)) (q : own_K p l e R s m args below meth c bytes mx rt own nm Z Q pc' ls (.long x.toInt64 :: st) h cs sl) : own_K p l e R s m args below meth c bytes mx rt own nm Z Q pc ls (.int x :: st) h cs sl := by subst hp; exact own_xs hd q (fun T t ha hx hd => XS.i2l (g := mkF m pc ls (.int x :: st)) ha hx rfl hd rfl)
theorem own_l2i (pc' : Nat) (hp : pc + 1 = pc') {x : Int64} (hd : decode bytes pc = .ok (.l2i, 1)) (q : own_K p l e R s m args below meth c bytes mx rt own nm Z Q pc' ls (.int x.toInt32 :: st) h cs sl) : own_K p l e R s m args below meth c bytes mx rt own nm Z Q pc ls (.long x :: st) h cs sl := by subst hp; exact own_xs hd q (fun T t ha hx hd => XS.l2i (g := mkF m pc ls (.long x :: st)) ha hx rfl hd rfl)
theorem own_i2b (pc' : Nat) (hp : pc + 1 = pc') {x : Int32} (hd : decode bytes pc = .ok (.i2b, 1)) (q : own_K p l e R s m args below meth c bytes mx rt own nm Z Q pc' ls (.int x.toInt8.toInt32 :: st) h cs sl) : own_K p l e R s m args below meth c bytes mx rt own nm Z Q pc ls (.int x :: st) h cs sl := by subst hp; exact own_xs hd q (fun T t ha hx hd => XS.i2b (g := mkF m pc ls (.int x :: st)) ha hx rfl hd rfl)
theorem own_i2c (pc' : Nat) (hp : pc + 1 = pc') {x : Int32} (hd : decode bytes pc = .ok (.i2c, 1)) (q : own_K p l e R s m args below meth c bytes mx rt own nm Z Q pc' ls (.int x.toUInt32.toUInt16.toUInt32.toInt32 :: st) h cs sl) : own_K p l e R s m args below meth c bytes mx rt own nm Z Q pc ls (.int x :: st) h cs sl := by subst hp; exact own_xs hd q (fun T t ha hx hd => XS.i2c (g := mkF m pc ls (.int x :: st)) ha hx rfl hd rfl)
theorem own_ladd (pc' : Nat) (hp : pc + 1 = pc') {x y : Int64} (hd : decode bytes pc = .ok (.ladd, 1)) (q : own_K p l e R s m args below meth c bytes mx rt own nm Z Q pc' ls (.long (x + y) :: st) h cs sl) : own_K p l e R s m args below meth c bytes mx rt own nm Z Q pc ls (.long y :: .long x :: st) h cs sl := by subst hp; exact own_xs hd q (fun T t ha hx hd => XS.ladd (g := mkF m pc ls (.long y :: .long x :: st)) ha hx rfl hd rfl)
theorem own_lsub (pc' : Nat) (hp : pc + 1 = pc') {x y : Int64} (hd : decode bytes pc = .ok (.lsub, 1)) (q : own_K p l e R s m args below meth c bytes mx rt own nm Z Q pc' ls (.long (x - y) :: st) h cs sl) : own_K p l e R s m args below meth c bytes mx rt own nm Z Q pc ls (.long y :: .long x :: st) h cs sl := by subst hp; exact own_xs hd q (fun T t ha hx hd => XS.lsub (g := mkF m pc ls (.long y :: .long x :: st)) ha hx rfl hd rfl)
theorem own_lmul (pc' : Nat) (hp : pc + 1 = pc') {x y : Int64} (hd : decode bytes pc = .ok (.lmul, 1)) (q : own_K p l e R s m args below meth c bytes mx rt own nm Z Q pc' ls (.long (x * y) :: st) h cs sl) : own_K p l e R s m args below meth c bytes mx rt own nm Z Q pc ls (.long y :: .long x :: st) h cs sl := by subst hp; exact own_xs hd q (fun T t ha hx hd => XS.lmul (g := mkF m pc ls (.long y :: .long x :: st)) ha hx rfl hd rfl)
theorem own_land (pc' : Nat) (hp : pc + 1 = pc') {x y : Int64} (hd : decode bytes pc = .ok (.land, 1)) (q : own_K p l e R s m args below meth c bytes mx rt own nm Z Q pc' ls (.long (x &&& y) :: st) h cs sl) : own_K p l e R s m args below meth c bytes mx rt own nm Z Q pc ls (.long y :: .long x :: st) h cs sl := by subst hp; exact own_xs hd q (fun T t ha hx hd => XS.land (g := mkF m pc ls (.long y :: .long x :: st)) ha hx rfl hd rfl)
theorem own_lxor (pc' : Nat) (hp : pc + 1 = pc') {x y : Int64} (hd : decode bytes pc = .ok (.lxor, 1)) (q : own_K p l e R s m args below meth c bytes mx rt own nm Z Q pc' ls (.long (x ^^^ y) :: st) h cs sl) : own_K p l e R s m args below meth c bytes mx rt own nm Z Q pc ls (.long y :: .long x :: st) h cs sl := by subst hp; exact own_xs hd q (fun T t ha hx hd => XS.lxor (g := mkF m pc ls (.long y :: .long x :: st)) ha hx rfl hd rfl)
theorem own_ldiv (pc' : Nat) (hp : pc + 1 = pc') {x y : Int64} (hd : decode bytes pc = .ok (.ldiv, 1)) (hy : y ≠ 0) (q : own_K p l e R s m args below meth c bytes mx rt own nm Z Q pc' ls (.long (x / y) :: st) h cs sl) : own_K p l e R s m args below meth c bytes mx rt own nm Z Q pc ls (.long y :: .long x :: st) h cs sl := by subst hp; exact own_xs hd q (fun T t ha hx hd => XS.ldiv (g := mkF m pc ls (.long y :: .long x :: st)) ha hx rfl hd rfl hy)
theorem own_lrem (pc' : Nat) (hp : pc + 1 = pc') {x y : Int64} (hd : decode bytes pc = .ok (.lrem, 1)) (hy : y ≠ 0) (q : own_K p l e R s m args below meth c bytes mx rt own nm Z Q pc' ls (.long (x % y) :: st) h cs sl) : own_K p l e R s m args below meth c bytes mx rt own nm Z Q pc ls (.long y :: .long x :: st) h cs sl := by subst hp; rw [← lrem_mod] at q; exact own_xs hd q (fun T t ha hx hd => XT.lrem (g := mkF m pc ls (.long y :: .long x :: st)) ha hx rfl hd rfl hy)
theorem own_lneg (pc' : Nat) (hp : pc + 1 = pc') {x : Int64} (hd : decode bytes pc = .ok (.lneg, 1)) (q : own_K p l e R s m args below meth c bytes mx rt own nm Z Q pc' ls (.long (-x) :: st) h cs sl) : own_K p l e R s m args below meth c bytes mx rt own nm Z Q pc ls (.long x :: st) h cs sl := by subst hp; exact own_xs hd q (fun T t ha hx hd => XS.lneg (g := mkF m pc ls (.long x :: st)) ha hx rfl hd rfl)
theorem own_lcmp (pc' : Nat) (hp : pc + 1 = pc') {x y : Int64} (hd : decode bytes pc = .ok (.lcmp, 1)) (q : own_K p l e R s m args below meth c bytes mx rt own nm Z Q pc' ls (.int (lcmpW x y) :: st) h cs sl) : own_K p l e R s m args below meth c bytes mx rt own nm Z Q pc ls (.long y :: .long x :: st) h cs sl := by subst hp; exact own_xs hd q (fun T t ha hx hd => XS.lcmp (g := mkF m pc ls (.long y :: .long x :: st)) ha hx rfl hd rfl)
-- the stack
theorem own_dup (pc' : Nat) (hp : pc + 1 = pc') {x : Value} (hd : decode bytes pc = .ok (.dup, 1)) (hc : x.category = 1) (q : own_K p l e R s m args below meth c bytes mx rt own nm Z Q pc' ls (x :: x :: st) h cs sl) : own_K p l e R s m args below meth c bytes mx rt own nm Z Q pc ls (x :: st) h cs sl := by subst hp; exact own_xs hd q (fun T t ha hx hd => XS.dup (g := mkF m pc ls (x :: st)) ha hx rfl hd rfl hc)
theorem own_pop (pc' : Nat) (hp : pc + 1 = pc') {x : Value} (hd : decode bytes pc = .ok (.pop, 1)) (hc : x.category = 1) (q : own_K p l e R s m args below meth c bytes mx rt own nm Z Q pc' ls st h cs sl) : own_K p l e R s m args below meth c bytes mx rt own nm Z Q pc ls (x :: st) h cs sl := by subst hp; exact own_xs hd q (fun T t ha hx hd => XS.pop (g := mkF m pc ls (x :: st)) ha hx rfl hd rfl hc)
theorem own_dupX1 (pc' : Nat) (hp : pc + 1 = pc') {x y : Value} (hd : decode bytes pc = .ok (.dup_x1, 1)) (hc : x.category = 1) (hc' : y.category = 1) (q : own_K p l e R s m args below meth c bytes mx rt own nm Z Q pc' ls (x :: y :: x :: st) h cs sl) : own_K p l e R s m args below meth c bytes mx rt own nm Z Q pc ls (x :: y :: st) h cs sl := by subst hp; exact own_xs hd q (fun T t ha hx hd => XT.dupX1 (g := mkF m pc ls (x :: y :: st)) ha hx rfl hd rfl hc hc')
theorem own_dup2 (pc' : Nat) (hp : pc + 1 = pc') {x y : Value} (hd : decode bytes pc = .ok (.dup2, 1)) (hc : x.category = 1) (hc' : y.category = 1) (q : own_K p l e R s m args below meth c bytes mx rt own nm Z Q pc' ls (x :: y :: x :: y :: st) h cs sl) : own_K p l e R s m args below meth c bytes mx rt own nm Z Q pc ls (x :: y :: st) h cs sl := by subst hp; exact own_xs hd q (fun T t ha hx hd => XT.dup2 (g := mkF m pc ls (x :: y :: st)) ha hx rfl hd rfl hc hc')
-- branches
theorem own_goto (pc' : Nat) {o : Int} (hd : decode bytes pc = .ok (.goto o, 3)) (ho : 0 ≤ (pc : Int) + o) (hp : ((pc : Int) + o).toNat = pc') (q : own_K p l e R s m args below meth c bytes mx rt own nm Z Q pc' ls st h cs sl) : own_K p l e R s m args below meth c bytes mx rt own nm Z Q pc ls st h cs sl := own_xs hd q (fun T t ha hx hd => XS.goto (g := mkF m pc ls st) ha hx rfl rfl hd ho hp)
theorem own_ifYes (pc' : Nat) {cd : ClassFile.Cond} {x : Int32} {o : Int} (hd : decode bytes pc = .ok (.ifCond cd o, 3)) (hc : if_icmp.holds cd x 0 = true) (ho : 0 ≤ (pc : Int) + o) (hp : ((pc : Int) + o).toNat = pc') (q : own_K p l e R s m args below meth c bytes mx rt own nm Z Q pc' ls st h cs sl) : own_K p l e R s m args below meth c bytes mx rt own nm Z Q pc ls (.int x :: st) h cs sl := own_xs hd q (fun T t ha hx hd => XS.ifYes (g := mkF m pc ls (.int x :: st)) ha hx rfl rfl hd rfl ((if0 _ _).trans hc) ho hp)
theorem own_ifNo (pc' : Nat) (hp : pc + 3 = pc') {cd : ClassFile.Cond} {x : Int32} {o : Int} (hd : decode bytes pc = .ok (.ifCond cd o, 3)) (hc : if_icmp.holds cd x 0 = false) (q : own_K p l e R s m args below meth c bytes mx rt own nm Z Q pc' ls st h cs sl) : own_K p l e R s m args below meth c bytes mx rt own nm Z Q pc ls (.int x :: st) h cs sl := by subst hp; exact own_xs hd q (fun T t ha hx hd => XS.ifNo (g := mkF m pc ls (.int x :: st)) ha hx rfl hd rfl ((if0 _ _).trans hc))
theorem own_icmpYes (pc' : Nat) {cd : ClassFile.Cond} {x y : Int32} {o : Int} (hd : decode bytes pc = .ok (.if_icmp cd o, 3)) (hc : if_icmp.holds cd x y = true) (ho : 0 ≤ (pc : Int) + o) (hp : ((pc : Int) + o).toNat = pc') (q : own_K p l e R s m args below meth c bytes mx rt own nm Z Q pc' ls st h cs sl) : own_K p l e R s m args below meth c bytes mx rt own nm Z Q pc ls (.int y :: .int x :: st) h cs sl := own_xs hd q (fun T t ha hx hd => XS.icmpYes (g := mkF m pc ls (.int y :: .int x :: st)) ha hx rfl rfl hd rfl hc ho hp)
theorem own_icmpNo (pc' : Nat) (hp : pc + 3 = pc') {cd : ClassFile.Cond} {x y : Int32} {o : Int} (hd : decode bytes pc = .ok (.if_icmp cd o, 3)) (hc : if_icmp.holds cd x y = false) (q : own_K p l e R s m args below meth c bytes mx rt own nm Z Q pc' ls st h cs sl) : own_K p l e R s m args below meth c bytes mx rt own nm Z Q pc ls (.int y :: .int x :: st) h cs sl := by subst hp; exact own_xs hd q (fun T t ha hx hd => XS.icmpNo (g := mkF m pc ls (.int y :: .int x :: st)) ha hx rfl hd rfl hc)
theorem own_acmpYes (pc' : Nat) {cd : ClassFile.ACond} {x y : Value} {o : Int} (hd : decode bytes pc = .ok (.if_acmp cd o, 3)) (hx' : x.isRef = true) (hy' : y.isRef = true) (hc : XT.acmp cd x y = true) (ho : 0 ≤ (pc : Int) + o) (hp : ((pc : Int) + o).toNat = pc') (q : own_K p l e R s m args below meth c bytes mx rt own nm Z Q pc' ls st h cs sl) : own_K p l e R s m args below meth c bytes mx rt own nm Z Q pc ls (y :: x :: st) h cs sl := own_xs hd q (fun T t ha hx hd => XT.acmpYes (g := mkF m pc ls (y :: x :: st)) ha hx rfl rfl hd rfl hx' hy' hc ho hp)
theorem own_acmpNo (pc' : Nat) (hp : pc + 3 = pc') {cd : ClassFile.ACond} {x y : Value} {o : Int} (hd : decode bytes pc = .ok (.if_acmp cd o, 3)) (hx' : x.isRef = true) (hy' : y.isRef = true) (hc : XT.acmp cd x y = false) (q : own_K p l e R s m args below meth c bytes mx rt own nm Z Q pc' ls st h cs sl) : own_K p l e R s m args below meth c bytes mx rt own nm Z Q pc ls (y :: x :: st) h cs sl := by subst hp; exact own_xs hd q (fun T t ha hx hd => XT.acmpNo (g := mkF m pc ls (y :: x :: st)) ha hx rfl hd rfl hx' hy' hc)
theorem own_teq {x y : Value} (q : x = y) : XT.acmp .eq x y = true ∧ XT.acmp .ne x y = false := ⟨decide_eq_true q, decide_eq_false fun f => f q⟩
theorem own_feq {x y : Value} (q : ¬ x = y) : XT.acmp .eq x y = false ∧ XT.acmp .ne x y = true := ⟨decide_eq_false q, decide_eq_true q⟩
theorem own_ifnullYes (pc' : Nat) {o : Int} (hd : decode bytes pc = .ok (.ifnull o, 3)) (ho : 0 ≤ (pc : Int) + o) (hp : ((pc : Int) + o).toNat = pc') (q : own_K p l e R s m args below meth c bytes mx rt own nm Z Q pc' ls st h cs sl) : own_K p l e R s m args below meth c bytes mx rt own nm Z Q pc ls (.null :: st) h cs sl := own_xs hd q (fun T t ha hx hd => XS.ifnullYes (g := mkF m pc ls (.null :: st)) ha hx rfl rfl hd rfl ho hp)
theorem own_ifnullNo (pc' : Nat) (hp : pc + 3 = pc') {b : Addr} {o : Int} (hd : decode bytes pc = .ok (.ifnull o, 3)) (q : own_K p l e R s m args below meth c bytes mx rt own nm Z Q pc' ls st h cs sl) : own_K p l e R s m args below meth c bytes mx rt own nm Z Q pc ls (.ref b :: st) h cs sl := by subst hp; exact own_xs hd q (fun T t ha hx hd => XS.ifnullNo (g := mkF m pc ls (.ref b :: st)) ha hx rfl hd rfl)
theorem own_ifnonnullYes (pc' : Nat) {b : Addr} {o : Int} (hd : decode bytes pc = .ok (.ifnonnull o, 3)) (ho : 0 ≤ (pc : Int) + o) (hp : ((pc : Int) + o).toNat = pc') (q : own_K p l e R s m args below meth c bytes mx rt own nm Z Q pc' ls st h cs sl) : own_K p l e R s m args below meth c bytes mx rt own nm Z Q pc ls (.ref b :: st) h cs sl := own_xs hd q (fun T t ha hx hd => XT.ifnonnullYes (g := mkF m pc ls (.ref b :: st)) ha hx rfl rfl hd rfl ho hp)
theorem own_ifnonnullNo (pc' : Nat) (hp : pc + 3 = pc') {o : Int} (hd : decode bytes pc = .ok (.ifnonnull o, 3)) (q : own_K p l e R s m args below meth c bytes mx rt own nm Z Q pc' ls st h cs sl) : own_K p l e R s m args below meth c bytes mx rt own nm Z Q pc ls (.null :: st) h cs sl := by subst hp; exact own_xs hd q (fun T t ha hx hd => XT.ifnonnullNo (g := mkF m pc ls (.null :: st)) ha hx rfl hd rfl)
-- fields
theorem own_getF (pc' : Nat) (hp : pc + 3 = pc') {R0 O n d host : String} {index : Nat} (w : (Jvm.Cond.fieldLink own index R0 n d).before a0 Z = true ∨ (Jvm.Cond.fieldLinkNest own index R0 n d host).before a0 Z = true) (via : Via Z R0 O n d) {a : Addr} {v : Value} (F : Fld Z h a O n d v) (hd : decode bytes pc = .ok (.getfield index, 3))
    (q : own_K p l e R s m args below meth c bytes mx rt own nm Z Q pc' ls (v :: st) h cs sl) : own_K p l e R s m args below meth c bytes mx rt own nm Z Q pc ls (.ref a :: st) h cs sl := fun T L hx hby hml hrt hlk hown hnm hZ X eT N O' => by
  subst hp
  obtain ⟨T', X', e', s'⟩ := getF X hx hZ hown w via eT F (g := mkF m pc ls (.ref a :: st)) rfl rfl (hb hby hd)
  exact own_go s' (q T' L hx hby hml hrt hlk hown hnm hZ X' e' N O')
theorem own_getS (pc' : Nat) (hp : pc + 3 = pc') {R0 O n d host : String} {index : Nat} (w : (Jvm.Cond.fieldLink own index R0 n d).before a0 Z = true ∨ (Jvm.Cond.fieldLinkNest own index R0 n d host).before a0 Z = true) (via : Via Z R0 O n d) {v : Value} (F : Sta Z Z.heap O n d v) (hd : decode bytes pc = .ok (.getstatic index, 3))
    (q : own_K p l e R s m args below meth c bytes mx rt own nm Z Q pc' ls (v :: st) h cs sl) : own_K p l e R s m args below meth c bytes mx rt own nm Z Q pc ls st h cs sl := fun T L hx hby hml hrt hlk hown hnm hZ X eT N O' => by
  subst hp
  obtain ⟨T', X', e', s'⟩ := getS2 X hx hZ hown w via eT (F.ext O'.2) (g := mkF m pc ls st) rfl (hb hby hd)
  exact own_go s' (q T' L hx hby hml hrt hlk hown hnm hZ X' e' N O')
theorem own_putF (pc' : Nat) (hp : pc + 3 = pc') {R0 O n d host C : String} {index kk : Nat} {ty : FieldType} (w : (Jvm.Cond.fieldLink own index R0 n d).before a0 Z = true ∨ (Jvm.Cond.fieldLinkNest own index R0 n d host).before a0 Z = true) (via : Via Z R0 O n d) {a : Addr} {v old : Value} (ga : Z.heap.size ≤ a) (F : Fld Z h a O n d old) (E : Exa Z h a C)
    (L0 : (Jvm.Cond.lays C O n d).before a0 Z = true ∨ ((Jvm.Cond.laysFinal C O n d).before a0 Z = true ∧ own = O ∧ nm = "<init>")) (wi : (Jvm.Cond.instantiable C kk).before a0 Z = true) (hty : parseFieldDescriptor d = some ty) (hn : narrow ty v = v) (hf : fits ty v = true) (hd : decode bytes pc = .ok (.putfield index, 3))
    (q : ∀ h', Wr h h' a (Jvm.RoadKit.slotOf Z O n d) v → own_K p l e R s m args below meth c bytes mx rt own nm Z Q pc' ls st h' cs sl) : own_K p l e R s m args below meth c bytes mx rt own nm Z Q pc ls (v :: .ref a :: st) h cs sl := fun T L hx hby hml hrt hlk hown hnm hZ X eT N O' => by
  subst hp
  obtain ⟨T', h', X', e', W', s'⟩ := putF X hx hZ hown w via eT F E (L0.imp id fun u => ⟨u.1, u.2.1, hnm.trans u.2.2⟩) wi hty hn hf (g := mkF m pc ls (v :: .ref a :: st)) rfl rfl (hb hby hd)
  exact own_go s' (q h' W' T' _ hx hby hml hrt hlk hown hnm hZ X' e' (Fr.snoc X' N ga) (O'.wr W' ga))
-- objects and arrays
theorem own_newO (pc' : Nat) (hp : pc + 3 = pc') (cs' sl' : Nat) {C : String} {index n : Nat} (w : (Jvm.Cond.classLink own index C).before a0 Z = true) (wi : (Jvm.Cond.instantiable C n).before a0 Z = true) (wz : (Jvm.Cond.initialized C).before a0 Z = true) (hd : decode bytes pc = .ok (.new index, 3)) (hcs : cs + 1 = cs') (hsl : sl + n = sl') (hc : cs' ≤ R.cells) (hl : sl' ≤ R.slots)
    (q : ∀ h' (a : Addr), a = h.size → Z.heap.size ≤ a → Ext h h' → Exa Z h' a C → (∀ {O nm d : String} {ty : FieldType}, Laid Z a0 C O nm d → parseFieldDescriptor d = some ty → Fld Z h' a O nm d (defaultValue ty)) → own_K p l e R s m args below meth c bytes mx rt own nm Z Q pc' ls (.ref a :: st) h' cs' sl') : own_K p l e R s m args below meth c bytes mx rt own nm Z Q pc ls st h cs sl := fun T L hx hby hml hrt hlk hown hnm hZ X eT N O' => by
  subst hp; subst hcs; subst hsl
  obtain ⟨T', h', X', e', E', A', D', -, s'⟩ := newO X hx hZ hown w wi wz eT (g := mkF m pc ls st) rfl (hb hby hd) hc hl
  exact own_go s' (q h' _ rfl O'.2.1 E' A' D' T' _ hx hby hml hrt hlk hown hnm hZ X' e' N (O'.ext E'))
theorem own_newP (pc' : Nat) (hp : pc + 2 = pc') (cs' sl' cap : Nat) (ad : String) {aty : ArrayType} (had : "[" ++ (newarray.typeOf aty).toString = ad) (w : (Jvm.Cond.arrayClass (newarray.typeOf aty)).before a0 Z = true) (hd : decode bytes pc = .ok (.newarray aty, 2)) {n : Int32} (hn : ¬ n < 0) (hcap : n.toNatClampNeg ≤ cap) (hb' : cap * 8 ≤ 536870912) (hcs : cs + 1 = cs') (hsl : sl + cap = sl') (hc : cs' ≤ R.cells) (hl : sl' ≤ R.slots)
    (q : ∀ h' (a : Addr) k, a = h.size → Z.heap.size ≤ a → Ext h h' → Arv Z h' a k (newarray.typeOf aty) n [] (defaultValue (newarray.typeOf aty)) → Exa Z h' a ad → own_K p l e R s m args below meth c bytes mx rt own nm Z Q pc' ls (.ref a :: st) h' cs' sl') : own_K p l e R s m args below meth c bytes mx rt own nm Z Q pc ls (.int n :: st) h cs sl := fun T L hx hby hml hrt hlk hown hnm hZ X eT N O' => by
  subst hp; subst hcs; subst hsl
  obtain ⟨T', h', cA, X', e', E', A', C', s'⟩ := newPE X hx hZ w eT (g := mkF m pc ls (.int n :: st)) rfl (hb hby hd) rfl hn hcap hb' hc hl had
  exact own_go s' (q h' _ cA rfl O'.2.1 E' (Arv.new A' hn) C' T' _ hx hby hml hrt hlk hown hnm hZ X' e' N (O'.ext E'))
theorem own_newR (pc' : Nat) (hp : pc + 3 = pc') (cs' sl' cap : Nat) {C : String} {index : Nat} (w1 : (Jvm.Cond.classLink own index C).before a0 Z = true) (w2 : (Jvm.Cond.arrayOver (.object C)).before a0 Z = true) (hd : decode bytes pc = .ok (.anewarray index, 3)) {n : Int32} (hn : ¬ n < 0) (hcap : n.toNatClampNeg ≤ cap) (hb' : cap * 8 ≤ 536870912) (hcs : cs + 1 = cs') (hsl : sl + cap = sl') (hc : cs' ≤ R.cells) (hl : sl' ≤ R.slots)
    (q : ∀ h' (a : Addr) k, a = h.size → Z.heap.size ≤ a → Ext h h' → Arv Z h' a k (.object C) n [] .null → Ovr Z k C → own_K p l e R s m args below meth c bytes mx rt own nm Z Q pc' ls (.ref a :: st) h' cs' sl') : own_K p l e R s m args below meth c bytes mx rt own nm Z Q pc ls (.int n :: st) h cs sl := fun T L hx hby hml hrt hlk hown hnm hZ X eT N O' => by
  subst hp; subst hcs; subst hsl
  obtain ⟨T', h', cA, X', e', E', A', V', s'⟩ := newR X hx hZ hown w1 w2 eT (g := mkF m pc ls (.int n :: st)) rfl (hb hby hd) rfl hn hcap hb' hc hl
  exact own_go s' (q h' _ cA rfl O'.2.1 E' (Arv.new A' hn) V' T' _ hx hby hml hrt hlk hown hnm hZ X' e' N (O'.ext E'))
theorem own_initO (pc' : Nat) (hp : pc + 3 = pc') {index : Nat} (w1 : (Jvm.Cond.methodLink own index Lib.objectInit).before a0 Z = true) (w2 : (Jvm.Cond.instanceMethod Lib.objectInit).before a0 Z = true) (w3 : (Jvm.Cond.code Lib.objectInit ⟨#[0xb1]⟩ 1 none).before a0 Z = true) {a : Addr} (hd : decode bytes pc = .ok (.invokespecial index, 3)) (hls : ls.size = mx) (hf : 1 ≤ R.frames) (W : Nat) (hW : (st.map fun v => v.category).sum ≤ W) (hl : W + 12 ≤ R.locals)
    (q : own_K p l e R s m args below meth c bytes mx rt own nm Z Q pc' ls st h cs sl) : own_K p l e R s m args below meth c bytes mx rt own nm Z Q pc ls (.ref a :: st) h cs sl := fun T L hx hby hml hrt hlk hown hnm hZ X eT N O' => by
  subst hp
  obtain ⟨T', X', e', s'⟩ := initO X hx hZ hown w1 w2 w3 eT (g := mkF m pc ls (.ref a :: st)) rfl (hls.trans hml.symm) rfl (hb hby hd) hf (W := W) (by simpa using hW) hl
  exact own_go s' (q T' L hx hby hml hrt hlk hown hnm hZ X' e' N O')
theorem own_alen (pc' : Nat) (hp : pc + 1 = pc') {a : Addr} {cl : Cell} {ty : FieldType} (A : Arr Z h a cl ty) (n : Int32) (hn : cl.slots.size.toInt32 = n) (hd : decode bytes pc = .ok (.arraylength, 1))
    (q : own_K p l e R s m args below meth c bytes mx rt own nm Z Q pc' ls (.int n :: st) h cs sl) : own_K p l e R s m args below meth c bytes mx rt own nm Z Q pc ls (.ref a :: st) h cs sl := fun T L hx hby hml hrt hlk hown hnm hZ X eT N O' => by
  subst hp; subst hn
  exact own_go (X.arraylength hx (by rw [eT]; exact A.1) (State.isArrayOf_alike hZ.alike A.2.1) (g := mkF m pc ls (.ref a :: st)) rfl rfl (hb hby hd)) (q T L hx hby hml hrt hlk hown hnm hZ X eT N O')
theorem own_iaload (pc' : Nat) (hp : pc + 1 = pc') {a : Addr} {cl : Cell} {j : Int32} {v : Value} (A : Arr Z h a cl .int) (hin : ¬ (j < 0 ∨ cl.slots.size ≤ j.toNatClampNeg)) (hv : cl.slots[j.toNatClampNeg]? = some v) (hd : decode bytes pc = .ok (.iaload, 1))
    (q : own_K p l e R s m args below meth c bytes mx rt own nm Z Q pc' ls (v :: st) h cs sl) : own_K p l e R s m args below meth c bytes mx rt own nm Z Q pc ls (.int j :: .ref a :: st) h cs sl := fun T L hx hby hml hrt hlk hown hnm hZ X eT N O' => by
  subst hp
  exact own_go (X.iaload hx (by rw [eT]; exact A.1) (State.isArrayOf_alike hZ.alike A.2.1) A.2.2 hin hv (g := mkF m pc ls (.int j :: .ref a :: st)) rfl rfl (hb hby hd)) (q T L hx hby hml hrt hlk hown hnm hZ X eT N O')
theorem own_laload (pc' : Nat) (hp : pc + 1 = pc') {a : Addr} {cl : Cell} {j : Int32} {v : Value} (A : Arr Z h a cl .long) (hin : ¬ (j < 0 ∨ cl.slots.size ≤ j.toNatClampNeg)) (hv : cl.slots[j.toNatClampNeg]? = some v) (hd : decode bytes pc = .ok (.laload, 1))
    (q : own_K p l e R s m args below meth c bytes mx rt own nm Z Q pc' ls (v :: st) h cs sl) : own_K p l e R s m args below meth c bytes mx rt own nm Z Q pc ls (.int j :: .ref a :: st) h cs sl := fun T L hx hby hml hrt hlk hown hnm hZ X eT N O' => by
  subst hp
  exact own_go (X.laload hx (by rw [eT]; exact A.1) (State.isArrayOf_alike hZ.alike A.2.1) A.2.2 hin hv (g := mkF m pc ls (.int j :: .ref a :: st)) rfl rfl (hb hby hd)) (q T L hx hby hml hrt hlk hown hnm hZ X eT N O')
theorem own_baload (pc' : Nat) (hp : pc + 1 = pc') {a : Addr} {cl : Cell} {j : Int32} {v : Value} (A : Arr Z h a cl .byte) (hin : ¬ (j < 0 ∨ cl.slots.size ≤ j.toNatClampNeg)) (hv : cl.slots[j.toNatClampNeg]? = some v) (hd : decode bytes pc = .ok (.baload, 1))
    (q : own_K p l e R s m args below meth c bytes mx rt own nm Z Q pc' ls (v :: st) h cs sl) : own_K p l e R s m args below meth c bytes mx rt own nm Z Q pc ls (.int j :: .ref a :: st) h cs sl := fun T L hx hby hml hrt hlk hown hnm hZ X eT N O' => by
  subst hp
  exact own_go (X.baloadBytes hx (by rw [eT]; exact A.1) (State.isArrayOf_alike hZ.alike A.2.1) A.2.2 hin hv (g := mkF m pc ls (.int j :: .ref a :: st)) rfl rfl (hb hby hd)) (q T L hx hby hml hrt hlk hown hnm hZ X eT N O')
theorem own_zaload (pc' : Nat) (hp : pc + 1 = pc') {a : Addr} {cl : Cell} {j : Int32} {v : Value} (A : Arr Z h a cl .boolean) (hin : ¬ (j < 0 ∨ cl.slots.size ≤ j.toNatClampNeg)) (hv : cl.slots[j.toNatClampNeg]? = some v) (hd : decode bytes pc = .ok (.baload, 1))
    (q : own_K p l e R s m args below meth c bytes mx rt own nm Z Q pc' ls (v :: st) h cs sl) : own_K p l e R s m args below meth c bytes mx rt own nm Z Q pc ls (.int j :: .ref a :: st) h cs sl := fun T L hx hby hml hrt hlk hown hnm hZ X eT N O' => by
  subst hp
  exact own_go (X.baloadBooleans hx (by rw [eT]; exact A.1) (State.isArrayOf_alike hZ.alike A.2.1) A.2.2 hin hv (g := mkF m pc ls (.int j :: .ref a :: st)) rfl rfl (hb hby hd)) (q T L hx hby hml hrt hlk hown hnm hZ X eT N O')
theorem own_aaload (pc' : Nat) (hp : pc + 1 = pc') {a : Addr} {cl : Cell} {j : Int32} {v : Value} {ty : FieldType} (A : Arr Z h a cl ty) (hty : ty.isReference = true) (hin : ¬ (j < 0 ∨ cl.slots.size ≤ j.toNatClampNeg)) (hv : cl.slots[j.toNatClampNeg]? = some v) (hd : decode bytes pc = .ok (.aaload, 1))
    (q : own_K p l e R s m args below meth c bytes mx rt own nm Z Q pc' ls (v :: st) h cs sl) : own_K p l e R s m args below meth c bytes mx rt own nm Z Q pc ls (.int j :: .ref a :: st) h cs sl := fun T L hx hby hml hrt hlk hown hnm hZ X eT N O' => by
  subst hp
  exact own_go (X.aaload hx (by rw [eT]; exact A.1) (State.isArrayOf_alike hZ.alike A.2.1) hty A.2.2 hin hv (g := mkF m pc ls (.int j :: .ref a :: st)) rfl rfl (hb hby hd)) (q T L hx hby hml hrt hlk hown hnm hZ X eT N O')
theorem own_iastore (pc' : Nat) (hp : pc + 1 = pc') {a : Addr} {cl : Cell} {j x : Int32} (ga : Z.heap.size ≤ a) (A : Arr Z h a cl .int) (hin : ¬ (j < 0 ∨ cl.slots.size ≤ j.toNatClampNeg)) (hd : decode bytes pc = .ok (.iastore, 1))
    (q : ∀ h', Wr h h' a j.toNatClampNeg (.int x) → own_K p l e R s m args below meth c bytes mx rt own nm Z Q pc' ls st h' cs sl) : own_K p l e R s m args below meth c bytes mx rt own nm Z Q pc ls (.int x :: .int j :: .ref a :: st) h cs sl := fun T L hx hby hml hrt hlk hown hnm hZ X eT N O' => by
  subst hp
  obtain ⟨T', h', X', e', W', s'⟩ := stI X hx hZ eT A hin (g := mkF m pc ls (.int x :: .int j :: .ref a :: st)) rfl rfl (hb hby hd)
  exact own_go s' (q h' W' T' _ hx hby hml hrt hlk hown hnm hZ X' e' (Fr.snoc X' N ga) (O'.wr W' ga))
theorem own_lastore (pc' : Nat) (hp : pc + 1 = pc') {a : Addr} {cl : Cell} {j : Int32} {x : Int64} (ga : Z.heap.size ≤ a) (A : Arr Z h a cl .long) (hin : ¬ (j < 0 ∨ cl.slots.size ≤ j.toNatClampNeg)) (hd : decode bytes pc = .ok (.lastore, 1))
    (q : ∀ h', Wr h h' a j.toNatClampNeg (.long x) → own_K p l e R s m args below meth c bytes mx rt own nm Z Q pc' ls st h' cs sl) : own_K p l e R s m args below meth c bytes mx rt own nm Z Q pc ls (.long x :: .int j :: .ref a :: st) h cs sl := fun T L hx hby hml hrt hlk hown hnm hZ X eT N O' => by
  subst hp
  obtain ⟨T', h', X', e', W', s'⟩ := stJ X hx hZ eT A hin (g := mkF m pc ls (.long x :: .int j :: .ref a :: st)) rfl rfl (hb hby hd)
  exact own_go s' (q h' W' T' _ hx hby hml hrt hlk hown hnm hZ X' e' (Fr.snoc X' N ga) (O'.wr W' ga))
theorem own_bastore (pc' : Nat) (hp : pc + 1 = pc') {a : Addr} {cl : Cell} {j x : Int32} (ga : Z.heap.size ≤ a) (A : Arr Z h a cl .byte) (hin : ¬ (j < 0 ∨ cl.slots.size ≤ j.toNatClampNeg)) (hd : decode bytes pc = .ok (.bastore, 1))
    (q : ∀ h', Wr h h' a j.toNatClampNeg (.int (nar .byte x)) → own_K p l e R s m args below meth c bytes mx rt own nm Z Q pc' ls st h' cs sl) : own_K p l e R s m args below meth c bytes mx rt own nm Z Q pc ls (.int x :: .int j :: .ref a :: st) h cs sl := fun T L hx hby hml hrt hlk hown hnm hZ X eT N O' => by
  subst hp
  obtain ⟨T', h', X', e', W', s'⟩ := stB X hx hZ eT A hin (g := mkF m pc ls (.int x :: .int j :: .ref a :: st)) rfl rfl (hb hby hd)
  exact own_go s' (q h' W' T' _ hx hby hml hrt hlk hown hnm hZ X' e' (Fr.snoc X' N ga) (O'.wr W' ga))
theorem own_aastore (pc' : Nat) (hp : pc + 1 = pc') {a : Addr} {cl : Cell} {j : Int32} {v : Value} {ty : FieldType} (ga : Z.heap.size ≤ a) (A : Arr Z h a cl ty) (hty : ty.isReference = true) (F : Sto Z h a v) (hin : ¬ (j < 0 ∨ cl.slots.size ≤ j.toNatClampNeg)) (hd : decode bytes pc = .ok (.aastore, 1))
    (q : ∀ h', Wr h h' a j.toNatClampNeg v → own_K p l e R s m args below meth c bytes mx rt own nm Z Q pc' ls st h' cs sl) : own_K p l e R s m args below meth c bytes mx rt own nm Z Q pc ls (v :: .int j :: .ref a :: st) h cs sl := fun T L hx hby hml hrt hlk hown hnm hZ X eT N O' => by
  subst hp
  obtain ⟨T', h', X', e', W', s'⟩ := stR X hx hZ eT A hin hty F (g := mkF m pc ls (v :: .int j :: .ref a :: st)) rfl rfl (hb hby hd)
  exact own_go s' (q h' W' T' _ hx hby hml hrt hlk hown hnm hZ X' e' (Fr.snoc X' N ga) (O'.wr W' ga))
theorem own_cast (pc' : Nat) (hp : pc + 3 = pc') {C : String} {index : Nat} (w : (Jvm.Cond.classLink own index C).before a0 Z = true) {a : Addr} (F : Ins Z h a C true) (hd : decode bytes pc = .ok (.checkcast index, 3))
    (q : own_K p l e R s m args below meth c bytes mx rt own nm Z Q pc' ls (.ref a :: st) h cs sl) : own_K p l e R s m args below meth c bytes mx rt own nm Z Q pc ls (.ref a :: st) h cs sl := fun T L hx hby hml hrt hlk hown hnm hZ X eT N O' => by
  subst hp
  obtain ⟨T', X', e', s'⟩ := castY X hx hZ hown w eT F (g := mkF m pc ls (.ref a :: st)) rfl rfl (hb hby hd)
  exact own_go s' (q T' L hx hby hml hrt hlk hown hnm hZ X' e' N O')
theorem own_castNull (pc' : Nat) (hp : pc + 3 = pc') {index : Nat} (hd : decode bytes pc = .ok (.checkcast index, 3))
    (q : own_K p l e R s m args below meth c bytes mx rt own nm Z Q pc' ls (.null :: st) h cs sl) : own_K p l e R s m args below meth c bytes mx rt own nm Z Q pc ls (.null :: st) h cs sl := fun T L hx hby hml hrt hlk hown hnm hZ X eT N O' => by
  subst hp
  exact own_go (X.checkcastNull hx (g := mkF m pc ls (.null :: st)) rfl rfl (hb hby hd)) (q T L hx hby hml hrt hlk hown hnm hZ X eT N O')
theorem own_clone (pc' : Nat) (hp : pc + 3 = pc') (cs' sl' cap W : Nat) {ad : String} {index : Nat} {k : ClassId} {ty : FieldType} {z : Int32} {vs : List Value} {dv : Value} {a : Addr}
    (w1 : (Jvm.Cond.methodLink own index ⟨ad, "clone", "()Ljava/lang/Object;"⟩).before a0 Z = true) (w2 : (Jvm.Cond.sameMethod ad "java/lang/Object" "clone" "()Ljava/lang/Object;").before a0 Z = true) (w3 : (Jvm.Cond.native ⟨"java/lang/Object", "clone", "()Ljava/lang/Object;"⟩).before a0 Z = true)
    (w4 : (Jvm.Cond.instanceMethod ⟨"java/lang/Object", "clone", "()Ljava/lang/Object;"⟩).before a0 Z = true) (w5 : (Jvm.Cond.selects ad ⟨ad, "clone", "()Ljava/lang/Object;"⟩ ⟨"java/lang/Object", "clone", "()Ljava/lang/Object;"⟩).before a0 Z = true) (w6 : (Jvm.Cond.castable ad "java/lang/Cloneable").before a0 Z = true)
    (F : Arv Z h a k ty z vs dv) (E : Exa Z h a ad) (hcap : z.toNatClampNeg ≤ cap) (hd : decode bytes pc = .ok (.invokevirtual index, 3)) (hls : ls.size = mx) (hf : 1 ≤ R.frames) (hW : (st.map fun v => v.category).sum = W) (hl : W + 14 ≤ R.locals) (hcs : cs + 1 = cs') (hsl : sl + cap = sl') (hc : cs' ≤ R.cells) (hs : sl' ≤ R.slots)
    (q : ∀ h' (b : Addr), b = h.size → Z.heap.size ≤ b → Ext h h' → Arv Z h' b k ty z vs dv → Exa Z h' b ad → own_K p l e R s m args below meth c bytes mx rt own nm Z Q pc' ls (.ref b :: st) h' cs' sl') : own_K p l e R s m args below meth c bytes mx rt own nm Z Q pc ls (.ref a :: st) h cs sl := fun T L hx hby hml hrt hlk hown hnm hZ X eT N O' => by
  subst hp; subst hcs; subst hsl
  obtain ⟨T', h', X', e', E', A', C', s'⟩ := cloneH X hx hZ hown w1 w2 w3 w4 w5 w6 eT F.arh E (g := mkF m pc ls (.ref a :: st)) rfl (hls.trans hml.symm) rfl (hb hby hd) hf (W := W) (by show 2 * 0 + _ ≤ _; omega) hl hcap hc hs
  exact own_go s' (q h' _ rfl O'.2.1 E' A' C' T' _ hx hby hml hrt hlk hown hnm hZ X' e' N (O'.ext E'))
-- leaving
theorem own_out {t : FieldType} {v : Value} {pc : Nat} {T : State} {L : List Loc} (X : Stand p l e R s m args below meth c T L cs sl) (hrt : meth.sig.returnType = some t) (hlk : meth.locks = false)
    (f : ∀ fs, (∀ (f : JFrame) (acts : List Action), f.method = m → f.locked = none → f.entered = [] → (doReturn e (T.setTop f) acts (some v)).1 = T.setFrames fs) → Steps p.tables e below (T.setTop (mkF m pc ls st)) (T.setFrames fs)) (hc : cs ≤ R.cells) (hs : sl ≤ R.slots) (N : Fr Z.heap.size L) (O : Old Z Z.heap.size T.heap) (q : Q (some v) T.heap) :
    own_G p e s below Z Q R.cells R.slots (T.setTop (mkF m pc ls st)) := by
  obtain ⟨fs, hr, hrun, hended, hW, hsame⟩ := X.leave (v := some v) (fun h => by rw [hrt] at h; cases h) hlk
  exact ⟨_, _, f fs hr, hrun, hended, _, _, rfl, ⟨q, N, O⟩, ⟨_, rfl⟩, hW, hsame.mono hc hs⟩
theorem own_retI {v : Int32} (hr : rt = some .int) (hd : decode bytes pc = .ok (.ireturn, 1)) (hc : cs ≤ R.cells) (hs : sl ≤ R.slots) (q : Q (some (.int v)) h) : own_K p l e R s m args below meth c bytes mx rt own nm Z Q pc ls (.int v :: st) h cs sl := fun T L hx hby hml hrt hlk hown hnm hZ X eT N O' => by
  subst eT
  exact own_out X (hrt.trans hr) hlk (fun fs k => retOut X hx (hrt.trans hr) rfl (Or.inl ⟨rfl, Or.inl rfl, _, rfl⟩) (hb hby hd) k) hc hs N O' q
theorem own_retN {v : Int32} {t : FieldType} (hr : rt = some t) (ht : t = .boolean ∨ t = .byte ∨ t = .char ∨ t = .short) (hd : decode bytes pc = .ok (.ireturn, 1)) (hc : cs ≤ R.cells) (hs : sl ≤ R.slots) (q : Q (some (.int (nar t v))) h) : own_K p l e R s m args below meth c bytes mx rt own nm Z Q pc ls (.int v :: st) h cs sl := fun T L hx hby hml hrt hlk hown hnm hZ X eT N O' => by
  subst eT
  exact own_out X (hrt.trans hr) hlk (fun fs k => retN X hx (hrt.trans hr) ht (hb hby hd) k) hc hs N O' q
theorem own_retJ {v : Int64} (hr : rt = some .long) (hd : decode bytes pc = .ok (.lreturn, 1)) (hc : cs ≤ R.cells) (hs : sl ≤ R.slots) (q : Q (some (.long v)) h) : own_K p l e R s m args below meth c bytes mx rt own nm Z Q pc ls (.long v :: st) h cs sl := fun T L hx hby hml hrt hlk hown hnm hZ X eT N O' => by
  subst eT
  exact own_out X (hrt.trans hr) hlk (fun fs k => retOut X hx (hrt.trans hr) rfl (Or.inr (Or.inl ⟨rfl, rfl, _, rfl⟩)) (hb hby hd) k) hc hs N O' q
theorem own_narR {t : FieldType} {v : Value} (ht : t.isReference = true) (hv : v.isRef = true) : narrow t v = v := by
  rcases ref_cases hv with rfl | ⟨_, rfl⟩ <;> cases t <;> first | rfl | cases ht
theorem own_retA {v : Value} {t : FieldType} (hr : rt = some t) (ht : t.isReference = true) (hv : v.isRef = true) (hd : decode bytes pc = .ok (.areturn, 1)) (hc : cs ≤ R.cells) (hs : sl ≤ R.slots) (q : Q (some v) h) : own_K p l e R s m args below meth c bytes mx rt own nm Z Q pc ls (v :: st) h cs sl := fun T L hx hby hml hrt hlk hown hnm hZ X eT N O' => by
  subst eT
  exact own_out X (hrt.trans hr) hlk (fun fs k => retOut X hx (hrt.trans hr) (own_narR ht hv) (Or.inr (Or.inr (Or.inr (Or.inr ⟨rfl, ht, hv⟩)))) (hb hby hd) k) hc hs N O' q
theorem own_ret (hr : rt = none) (hd : decode bytes pc = .ok (.return_, 1)) (hc : cs ≤ R.cells) (hs : sl ≤ R.slots) (q : Q none h) : own_K p l e R s m args below meth c bytes mx rt own nm Z Q pc ls [] h cs sl := fun T L hx hby hml hrt hlk hown hnm hZ X eT N O' => by
  subst eT
  obtain ⟨fs, hr', hrun, hended, hW, hsame⟩ := X.leave (v := none) (fun _ => rfl) hlk
  exact ⟨_, _, X.returnOut hx (hrt.trans hr) (hb hby hd) hr', hrun, hended, _, _, rfl, ⟨q, N, O'⟩, ⟨_, rfl⟩, hW, hsame.mono hc hs⟩
-- calls
theorem own_back {y : MethodName} {b' : ByteArray} {mx' : Nat} {rt' : Option FieldType} {rm' : Room} {as' : Array Value} {Q' : Option Value → Heap → Prop} {W : Nat} (hZ : Z.Warmed39 s.vm) (O : Old Z Z.heap.size h) (hM : own_Met l Z y b' mx' rt' [] rm' as' h Q') (w4 : (Jvm.Cond.code y b' mx' rt').before a0 Z = true) (w3 : (Jvm.Cond.initialized y.cls).before a0 Z = true)
    (hf : rm'.frames + 1 ≤ R.frames) (hl : W + (mx' + 11) + rm'.locals ≤ R.locals) {len : Nat} :
    Back l R p e below s args y len W (fun A a => a = as' ∧ A.U.heap = h ∧ A.cells + rm'.cells ≤ R.cells ∧ A.slots + rm'.slots ≤ R.slots)
      (fun A _ v B => ∃ L, (Q' v B.U.heap ∧ Fr Z.heap.size L ∧ Old Z Z.heap.size B.U.heap) ∧ B.locs = A.locs ++ L ∧ B.cells = A.cells + rm'.cells ∧ B.slots = A.slots + rm'.slots) :=
  backOf (Q := fun v h' L => Q' v h' ∧ Fr Z.heap.size L ∧ Old Z Z.heap.size h') (hM O) hZ w4 w3 hf hl
theorem own_callS (pc' : Nat) (hp : pc + 3 = pc') (cs' sl' W : Nat) (argsL rest : List Value) {index : Nat} {y : MethodName} {b' : ByteArray} {mx' : Nat} {rt' : Option FieldType} {rm' : Room} {as' : Array Value} {Q' : Option Value → Heap → Prop}
    (w1 : (Jvm.Cond.methodLink own index y).before a0 Z = true) (w2 : (Jvm.Cond.static y).before a0 Z = true) (w3 : (Jvm.Cond.initialized y.cls).before a0 Z = true) (w4 : (Jvm.Cond.code y b' mx' rt').before a0 Z = true) (hy : y.cls ≠ "java/lang/invoke/MethodHandle" ∧ y.cls ≠ "java/lang/invoke/VarHandle")
    (hM : own_Met l Z y b' mx' rt' [] rm' as' h Q') (hd : decode bytes pc = .ok (.invokestatic index, 3)) (hls : ls.size = mx) (hlen : ∀ sig, parseMethodDescriptor y.desc = some sig → argsL.length = sig.parameters.length) (has : argsL.toArray = as') (hst : st = argsL.reverse ++ rest) (hW : (rest.map fun v => v.category).sum = W)
    (hf : rm'.frames + 1 ≤ R.frames) (hl : W + (mx' + 11) + rm'.locals ≤ R.locals) (hcs : cs + rm'.cells = cs') (hsl : sl + rm'.slots = sl') (hc : cs' ≤ R.cells) (hs : sl' ≤ R.slots)
    (k : ∀ v h', Q' v h' → own_K p l e R s m args below meth c bytes mx rt own nm Z Q pc' ls (v.toList ++ rest) h' cs' sl') : own_K p l e R s m args below meth c bytes mx rt own nm Z Q pc ls st h cs sl := fun T L hx hby hml hrt hlk hown hnm hZ X eT N O' => by
  subst hp; subst hcs; subst hsl; subst hst; subst has; subst eT
  obtain ⟨v, _, ⟨T2, L2, k2, n2⟩, -, X2, ⟨Lc2, ⟨hQ2, N2, O2⟩, l2, y2, z2⟩, st2⟩ := Jvm.LawKit.callS X hx (y := y) hown (mvT hZ w1) (mvT hZ w2) (mvT hZ w3) (mvT hZ w4) hy (own_back (W := W) hZ O' hM w4 w3 hf hl) (g := mkF m pc ls (argsL.reverse ++ rest)) rfl (hls.trans hml.symm) (argsL := argsL) (rest := rest) hlen rfl (by show 2 * 0 + _ ≤ _; omega) (hb hby hd) (fun _ _ => ⟨rfl, rfl, hc, hs⟩)
  dsimp only [Pt.U, Pt.locs, Pt.cells, Pt.slots] at X2 l2 y2 z2 st2 hQ2 O2
  subst l2 y2 z2
  exact own_go st2 (k v _ hQ2 T2 _ hx hby hml hrt hlk hown hnm hZ X2 rfl (N.app N2) O2)
theorem own_callV (pc' : Nat) (hp : pc + 3 = pc') (cs' sl' W : Nat) (argsL rest : List Value) {index : Nat} {C : String} {y z : MethodName} {b' : ByteArray} {mx' : Nat} {rt' : Option FieldType} {rm' : Room} {as' : Array Value} {Q' : Option Value → Heap → Prop} {a : Addr}
    (w1 : (Jvm.Cond.methodLink own index y).before a0 Z = true) (w2 : (Jvm.Cond.declares y).before a0 Z = true) (hnf : ∀ {u : State}, Z.Warmed39 u.vm → NotFace u y) (w5 : (Jvm.Cond.selects C y z).before a0 Z = true) (w6 : (Jvm.Cond.instanceMethod z).before a0 Z = true) (w3 : (Jvm.Cond.initialized z.cls).before a0 Z = true) (w4 : (Jvm.Cond.code z b' mx' rt').before a0 Z = true) (hy : y.cls ≠ "java/lang/invoke/MethodHandle" ∧ y.cls ≠ "java/lang/invoke/VarHandle")
    (E : Exa Z h a C) (hM : own_Met l Z z b' mx' rt' [] rm' as' h Q') (hd : decode bytes pc = .ok (.invokevirtual index, 3)) (hls : ls.size = mx) (hlen : ∀ sig, parseMethodDescriptor y.desc = some sig → argsL.length = sig.parameters.length) (has : (.ref a :: argsL).toArray = as') (hst : st = argsL.reverse ++ .ref a :: rest) (hW : (rest.map fun v => v.category).sum = W)
    (hf : rm'.frames + 1 ≤ R.frames) (hl : W + (mx' + 11) + rm'.locals ≤ R.locals) (hcs : cs + rm'.cells = cs') (hsl : sl + rm'.slots = sl') (hc : cs' ≤ R.cells) (hs : sl' ≤ R.slots)
    (k : ∀ v h', Q' v h' → own_K p l e R s m args below meth c bytes mx rt own nm Z Q pc' ls (v.toList ++ rest) h' cs' sl') : own_K p l e R s m args below meth c bytes mx rt own nm Z Q pc ls st h cs sl := fun T L hx hby hml hrt hlk hown hnm hZ X eT N O' => by
  subst hp; subst hcs; subst hsl; subst hst; subst has; subst eT
  obtain ⟨cq, kq, qa, qb, qc⟩ := isOf hZ rfl E
  obtain ⟨v, _, ⟨T2, L2, k2, n2⟩, -, X2, ⟨Lc2, ⟨hQ2, N2, O2⟩, l2, y2, z2⟩, st2⟩ := X.virtualBack hx (y := y) (z := z) hown (mvT hZ w1) (mvT hZ w2) (hnf hZ) (mvT hZ w5) (mvT hZ w6) hy (own_back (W := W) hZ O' hM w4 w3 hf hl) qa qc (g := mkF m pc ls (argsL.reverse ++ .ref a :: rest)) rfl (hls.trans hml.symm) (Steps.refl _) (argsL := argsL) (rest := rest) hlen rfl (by show 2 * 0 + _ ≤ _; omega) (hb hby hd) (fun _ _ => ⟨rfl, rfl, hc, hs⟩)
  dsimp only [Pt.U, Pt.locs, Pt.cells, Pt.slots] at X2 l2 y2 z2 st2 hQ2 O2
  subst l2 y2 z2
  exact own_go (fun t q => st2.trans q) (k v _ hQ2 T2 _ hx hby hml hrt hlk hown hnm hZ X2 rfl (N.app N2) O2)
theorem own_callF (pc' : Nat) (hp : pc + 5 = pc') (cs' sl' W : Nat) (argsL rest : List Value) {index count : Nat} {C : String} {y z : MethodName} {b' : ByteArray} {mx' : Nat} {rt' : Option FieldType} {rm' : Room} {as' : Array Value} {Q' : Option Value → Heap → Prop} {a : Addr}
    (w1 : (Jvm.Cond.methodLink own index y).before a0 Z = true) (w2 : (Jvm.Cond.declares y).before a0 Z = true) (w7 : (Jvm.Cond.interfaceMethod y.cls y.cls y.name y.desc).before a0 Z = true) (w7k : ((Jvm.Cond.interfaceMethod y.cls y.cls y.name y.desc).onTables && (Jvm.Cond.interfaceMethod y.cls y.cls y.name y.desc).keepsFace) = true) (w5 : (Jvm.Cond.selects C y z).before a0 Z = true) (w6 : (Jvm.Cond.instanceMethod z).before a0 Z = true) (w8 : (Jvm.Cond.publicMethod z).before a0 Z = true) (w9 : (Jvm.Cond.unhidden C y.name y.desc).before a0 Z = true) (w10 : (Jvm.Cond.castable C y.cls).before a0 Z = true) (w3 : (Jvm.Cond.initialized z.cls).before a0 Z = true) (w4 : (Jvm.Cond.code z b' mx' rt').before a0 Z = true) (hy : y.cls ≠ "java/lang/invoke/MethodHandle" ∧ y.cls ≠ "java/lang/invoke/VarHandle")
    (E : Exa Z h a C) (hM : own_Met l Z z b' mx' rt' [] rm' as' h Q') (hd : decode bytes pc = .ok (.invokeinterface index count, 5)) (hls : ls.size = mx) (hlen : ∀ sig, parseMethodDescriptor y.desc = some sig → argsL.length = sig.parameters.length) (has : (.ref a :: argsL).toArray = as') (hst : st = argsL.reverse ++ .ref a :: rest) (hW : (rest.map fun v => v.category).sum = W)
    (hf : rm'.frames + 1 ≤ R.frames) (hl : W + (mx' + 11) + rm'.locals ≤ R.locals) (hcs : cs + rm'.cells = cs') (hsl : sl + rm'.slots = sl') (hc : cs' ≤ R.cells) (hs : sl' ≤ R.slots)
    (k : ∀ v h', Q' v h' → own_K p l e R s m args below meth c bytes mx rt own nm Z Q pc' ls (v.toList ++ rest) h' cs' sl') : own_K p l e R s m args below meth c bytes mx rt own nm Z Q pc ls st h cs sl := fun T L hx hby hml hrt hlk hown hnm hZ X eT N O' => by
  subst hp; subst hcs; subst hsl; subst hst; subst has; subst eT
  obtain ⟨cq, kq, qa, qb, qc⟩ := isOf hZ rfl E
  obtain ⟨v, _, ⟨T2, L2, k2, n2⟩, -, X2, ⟨Lc2, ⟨hQ2, N2, O2⟩, l2, y2, z2⟩, st2⟩ := X.interfaceBack hx (xi := y) (y := z) hown (mvT hZ w1) (mvT hZ w2) (mvT hZ w7 w7k) (mvT hZ w5) (mvT hZ w6) (mvT hZ w8) (mvT hZ w9) (mvT hZ w10) hy (own_back (W := W) hZ O' hM w4 w3 hf hl) qa qb qc (g := mkF m pc ls (argsL.reverse ++ .ref a :: rest)) rfl (hls.trans hml.symm) (Steps.refl _) (argsL := argsL) (rest := rest) hlen rfl (by show 2 * 0 + _ ≤ _; omega) (hb hby hd) (fun _ _ => ⟨rfl, rfl, hc, hs⟩)
  dsimp only [Pt.U, Pt.locs, Pt.cells, Pt.slots] at X2 l2 y2 z2 st2 hQ2 O2
  subst l2 y2 z2
  exact own_go (fun t q => st2.trans q) (k v _ hQ2 T2 _ hx hby hml hrt hlk hown hnm hZ X2 rfl (N.app N2) O2)
theorem own_callI (pc' : Nat) (hp : pc + 3 = pc') (cs' sl' W : Nat) (argsL rest : List Value) {index : Nat} {y : MethodName} {b' : ByteArray} {mx' : Nat} {rm' : Room} {as' : Array Value} {Q' : Option Value → Heap → Prop} {a : Addr} (hy1 : y.name = "<init>")
    (w1 : (Jvm.Cond.methodLink own index y).before a0 Z = true) (w6 : (Jvm.Cond.instanceMethod y).before a0 Z = true) (w3 : (Jvm.Cond.initialized y.cls).before a0 Z = true) (w4 : (Jvm.Cond.code y b' mx' none).before a0 Z = true) (hy : y.cls ≠ "java/lang/invoke/MethodHandle" ∧ y.cls ≠ "java/lang/invoke/VarHandle")
    (hM : own_Met l Z y b' mx' none [] rm' as' h Q') (hd : decode bytes pc = .ok (.invokespecial index, 3)) (hls : ls.size = mx) (hlen : ∀ sig, parseMethodDescriptor y.desc = some sig → argsL.length = sig.parameters.length) (has : (.ref a :: argsL).toArray = as') (hst : st = argsL.reverse ++ .ref a :: rest) (hW : (rest.map fun v => v.category).sum = W)
    (hf : rm'.frames + 1 ≤ R.frames) (hl : W + (mx' + 11) + rm'.locals ≤ R.locals) (hcs : cs + rm'.cells = cs') (hsl : sl + rm'.slots = sl') (hc : cs' ≤ R.cells) (hs : sl' ≤ R.slots)
    (k : ∀ v h', Q' v h' → own_K p l e R s m args below meth c bytes mx rt own nm Z Q pc' ls (v.toList ++ rest) h' cs' sl') : own_K p l e R s m args below meth c bytes mx rt own nm Z Q pc ls st h cs sl := fun T L hx hby hml hrt hlk hown hnm hZ X eT N O' => by
  subst hp; subst hcs; subst hsl; subst hst; subst has; subst eT
  obtain ⟨v, _, ⟨T2, L2, k2, n2⟩, -, X2, ⟨Lc2, ⟨hQ2, N2, O2⟩, l2, y2, z2⟩, st2⟩ := X.specialBack hx (y := y) hy1 hown (mvT hZ w1) (mvT hZ w6) (mvT hZ w4) hy (own_back (W := W) hZ O' hM w4 w3 hf hl) (g := mkF m pc ls (argsL.reverse ++ .ref a :: rest)) rfl (hls.trans hml.symm) (Steps.refl _) (a := a) (argsL := argsL) (rest := rest) hlen rfl (by show 2 * 0 + _ ≤ _; omega) (hb hby hd) (fun _ _ => ⟨rfl, rfl, hc, hs⟩)
  dsimp only [Pt.U, Pt.locs, Pt.cells, Pt.slots] at X2 l2 y2 z2 st2 hQ2 O2
  subst l2 y2 z2
  exact own_go (fun t q => st2.trans q) (k v _ hQ2 T2 _ hx hby hml hrt hlk hown hnm hZ X2 rfl (N.app N2) O2)
theorem own_callP (pc' : Nat) (hp : pc + 3 = pc') (cs' sl' W : Nat) (argsL rest : List Value) {index : Nat} {C : String} {y : MethodName} {b' : ByteArray} {mx' : Nat} {rt' : Option FieldType} {rm' : Room} {as' : Array Value} {Q' : Option Value → Heap → Prop} {a : Addr}
    (w1 : (Jvm.Cond.methodLink own index y).before a0 Z = true) (w6 : (Jvm.Cond.instanceMethod y).before a0 Z = true) (w5 : (Jvm.Cond.selects y.cls y y).before a0 Z = true) (w7 : (Jvm.Cond.privateMethod y).before a0 Z = true) (w3 : (Jvm.Cond.initialized y.cls).before a0 Z = true) (w4 : (Jvm.Cond.code y b' mx' rt').before a0 Z = true) (hy : y.cls ≠ "java/lang/invoke/MethodHandle" ∧ y.cls ≠ "java/lang/invoke/VarHandle")
    (E : Exa Z h a C) (hM : own_Met l Z y b' mx' rt' [] rm' as' h Q') (hd : decode bytes pc = .ok (.invokevirtual index, 3)) (hls : ls.size = mx) (hlen : ∀ sig, parseMethodDescriptor y.desc = some sig → argsL.length = sig.parameters.length) (has : (.ref a :: argsL).toArray = as') (hst : st = argsL.reverse ++ .ref a :: rest) (hW : (rest.map fun v => v.category).sum = W)
    (hf : rm'.frames + 1 ≤ R.frames) (hl : W + (mx' + 11) + rm'.locals ≤ R.locals) (hcs : cs + rm'.cells = cs') (hsl : sl + rm'.slots = sl') (hc : cs' ≤ R.cells) (hs : sl' ≤ R.slots)
    (k : ∀ v h', Q' v h' → own_K p l e R s m args below meth c bytes mx rt own nm Z Q pc' ls (v.toList ++ rest) h' cs' sl') : own_K p l e R s m args below meth c bytes mx rt own nm Z Q pc ls st h cs sl := fun T L hx hby hml hrt hlk hown hnm hZ X eT N O' => by
  subst hp; subst hcs; subst hsl; subst hst; subst has; subst eT
  obtain ⟨cq, qa, qb⟩ := E.cell
  obtain ⟨v, _, ⟨T2, L2, k2, n2⟩, -, X2, ⟨Lc2, ⟨hQ2, N2, O2⟩, l2, y2, z2⟩, st2⟩ := X.privateBack hx (y := y) hown (mvT hZ w1) (mvT hZ w6) (mvT hZ w5) (Cond.privateMethod_at (mvP hZ w7 (args := #[]))) (mvT hZ w4) hy (own_back (W := W) hZ O' hM w4 w3 hf hl) (g := mkF m pc ls (argsL.reverse ++ .ref a :: rest)) rfl (hls.trans hml.symm) (Steps.refl _) (a := a) qa qb (argsL := argsL) (rest := rest) hlen rfl (by show 2 * 0 + _ ≤ _; omega) (hb hby hd) (fun _ _ => ⟨rfl, rfl, hc, hs⟩)
  dsimp only [Pt.U, Pt.locs, Pt.cells, Pt.slots] at X2 l2 y2 z2 st2 hQ2 O2
  subst l2 y2 z2
  exact own_go (fun t q => st2.trans q) (k v _ hQ2 T2 _ hx hby hml hrt hlk hown hnm hZ X2 rfl (N.app N2) O2)
theorem own_kv {rest : List Value} {Qv : Value → Heap → Prop} (k : ∀ x h', Qv x h' → own_K p l e R s m args below meth c bytes mx rt own nm Z Q pc ls (x :: rest) h' cs sl) : ∀ v h', own_some Qv v h' → own_K p l e R s m args below meth c bytes mx rt own nm Z Q pc ls (v.toList ++ rest) h' cs sl := by
  intro v h' hq
  obtain ⟨x, rfl, hq⟩ := hq
  exact k x h' hq
theorem own_k0 {rest : List Value} {Qn : Heap → Prop} (k : ∀ h', Qn h' → own_K p l e R s m args below meth c bytes mx rt own nm Z Q pc ls rest h' cs sl) : ∀ v h', own_none Qn v h' → own_K p l e R s m args below meth c bytes mx rt own nm Z Q pc ls (v.toList ++ rest) h' cs sl := by
  intro v h' hq
  obtain ⟨rfl, hq⟩ := hq
  exact k h' hq
theorem own_getFR (pc' : Nat) (hp : pc + 3 = pc') {O n d : String} {index : Nat} (w : (Jvm.Cond.fieldRef own index O n d).before a0 Z = true) {a : Addr} {v : Value} (F : Fld Z h a O n d v) (hd : decode bytes pc = .ok (.getfield index, 3))
    (q : own_K p l e R s m args below meth c bytes mx rt own nm Z Q pc' ls (v :: st) h cs sl) : own_K p l e R s m args below meth c bytes mx rt own nm Z Q pc ls (.ref a :: st) h cs sl := fun T L hx hby hml hrt hlk hown hnm hZ X eT N O' => by
  subst hp
  have hT : Z.Warmed39 T.vm := wtrans hZ X.warmed
  have hcur : (Z.setVm T.vm).vm.findClass own = some m.cls := by
    show T.vm.findClass own = _
    rw [X.warmed.alike.findClass]; exact hown
  obtain ⟨c1, k1, i1, f1, e1, rdy⟩ := Cond.fieldRef_spec hcur (Cond.fieldRef_warmed39 hT w)
  obtain ⟨cell, cf, k, i, f, g1, g2, g3, g4, g5, g6, g7⟩ := F
  obtain ⟨k', q1, q2⟩ := State.fieldFound?_setVm (s := Z) hT.alike g2
  cases e1.symm.trans q1
  exact own_go (fun t k => (X.getfieldR hx (g := mkF m pc ls (.ref a :: st)) rfl rdy g3 rfl (by rw [eT]; exact g1) g4 g7 (hb hby hd) (Steps.refl _)).trans k) (q T L hx hby hml hrt hlk hown hnm hZ X eT N O')
theorem own_callQ (pc' : Nat) (hp : pc + 3 = pc') (cs' sl' W : Nat) (argsL rest : List Value) {index : Nat} {C C2 : String} {y y2 : MethodName} {b' : ByteArray} {mx' : Nat} {rt' : Option FieldType} {rm' : Room} {as' : Array Value} {Q' : Option Value → Heap → Prop} {a : Addr}
    (w1 : (Jvm.Cond.methodLink own index y).before a0 Z = true) (w6 : (Jvm.Cond.instanceMethod y).before a0 Z = true) (w5 : (Jvm.Cond.selects C2 y2 y2).before a0 Z = true) (w8 : (Jvm.Cond.instanceMethod y2).before a0 Z = true) (hc2 : y2.cls = y.cls) (w7 : (Jvm.Cond.privateMethod y).before a0 Z = true) (w3 : (Jvm.Cond.initialized y.cls).before a0 Z = true) (w4 : (Jvm.Cond.code y b' mx' rt').before a0 Z = true) (hy : y.cls ≠ "java/lang/invoke/MethodHandle" ∧ y.cls ≠ "java/lang/invoke/VarHandle")
    (E : Exa Z h a C) (hM : own_Met l Z y b' mx' rt' [] rm' as' h Q') (hd : decode bytes pc = .ok (.invokevirtual index, 3)) (hls : ls.size = mx) (hlen : ∀ sig, parseMethodDescriptor y.desc = some sig → argsL.length = sig.parameters.length) (has : (.ref a :: argsL).toArray = as') (hst : st = argsL.reverse ++ .ref a :: rest) (hW : (rest.map fun v => v.category).sum = W)
    (hf : rm'.frames + 1 ≤ R.frames) (hl : W + (mx' + 11) + rm'.locals ≤ R.locals) (hcs : cs + rm'.cells = cs') (hsl : sl + rm'.slots = sl') (hc : cs' ≤ R.cells) (hs : sl' ≤ R.slots)
    (k : ∀ v h', Q' v h' → own_K p l e R s m args below meth c bytes mx rt own nm Z Q pc' ls (v.toList ++ rest) h' cs' sl') : own_K p l e R s m args below meth c bytes mx rt own nm Z Q pc ls st h cs sl := fun T L hx hby hml hrt hlk hown hnm hZ X eT N O' => by
  subst hp; subst hcs; subst hsl; subst hst; subst has; subst eT
  obtain ⟨cq, qa, qb⟩ := E.cell
  have hpr := Cond.privateMethod_at (mvP hZ w7 (args := args))
  obtain ⟨r0, mt, hn2, -⟩ := Cond.instanceMethod_spec (mvT (args := args) hZ w8)
  obtain ⟨kk, hk1, hk2⟩ := notFace_of_selects (args := args) (mvT hZ w5) r0 hn2
  have hse : (Jvm.Cond.selects y.cls y y).before args s = true := selects_self_of_private (hc2 ▸ findClass_of_methodNamed hn2) hk1 hk2 hpr (mvT hZ w6) hy
  obtain ⟨v, _, ⟨T2, L2, k2, n2⟩, -, X2, ⟨Lc2, ⟨hQ2, N2, O2⟩, l2, y2, z2⟩, st2⟩ := X.privateBack hx (y := y) hown (mvT hZ w1) (mvT hZ w6) hse hpr (mvT hZ w4) hy (own_back (W := W) hZ O' hM w4 w3 hf hl) (g := mkF m pc ls (argsL.reverse ++ .ref a :: rest)) rfl (hls.trans hml.symm) (Steps.refl _) (a := a) qa qb (argsL := argsL) (rest := rest) hlen rfl (by show 2 * 0 + _ ≤ _; omega) (hb hby hd) (fun _ _ => ⟨rfl, rfl, hc, hs⟩)
  dsimp only [Pt.U, Pt.locs, Pt.cells, Pt.slots] at X2 l2 y2 z2 st2 hQ2 O2
  subst l2 y2 z2
  exact own_go (fun t q => st2.trans q) (k v _ hQ2 T2 _ hx hby hml hrt hlk hown hnm hZ X2 rfl (N.app N2) O2)
-- a case's words
theorem own_eqI {t : Term} {k : Int32} {o : Option Outcome} {idx : List Nat} {first : State} (hq : (Jvm.Cond.eq t (.int k)).value args first o s idx = some true) : t.eval args first o idx s = some (.int k) := by
  simp only [Jvm.Cond.value, Term.eval] at hq
  cases ht : t.eval args first o idx s with
  | none => simp [ht] at hq
  | some x => cases x <;> simp [ht] at hq ⊢; exact hq
theorem own_eqR {t u : Term} {a : Addr} {o : Option Outcome} {idx : List Nat} {first : State} (hq : (Jvm.Cond.eq t u).value args first o s idx = some true) (hu : u.eval args first o idx s = some (.ref a)) : t.eval args first o idx s = some (.ref a) := by
  simp only [Jvm.Cond.value, hu] at hq
  cases ht : t.eval args first o idx s with
  | none => simp [ht] at hq
  | some x => cases x <;> simp [ht] at hq ⊢; exact hq
theorem own_fold {f : Nat → Option Bool} : ∀ (L : List Nat) (acc : Option Bool), L.foldl (fun acc i => match acc with | some true => f i | x => x) acc = some true → acc = some true ∧ ∀ i ∈ L, f i = some true
  | [], acc, hq => ⟨hq, fun _ q => nomatch q⟩
  | a :: L, acc, hq => by
    obtain ⟨h1, h2⟩ := own_fold L _ hq
    rcases acc with _ | _ | _
    · cases h1
    · cases h1
    · exact ⟨rfl, fun i hi => (List.mem_cons.mp hi).elim (fun q => q ▸ h1) (h2 i)⟩
theorem own_all {t : Term} {cd : Jvm.Cond} {o : Option Outcome} {idx : List Nat} {first : State} {a : Addr} {cell : Cell} (hq : (Jvm.Cond.all t cd).value args first o s idx = some true) (ht : t.eval args first o idx s = some (.ref a)) (ha : s.arrayAt? a = some cell) : ∀ i, i < cell.slots.size → cd.value args first o s (i :: idx) = some true := by
  simp only [Jvm.Cond.value, ht, ha] at hq
  exact fun i hi => (own_fold _ _ hq).2 i (List.mem_range.mpr hi)
theorem own_len {t : Term} {n : Int32} {o : Option Outcome} {idx : List Nat} {first : State} {a : Addr} {cell : Cell} (hq : (Term.length t).eval args first o idx s = some (.int n)) (ht : t.eval args first o idx s = some (.ref a)) (ha : s.arrayAt? a = some cell) : cell.slots.size.toInt32 = n ∧ cell.slots.size < 2 ^ 31 := by
  simp only [Term.eval, ht, ha, Option.bind_eq_bind, Option.bind_some] at hq
  split at hq
  · rename_i hl
    exact ⟨by simpa using hq, hl⟩
  · cases hq
theorem own_elem {t : Term} {j : Int32} {v : Value} {o : Option Outcome} {idx : List Nat} {first : State} {a : Addr} {cell : Cell} (hq : (Term.elem t (.int j)).eval args first o idx s = some v) (ht : t.eval args first o idx s = some (.ref a)) (ha : s.heap[a]? = some cell) : cell.slots[j.toNatClampNeg]? = some v :=
  (elem_in hq ht rfl ha).2
-- ints as integers
theorem own_lt {x y : Int32} (h : x < y) : x.toInt < y.toInt := Int32.lt_iff_toInt_lt.mp h
theorem own_nlt {x y : Int32} (h : ¬ x < y) : y.toInt ≤ x.toInt := Int.not_lt.mp fun q => h (Int32.lt_iff_toInt_lt.mpr q)
theorem own_eq {x y : Int32} (h : x = y) : x.toInt = y.toInt := congrArg _ h
theorem own_neq {x y : Int32} (h : ¬ x = y) : ¬ x.toInt = y.toInt := fun q => h (Int32.toInt_inj.mp q)
theorem own_lt' {x y : Int32} (h : x.toInt < y.toInt) : x < y := Int32.lt_iff_toInt_lt.mpr h
theorem own_nlt' {x y : Int32} (h : y.toInt ≤ x.toInt) : ¬ x < y := fun q => Int.not_lt.mpr h (Int32.lt_iff_toInt_lt.mp q)
theorem own_eq' {x y : Int32} (h : x.toInt = y.toInt) : x = y := Int32.toInt_inj.mp h
theorem own_neq' {x y : Int32} (h : ¬ x.toInt = y.toInt) : ¬ x = y := fun q => h (congrArg _ q)
theorem own_ltL {x y : Int64} (h : x < y) : x.toInt < y.toInt := Int64.lt_iff_toInt_lt.mp h
theorem own_nltL {x y : Int64} (h : ¬ x < y) : y.toInt ≤ x.toInt := Int.not_lt.mp fun q => h (Int64.lt_iff_toInt_lt.mpr q)
theorem own_eqL {x y : Int64} (h : x = y) : x.toInt = y.toInt := congrArg _ h
theorem own_neqL {x y : Int64} (h : ¬ x = y) : ¬ x.toInt = y.toInt := fun q => h (Int64.toInt_inj.mp q)
theorem own_ltL' {x y : Int64} (h : x.toInt < y.toInt) : x < y := Int64.lt_iff_toInt_lt.mpr h
theorem own_nltL' {x y : Int64} (h : y.toInt ≤ x.toInt) : ¬ x < y := fun q => Int.not_lt.mpr h (Int64.lt_iff_toInt_lt.mp q)
theorem own_eqL' {x y : Int64} (h : x.toInt = y.toInt) : x = y := Int64.toInt_inj.mp h
theorem own_neqL' {x y : Int64} (h : ¬ x.toInt = y.toInt) : ¬ x = y := fun q => h (congrArg _ q)
end Own
def own_Ini (Z : State) (w_BOOL : Addr) (w_SIGNED_CHAR : Addr) (w_UNSIGNED_CHAR : Addr) (w_SHORT : Addr) (w_UNSIGNED_SHORT : Addr) (w_INT : Addr) (w_UNSIGNED_INT : Addr) (w_LONG_LONG : Addr) (w_UNSIGNED_LONG_LONG : Addr) : Prop := (Sta Z Z.heap "com/example/counterpath/counterpath/cfa/Type" "BOOL" "Lcom/example/counterpath/counterpath/cfa/Type;" (.ref w_BOOL)) ∧ (Exa Z Z.heap w_BOOL "com/example/counterpath/counterpath/cfa/Type") ∧ (Sta Z Z.heap "com/example/counterpath/counterpath/cfa/Type" "SIGNED_CHAR" "Lcom/example/counterpath/counterpath/cfa/Type;" (.ref w_SIGNED_CHAR)) ∧ (Exa Z Z.heap w_SIGNED_CHAR "com/example/counterpath/counterpath/cfa/Type") ∧ (Sta Z Z.heap "com/example/counterpath/counterpath/cfa/Type" "UNSIGNED_CHAR" "Lcom/example/counterpath/counterpath/cfa/Type;" (.ref w_UNSIGNED_CHAR)) ∧ (Exa Z Z.heap w_UNSIGNED_CHAR "com/example/counterpath/counterpath/cfa/Type") ∧ (Sta Z Z.heap "com/example/counterpath/counterpath/cfa/Type" "SHORT" "Lcom/example/counterpath/counterpath/cfa/Type;" (.ref w_SHORT)) ∧ (Exa Z Z.heap w_SHORT "com/example/counterpath/counterpath/cfa/Type") ∧ (Sta Z Z.heap "com/example/counterpath/counterpath/cfa/Type" "UNSIGNED_SHORT" "Lcom/example/counterpath/counterpath/cfa/Type;" (.ref w_UNSIGNED_SHORT)) ∧ (Exa Z Z.heap w_UNSIGNED_SHORT "com/example/counterpath/counterpath/cfa/Type") ∧ (Sta Z Z.heap "com/example/counterpath/counterpath/cfa/Type" "INT" "Lcom/example/counterpath/counterpath/cfa/Type;" (.ref w_INT)) ∧ (Exa Z Z.heap w_INT "com/example/counterpath/counterpath/cfa/Type") ∧ (Sta Z Z.heap "com/example/counterpath/counterpath/cfa/Type" "UNSIGNED_INT" "Lcom/example/counterpath/counterpath/cfa/Type;" (.ref w_UNSIGNED_INT)) ∧ (Exa Z Z.heap w_UNSIGNED_INT "com/example/counterpath/counterpath/cfa/Type") ∧ (Sta Z Z.heap "com/example/counterpath/counterpath/cfa/Type" "LONG_LONG" "Lcom/example/counterpath/counterpath/cfa/Type;" (.ref w_LONG_LONG)) ∧ (Exa Z Z.heap w_LONG_LONG "com/example/counterpath/counterpath/cfa/Type") ∧ (Sta Z Z.heap "com/example/counterpath/counterpath/cfa/Type" "UNSIGNED_LONG_LONG" "Lcom/example/counterpath/counterpath/cfa/Type;" (.ref w_UNSIGNED_LONG_LONG)) ∧ (Exa Z Z.heap w_UNSIGNED_LONG_LONG "com/example/counterpath/counterpath/cfa/Type") ∧ (Fld Z Z.heap w_BOOL "com/example/counterpath/counterpath/cfa/Type" "width" "I" (.int (1 : Int32))) ∧ (Fld Z Z.heap w_INT "com/example/counterpath/counterpath/cfa/Type" "width" "I" (.int (32 : Int32))) ∧ (Fld Z Z.heap w_SHORT "com/example/counterpath/counterpath/cfa/Type" "width" "I" (.int (16 : Int32))) ∧ (Fld Z Z.heap w_INT "com/example/counterpath/counterpath/cfa/Type" "signed" "Z" (.int (1 : Int32))) ∧ (Fld Z Z.heap w_SIGNED_CHAR "com/example/counterpath/counterpath/cfa/Type" "width" "I" (.int (8 : Int32))) ∧ (Fld Z Z.heap w_UNSIGNED_CHAR "com/example/counterpath/counterpath/cfa/Type" "width" "I" (.int (8 : Int32))) ∧ (Fld Z Z.heap w_UNSIGNED_SHORT "com/example/counterpath/counterpath/cfa/Type" "width" "I" (.int (16 : Int32))) ∧ (Fld Z Z.heap w_UNSIGNED_INT "com/example/counterpath/counterpath/cfa/Type" "width" "I" (.int (32 : Int32))) ∧ (Fld Z Z.heap w_UNSIGNED_INT "com/example/counterpath/counterpath/cfa/Type" "signed" "Z" (.int (0 : Int32))) ∧ (Fld Z Z.heap w_UNSIGNED_LONG_LONG "com/example/counterpath/counterpath/cfa/Type" "width" "I" (.int (64 : Int32))) ∧ (Fld Z Z.heap w_UNSIGNED_LONG_LONG "com/example/counterpath/counterpath/cfa/Type" "signed" "Z" (.int (0 : Int32))) ∧ (Fld Z Z.heap w_LONG_LONG "com/example/counterpath/counterpath/cfa/Type" "width" "I" (.int (64 : Int32))) ∧ (Fld Z Z.heap w_LONG_LONG "com/example/counterpath/counterpath/cfa/Type" "signed" "Z" (.int (1 : Int32))) ∧ (Fld Z Z.heap w_BOOL "com/example/counterpath/counterpath/cfa/Type" "signed" "Z" (.int (0 : Int32))) ∧ (Fld Z Z.heap w_SIGNED_CHAR "com/example/counterpath/counterpath/cfa/Type" "signed" "Z" (.int (1 : Int32))) ∧ (Fld Z Z.heap w_UNSIGNED_CHAR "com/example/counterpath/counterpath/cfa/Type" "signed" "Z" (.int (0 : Int32))) ∧ (Fld Z Z.heap w_SHORT "com/example/counterpath/counterpath/cfa/Type" "signed" "Z" (.int (1 : Int32))) ∧ (Fld Z Z.heap w_UNSIGNED_SHORT "com/example/counterpath/counterpath/cfa/Type" "signed" "Z" (.int (0 : Int32)))
theorem d1_0 : decode jdk_29_method_65_code 0 = .ok (.iload_n 0, 1) := by decide +kernel
theorem d1_1 : decode jdk_29_method_65_code 1 = .ok (.iload_n 1, 1) := by decide +kernel
theorem d1_2 : decode jdk_29_method_65_code 2 = .ok (.if_icmp .lt 7, 3) := by decide +kernel
theorem d1_9 : decode jdk_29_method_65_code 9 = .ok (.iload_n 1, 1) := by decide +kernel
theorem d1_10 : decode jdk_29_method_65_code 10 = .ok (.ireturn, 1) := by decide +kernel
theorem d1_5 : decode jdk_29_method_65_code 5 = .ok (.iload_n 0, 1) := by decide +kernel
theorem d1_6 : decode jdk_29_method_65_code 6 = .ok (.goto 4, 3) := by decide +kernel
theorem own_pf0 : plainFor (⟨"java/lang/Math", "max", "(II)I"⟩ : MethodName) = true := by first | exact plainFor_of_name (by first | (simp [plainName, overriddenIn]; done) | decide +kernel) | decide +kernel
set_option maxRecDepth 65536 in
set_option maxHeartbeats 40000000 in
theorem rm1 (l : Launch) (Z : State) (a0 : Array Value) (hw : ∀ d ∈ tables_1, d.before a0 Z = true) (ws : List Jvm.Cond) (p1 p2 : Int32) (h0 : Heap)  :
    own_Met l Z (⟨"java/lang/Math", "max", "(II)I"⟩ : MethodName) jdk_29_method_65_code 2 (some .int) ws ({ frames := 0, cells := 0, slots := 0, locals := 0 } : Room) #[(.int p1), (.int p2)] h0 (own_some (fun v h => v = .int (if p1 < p2 then p2 else p1) ∧ h = h0)) := by
  refine own_met (ls0 := #[.val (.int p1), .val (.int p2)]) own_pf0 (fun m => by first | rfl | (simp [entryFrame, mkF, argsToLocals, Value.category, maxLocals]; done)) ?_
  intro p e s m below meth c
  refine own_old (fun O0 => ?_)
  refine own_iloadN 1 rfl d1_0 rfl ?_
  refine own_iloadN 2 rfl d1_1 rfl ?_
  by_cases hc2 : p1 < p2
  · have ihc2 : p1.toInt < p2.toInt := own_lt hc2
    refine own_icmpYes 9 d1_2 (tlt hc2).1 (by decide) (by decide) ?_
    refine own_iloadN 10 rfl d1_9 rfl ?_
    refine own_retI rfl d1_10 (by decide) (by decide) ?_
    exact ⟨_, rfl, by simp [hc2], rfl⟩
  · have ihc2 : p2.toInt ≤ p1.toInt := own_nlt hc2
    refine own_icmpNo 5 rfl d1_2 (flt hc2).1 ?_
    refine own_iloadN 6 rfl d1_5 rfl ?_
    refine own_goto 10 d1_6 (by decide) (by decide) ?_
    refine own_retI rfl d1_10 (by decide) (by decide) ?_
    exact ⟨_, rfl, by simp [hc2], rfl⟩
theorem d3_0 : decode prog_22_method_11_code 0 = .ok (.aload_n 0, 1) := by decide +kernel
theorem d3_1 : decode prog_22_method_11_code 1 = .ok (.getfield 54, 3) := by decide +kernel
theorem d3_4 : decode prog_22_method_11_code 4 = .ok (.getstatic 19, 3) := by decide +kernel
theorem d3_7 : decode prog_22_method_11_code 7 = .ok (.getfield 54, 3) := by decide +kernel
theorem d3_10 : decode prog_22_method_11_code 10 = .ok (.if_icmp .ge 9, 3) := by decide +kernel
theorem d3_13 : decode prog_22_method_11_code 13 = .ok (.getstatic 19, 3) := by decide +kernel
theorem d3_16 : decode prog_22_method_11_code 16 = .ok (.goto 4, 3) := by decide +kernel
theorem d3_20 : decode prog_22_method_11_code 20 = .ok (.areturn, 1) := by decide +kernel
theorem d3_19 : decode prog_22_method_11_code 19 = .ok (.aload_n 0, 1) := by decide +kernel
theorem own_pf1 : plainFor (⟨"com/example/counterpath/counterpath/cfa/Type", "promoted", "()Lcom/example/counterpath/counterpath/cfa/Type;"⟩ : MethodName) = true := by first | exact plainFor_of_name (by first | (simp [plainName, overriddenIn]; done) | decide +kernel) | decide +kernel
set_option maxRecDepth 65536 in
set_option maxHeartbeats 40000000 in
theorem rm3 (l : Launch) (Z : State) (a0 : Array Value) (hw : ∀ d ∈ tables_1, d.before a0 Z = true) (ws : List Jvm.Cond) (p1 : Addr) (x1 : Int32) (w_BOOL : Addr) (w_SIGNED_CHAR : Addr) (w_UNSIGNED_CHAR : Addr) (w_SHORT : Addr) (w_UNSIGNED_SHORT : Addr) (w_INT : Addr) (w_UNSIGNED_INT : Addr) (w_LONG_LONG : Addr) (w_UNSIGNED_LONG_LONG : Addr) (h0 : Heap) (I : own_Ini Z w_BOOL w_SIGNED_CHAR w_UNSIGNED_CHAR w_SHORT w_UNSIGNED_SHORT w_INT w_UNSIGNED_INT w_LONG_LONG w_UNSIGNED_LONG_LONG) (F1 : Fld Z h0 p1 "com/example/counterpath/counterpath/cfa/Type" "width" "I" (.int x1)) :
    own_Met l Z (⟨"com/example/counterpath/counterpath/cfa/Type", "promoted", "()Lcom/example/counterpath/counterpath/cfa/Type;"⟩ : MethodName) prog_22_method_11_code 1 (some (.object "com/example/counterpath/counterpath/cfa/Type")) ws ({ frames := 0, cells := 0, slots := 0, locals := 0 } : Room) #[(.ref p1)] h0 (own_some (fun v h => v = .ref (if x1 < 32 then w_INT else p1) ∧ h = h0)) := by
  have I' := I
  obtain ⟨S_w_BOOL, E_w_BOOL, S_w_SIGNED_CHAR, E_w_SIGNED_CHAR, S_w_UNSIGNED_CHAR, E_w_UNSIGNED_CHAR, S_w_SHORT, E_w_SHORT, S_w_UNSIGNED_SHORT, E_w_UNSIGNED_SHORT, S_w_INT, E_w_INT, S_w_UNSIGNED_INT, E_w_UNSIGNED_INT, S_w_LONG_LONG, E_w_LONG_LONG, S_w_UNSIGNED_LONG_LONG, E_w_UNSIGNED_LONG_LONG, F_w_BOOL_width, F_w_INT_width, F_w_SHORT_width, F_w_INT_signed, F_w_SIGNED_CHAR_width, F_w_UNSIGNED_CHAR_width, F_w_UNSIGNED_SHORT_width, F_w_UNSIGNED_INT_width, F_w_UNSIGNED_INT_signed, F_w_UNSIGNED_LONG_LONG_width, F_w_UNSIGNED_LONG_LONG_signed, F_w_LONG_LONG_width, F_w_LONG_LONG_signed, F_w_BOOL_signed, F_w_SIGNED_CHAR_signed, F_w_UNSIGNED_CHAR_signed, F_w_SHORT_signed, F_w_UNSIGNED_SHORT_signed⟩ := I'
  refine own_met (ls0 := #[.val (.ref p1)]) own_pf1 (fun m => by first | rfl | (simp [entryFrame, mkF, argsToLocals, Value.category, maxLocals]; done)) ?_
  intro p e s m below meth c
  refine own_old (fun O0 => ?_)
  refine own_aloadN 1 rfl d3_0 rfl rfl ?_
  refine own_getF 4 rfl (host := "") (Or.inl (hw _ (List.mem_of_getElem? (i := 35) rfl))) Via.refl F1 d3_1 ?_
  refine own_getS 7 rfl (host := "") (Or.inl (hw _ (List.mem_of_getElem? (i := 37) rfl))) Via.refl S_w_INT d3_4 ?_
  refine own_getF 10 rfl (host := "") (Or.inl (hw _ (List.mem_of_getElem? (i := 35) rfl))) Via.refl (F_w_INT_width.ext O0.2) d3_7 ?_
  by_cases hc10 : x1 < (32 : Int32)
  · have ihc10 : x1.toInt < (32 : Int) := own_lt hc10
    refine own_icmpNo 13 rfl d3_10 (tlt hc10).2.1 ?_
    refine own_getS 16 rfl (host := "") (Or.inl (hw _ (List.mem_of_getElem? (i := 37) rfl))) Via.refl S_w_INT d3_13 ?_
    refine own_goto 20 d3_16 (by decide) (by decide) ?_
    refine own_retA rfl rfl rfl d3_20 (by decide) (by decide) ?_
    exact ⟨_, rfl, by simp [hc10], rfl⟩
  · have ihc10 : (32 : Int) ≤ x1.toInt := own_nlt hc10
    refine own_icmpYes 19 d3_10 (flt hc10).2.1 (by decide) (by decide) ?_
    refine own_aloadN 20 rfl d3_19 rfl rfl ?_
    refine own_retA rfl rfl rfl d3_20 (by decide) (by decide) ?_
    exact ⟨_, rfl, by simp [hc10], rfl⟩
def own_com (wI a : Addr) (xa ya : Int32) (b : Addr) (xb yb : Int32) : Addr := let pa := if xa < 32 then wI else a; let pb := if xb < 32 then wI else b; let wa := if xa < 32 then 32 else xa; let wb := if xb < 32 then 32 else xb; let sa := if xa < 32 then 1 else ya; let sb := if xb < 32 then 1 else yb; if sa = sb then (if wa < wb then pb else pa) else (if sa = 0 then (if wa < wb then pb else pa) else (if wb < wa then pa else pb))
theorem d2_0 : decode prog_22_method_12_code 0 = .ok (.aload_n 0, 1) := by decide +kernel
theorem d2_1 : decode prog_22_method_12_code 1 = .ok (.invokevirtual 103, 3) := by decide +kernel
theorem own_pd0 : parseMethodDescriptor "()Lcom/example/counterpath/counterpath/cfa/Type;" = some ⟨[], some (.object "com/example/counterpath/counterpath/cfa/Type")⟩ := by decide +kernel
theorem d2_4 : decode prog_22_method_12_code 4 = .ok (.astore_n 2, 1) := by decide +kernel
theorem d2_5 : decode prog_22_method_12_code 5 = .ok (.aload_n 1, 1) := by decide +kernel
theorem d2_6 : decode prog_22_method_12_code 6 = .ok (.invokevirtual 103, 3) := by decide +kernel
theorem d2_9 : decode prog_22_method_12_code 9 = .ok (.astore_n 3, 1) := by decide +kernel
theorem d2_10 : decode prog_22_method_12_code 10 = .ok (.aload_n 2, 1) := by decide +kernel
theorem d2_11 : decode prog_22_method_12_code 11 = .ok (.getfield 58, 3) := by decide +kernel
theorem d2_14 : decode prog_22_method_12_code 14 = .ok (.ifCond .eq 7, 3) := by decide +kernel
theorem d2_17 : decode prog_22_method_12_code 17 = .ok (.aload_n 3, 1) := by decide +kernel
theorem d2_18 : decode prog_22_method_12_code 18 = .ok (.goto 4, 3) := by decide +kernel
theorem d2_22 : decode prog_22_method_12_code 22 = .ok (.astore 4, 2) := by decide +kernel
theorem d2_24 : decode prog_22_method_12_code 24 = .ok (.aload_n 2, 1) := by decide +kernel
theorem d2_25 : decode prog_22_method_12_code 25 = .ok (.getfield 58, 3) := by decide +kernel
theorem d2_28 : decode prog_22_method_12_code 28 = .ok (.ifCond .eq 7, 3) := by decide +kernel
theorem d2_31 : decode prog_22_method_12_code 31 = .ok (.aload_n 2, 1) := by decide +kernel
theorem d2_32 : decode prog_22_method_12_code 32 = .ok (.goto 4, 3) := by decide +kernel
theorem d2_36 : decode prog_22_method_12_code 36 = .ok (.astore 5, 2) := by decide +kernel
theorem d2_38 : decode prog_22_method_12_code 38 = .ok (.aload_n 2, 1) := by decide +kernel
theorem d2_39 : decode prog_22_method_12_code 39 = .ok (.getfield 58, 3) := by decide +kernel
theorem d2_42 : decode prog_22_method_12_code 42 = .ok (.aload_n 3, 1) := by decide +kernel
theorem d2_43 : decode prog_22_method_12_code 43 = .ok (.getfield 58, 3) := by decide +kernel
theorem d2_46 : decode prog_22_method_12_code 46 = .ok (.if_icmp .ne 24, 3) := by decide +kernel
theorem d2_49 : decode prog_22_method_12_code 49 = .ok (.aload_n 2, 1) := by decide +kernel
theorem d2_50 : decode prog_22_method_12_code 50 = .ok (.getfield 54, 3) := by decide +kernel
theorem d2_53 : decode prog_22_method_12_code 53 = .ok (.aload_n 3, 1) := by decide +kernel
theorem d2_54 : decode prog_22_method_12_code 54 = .ok (.getfield 54, 3) := by decide +kernel
theorem d2_57 : decode prog_22_method_12_code 57 = .ok (.if_icmp .lt 7, 3) := by decide +kernel
theorem d2_60 : decode prog_22_method_12_code 60 = .ok (.aload_n 2, 1) := by decide +kernel
theorem d2_61 : decode prog_22_method_12_code 61 = .ok (.goto 4, 3) := by decide +kernel
theorem d2_65 : decode prog_22_method_12_code 65 = .ok (.astore 6, 2) := by decide +kernel
theorem d2_67 : decode prog_22_method_12_code 67 = .ok (.goto 27, 3) := by decide +kernel
theorem d2_94 : decode prog_22_method_12_code 94 = .ok (.aload 6, 2) := by decide +kernel
theorem d2_96 : decode prog_22_method_12_code 96 = .ok (.areturn, 1) := by decide +kernel
theorem d2_64 : decode prog_22_method_12_code 64 = .ok (.aload_n 3, 1) := by decide +kernel
theorem d2_70 : decode prog_22_method_12_code 70 = .ok (.aload 4, 2) := by decide +kernel
theorem d2_72 : decode prog_22_method_12_code 72 = .ok (.getfield 54, 3) := by decide +kernel
theorem d2_75 : decode prog_22_method_12_code 75 = .ok (.aload 5, 2) := by decide +kernel
theorem d2_77 : decode prog_22_method_12_code 77 = .ok (.getfield 54, 3) := by decide +kernel
theorem d2_80 : decode prog_22_method_12_code 80 = .ok (.if_icmp .lt 10, 3) := by decide +kernel
theorem d2_83 : decode prog_22_method_12_code 83 = .ok (.aload 4, 2) := by decide +kernel
theorem d2_85 : decode prog_22_method_12_code 85 = .ok (.astore 6, 2) := by decide +kernel
theorem d2_87 : decode prog_22_method_12_code 87 = .ok (.goto 7, 3) := by decide +kernel
theorem d2_21 : decode prog_22_method_12_code 21 = .ok (.aload_n 2, 1) := by decide +kernel
theorem d2_35 : decode prog_22_method_12_code 35 = .ok (.aload_n 3, 1) := by decide +kernel
theorem d2_90 : decode prog_22_method_12_code 90 = .ok (.aload 5, 2) := by decide +kernel
theorem d2_92 : decode prog_22_method_12_code 92 = .ok (.astore 6, 2) := by decide +kernel
theorem own_pf2 : plainFor (⟨"com/example/counterpath/counterpath/cfa/Type", "common", "(Lcom/example/counterpath/counterpath/cfa/Type;Lcom/example/counterpath/counterpath/cfa/Type;)Lcom/example/counterpath/counterpath/cfa/Type;"⟩ : MethodName) = true := by first | exact plainFor_of_name (by first | (simp [plainName, overriddenIn]; done) | decide +kernel) | decide +kernel
set_option maxRecDepth 65536 in
set_option maxHeartbeats 40000000 in
theorem rm2 (l : Launch) (Z : State) (a0 : Array Value) (hw : ∀ d ∈ tables_1, d.before a0 Z = true) (ws : List Jvm.Cond) (p1 p2 : Addr) (x1 y1 x2 y2 : Int32) (w_BOOL : Addr) (w_SIGNED_CHAR : Addr) (w_UNSIGNED_CHAR : Addr) (w_SHORT : Addr) (w_UNSIGNED_SHORT : Addr) (w_INT : Addr) (w_UNSIGNED_INT : Addr) (w_LONG_LONG : Addr) (w_UNSIGNED_LONG_LONG : Addr) (h0 : Heap) (I : own_Ini Z w_BOOL w_SIGNED_CHAR w_UNSIGNED_CHAR w_SHORT w_UNSIGNED_SHORT w_INT w_UNSIGNED_INT w_LONG_LONG w_UNSIGNED_LONG_LONG) (E_p1 : Exa Z h0 p1 "com/example/counterpath/counterpath/cfa/Type") (Fw_p1 : Fld Z h0 p1 "com/example/counterpath/counterpath/cfa/Type" "width" "I" (.int x1)) (Fs_p1 : Fld Z h0 p1 "com/example/counterpath/counterpath/cfa/Type" "signed" "Z" (.int y1)) (E_p2 : Exa Z h0 p2 "com/example/counterpath/counterpath/cfa/Type") (Fw_p2 : Fld Z h0 p2 "com/example/counterpath/counterpath/cfa/Type" "width" "I" (.int x2)) (Fs_p2 : Fld Z h0 p2 "com/example/counterpath/counterpath/cfa/Type" "signed" "Z" (.int y2)) (by1 : 0 ≤ y1.toInt ∧ y1.toInt ≤ 1) (by2 : 0 ≤ y2.toInt ∧ y2.toInt ≤ 1) :
    own_Met l Z (⟨"com/example/counterpath/counterpath/cfa/Type", "common", "(Lcom/example/counterpath/counterpath/cfa/Type;Lcom/example/counterpath/counterpath/cfa/Type;)Lcom/example/counterpath/counterpath/cfa/Type;"⟩ : MethodName) prog_22_method_12_code 7 (some (.object "com/example/counterpath/counterpath/cfa/Type")) ws ({ frames := 1, cells := 0, slots := 0, locals := 12 } : Room) #[(.ref p1), (.ref p2)] h0 (own_some (fun v h => v = .ref (own_com w_INT p1 x1 y1 p2 x2 y2) ∧ h = h0)) := by
  have I' := I
  obtain ⟨S_w_BOOL, E_w_BOOL, S_w_SIGNED_CHAR, E_w_SIGNED_CHAR, S_w_UNSIGNED_CHAR, E_w_UNSIGNED_CHAR, S_w_SHORT, E_w_SHORT, S_w_UNSIGNED_SHORT, E_w_UNSIGNED_SHORT, S_w_INT, E_w_INT, S_w_UNSIGNED_INT, E_w_UNSIGNED_INT, S_w_LONG_LONG, E_w_LONG_LONG, S_w_UNSIGNED_LONG_LONG, E_w_UNSIGNED_LONG_LONG, F_w_BOOL_width, F_w_INT_width, F_w_SHORT_width, F_w_INT_signed, F_w_SIGNED_CHAR_width, F_w_UNSIGNED_CHAR_width, F_w_UNSIGNED_SHORT_width, F_w_UNSIGNED_INT_width, F_w_UNSIGNED_INT_signed, F_w_UNSIGNED_LONG_LONG_width, F_w_UNSIGNED_LONG_LONG_signed, F_w_LONG_LONG_width, F_w_LONG_LONG_signed, F_w_BOOL_signed, F_w_SIGNED_CHAR_signed, F_w_UNSIGNED_CHAR_signed, F_w_SHORT_signed, F_w_UNSIGNED_SHORT_signed⟩ := I'
  refine own_met (ls0 := #[.val (.ref p1), .val (.ref p2), .unset, .unset, .unset, .unset, .unset]) own_pf2 (fun m => by first | rfl | (simp [entryFrame, mkF, argsToLocals, Value.category, maxLocals]; done)) ?_
  intro p e s m below meth c
  refine own_old (fun O0 => ?_)
  refine own_aloadN 1 rfl d2_0 rfl rfl ?_
  refine own_callV 4 rfl 0 0 0 [] [] (y := (⟨"com/example/counterpath/counterpath/cfa/Type", "promoted", "()Lcom/example/counterpath/counterpath/cfa/Type;"⟩ : MethodName)) (z := (⟨"com/example/counterpath/counterpath/cfa/Type", "promoted", "()Lcom/example/counterpath/counterpath/cfa/Type;"⟩ : MethodName)) (hw _ (List.mem_of_getElem? (i := 30) rfl)) (hw _ (List.mem_of_getElem? (i := 31) rfl)) (fun hZ => notFace_of_selects (args := #[]) (mvT hZ (hw _ (List.mem_of_getElem? (i := 33) rfl)))) (hw _ (List.mem_of_getElem? (i := 33) rfl)) (hw _ (List.mem_of_getElem? (i := 32) rfl)) (hw _ (List.mem_of_getElem? (i := 3) rfl)) (hw _ (List.mem_of_getElem? (i := 34) rfl)) (by decide) E_p1 (rm3 l Z a0 hw [] p1 x1 w_BOOL w_SIGNED_CHAR w_UNSIGNED_CHAR w_SHORT w_UNSIGNED_SHORT w_INT w_UNSIGNED_INT w_LONG_LONG w_UNSIGNED_LONG_LONG h0 I Fw_p1) d2_1 rfl (lenOf own_pd0 rfl) rfl rfl rfl (by decide) (by decide) rfl rfl (by decide) (by decide) (own_kv fun v1 h1 q1 => ?_)
  obtain ⟨rfl, e1⟩ := q1
  rw [e1]
  by_cases hpw_p1 : x1 < 32
  · rw [if_pos hpw_p1]
    have ihpw_p1 : x1.toInt < 32 := own_lt hpw_p1
    refine own_astoreN 5 rfl #[.val (.ref p1), .val (.ref p2), .val (.ref w_INT), .unset, .unset, .unset, .unset] d2_4 rfl rfl ?_
    refine own_aloadN 6 rfl d2_5 rfl rfl ?_
    refine own_callV 9 rfl 0 0 0 [] [] (y := (⟨"com/example/counterpath/counterpath/cfa/Type", "promoted", "()Lcom/example/counterpath/counterpath/cfa/Type;"⟩ : MethodName)) (z := (⟨"com/example/counterpath/counterpath/cfa/Type", "promoted", "()Lcom/example/counterpath/counterpath/cfa/Type;"⟩ : MethodName)) (hw _ (List.mem_of_getElem? (i := 30) rfl)) (hw _ (List.mem_of_getElem? (i := 31) rfl)) (fun hZ => notFace_of_selects (args := #[]) (mvT hZ (hw _ (List.mem_of_getElem? (i := 33) rfl)))) (hw _ (List.mem_of_getElem? (i := 33) rfl)) (hw _ (List.mem_of_getElem? (i := 32) rfl)) (hw _ (List.mem_of_getElem? (i := 3) rfl)) (hw _ (List.mem_of_getElem? (i := 34) rfl)) (by decide) E_p2 (rm3 l Z a0 hw [] p2 x2 w_BOOL w_SIGNED_CHAR w_UNSIGNED_CHAR w_SHORT w_UNSIGNED_SHORT w_INT w_UNSIGNED_INT w_LONG_LONG w_UNSIGNED_LONG_LONG h0 I Fw_p2) d2_6 rfl (lenOf own_pd0 rfl) rfl rfl rfl (by decide) (by decide) rfl rfl (by decide) (by decide) (own_kv fun v2 h2 q2 => ?_)
    obtain ⟨rfl, e2⟩ := q2
    rw [e2]
    by_cases hpw_p2 : x2 < 32
    · rw [if_pos hpw_p2]
      have ihpw_p2 : x2.toInt < 32 := own_lt hpw_p2
      refine own_astoreN 10 rfl #[.val (.ref p1), .val (.ref p2), .val (.ref w_INT), .val (.ref w_INT), .unset, .unset, .unset] d2_9 rfl rfl ?_
      refine own_aloadN 11 rfl d2_10 rfl rfl ?_
      refine own_getF 14 rfl (host := "") (Or.inl (hw _ (List.mem_of_getElem? (i := 38) rfl))) Via.refl (F_w_INT_signed.ext O0.2) d2_11 ?_
      refine own_ifNo 17 rfl d2_14 (feq (by decide : ¬ ((1 : Int32) = (0 : Int32)))).1 ?_
      refine own_aloadN 18 rfl d2_17 rfl rfl ?_
      refine own_goto 22 d2_18 (by decide) (by decide) ?_
      refine own_astore 24 rfl #[.val (.ref p1), .val (.ref p2), .val (.ref w_INT), .val (.ref w_INT), .val (.ref w_INT), .unset, .unset] d2_22 rfl rfl ?_
      refine own_aloadN 25 rfl d2_24 rfl rfl ?_
      refine own_getF 28 rfl (host := "") (Or.inl (hw _ (List.mem_of_getElem? (i := 38) rfl))) Via.refl (F_w_INT_signed.ext O0.2) d2_25 ?_
      refine own_ifNo 31 rfl d2_28 (feq (by decide : ¬ ((1 : Int32) = (0 : Int32)))).1 ?_
      refine own_aloadN 32 rfl d2_31 rfl rfl ?_
      refine own_goto 36 d2_32 (by decide) (by decide) ?_
      refine own_astore 38 rfl #[.val (.ref p1), .val (.ref p2), .val (.ref w_INT), .val (.ref w_INT), .val (.ref w_INT), .val (.ref w_INT), .unset] d2_36 rfl rfl ?_
      refine own_aloadN 39 rfl d2_38 rfl rfl ?_
      refine own_getF 42 rfl (host := "") (Or.inl (hw _ (List.mem_of_getElem? (i := 38) rfl))) Via.refl (F_w_INT_signed.ext O0.2) d2_39 ?_
      refine own_aloadN 43 rfl d2_42 rfl rfl ?_
      refine own_getF 46 rfl (host := "") (Or.inl (hw _ (List.mem_of_getElem? (i := 38) rfl))) Via.refl (F_w_INT_signed.ext O0.2) d2_43 ?_
      refine own_icmpNo 49 rfl d2_46 (teq (rfl : (1 : Int32) = (1 : Int32))).2 ?_
      refine own_aloadN 50 rfl d2_49 rfl rfl ?_
      refine own_getF 53 rfl (host := "") (Or.inl (hw _ (List.mem_of_getElem? (i := 35) rfl))) Via.refl (F_w_INT_width.ext O0.2) d2_50 ?_
      refine own_aloadN 54 rfl d2_53 rfl rfl ?_
      refine own_getF 57 rfl (host := "") (Or.inl (hw _ (List.mem_of_getElem? (i := 35) rfl))) Via.refl (F_w_INT_width.ext O0.2) d2_54 ?_
      refine own_icmpNo 60 rfl d2_57 (flt (by decide : ¬ ((32 : Int32) < (32 : Int32)))).1 ?_
      refine own_aloadN 61 rfl d2_60 rfl rfl ?_
      refine own_goto 65 d2_61 (by decide) (by decide) ?_
      refine own_astore 67 rfl #[.val (.ref p1), .val (.ref p2), .val (.ref w_INT), .val (.ref w_INT), .val (.ref w_INT), .val (.ref w_INT), .val (.ref w_INT)] d2_65 rfl rfl ?_
      refine own_goto 94 d2_67 (by decide) (by decide) ?_
      refine own_aload 96 rfl d2_94 rfl rfl ?_
      refine own_retA rfl rfl rfl d2_96 (by decide) (by decide) ?_
      exact ⟨_, rfl, by simp [own_com, hpw_p1, hpw_p2], rfl⟩
    · rw [if_neg hpw_p2]
      have ihpw_p2 : 32 ≤ x2.toInt := own_nlt hpw_p2
      refine own_astoreN 10 rfl #[.val (.ref p1), .val (.ref p2), .val (.ref w_INT), .val (.ref p2), .unset, .unset, .unset] d2_9 rfl rfl ?_
      refine own_aloadN 11 rfl d2_10 rfl rfl ?_
      refine own_getF 14 rfl (host := "") (Or.inl (hw _ (List.mem_of_getElem? (i := 38) rfl))) Via.refl (F_w_INT_signed.ext O0.2) d2_11 ?_
      refine own_ifNo 17 rfl d2_14 (feq (by decide : ¬ ((1 : Int32) = (0 : Int32)))).1 ?_
      refine own_aloadN 18 rfl d2_17 rfl rfl ?_
      refine own_goto 22 d2_18 (by decide) (by decide) ?_
      refine own_astore 24 rfl #[.val (.ref p1), .val (.ref p2), .val (.ref w_INT), .val (.ref p2), .val (.ref p2), .unset, .unset] d2_22 rfl rfl ?_
      refine own_aloadN 25 rfl d2_24 rfl rfl ?_
      refine own_getF 28 rfl (host := "") (Or.inl (hw _ (List.mem_of_getElem? (i := 38) rfl))) Via.refl (F_w_INT_signed.ext O0.2) d2_25 ?_
      refine own_ifNo 31 rfl d2_28 (feq (by decide : ¬ ((1 : Int32) = (0 : Int32)))).1 ?_
      refine own_aloadN 32 rfl d2_31 rfl rfl ?_
      refine own_goto 36 d2_32 (by decide) (by decide) ?_
      refine own_astore 38 rfl #[.val (.ref p1), .val (.ref p2), .val (.ref w_INT), .val (.ref p2), .val (.ref p2), .val (.ref w_INT), .unset] d2_36 rfl rfl ?_
      refine own_aloadN 39 rfl d2_38 rfl rfl ?_
      refine own_getF 42 rfl (host := "") (Or.inl (hw _ (List.mem_of_getElem? (i := 38) rfl))) Via.refl (F_w_INT_signed.ext O0.2) d2_39 ?_
      refine own_aloadN 43 rfl d2_42 rfl rfl ?_
      refine own_getF 46 rfl (host := "") (Or.inl (hw _ (List.mem_of_getElem? (i := 38) rfl))) Via.refl Fs_p2 d2_43 ?_
      by_cases hc46 : (1 : Int32) = y2
      · have ihc46 : (1 : Int) = y2.toInt := own_eq hc46
        refine own_icmpNo 49 rfl d2_46 (teq hc46).2 ?_
        refine own_aloadN 50 rfl d2_49 rfl rfl ?_
        refine own_getF 53 rfl (host := "") (Or.inl (hw _ (List.mem_of_getElem? (i := 35) rfl))) Via.refl (F_w_INT_width.ext O0.2) d2_50 ?_
        refine own_aloadN 54 rfl d2_53 rfl rfl ?_
        refine own_getF 57 rfl (host := "") (Or.inl (hw _ (List.mem_of_getElem? (i := 35) rfl))) Via.refl Fw_p2 d2_54 ?_
        by_cases hc57 : (32 : Int32) < x2
        · have ihc57 : (32 : Int) < x2.toInt := own_lt hc57
          refine own_icmpYes 64 d2_57 (tlt hc57).1 (by decide) (by decide) ?_
          refine own_aloadN 65 rfl d2_64 rfl rfl ?_
          refine own_astore 67 rfl #[.val (.ref p1), .val (.ref p2), .val (.ref w_INT), .val (.ref p2), .val (.ref p2), .val (.ref w_INT), .val (.ref p2)] d2_65 rfl rfl ?_
          refine own_goto 94 d2_67 (by decide) (by decide) ?_
          refine own_aload 96 rfl d2_94 rfl rfl ?_
          refine own_retA rfl rfl rfl d2_96 (by decide) (by decide) ?_
          exact ⟨_, rfl, by simp [own_com, hpw_p1, hpw_p2, hc46, hc57], rfl⟩
        · have ihc57 : x2.toInt ≤ (32 : Int) := own_nlt hc57
          refine own_icmpNo 60 rfl d2_57 (flt hc57).1 ?_
          refine own_aloadN 61 rfl d2_60 rfl rfl ?_
          refine own_goto 65 d2_61 (by decide) (by decide) ?_
          refine own_astore 67 rfl #[.val (.ref p1), .val (.ref p2), .val (.ref w_INT), .val (.ref p2), .val (.ref p2), .val (.ref w_INT), .val (.ref w_INT)] d2_65 rfl rfl ?_
          refine own_goto 94 d2_67 (by decide) (by decide) ?_
          refine own_aload 96 rfl d2_94 rfl rfl ?_
          refine own_retA rfl rfl rfl d2_96 (by decide) (by decide) ?_
          exact ⟨_, rfl, by simp [own_com, hpw_p1, hpw_p2, hc46, hc57], rfl⟩
      · have ihc46 : ¬ (1 : Int) = y2.toInt := own_neq hc46
        refine own_icmpYes 70 d2_46 (feq hc46).2 (by decide) (by decide) ?_
        refine own_aload 72 rfl d2_70 rfl rfl ?_
        refine own_getF 75 rfl (host := "") (Or.inl (hw _ (List.mem_of_getElem? (i := 35) rfl))) Via.refl Fw_p2 d2_72 ?_
        refine own_aload 77 rfl d2_75 rfl rfl ?_
        refine own_getF 80 rfl (host := "") (Or.inl (hw _ (List.mem_of_getElem? (i := 35) rfl))) Via.refl (F_w_INT_width.ext O0.2) d2_77 ?_
        have ihc80 : (32 : Int) ≤ x2.toInt := by omega
        have hc80 : ¬ (x2 < (32 : Int32)) := own_nlt' ihc80
        refine own_icmpNo 83 rfl d2_80 (flt hc80).1 ?_
        refine own_aload 85 rfl d2_83 rfl rfl ?_
        refine own_astore 87 rfl #[.val (.ref p1), .val (.ref p2), .val (.ref w_INT), .val (.ref p2), .val (.ref p2), .val (.ref w_INT), .val (.ref p2)] d2_85 rfl rfl ?_
        refine own_goto 94 d2_87 (by decide) (by decide) ?_
        refine own_aload 96 rfl d2_94 rfl rfl ?_
        refine own_retA rfl rfl rfl d2_96 (by decide) (by decide) ?_
        exact ⟨_, rfl, by simp [own_com, hpw_p1, hpw_p2, hc46, hc80], rfl⟩
  · rw [if_neg hpw_p1]
    have ihpw_p1 : 32 ≤ x1.toInt := own_nlt hpw_p1
    refine own_astoreN 5 rfl #[.val (.ref p1), .val (.ref p2), .val (.ref p1), .unset, .unset, .unset, .unset] d2_4 rfl rfl ?_
    refine own_aloadN 6 rfl d2_5 rfl rfl ?_
    refine own_callV 9 rfl 0 0 0 [] [] (y := (⟨"com/example/counterpath/counterpath/cfa/Type", "promoted", "()Lcom/example/counterpath/counterpath/cfa/Type;"⟩ : MethodName)) (z := (⟨"com/example/counterpath/counterpath/cfa/Type", "promoted", "()Lcom/example/counterpath/counterpath/cfa/Type;"⟩ : MethodName)) (hw _ (List.mem_of_getElem? (i := 30) rfl)) (hw _ (List.mem_of_getElem? (i := 31) rfl)) (fun hZ => notFace_of_selects (args := #[]) (mvT hZ (hw _ (List.mem_of_getElem? (i := 33) rfl)))) (hw _ (List.mem_of_getElem? (i := 33) rfl)) (hw _ (List.mem_of_getElem? (i := 32) rfl)) (hw _ (List.mem_of_getElem? (i := 3) rfl)) (hw _ (List.mem_of_getElem? (i := 34) rfl)) (by decide) E_p2 (rm3 l Z a0 hw [] p2 x2 w_BOOL w_SIGNED_CHAR w_UNSIGNED_CHAR w_SHORT w_UNSIGNED_SHORT w_INT w_UNSIGNED_INT w_LONG_LONG w_UNSIGNED_LONG_LONG h0 I Fw_p2) d2_6 rfl (lenOf own_pd0 rfl) rfl rfl rfl (by decide) (by decide) rfl rfl (by decide) (by decide) (own_kv fun v3 h3 q3 => ?_)
    obtain ⟨rfl, e3⟩ := q3
    rw [e3]
    by_cases hpw_p2 : x2 < 32
    · rw [if_pos hpw_p2]
      have ihpw_p2 : x2.toInt < 32 := own_lt hpw_p2
      refine own_astoreN 10 rfl #[.val (.ref p1), .val (.ref p2), .val (.ref p1), .val (.ref w_INT), .unset, .unset, .unset] d2_9 rfl rfl ?_
      refine own_aloadN 11 rfl d2_10 rfl rfl ?_
      refine own_getF 14 rfl (host := "") (Or.inl (hw _ (List.mem_of_getElem? (i := 38) rfl))) Via.refl Fs_p1 d2_11 ?_
      by_cases hc14 : y1 = (0 : Int32)
      · have ihc14 : y1.toInt = (0 : Int) := own_eq hc14
        refine own_ifYes 21 d2_14 (teq hc14).1 (by decide) (by decide) ?_
        refine own_aloadN 22 rfl d2_21 rfl rfl ?_
        refine own_astore 24 rfl #[.val (.ref p1), .val (.ref p2), .val (.ref p1), .val (.ref w_INT), .val (.ref p1), .unset, .unset] d2_22 rfl rfl ?_
        refine own_aloadN 25 rfl d2_24 rfl rfl ?_
        refine own_getF 28 rfl (host := "") (Or.inl (hw _ (List.mem_of_getElem? (i := 38) rfl))) Via.refl Fs_p1 d2_25 ?_
        have ihc28 : y1.toInt = (0 : Int) := by omega
        have hc28 : y1 = (0 : Int32) := own_eq' ihc28
        refine own_ifYes 35 d2_28 (teq hc28).1 (by decide) (by decide) ?_
        refine own_aloadN 36 rfl d2_35 rfl rfl ?_
        refine own_astore 38 rfl #[.val (.ref p1), .val (.ref p2), .val (.ref p1), .val (.ref w_INT), .val (.ref p1), .val (.ref w_INT), .unset] d2_36 rfl rfl ?_
        refine own_aloadN 39 rfl d2_38 rfl rfl ?_
        refine own_getF 42 rfl (host := "") (Or.inl (hw _ (List.mem_of_getElem? (i := 38) rfl))) Via.refl Fs_p1 d2_39 ?_
        refine own_aloadN 43 rfl d2_42 rfl rfl ?_
        refine own_getF 46 rfl (host := "") (Or.inl (hw _ (List.mem_of_getElem? (i := 38) rfl))) Via.refl (F_w_INT_signed.ext O0.2) d2_43 ?_
        have ihc46 : ¬ y1.toInt = (1 : Int) := by omega
        have hc46 : ¬ (y1 = (1 : Int32)) := own_neq' ihc46
        refine own_icmpYes 70 d2_46 (feq hc46).2 (by decide) (by decide) ?_
        refine own_aload 72 rfl d2_70 rfl rfl ?_
        refine own_getF 75 rfl (host := "") (Or.inl (hw _ (List.mem_of_getElem? (i := 35) rfl))) Via.refl Fw_p1 d2_72 ?_
        refine own_aload 77 rfl d2_75 rfl rfl ?_
        refine own_getF 80 rfl (host := "") (Or.inl (hw _ (List.mem_of_getElem? (i := 35) rfl))) Via.refl (F_w_INT_width.ext O0.2) d2_77 ?_
        have ihc80 : (32 : Int) ≤ x1.toInt := by omega
        have hc80 : ¬ (x1 < (32 : Int32)) := own_nlt' ihc80
        refine own_icmpNo 83 rfl d2_80 (flt hc80).1 ?_
        refine own_aload 85 rfl d2_83 rfl rfl ?_
        refine own_astore 87 rfl #[.val (.ref p1), .val (.ref p2), .val (.ref p1), .val (.ref w_INT), .val (.ref p1), .val (.ref w_INT), .val (.ref p1)] d2_85 rfl rfl ?_
        refine own_goto 94 d2_87 (by decide) (by decide) ?_
        refine own_aload 96 rfl d2_94 rfl rfl ?_
        refine own_retA rfl rfl rfl d2_96 (by decide) (by decide) ?_
        exact ⟨_, rfl, by simp [own_com, hpw_p1, hpw_p2, hc14, hc28, hc46, hc80], rfl⟩
      · have ihc14 : ¬ y1.toInt = (0 : Int) := own_neq hc14
        refine own_ifNo 17 rfl d2_14 (feq hc14).1 ?_
        refine own_aloadN 18 rfl d2_17 rfl rfl ?_
        refine own_goto 22 d2_18 (by decide) (by decide) ?_
        refine own_astore 24 rfl #[.val (.ref p1), .val (.ref p2), .val (.ref p1), .val (.ref w_INT), .val (.ref w_INT), .unset, .unset] d2_22 rfl rfl ?_
        refine own_aloadN 25 rfl d2_24 rfl rfl ?_
        refine own_getF 28 rfl (host := "") (Or.inl (hw _ (List.mem_of_getElem? (i := 38) rfl))) Via.refl Fs_p1 d2_25 ?_
        have ihc28 : ¬ y1.toInt = (0 : Int) := by omega
        have hc28 : ¬ (y1 = (0 : Int32)) := own_neq' ihc28
        refine own_ifNo 31 rfl d2_28 (feq hc28).1 ?_
        refine own_aloadN 32 rfl d2_31 rfl rfl ?_
        refine own_goto 36 d2_32 (by decide) (by decide) ?_
        refine own_astore 38 rfl #[.val (.ref p1), .val (.ref p2), .val (.ref p1), .val (.ref w_INT), .val (.ref w_INT), .val (.ref p1), .unset] d2_36 rfl rfl ?_
        refine own_aloadN 39 rfl d2_38 rfl rfl ?_
        refine own_getF 42 rfl (host := "") (Or.inl (hw _ (List.mem_of_getElem? (i := 38) rfl))) Via.refl Fs_p1 d2_39 ?_
        refine own_aloadN 43 rfl d2_42 rfl rfl ?_
        refine own_getF 46 rfl (host := "") (Or.inl (hw _ (List.mem_of_getElem? (i := 38) rfl))) Via.refl (F_w_INT_signed.ext O0.2) d2_43 ?_
        have ihc46 : y1.toInt = (1 : Int) := by omega
        have hc46 : y1 = (1 : Int32) := own_eq' ihc46
        refine own_icmpNo 49 rfl d2_46 (teq hc46).2 ?_
        refine own_aloadN 50 rfl d2_49 rfl rfl ?_
        refine own_getF 53 rfl (host := "") (Or.inl (hw _ (List.mem_of_getElem? (i := 35) rfl))) Via.refl Fw_p1 d2_50 ?_
        refine own_aloadN 54 rfl d2_53 rfl rfl ?_
        refine own_getF 57 rfl (host := "") (Or.inl (hw _ (List.mem_of_getElem? (i := 35) rfl))) Via.refl (F_w_INT_width.ext O0.2) d2_54 ?_
        have ihc57 : (32 : Int) ≤ x1.toInt := by omega
        have hc57 : ¬ (x1 < (32 : Int32)) := own_nlt' ihc57
        refine own_icmpNo 60 rfl d2_57 (flt hc57).1 ?_
        refine own_aloadN 61 rfl d2_60 rfl rfl ?_
        refine own_goto 65 d2_61 (by decide) (by decide) ?_
        refine own_astore 67 rfl #[.val (.ref p1), .val (.ref p2), .val (.ref p1), .val (.ref w_INT), .val (.ref w_INT), .val (.ref p1), .val (.ref p1)] d2_65 rfl rfl ?_
        refine own_goto 94 d2_67 (by decide) (by decide) ?_
        refine own_aload 96 rfl d2_94 rfl rfl ?_
        refine own_retA rfl rfl rfl d2_96 (by decide) (by decide) ?_
        exact ⟨_, rfl, by simp [own_com, hpw_p1, hpw_p2, hc14, hc28, hc46, hc57], rfl⟩
    · rw [if_neg hpw_p2]
      have ihpw_p2 : 32 ≤ x2.toInt := own_nlt hpw_p2
      refine own_astoreN 10 rfl #[.val (.ref p1), .val (.ref p2), .val (.ref p1), .val (.ref p2), .unset, .unset, .unset] d2_9 rfl rfl ?_
      refine own_aloadN 11 rfl d2_10 rfl rfl ?_
      refine own_getF 14 rfl (host := "") (Or.inl (hw _ (List.mem_of_getElem? (i := 38) rfl))) Via.refl Fs_p1 d2_11 ?_
      by_cases hc14 : y1 = (0 : Int32)
      · have ihc14 : y1.toInt = (0 : Int) := own_eq hc14
        refine own_ifYes 21 d2_14 (teq hc14).1 (by decide) (by decide) ?_
        refine own_aloadN 22 rfl d2_21 rfl rfl ?_
        refine own_astore 24 rfl #[.val (.ref p1), .val (.ref p2), .val (.ref p1), .val (.ref p2), .val (.ref p1), .unset, .unset] d2_22 rfl rfl ?_
        refine own_aloadN 25 rfl d2_24 rfl rfl ?_
        refine own_getF 28 rfl (host := "") (Or.inl (hw _ (List.mem_of_getElem? (i := 38) rfl))) Via.refl Fs_p1 d2_25 ?_
        have ihc28 : y1.toInt = (0 : Int) := by omega
        have hc28 : y1 = (0 : Int32) := own_eq' ihc28
        refine own_ifYes 35 d2_28 (teq hc28).1 (by decide) (by decide) ?_
        refine own_aloadN 36 rfl d2_35 rfl rfl ?_
        refine own_astore 38 rfl #[.val (.ref p1), .val (.ref p2), .val (.ref p1), .val (.ref p2), .val (.ref p1), .val (.ref p2), .unset] d2_36 rfl rfl ?_
        refine own_aloadN 39 rfl d2_38 rfl rfl ?_
        refine own_getF 42 rfl (host := "") (Or.inl (hw _ (List.mem_of_getElem? (i := 38) rfl))) Via.refl Fs_p1 d2_39 ?_
        refine own_aloadN 43 rfl d2_42 rfl rfl ?_
        refine own_getF 46 rfl (host := "") (Or.inl (hw _ (List.mem_of_getElem? (i := 38) rfl))) Via.refl Fs_p2 d2_43 ?_
        by_cases hc46 : y1 = y2
        · have ihc46 : y1.toInt = y2.toInt := own_eq hc46
          refine own_icmpNo 49 rfl d2_46 (teq hc46).2 ?_
          refine own_aloadN 50 rfl d2_49 rfl rfl ?_
          refine own_getF 53 rfl (host := "") (Or.inl (hw _ (List.mem_of_getElem? (i := 35) rfl))) Via.refl Fw_p1 d2_50 ?_
          refine own_aloadN 54 rfl d2_53 rfl rfl ?_
          refine own_getF 57 rfl (host := "") (Or.inl (hw _ (List.mem_of_getElem? (i := 35) rfl))) Via.refl Fw_p2 d2_54 ?_
          by_cases hc57 : x1 < x2
          · have ihc57 : x1.toInt < x2.toInt := own_lt hc57
            refine own_icmpYes 64 d2_57 (tlt hc57).1 (by decide) (by decide) ?_
            refine own_aloadN 65 rfl d2_64 rfl rfl ?_
            refine own_astore 67 rfl #[.val (.ref p1), .val (.ref p2), .val (.ref p1), .val (.ref p2), .val (.ref p1), .val (.ref p2), .val (.ref p2)] d2_65 rfl rfl ?_
            refine own_goto 94 d2_67 (by decide) (by decide) ?_
            refine own_aload 96 rfl d2_94 rfl rfl ?_
            refine own_retA rfl rfl rfl d2_96 (by decide) (by decide) ?_
            exact ⟨_, rfl, by simp [own_com, hpw_p1, hpw_p2, hc14, hc28, hc46, hc57], rfl⟩
          · have ihc57 : x2.toInt ≤ x1.toInt := own_nlt hc57
            refine own_icmpNo 60 rfl d2_57 (flt hc57).1 ?_
            refine own_aloadN 61 rfl d2_60 rfl rfl ?_
            refine own_goto 65 d2_61 (by decide) (by decide) ?_
            refine own_astore 67 rfl #[.val (.ref p1), .val (.ref p2), .val (.ref p1), .val (.ref p2), .val (.ref p1), .val (.ref p2), .val (.ref p1)] d2_65 rfl rfl ?_
            refine own_goto 94 d2_67 (by decide) (by decide) ?_
            refine own_aload 96 rfl d2_94 rfl rfl ?_
            refine own_retA rfl rfl rfl d2_96 (by decide) (by decide) ?_
            exact ⟨_, rfl, by simp [own_com, hpw_p1, hpw_p2, hc14, hc28, hc46, hc57], rfl⟩
        · have ihc46 : ¬ y1.toInt = y2.toInt := own_neq hc46
          refine own_icmpYes 70 d2_46 (feq hc46).2 (by decide) (by decide) ?_
          refine own_aload 72 rfl d2_70 rfl rfl ?_
          refine own_getF 75 rfl (host := "") (Or.inl (hw _ (List.mem_of_getElem? (i := 35) rfl))) Via.refl Fw_p1 d2_72 ?_
          refine own_aload 77 rfl d2_75 rfl rfl ?_
          refine own_getF 80 rfl (host := "") (Or.inl (hw _ (List.mem_of_getElem? (i := 35) rfl))) Via.refl Fw_p2 d2_77 ?_
          by_cases hc80 : x1 < x2
          · have ihc80 : x1.toInt < x2.toInt := own_lt hc80
            refine own_icmpYes 90 d2_80 (tlt hc80).1 (by decide) (by decide) ?_
            refine own_aload 92 rfl d2_90 rfl rfl ?_
            refine own_astore 94 rfl #[.val (.ref p1), .val (.ref p2), .val (.ref p1), .val (.ref p2), .val (.ref p1), .val (.ref p2), .val (.ref p2)] d2_92 rfl rfl ?_
            refine own_aload 96 rfl d2_94 rfl rfl ?_
            refine own_retA rfl rfl rfl d2_96 (by decide) (by decide) ?_
            exact ⟨_, rfl, by simp [own_com, hpw_p1, hpw_p2, hc14, hc28, hc46, hc80], rfl⟩
          · have ihc80 : x2.toInt ≤ x1.toInt := own_nlt hc80
            refine own_icmpNo 83 rfl d2_80 (flt hc80).1 ?_
            refine own_aload 85 rfl d2_83 rfl rfl ?_
            refine own_astore 87 rfl #[.val (.ref p1), .val (.ref p2), .val (.ref p1), .val (.ref p2), .val (.ref p1), .val (.ref p2), .val (.ref p1)] d2_85 rfl rfl ?_
            refine own_goto 94 d2_87 (by decide) (by decide) ?_
            refine own_aload 96 rfl d2_94 rfl rfl ?_
            refine own_retA rfl rfl rfl d2_96 (by decide) (by decide) ?_
            exact ⟨_, rfl, by simp [own_com, hpw_p1, hpw_p2, hc14, hc28, hc46, hc80], rfl⟩
      · have ihc14 : ¬ y1.toInt = (0 : Int) := own_neq hc14
        refine own_ifNo 17 rfl d2_14 (feq hc14).1 ?_
        refine own_aloadN 18 rfl d2_17 rfl rfl ?_
        refine own_goto 22 d2_18 (by decide) (by decide) ?_
        refine own_astore 24 rfl #[.val (.ref p1), .val (.ref p2), .val (.ref p1), .val (.ref p2), .val (.ref p2), .unset, .unset] d2_22 rfl rfl ?_
        refine own_aloadN 25 rfl d2_24 rfl rfl ?_
        refine own_getF 28 rfl (host := "") (Or.inl (hw _ (List.mem_of_getElem? (i := 38) rfl))) Via.refl Fs_p1 d2_25 ?_
        have ihc28 : ¬ y1.toInt = (0 : Int) := by omega
        have hc28 : ¬ (y1 = (0 : Int32)) := own_neq' ihc28
        refine own_ifNo 31 rfl d2_28 (feq hc28).1 ?_
        refine own_aloadN 32 rfl d2_31 rfl rfl ?_
        refine own_goto 36 d2_32 (by decide) (by decide) ?_
        refine own_astore 38 rfl #[.val (.ref p1), .val (.ref p2), .val (.ref p1), .val (.ref p2), .val (.ref p2), .val (.ref p1), .unset] d2_36 rfl rfl ?_
        refine own_aloadN 39 rfl d2_38 rfl rfl ?_
        refine own_getF 42 rfl (host := "") (Or.inl (hw _ (List.mem_of_getElem? (i := 38) rfl))) Via.refl Fs_p1 d2_39 ?_
        refine own_aloadN 43 rfl d2_42 rfl rfl ?_
        refine own_getF 46 rfl (host := "") (Or.inl (hw _ (List.mem_of_getElem? (i := 38) rfl))) Via.refl Fs_p2 d2_43 ?_
        by_cases hc46 : y1 = y2
        · have ihc46 : y1.toInt = y2.toInt := own_eq hc46
          refine own_icmpNo 49 rfl d2_46 (teq hc46).2 ?_
          refine own_aloadN 50 rfl d2_49 rfl rfl ?_
          refine own_getF 53 rfl (host := "") (Or.inl (hw _ (List.mem_of_getElem? (i := 35) rfl))) Via.refl Fw_p1 d2_50 ?_
          refine own_aloadN 54 rfl d2_53 rfl rfl ?_
          refine own_getF 57 rfl (host := "") (Or.inl (hw _ (List.mem_of_getElem? (i := 35) rfl))) Via.refl Fw_p2 d2_54 ?_
          by_cases hc57 : x1 < x2
          · have ihc57 : x1.toInt < x2.toInt := own_lt hc57
            refine own_icmpYes 64 d2_57 (tlt hc57).1 (by decide) (by decide) ?_
            refine own_aloadN 65 rfl d2_64 rfl rfl ?_
            refine own_astore 67 rfl #[.val (.ref p1), .val (.ref p2), .val (.ref p1), .val (.ref p2), .val (.ref p2), .val (.ref p1), .val (.ref p2)] d2_65 rfl rfl ?_
            refine own_goto 94 d2_67 (by decide) (by decide) ?_
            refine own_aload 96 rfl d2_94 rfl rfl ?_
            refine own_retA rfl rfl rfl d2_96 (by decide) (by decide) ?_
            exact ⟨_, rfl, by simp [own_com, hpw_p1, hpw_p2, hc14, hc28, hc46, hc57], rfl⟩
          · have ihc57 : x2.toInt ≤ x1.toInt := own_nlt hc57
            refine own_icmpNo 60 rfl d2_57 (flt hc57).1 ?_
            refine own_aloadN 61 rfl d2_60 rfl rfl ?_
            refine own_goto 65 d2_61 (by decide) (by decide) ?_
            refine own_astore 67 rfl #[.val (.ref p1), .val (.ref p2), .val (.ref p1), .val (.ref p2), .val (.ref p2), .val (.ref p1), .val (.ref p1)] d2_65 rfl rfl ?_
            refine own_goto 94 d2_67 (by decide) (by decide) ?_
            refine own_aload 96 rfl d2_94 rfl rfl ?_
            refine own_retA rfl rfl rfl d2_96 (by decide) (by decide) ?_
            exact ⟨_, rfl, by simp [own_com, hpw_p1, hpw_p2, hc14, hc28, hc46, hc57], rfl⟩
        · have ihc46 : ¬ y1.toInt = y2.toInt := own_neq hc46
          refine own_icmpYes 70 d2_46 (feq hc46).2 (by decide) (by decide) ?_
          refine own_aload 72 rfl d2_70 rfl rfl ?_
          refine own_getF 75 rfl (host := "") (Or.inl (hw _ (List.mem_of_getElem? (i := 35) rfl))) Via.refl Fw_p2 d2_72 ?_
          refine own_aload 77 rfl d2_75 rfl rfl ?_
          refine own_getF 80 rfl (host := "") (Or.inl (hw _ (List.mem_of_getElem? (i := 35) rfl))) Via.refl Fw_p1 d2_77 ?_
          by_cases hc80 : x2 < x1
          · have ihc80 : x2.toInt < x1.toInt := own_lt hc80
            refine own_icmpYes 90 d2_80 (tlt hc80).1 (by decide) (by decide) ?_
            refine own_aload 92 rfl d2_90 rfl rfl ?_
            refine own_astore 94 rfl #[.val (.ref p1), .val (.ref p2), .val (.ref p1), .val (.ref p2), .val (.ref p2), .val (.ref p1), .val (.ref p1)] d2_92 rfl rfl ?_
            refine own_aload 96 rfl d2_94 rfl rfl ?_
            refine own_retA rfl rfl rfl d2_96 (by decide) (by decide) ?_
            exact ⟨_, rfl, by simp [own_com, hpw_p1, hpw_p2, hc14, hc28, hc46, hc80], rfl⟩
          · have ihc80 : x1.toInt ≤ x2.toInt := own_nlt hc80
            refine own_icmpNo 83 rfl d2_80 (flt hc80).1 ?_
            refine own_aload 85 rfl d2_83 rfl rfl ?_
            refine own_astore 87 rfl #[.val (.ref p1), .val (.ref p2), .val (.ref p1), .val (.ref p2), .val (.ref p2), .val (.ref p1), .val (.ref p2)] d2_85 rfl rfl ?_
            refine own_goto 94 d2_87 (by decide) (by decide) ?_
            refine own_aload 96 rfl d2_94 rfl rfl ?_
            refine own_retA rfl rfl rfl d2_96 (by decide) (by decide) ?_
            exact ⟨_, rfl, by simp [own_com, hpw_p1, hpw_p2, hc14, hc28, hc46, hc80], rfl⟩
theorem own_pd1 : parseMethodDescriptor "(II)I" = some ⟨[.int, .int], some .int⟩ := by decide +kernel
theorem own_pd2 : parseMethodDescriptor "(Lcom/example/counterpath/counterpath/cfa/Type;Lcom/example/counterpath/counterpath/cfa/Type;)Lcom/example/counterpath/counterpath/cfa/Type;" = some ⟨[(.object "com/example/counterpath/counterpath/cfa/Type"), (.object "com/example/counterpath/counterpath/cfa/Type")], some (.object "com/example/counterpath/counterpath/cfa/Type")⟩ := by decide +kernel
theorem own_pf3 : plainFor (⟨"com/example/counterpath/counterpath/cfa/TypeCommonPinLaw", "law", "(II)Z"⟩ : MethodName) = true := by first | exact plainFor_of_name (by first | (simp [plainName, overriddenIn]; done) | decide +kernel) | decide +kernel
set_option maxRecDepth 65536 in
set_option maxHeartbeats 40000000 in
theorem rm0 (l : Launch) (Z : State) (a0 : Array Value) (hw : ∀ d ∈ tables_1, d.before a0 Z = true) (ws : List Jvm.Cond) (p1 p2 : Int32) (w_BOOL : Addr) (w_SIGNED_CHAR : Addr) (w_UNSIGNED_CHAR : Addr) (w_SHORT : Addr) (w_UNSIGNED_SHORT : Addr) (w_INT : Addr) (w_UNSIGNED_INT : Addr) (w_LONG_LONG : Addr) (w_UNSIGNED_LONG_LONG : Addr) (h0 : Heap) (I : own_Ini Z w_BOOL w_SIGNED_CHAR w_UNSIGNED_CHAR w_SHORT w_UNSIGNED_SHORT w_INT w_UNSIGNED_INT w_LONG_LONG w_UNSIGNED_LONG_LONG)  :
    own_Met l Z x code maxLocals ret ws room_1 #[(.int p1), (.int p2)] h0 (own_some (fun v h => v = .int 1)) := by
  have I' := I
  obtain ⟨S_w_BOOL, E_w_BOOL, S_w_SIGNED_CHAR, E_w_SIGNED_CHAR, S_w_UNSIGNED_CHAR, E_w_UNSIGNED_CHAR, S_w_SHORT, E_w_SHORT, S_w_UNSIGNED_SHORT, E_w_UNSIGNED_SHORT, S_w_INT, E_w_INT, S_w_UNSIGNED_INT, E_w_UNSIGNED_INT, S_w_LONG_LONG, E_w_LONG_LONG, S_w_UNSIGNED_LONG_LONG, E_w_UNSIGNED_LONG_LONG, F_w_BOOL_width, F_w_INT_width, F_w_SHORT_width, F_w_INT_signed, F_w_SIGNED_CHAR_width, F_w_UNSIGNED_CHAR_width, F_w_UNSIGNED_SHORT_width, F_w_UNSIGNED_INT_width, F_w_UNSIGNED_INT_signed, F_w_UNSIGNED_LONG_LONG_width, F_w_UNSIGNED_LONG_LONG_signed, F_w_LONG_LONG_width, F_w_LONG_LONG_signed, F_w_BOOL_signed, F_w_SIGNED_CHAR_signed, F_w_UNSIGNED_CHAR_signed, F_w_SHORT_signed, F_w_UNSIGNED_SHORT_signed⟩ := I'
  refine own_met (ls0 := #[.val (.int p1), .val (.int p2), .unset, .unset, .unset, .unset, .unset, .unset]) own_pf3 (fun m => by first | rfl | (simp [entryFrame, mkF, argsToLocals, Value.category, maxLocals]; done)) ?_
  intro p e s m below meth c
  refine own_old (fun O0 => ?_)
  refine own_bipush 2 rfl (9 : Int32) at_0 rfl ?_
  refine own_newR 5 rfl 1 9 9 (hw _ (List.mem_of_getElem? (i := 0) rfl)) (hw _ (List.mem_of_getElem? (i := 1) rfl)) at_2 (by decide) (by decide) (by decide) rfl rfl (by decide) (by decide) (fun h1 b1 k1 z1 g_b1 E1 V1 O1 => ?_)
  have ne_w_BOOL_b1 : w_BOOL ≠ b1 := Nat.ne_of_lt (Nat.lt_of_lt_of_le (E_w_BOOL.ext O0.2).lt (Nat.le_of_eq z1.symm))
  have ne_w_SIGNED_CHAR_b1 : w_SIGNED_CHAR ≠ b1 := Nat.ne_of_lt (Nat.lt_of_lt_of_le (E_w_SIGNED_CHAR.ext O0.2).lt (Nat.le_of_eq z1.symm))
  have ne_w_UNSIGNED_CHAR_b1 : w_UNSIGNED_CHAR ≠ b1 := Nat.ne_of_lt (Nat.lt_of_lt_of_le (E_w_UNSIGNED_CHAR.ext O0.2).lt (Nat.le_of_eq z1.symm))
  have ne_w_SHORT_b1 : w_SHORT ≠ b1 := Nat.ne_of_lt (Nat.lt_of_lt_of_le (E_w_SHORT.ext O0.2).lt (Nat.le_of_eq z1.symm))
  have ne_w_UNSIGNED_SHORT_b1 : w_UNSIGNED_SHORT ≠ b1 := Nat.ne_of_lt (Nat.lt_of_lt_of_le (E_w_UNSIGNED_SHORT.ext O0.2).lt (Nat.le_of_eq z1.symm))
  have ne_w_INT_b1 : w_INT ≠ b1 := Nat.ne_of_lt (Nat.lt_of_lt_of_le (E_w_INT.ext O0.2).lt (Nat.le_of_eq z1.symm))
  have ne_w_UNSIGNED_INT_b1 : w_UNSIGNED_INT ≠ b1 := Nat.ne_of_lt (Nat.lt_of_lt_of_le (E_w_UNSIGNED_INT.ext O0.2).lt (Nat.le_of_eq z1.symm))
  have ne_w_LONG_LONG_b1 : w_LONG_LONG ≠ b1 := Nat.ne_of_lt (Nat.lt_of_lt_of_le (E_w_LONG_LONG.ext O0.2).lt (Nat.le_of_eq z1.symm))
  have ne_w_UNSIGNED_LONG_LONG_b1 : w_UNSIGNED_LONG_LONG ≠ b1 := Nat.ne_of_lt (Nat.lt_of_lt_of_le (E_w_UNSIGNED_LONG_LONG.ext O0.2).lt (Nat.le_of_eq z1.symm))
  have V1p : Arv Z h1 b1 k1 (.object "com/example/counterpath/counterpath/cfa/Type") (9 : Int32) [.null, .null, .null, .null, .null, .null, .null, .null, .null] .null := V1.pad (pad_rep [] .null 9)
  refine own_dup 6 rfl at_5 rfl ?_
  refine own_iconst 7 rfl (0 : Int32) at_6 rfl ?_
  refine own_getS 10 rfl (host := "") (Or.inl (hw _ (List.mem_of_getElem? (i := 2) rfl))) Via.refl S_w_BOOL at_7 ?_
  obtain ⟨c2, A2, q2, S2, N2, H2, G2⟩ := id V1p
  refine own_aastore 11 rfl g_b1 A2 rfl (Sto.ofV A2 q2 O1 (Ins.self ((E_w_BOOL.ext O0.2).ext E1))) (inb_of S2 ⟨by decide, by decide⟩) at_10 (fun h2 W2 => ?_)
  have V2 : Arv Z h2 b1 k1 (.object "com/example/counterpath/counterpath/cfa/Type") (9 : Int32) [(.ref w_BOOL), .null, .null, .null, .null, .null, .null, .null, .null] .null := Arv.set A2 q2 S2 N2 H2 G2 rfl W2 0 rfl (Nat.le_of_ble_eq_true rfl)
  refine own_dup 12 rfl at_11 rfl ?_
  refine own_iconst 13 rfl (1 : Int32) at_12 rfl ?_
  refine own_getS 16 rfl (host := "") (Or.inl (hw _ (List.mem_of_getElem? (i := 6) rfl))) Via.refl S_w_SIGNED_CHAR at_13 ?_
  obtain ⟨c3, A3, q3, S3, N3, H3, G3⟩ := id V2
  refine own_aastore 17 rfl g_b1 A3 rfl (Sto.ofV A3 q3 O1 (Ins.self (((E_w_SIGNED_CHAR.ext O0.2).ext E1).wr W2))) (inb_of S3 ⟨by decide, by decide⟩) at_16 (fun h3 W3 => ?_)
  have V3 : Arv Z h3 b1 k1 (.object "com/example/counterpath/counterpath/cfa/Type") (9 : Int32) [(.ref w_BOOL), (.ref w_SIGNED_CHAR), .null, .null, .null, .null, .null, .null, .null] .null := Arv.set A3 q3 S3 N3 H3 G3 rfl W3 1 rfl (Nat.le_of_ble_eq_true rfl)
  refine own_dup 18 rfl at_17 rfl ?_
  refine own_iconst 19 rfl (2 : Int32) at_18 rfl ?_
  refine own_getS 22 rfl (host := "") (Or.inl (hw _ (List.mem_of_getElem? (i := 8) rfl))) Via.refl S_w_UNSIGNED_CHAR at_19 ?_
  obtain ⟨c4, A4, q4, S4, N4, H4, G4⟩ := id V3
  refine own_aastore 23 rfl g_b1 A4 rfl (Sto.ofV A4 q4 O1 (Ins.self ((((E_w_UNSIGNED_CHAR.ext O0.2).ext E1).wr W2).wr W3))) (inb_of S4 ⟨by decide, by decide⟩) at_22 (fun h4 W4 => ?_)
  have V4 : Arv Z h4 b1 k1 (.object "com/example/counterpath/counterpath/cfa/Type") (9 : Int32) [(.ref w_BOOL), (.ref w_SIGNED_CHAR), (.ref w_UNSIGNED_CHAR), .null, .null, .null, .null, .null, .null] .null := Arv.set A4 q4 S4 N4 H4 G4 rfl W4 2 rfl (Nat.le_of_ble_eq_true rfl)
  refine own_dup 24 rfl at_23 rfl ?_
  refine own_iconst 25 rfl (3 : Int32) at_24 rfl ?_
  refine own_getS 28 rfl (host := "") (Or.inl (hw _ (List.mem_of_getElem? (i := 10) rfl))) Via.refl S_w_SHORT at_25 ?_
  obtain ⟨c5, A5, q5, S5, N5, H5, G5⟩ := id V4
  refine own_aastore 29 rfl g_b1 A5 rfl (Sto.ofV A5 q5 O1 (Ins.self (((((E_w_SHORT.ext O0.2).ext E1).wr W2).wr W3).wr W4))) (inb_of S5 ⟨by decide, by decide⟩) at_28 (fun h5 W5 => ?_)
  have V5 : Arv Z h5 b1 k1 (.object "com/example/counterpath/counterpath/cfa/Type") (9 : Int32) [(.ref w_BOOL), (.ref w_SIGNED_CHAR), (.ref w_UNSIGNED_CHAR), (.ref w_SHORT), .null, .null, .null, .null, .null] .null := Arv.set A5 q5 S5 N5 H5 G5 rfl W5 3 rfl (Nat.le_of_ble_eq_true rfl)
  refine own_dup 30 rfl at_29 rfl ?_
  refine own_iconst 31 rfl (4 : Int32) at_30 rfl ?_
  refine own_getS 34 rfl (host := "") (Or.inl (hw _ (List.mem_of_getElem? (i := 12) rfl))) Via.refl S_w_UNSIGNED_SHORT at_31 ?_
  obtain ⟨c6, A6, q6, S6, N6, H6, G6⟩ := id V5
  refine own_aastore 35 rfl g_b1 A6 rfl (Sto.ofV A6 q6 O1 (Ins.self ((((((E_w_UNSIGNED_SHORT.ext O0.2).ext E1).wr W2).wr W3).wr W4).wr W5))) (inb_of S6 ⟨by decide, by decide⟩) at_34 (fun h6 W6 => ?_)
  have V6 : Arv Z h6 b1 k1 (.object "com/example/counterpath/counterpath/cfa/Type") (9 : Int32) [(.ref w_BOOL), (.ref w_SIGNED_CHAR), (.ref w_UNSIGNED_CHAR), (.ref w_SHORT), (.ref w_UNSIGNED_SHORT), .null, .null, .null, .null] .null := Arv.set A6 q6 S6 N6 H6 G6 rfl W6 4 rfl (Nat.le_of_ble_eq_true rfl)
  refine own_dup 36 rfl at_35 rfl ?_
  refine own_iconst 37 rfl (5 : Int32) at_36 rfl ?_
  refine own_getS 40 rfl (host := "") (Or.inl (hw _ (List.mem_of_getElem? (i := 14) rfl))) Via.refl S_w_INT at_37 ?_
  obtain ⟨c7, A7, q7, S7, N7, H7, G7⟩ := id V6
  refine own_aastore 41 rfl g_b1 A7 rfl (Sto.ofV A7 q7 O1 (Ins.self (((((((E_w_INT.ext O0.2).ext E1).wr W2).wr W3).wr W4).wr W5).wr W6))) (inb_of S7 ⟨by decide, by decide⟩) at_40 (fun h7 W7 => ?_)
  have V7 : Arv Z h7 b1 k1 (.object "com/example/counterpath/counterpath/cfa/Type") (9 : Int32) [(.ref w_BOOL), (.ref w_SIGNED_CHAR), (.ref w_UNSIGNED_CHAR), (.ref w_SHORT), (.ref w_UNSIGNED_SHORT), (.ref w_INT), .null, .null, .null] .null := Arv.set A7 q7 S7 N7 H7 G7 rfl W7 5 rfl (Nat.le_of_ble_eq_true rfl)
  refine own_dup 42 rfl at_41 rfl ?_
  refine own_bipush 44 rfl (6 : Int32) at_42 rfl ?_
  refine own_getS 47 rfl (host := "") (Or.inl (hw _ (List.mem_of_getElem? (i := 16) rfl))) Via.refl S_w_UNSIGNED_INT at_44 ?_
  obtain ⟨c8, A8, q8, S8, N8, H8, G8⟩ := id V7
  refine own_aastore 48 rfl g_b1 A8 rfl (Sto.ofV A8 q8 O1 (Ins.self ((((((((E_w_UNSIGNED_INT.ext O0.2).ext E1).wr W2).wr W3).wr W4).wr W5).wr W6).wr W7))) (inb_of S8 ⟨by decide, by decide⟩) at_47 (fun h8 W8 => ?_)
  have V8 : Arv Z h8 b1 k1 (.object "com/example/counterpath/counterpath/cfa/Type") (9 : Int32) [(.ref w_BOOL), (.ref w_SIGNED_CHAR), (.ref w_UNSIGNED_CHAR), (.ref w_SHORT), (.ref w_UNSIGNED_SHORT), (.ref w_INT), (.ref w_UNSIGNED_INT), .null, .null] .null := Arv.set A8 q8 S8 N8 H8 G8 rfl W8 6 rfl (Nat.le_of_ble_eq_true rfl)
  refine own_dup 49 rfl at_48 rfl ?_
  refine own_bipush 51 rfl (7 : Int32) at_49 rfl ?_
  refine own_getS 54 rfl (host := "") (Or.inl (hw _ (List.mem_of_getElem? (i := 18) rfl))) Via.refl S_w_LONG_LONG at_51 ?_
  obtain ⟨c9, A9, q9, S9, N9, H9, G9⟩ := id V8
  refine own_aastore 55 rfl g_b1 A9 rfl (Sto.ofV A9 q9 O1 (Ins.self (((((((((E_w_LONG_LONG.ext O0.2).ext E1).wr W2).wr W3).wr W4).wr W5).wr W6).wr W7).wr W8))) (inb_of S9 ⟨by decide, by decide⟩) at_54 (fun h9 W9 => ?_)
  have V9 : Arv Z h9 b1 k1 (.object "com/example/counterpath/counterpath/cfa/Type") (9 : Int32) [(.ref w_BOOL), (.ref w_SIGNED_CHAR), (.ref w_UNSIGNED_CHAR), (.ref w_SHORT), (.ref w_UNSIGNED_SHORT), (.ref w_INT), (.ref w_UNSIGNED_INT), (.ref w_LONG_LONG), .null] .null := Arv.set A9 q9 S9 N9 H9 G9 rfl W9 7 rfl (Nat.le_of_ble_eq_true rfl)
  refine own_dup 56 rfl at_55 rfl ?_
  refine own_bipush 58 rfl (8 : Int32) at_56 rfl ?_
  refine own_getS 61 rfl (host := "") (Or.inl (hw _ (List.mem_of_getElem? (i := 20) rfl))) Via.refl S_w_UNSIGNED_LONG_LONG at_58 ?_
  obtain ⟨c10, A10, q10, S10, N10, H10, G10⟩ := id V9
  refine own_aastore 62 rfl g_b1 A10 rfl (Sto.ofV A10 q10 O1 (Ins.self ((((((((((E_w_UNSIGNED_LONG_LONG.ext O0.2).ext E1).wr W2).wr W3).wr W4).wr W5).wr W6).wr W7).wr W8).wr W9))) (inb_of S10 ⟨by decide, by decide⟩) at_61 (fun h10 W10 => ?_)
  have V10 : Arv Z h10 b1 k1 (.object "com/example/counterpath/counterpath/cfa/Type") (9 : Int32) [(.ref w_BOOL), (.ref w_SIGNED_CHAR), (.ref w_UNSIGNED_CHAR), (.ref w_SHORT), (.ref w_UNSIGNED_SHORT), (.ref w_INT), (.ref w_UNSIGNED_INT), (.ref w_LONG_LONG), (.ref w_UNSIGNED_LONG_LONG)] .null := Arv.set A10 q10 S10 N10 H10 G10 rfl W10 8 rfl (Nat.le_of_ble_eq_true rfl)
  refine own_astoreN 63 rfl #[.val (.int p1), .val (.int p2), .val (.ref b1), .unset, .unset, .unset, .unset, .unset] at_62 rfl rfl ?_
  refine own_iloadN 64 rfl at_63 rfl ?_
  refine own_ldcInt 66 rfl (hw _ (List.mem_of_getElem? (i := 22) rfl)) at_64 ?_
  refine own_iand 67 rfl at_66 ?_
  refine own_bipush 69 rfl (9 : Int32) at_67 rfl ?_
  refine own_irem 70 rfl at_69 (by decide) ?_
  have c1k := c_mask p1 2147483647 31 (by decide) (by decide)
  have c2k := (c_irem (p1 &&& (2147483647 : Int32)) 9 9 rfl).1 (by rw [c1k]; omega)
  generalize hKk : ((p1 &&& (2147483647 : Int32)) % (9 : Int32)) = k at c2k ⊢
  rw [c1k] at c2k
  have kb : 0 ≤ k.toInt ∧ k.toInt < 9 := by omega
  clear c1k c2k hKk
  refine own_istoreN 71 rfl #[.val (.int p1), .val (.int p2), .val (.ref b1), .val (.int k), .unset, .unset, .unset, .unset] at_70 rfl ?_
  refine own_iloadN 72 rfl at_71 rfl ?_
  refine own_ldcInt 74 rfl (hw _ (List.mem_of_getElem? (i := 22) rfl)) at_72 ?_
  refine own_iand 75 rfl at_74 ?_
  refine own_bipush 77 rfl (9 : Int32) at_75 rfl ?_
  refine own_irem 78 rfl at_77 (by decide) ?_
  have c1j := c_mask p2 2147483647 31 (by decide) (by decide)
  have c2j := (c_irem (p2 &&& (2147483647 : Int32)) 9 9 rfl).1 (by rw [c1j]; omega)
  generalize hKj : ((p2 &&& (2147483647 : Int32)) % (9 : Int32)) = j at c2j ⊢
  rw [c1j] at c2j
  have jb : 0 ≤ j.toInt ∧ j.toInt < 9 := by omega
  clear c1j c2j hKj
  refine own_istore 80 rfl #[.val (.int p1), .val (.int p2), .val (.ref b1), .val (.int k), .val (.int j), .unset, .unset, .unset] at_78 rfl ?_
  have hr_k : k = (0 : Int32) ∨ k = (1 : Int32) ∨ k = (2 : Int32) ∨ k = (3 : Int32) ∨ k = (4 : Int32) ∨ k = (5 : Int32) ∨ k = (6 : Int32) ∨ k = (7 : Int32) ∨ k = (8 : Int32) := by
    have hrz : k.toInt = 0 ∨ k.toInt = 1 ∨ k.toInt = 2 ∨ k.toInt = 3 ∨ k.toInt = 4 ∨ k.toInt = 5 ∨ k.toInt = 6 ∨ k.toInt = 7 ∨ k.toInt = 8 := by omega
    rcases hrz with q | q | q | q | q | q | q | q | q
    · exact Or.inl (own_eq' q)
    · exact Or.inr (Or.inl (own_eq' q))
    · exact Or.inr (Or.inr (Or.inl (own_eq' q)))
    · exact Or.inr (Or.inr (Or.inr (Or.inl (own_eq' q))))
    · exact Or.inr (Or.inr (Or.inr (Or.inr (Or.inl (own_eq' q)))))
    · exact Or.inr (Or.inr (Or.inr (Or.inr (Or.inr (Or.inl (own_eq' q))))))
    · exact Or.inr (Or.inr (Or.inr (Or.inr (Or.inr (Or.inr (Or.inl (own_eq' q)))))))
    · exact Or.inr (Or.inr (Or.inr (Or.inr (Or.inr (Or.inr (Or.inr (Or.inl (own_eq' q))))))))
    · exact Or.inr (Or.inr (Or.inr (Or.inr (Or.inr (Or.inr (Or.inr (Or.inr (own_eq' q))))))))
  rcases hr_k with rfl | rfl | rfl | rfl | rfl | rfl | rfl | rfl | rfl
  · have hin_k := (rfl : (0 : Int) = 0)
    have hr_j : j = (0 : Int32) ∨ j = (1 : Int32) ∨ j = (2 : Int32) ∨ j = (3 : Int32) ∨ j = (4 : Int32) ∨ j = (5 : Int32) ∨ j = (6 : Int32) ∨ j = (7 : Int32) ∨ j = (8 : Int32) := by
      have hrz : j.toInt = 0 ∨ j.toInt = 1 ∨ j.toInt = 2 ∨ j.toInt = 3 ∨ j.toInt = 4 ∨ j.toInt = 5 ∨ j.toInt = 6 ∨ j.toInt = 7 ∨ j.toInt = 8 := by omega
      rcases hrz with q | q | q | q | q | q | q | q | q
      · exact Or.inl (own_eq' q)
      · exact Or.inr (Or.inl (own_eq' q))
      · exact Or.inr (Or.inr (Or.inl (own_eq' q)))
      · exact Or.inr (Or.inr (Or.inr (Or.inl (own_eq' q))))
      · exact Or.inr (Or.inr (Or.inr (Or.inr (Or.inl (own_eq' q)))))
      · exact Or.inr (Or.inr (Or.inr (Or.inr (Or.inr (Or.inl (own_eq' q))))))
      · exact Or.inr (Or.inr (Or.inr (Or.inr (Or.inr (Or.inr (Or.inl (own_eq' q)))))))
      · exact Or.inr (Or.inr (Or.inr (Or.inr (Or.inr (Or.inr (Or.inr (Or.inl (own_eq' q))))))))
      · exact Or.inr (Or.inr (Or.inr (Or.inr (Or.inr (Or.inr (Or.inr (Or.inr (own_eq' q))))))))
    rcases hr_j with rfl | rfl | rfl | rfl | rfl | rfl | rfl | rfl | rfl
    · have hin_j := (rfl : (0 : Int) = 0)
      refine own_iloadN 81 rfl at_80 rfl ?_
      refine own_iconst 82 rfl (5 : Int32) at_81 rfl ?_
      refine own_callS 85 rfl 1 9 0 [(.int (0 : Int32)), (.int (5 : Int32))] [] (y := (⟨"java/lang/Math", "max", "(II)I"⟩ : MethodName)) (hw _ (List.mem_of_getElem? (i := 23) rfl)) (hw _ (List.mem_of_getElem? (i := 24) rfl)) (hw _ (List.mem_of_getElem? (i := 25) rfl)) (hw _ (List.mem_of_getElem? (i := 26) rfl)) (by decide) (rm1 l Z a0 hw [] (0 : Int32) (5 : Int32)  h10 ) at_82 rfl (lenOf own_pd1 rfl) rfl rfl rfl (by decide) (by decide) rfl rfl (by decide) (by decide) (own_kv fun v11 h11 q11 => ?_)
      obtain ⟨rfl, e11⟩ := q11
      rw [e11]
      rw [show (if (0 : Int32) < (5 : Int32) then (5 : Int32) else (0 : Int32)) = (5 : Int32) from by decide]
      refine own_istore 87 rfl #[.val (.int p1), .val (.int p2), .val (.ref b1), .val (.int (0 : Int32)), .val (.int (0 : Int32)), .val (.int (5 : Int32)), .unset, .unset] at_85 rfl ?_
      refine own_iload 89 rfl at_87 rfl ?_
      refine own_iconst 90 rfl (5 : Int32) at_89 rfl ?_
      refine own_callS 93 rfl 1 9 0 [(.int (0 : Int32)), (.int (5 : Int32))] [] (y := (⟨"java/lang/Math", "max", "(II)I"⟩ : MethodName)) (hw _ (List.mem_of_getElem? (i := 23) rfl)) (hw _ (List.mem_of_getElem? (i := 24) rfl)) (hw _ (List.mem_of_getElem? (i := 25) rfl)) (hw _ (List.mem_of_getElem? (i := 26) rfl)) (by decide) (rm1 l Z a0 hw [] (0 : Int32) (5 : Int32)  h10 ) at_90 rfl (lenOf own_pd1 rfl) rfl rfl rfl (by decide) (by decide) rfl rfl (by decide) (by decide) (own_kv fun v12 h12 q12 => ?_)
      obtain ⟨rfl, e12⟩ := q12
      rw [e12]
      rw [show (if (0 : Int32) < (5 : Int32) then (5 : Int32) else (0 : Int32)) = (5 : Int32) from by decide]
      refine own_istore 95 rfl #[.val (.int p1), .val (.int p2), .val (.ref b1), .val (.int (0 : Int32)), .val (.int (0 : Int32)), .val (.int (5 : Int32)), .val (.int (5 : Int32)), .unset] at_93 rfl ?_
      refine own_aloadN 96 rfl at_95 rfl rfl ?_
      refine own_iload 98 rfl at_96 rfl ?_
      refine own_iload 100 rfl at_98 rfl ?_
      refine own_callS 103 rfl 1 9 1 [(.int (5 : Int32)), (.int (5 : Int32))] [(.ref b1)] (y := (⟨"java/lang/Math", "max", "(II)I"⟩ : MethodName)) (hw _ (List.mem_of_getElem? (i := 23) rfl)) (hw _ (List.mem_of_getElem? (i := 24) rfl)) (hw _ (List.mem_of_getElem? (i := 25) rfl)) (hw _ (List.mem_of_getElem? (i := 26) rfl)) (by decide) (rm1 l Z a0 hw [] (5 : Int32) (5 : Int32)  h10 ) at_100 rfl (lenOf own_pd1 rfl) rfl rfl rfl (by decide) (by decide) rfl rfl (by decide) (by decide) (own_kv fun v13 h13 q13 => ?_)
      obtain ⟨rfl, e13⟩ := q13
      rw [e13]
      rw [show (if (5 : Int32) < (5 : Int32) then (5 : Int32) else (5 : Int32)) = (5 : Int32) from by decide]
      obtain ⟨c14, A14, q14, S14, N14, H14, G14⟩ := id V10
      refine own_aaload 104 rfl A14 rfl (inb_of S14 ⟨by decide, by decide⟩) (Has.at H14 (inb_of S14 ⟨by decide, by decide⟩) rfl) at_103 ?_
      refine own_astore 106 rfl #[.val (.int p1), .val (.int p2), .val (.ref b1), .val (.int (0 : Int32)), .val (.int (0 : Int32)), .val (.int (5 : Int32)), .val (.int (5 : Int32)), .val (.ref w_INT)] at_104 rfl rfl ?_
      refine own_aloadN 107 rfl at_106 rfl rfl ?_
      refine own_iloadN 108 rfl at_107 rfl ?_
      obtain ⟨c15, A15, q15, S15, N15, H15, G15⟩ := id V10
      refine own_aaload 109 rfl A15 rfl (inb_of S15 ⟨by decide, by decide⟩) (Has.at H15 (inb_of S15 ⟨by decide, by decide⟩) rfl) at_108 ?_
      refine own_aloadN 110 rfl at_109 rfl rfl ?_
      refine own_iload 112 rfl at_110 rfl ?_
      obtain ⟨c16, A16, q16, S16, N16, H16, G16⟩ := id V10
      refine own_aaload 113 rfl A16 rfl (inb_of S16 ⟨by decide, by decide⟩) (Has.at H16 (inb_of S16 ⟨by decide, by decide⟩) rfl) at_112 ?_
      refine own_callS 116 rfl 1 9 0 [(.ref w_BOOL), (.ref w_BOOL)] [] (y := (⟨"com/example/counterpath/counterpath/cfa/Type", "common", "(Lcom/example/counterpath/counterpath/cfa/Type;Lcom/example/counterpath/counterpath/cfa/Type;)Lcom/example/counterpath/counterpath/cfa/Type;"⟩ : MethodName)) (hw _ (List.mem_of_getElem? (i := 27) rfl)) (hw _ (List.mem_of_getElem? (i := 28) rfl)) (hw _ (List.mem_of_getElem? (i := 3) rfl)) (hw _ (List.mem_of_getElem? (i := 29) rfl)) (by decide) (rm2 l Z a0 hw [] w_BOOL w_BOOL (1 : Int32) (0 : Int32) (1 : Int32) (0 : Int32) w_BOOL w_SIGNED_CHAR w_UNSIGNED_CHAR w_SHORT w_UNSIGNED_SHORT w_INT w_UNSIGNED_INT w_LONG_LONG w_UNSIGNED_LONG_LONG h10 I (((((((((((E_w_BOOL.ext O0.2).ext E1).wr W2).wr W3).wr W4).wr W5).wr W6).wr W7).wr W8).wr W9).wr W10) (((((((((((F_w_BOOL_width.ext O0.2).ext E1).other W2 (Or.inl ne_w_BOOL_b1)).other W3 (Or.inl ne_w_BOOL_b1)).other W4 (Or.inl ne_w_BOOL_b1)).other W5 (Or.inl ne_w_BOOL_b1)).other W6 (Or.inl ne_w_BOOL_b1)).other W7 (Or.inl ne_w_BOOL_b1)).other W8 (Or.inl ne_w_BOOL_b1)).other W9 (Or.inl ne_w_BOOL_b1)).other W10 (Or.inl ne_w_BOOL_b1)) (((((((((((F_w_BOOL_signed.ext O0.2).ext E1).other W2 (Or.inl ne_w_BOOL_b1)).other W3 (Or.inl ne_w_BOOL_b1)).other W4 (Or.inl ne_w_BOOL_b1)).other W5 (Or.inl ne_w_BOOL_b1)).other W6 (Or.inl ne_w_BOOL_b1)).other W7 (Or.inl ne_w_BOOL_b1)).other W8 (Or.inl ne_w_BOOL_b1)).other W9 (Or.inl ne_w_BOOL_b1)).other W10 (Or.inl ne_w_BOOL_b1)) (((((((((((E_w_BOOL.ext O0.2).ext E1).wr W2).wr W3).wr W4).wr W5).wr W6).wr W7).wr W8).wr W9).wr W10) (((((((((((F_w_BOOL_width.ext O0.2).ext E1).other W2 (Or.inl ne_w_BOOL_b1)).other W3 (Or.inl ne_w_BOOL_b1)).other W4 (Or.inl ne_w_BOOL_b1)).other W5 (Or.inl ne_w_BOOL_b1)).other W6 (Or.inl ne_w_BOOL_b1)).other W7 (Or.inl ne_w_BOOL_b1)).other W8 (Or.inl ne_w_BOOL_b1)).other W9 (Or.inl ne_w_BOOL_b1)).other W10 (Or.inl ne_w_BOOL_b1)) (((((((((((F_w_BOOL_signed.ext O0.2).ext E1).other W2 (Or.inl ne_w_BOOL_b1)).other W3 (Or.inl ne_w_BOOL_b1)).other W4 (Or.inl ne_w_BOOL_b1)).other W5 (Or.inl ne_w_BOOL_b1)).other W6 (Or.inl ne_w_BOOL_b1)).other W7 (Or.inl ne_w_BOOL_b1)).other W8 (Or.inl ne_w_BOOL_b1)).other W9 (Or.inl ne_w_BOOL_b1)).other W10 (Or.inl ne_w_BOOL_b1)) (by decide) (by decide)) at_113 rfl (lenOf own_pd2 rfl) rfl rfl rfl (by decide) (by decide) rfl rfl (by decide) (by decide) (own_kv fun v17 h17 q17 => ?_)
      obtain ⟨rfl, e17⟩ := q17
      rw [e17]
      rw [show own_com w_INT w_BOOL (1 : Int32) (0 : Int32) w_BOOL (1 : Int32) (0 : Int32) = w_INT from by simp [own_com]]
      refine own_aload 118 rfl at_116 rfl rfl ?_
      refine own_acmpNo 121 rfl at_118 rfl rfl (own_teq (rfl : ((.ref w_INT) : Value) = (.ref w_INT))).2 ?_
      refine own_iconst 122 rfl (1 : Int32) at_121 rfl ?_
      refine own_goto 126 at_122 (by decide) (by decide) ?_
      refine own_retN rfl (by simp) at_126 (by decide) (by decide) ?_
      exact ⟨_, rfl, rfl⟩
    · have hin_j := (rfl : (1 : Int) = 1)
      refine own_iloadN 81 rfl at_80 rfl ?_
      refine own_iconst 82 rfl (5 : Int32) at_81 rfl ?_
      refine own_callS 85 rfl 1 9 0 [(.int (0 : Int32)), (.int (5 : Int32))] [] (y := (⟨"java/lang/Math", "max", "(II)I"⟩ : MethodName)) (hw _ (List.mem_of_getElem? (i := 23) rfl)) (hw _ (List.mem_of_getElem? (i := 24) rfl)) (hw _ (List.mem_of_getElem? (i := 25) rfl)) (hw _ (List.mem_of_getElem? (i := 26) rfl)) (by decide) (rm1 l Z a0 hw [] (0 : Int32) (5 : Int32)  h10 ) at_82 rfl (lenOf own_pd1 rfl) rfl rfl rfl (by decide) (by decide) rfl rfl (by decide) (by decide) (own_kv fun v18 h18 q18 => ?_)
      obtain ⟨rfl, e18⟩ := q18
      rw [e18]
      rw [show (if (0 : Int32) < (5 : Int32) then (5 : Int32) else (0 : Int32)) = (5 : Int32) from by decide]
      refine own_istore 87 rfl #[.val (.int p1), .val (.int p2), .val (.ref b1), .val (.int (0 : Int32)), .val (.int (1 : Int32)), .val (.int (5 : Int32)), .unset, .unset] at_85 rfl ?_
      refine own_iload 89 rfl at_87 rfl ?_
      refine own_iconst 90 rfl (5 : Int32) at_89 rfl ?_
      refine own_callS 93 rfl 1 9 0 [(.int (1 : Int32)), (.int (5 : Int32))] [] (y := (⟨"java/lang/Math", "max", "(II)I"⟩ : MethodName)) (hw _ (List.mem_of_getElem? (i := 23) rfl)) (hw _ (List.mem_of_getElem? (i := 24) rfl)) (hw _ (List.mem_of_getElem? (i := 25) rfl)) (hw _ (List.mem_of_getElem? (i := 26) rfl)) (by decide) (rm1 l Z a0 hw [] (1 : Int32) (5 : Int32)  h10 ) at_90 rfl (lenOf own_pd1 rfl) rfl rfl rfl (by decide) (by decide) rfl rfl (by decide) (by decide) (own_kv fun v19 h19 q19 => ?_)
      obtain ⟨rfl, e19⟩ := q19
      rw [e19]
      rw [show (if (1 : Int32) < (5 : Int32) then (5 : Int32) else (1 : Int32)) = (5 : Int32) from by decide]
      refine own_istore 95 rfl #[.val (.int p1), .val (.int p2), .val (.ref b1), .val (.int (0 : Int32)), .val (.int (1 : Int32)), .val (.int (5 : Int32)), .val (.int (5 : Int32)), .unset] at_93 rfl ?_
      refine own_aloadN 96 rfl at_95 rfl rfl ?_
      refine own_iload 98 rfl at_96 rfl ?_
      refine own_iload 100 rfl at_98 rfl ?_
      refine own_callS 103 rfl 1 9 1 [(.int (5 : Int32)), (.int (5 : Int32))] [(.ref b1)] (y := (⟨"java/lang/Math", "max", "(II)I"⟩ : MethodName)) (hw _ (List.mem_of_getElem? (i := 23) rfl)) (hw _ (List.mem_of_getElem? (i := 24) rfl)) (hw _ (List.mem_of_getElem? (i := 25) rfl)) (hw _ (List.mem_of_getElem? (i := 26) rfl)) (by decide) (rm1 l Z a0 hw [] (5 : Int32) (5 : Int32)  h10 ) at_100 rfl (lenOf own_pd1 rfl) rfl rfl rfl (by decide) (by decide) rfl rfl (by decide) (by decide) (own_kv fun v20 h20 q20 => ?_)
      obtain ⟨rfl, e20⟩ := q20
      rw [e20]
      rw [show (if (5 : Int32) < (5 : Int32) then (5 : Int32) else (5 : Int32)) = (5 : Int32) from by decide]
      obtain ⟨c21, A21, q21, S21, N21, H21, G21⟩ := id V10
      refine own_aaload 104 rfl A21 rfl (inb_of S21 ⟨by decide, by decide⟩) (Has.at H21 (inb_of S21 ⟨by decide, by decide⟩) rfl) at_103 ?_
      refine own_astore 106 rfl #[.val (.int p1), .val (.int p2), .val (.ref b1), .val (.int (0 : Int32)), .val (.int (1 : Int32)), .val (.int (5 : Int32)), .val (.int (5 : Int32)), .val (.ref w_INT)] at_104 rfl rfl ?_
      refine own_aloadN 107 rfl at_106 rfl rfl ?_
      refine own_iloadN 108 rfl at_107 rfl ?_
      obtain ⟨c22, A22, q22, S22, N22, H22, G22⟩ := id V10
      refine own_aaload 109 rfl A22 rfl (inb_of S22 ⟨by decide, by decide⟩) (Has.at H22 (inb_of S22 ⟨by decide, by decide⟩) rfl) at_108 ?_
      refine own_aloadN 110 rfl at_109 rfl rfl ?_
      refine own_iload 112 rfl at_110 rfl ?_
      obtain ⟨c23, A23, q23, S23, N23, H23, G23⟩ := id V10
      refine own_aaload 113 rfl A23 rfl (inb_of S23 ⟨by decide, by decide⟩) (Has.at H23 (inb_of S23 ⟨by decide, by decide⟩) rfl) at_112 ?_
      refine own_callS 116 rfl 1 9 0 [(.ref w_BOOL), (.ref w_SIGNED_CHAR)] [] (y := (⟨"com/example/counterpath/counterpath/cfa/Type", "common", "(Lcom/example/counterpath/counterpath/cfa/Type;Lcom/example/counterpath/counterpath/cfa/Type;)Lcom/example/counterpath/counterpath/cfa/Type;"⟩ : MethodName)) (hw _ (List.mem_of_getElem? (i := 27) rfl)) (hw _ (List.mem_of_getElem? (i := 28) rfl)) (hw _ (List.mem_of_getElem? (i := 3) rfl)) (hw _ (List.mem_of_getElem? (i := 29) rfl)) (by decide) (rm2 l Z a0 hw [] w_BOOL w_SIGNED_CHAR (1 : Int32) (0 : Int32) (8 : Int32) (1 : Int32) w_BOOL w_SIGNED_CHAR w_UNSIGNED_CHAR w_SHORT w_UNSIGNED_SHORT w_INT w_UNSIGNED_INT w_LONG_LONG w_UNSIGNED_LONG_LONG h10 I (((((((((((E_w_BOOL.ext O0.2).ext E1).wr W2).wr W3).wr W4).wr W5).wr W6).wr W7).wr W8).wr W9).wr W10) (((((((((((F_w_BOOL_width.ext O0.2).ext E1).other W2 (Or.inl ne_w_BOOL_b1)).other W3 (Or.inl ne_w_BOOL_b1)).other W4 (Or.inl ne_w_BOOL_b1)).other W5 (Or.inl ne_w_BOOL_b1)).other W6 (Or.inl ne_w_BOOL_b1)).other W7 (Or.inl ne_w_BOOL_b1)).other W8 (Or.inl ne_w_BOOL_b1)).other W9 (Or.inl ne_w_BOOL_b1)).other W10 (Or.inl ne_w_BOOL_b1)) (((((((((((F_w_BOOL_signed.ext O0.2).ext E1).other W2 (Or.inl ne_w_BOOL_b1)).other W3 (Or.inl ne_w_BOOL_b1)).other W4 (Or.inl ne_w_BOOL_b1)).other W5 (Or.inl ne_w_BOOL_b1)).other W6 (Or.inl ne_w_BOOL_b1)).other W7 (Or.inl ne_w_BOOL_b1)).other W8 (Or.inl ne_w_BOOL_b1)).other W9 (Or.inl ne_w_BOOL_b1)).other W10 (Or.inl ne_w_BOOL_b1)) (((((((((((E_w_SIGNED_CHAR.ext O0.2).ext E1).wr W2).wr W3).wr W4).wr W5).wr W6).wr W7).wr W8).wr W9).wr W10) (((((((((((F_w_SIGNED_CHAR_width.ext O0.2).ext E1).other W2 (Or.inl ne_w_SIGNED_CHAR_b1)).other W3 (Or.inl ne_w_SIGNED_CHAR_b1)).other W4 (Or.inl ne_w_SIGNED_CHAR_b1)).other W5 (Or.inl ne_w_SIGNED_CHAR_b1)).other W6 (Or.inl ne_w_SIGNED_CHAR_b1)).other W7 (Or.inl ne_w_SIGNED_CHAR_b1)).other W8 (Or.inl ne_w_SIGNED_CHAR_b1)).other W9 (Or.inl ne_w_SIGNED_CHAR_b1)).other W10 (Or.inl ne_w_SIGNED_CHAR_b1)) (((((((((((F_w_SIGNED_CHAR_signed.ext O0.2).ext E1).other W2 (Or.inl ne_w_SIGNED_CHAR_b1)).other W3 (Or.inl ne_w_SIGNED_CHAR_b1)).other W4 (Or.inl ne_w_SIGNED_CHAR_b1)).other W5 (Or.inl ne_w_SIGNED_CHAR_b1)).other W6 (Or.inl ne_w_SIGNED_CHAR_b1)).other W7 (Or.inl ne_w_SIGNED_CHAR_b1)).other W8 (Or.inl ne_w_SIGNED_CHAR_b1)).other W9 (Or.inl ne_w_SIGNED_CHAR_b1)).other W10 (Or.inl ne_w_SIGNED_CHAR_b1)) (by decide) (by decide)) at_113 rfl (lenOf own_pd2 rfl) rfl rfl rfl (by decide) (by decide) rfl rfl (by decide) (by decide) (own_kv fun v24 h24 q24 => ?_)
      obtain ⟨rfl, e24⟩ := q24
      rw [e24]
      rw [show own_com w_INT w_BOOL (1 : Int32) (0 : Int32) w_SIGNED_CHAR (8 : Int32) (1 : Int32) = w_INT from by simp [own_com]]
      refine own_aload 118 rfl at_116 rfl rfl ?_
      refine own_acmpNo 121 rfl at_118 rfl rfl (own_teq (rfl : ((.ref w_INT) : Value) = (.ref w_INT))).2 ?_
      refine own_iconst 122 rfl (1 : Int32) at_121 rfl ?_
      refine own_goto 126 at_122 (by decide) (by decide) ?_
      refine own_retN rfl (by simp) at_126 (by decide) (by decide) ?_
      exact ⟨_, rfl, rfl⟩
    · have hin_j := (rfl : (2 : Int) = 2)
      refine own_iloadN 81 rfl at_80 rfl ?_
      refine own_iconst 82 rfl (5 : Int32) at_81 rfl ?_
      refine own_callS 85 rfl 1 9 0 [(.int (0 : Int32)), (.int (5 : Int32))] [] (y := (⟨"java/lang/Math", "max", "(II)I"⟩ : MethodName)) (hw _ (List.mem_of_getElem? (i := 23) rfl)) (hw _ (List.mem_of_getElem? (i := 24) rfl)) (hw _ (List.mem_of_getElem? (i := 25) rfl)) (hw _ (List.mem_of_getElem? (i := 26) rfl)) (by decide) (rm1 l Z a0 hw [] (0 : Int32) (5 : Int32)  h10 ) at_82 rfl (lenOf own_pd1 rfl) rfl rfl rfl (by decide) (by decide) rfl rfl (by decide) (by decide) (own_kv fun v25 h25 q25 => ?_)
      obtain ⟨rfl, e25⟩ := q25
      rw [e25]
      rw [show (if (0 : Int32) < (5 : Int32) then (5 : Int32) else (0 : Int32)) = (5 : Int32) from by decide]
      refine own_istore 87 rfl #[.val (.int p1), .val (.int p2), .val (.ref b1), .val (.int (0 : Int32)), .val (.int (2 : Int32)), .val (.int (5 : Int32)), .unset, .unset] at_85 rfl ?_
      refine own_iload 89 rfl at_87 rfl ?_
      refine own_iconst 90 rfl (5 : Int32) at_89 rfl ?_
      refine own_callS 93 rfl 1 9 0 [(.int (2 : Int32)), (.int (5 : Int32))] [] (y := (⟨"java/lang/Math", "max", "(II)I"⟩ : MethodName)) (hw _ (List.mem_of_getElem? (i := 23) rfl)) (hw _ (List.mem_of_getElem? (i := 24) rfl)) (hw _ (List.mem_of_getElem? (i := 25) rfl)) (hw _ (List.mem_of_getElem? (i := 26) rfl)) (by decide) (rm1 l Z a0 hw [] (2 : Int32) (5 : Int32)  h10 ) at_90 rfl (lenOf own_pd1 rfl) rfl rfl rfl (by decide) (by decide) rfl rfl (by decide) (by decide) (own_kv fun v26 h26 q26 => ?_)
      obtain ⟨rfl, e26⟩ := q26
      rw [e26]
      rw [show (if (2 : Int32) < (5 : Int32) then (5 : Int32) else (2 : Int32)) = (5 : Int32) from by decide]
      refine own_istore 95 rfl #[.val (.int p1), .val (.int p2), .val (.ref b1), .val (.int (0 : Int32)), .val (.int (2 : Int32)), .val (.int (5 : Int32)), .val (.int (5 : Int32)), .unset] at_93 rfl ?_
      refine own_aloadN 96 rfl at_95 rfl rfl ?_
      refine own_iload 98 rfl at_96 rfl ?_
      refine own_iload 100 rfl at_98 rfl ?_
      refine own_callS 103 rfl 1 9 1 [(.int (5 : Int32)), (.int (5 : Int32))] [(.ref b1)] (y := (⟨"java/lang/Math", "max", "(II)I"⟩ : MethodName)) (hw _ (List.mem_of_getElem? (i := 23) rfl)) (hw _ (List.mem_of_getElem? (i := 24) rfl)) (hw _ (List.mem_of_getElem? (i := 25) rfl)) (hw _ (List.mem_of_getElem? (i := 26) rfl)) (by decide) (rm1 l Z a0 hw [] (5 : Int32) (5 : Int32)  h10 ) at_100 rfl (lenOf own_pd1 rfl) rfl rfl rfl (by decide) (by decide) rfl rfl (by decide) (by decide) (own_kv fun v27 h27 q27 => ?_)
      obtain ⟨rfl, e27⟩ := q27
      rw [e27]
      rw [show (if (5 : Int32) < (5 : Int32) then (5 : Int32) else (5 : Int32)) = (5 : Int32) from by decide]
      obtain ⟨c28, A28, q28, S28, N28, H28, G28⟩ := id V10
      refine own_aaload 104 rfl A28 rfl (inb_of S28 ⟨by decide, by decide⟩) (Has.at H28 (inb_of S28 ⟨by decide, by decide⟩) rfl) at_103 ?_
      refine own_astore 106 rfl #[.val (.int p1), .val (.int p2), .val (.ref b1), .val (.int (0 : Int32)), .val (.int (2 : Int32)), .val (.int (5 : Int32)), .val (.int (5 : Int32)), .val (.ref w_INT)] at_104 rfl rfl ?_
      refine own_aloadN 107 rfl at_106 rfl rfl ?_
      refine own_iloadN 108 rfl at_107 rfl ?_
      obtain ⟨c29, A29, q29, S29, N29, H29, G29⟩ := id V10
      refine own_aaload 109 rfl A29 rfl (inb_of S29 ⟨by decide, by decide⟩) (Has.at H29 (inb_of S29 ⟨by decide, by decide⟩) rfl) at_108 ?_
      refine own_aloadN 110 rfl at_109 rfl rfl ?_
      refine own_iload 112 rfl at_110 rfl ?_
      obtain ⟨c30, A30, q30, S30, N30, H30, G30⟩ := id V10
      refine own_aaload 113 rfl A30 rfl (inb_of S30 ⟨by decide, by decide⟩) (Has.at H30 (inb_of S30 ⟨by decide, by decide⟩) rfl) at_112 ?_
      refine own_callS 116 rfl 1 9 0 [(.ref w_BOOL), (.ref w_UNSIGNED_CHAR)] [] (y := (⟨"com/example/counterpath/counterpath/cfa/Type", "common", "(Lcom/example/counterpath/counterpath/cfa/Type;Lcom/example/counterpath/counterpath/cfa/Type;)Lcom/example/counterpath/counterpath/cfa/Type;"⟩ : MethodName)) (hw _ (List.mem_of_getElem? (i := 27) rfl)) (hw _ (List.mem_of_getElem? (i := 28) rfl)) (hw _ (List.mem_of_getElem? (i := 3) rfl)) (hw _ (List.mem_of_getElem? (i := 29) rfl)) (by decide) (rm2 l Z a0 hw [] w_BOOL w_UNSIGNED_CHAR (1 : Int32) (0 : Int32) (8 : Int32) (0 : Int32) w_BOOL w_SIGNED_CHAR w_UNSIGNED_CHAR w_SHORT w_UNSIGNED_SHORT w_INT w_UNSIGNED_INT w_LONG_LONG w_UNSIGNED_LONG_LONG h10 I (((((((((((E_w_BOOL.ext O0.2).ext E1).wr W2).wr W3).wr W4).wr W5).wr W6).wr W7).wr W8).wr W9).wr W10) (((((((((((F_w_BOOL_width.ext O0.2).ext E1).other W2 (Or.inl ne_w_BOOL_b1)).other W3 (Or.inl ne_w_BOOL_b1)).other W4 (Or.inl ne_w_BOOL_b1)).other W5 (Or.inl ne_w_BOOL_b1)).other W6 (Or.inl ne_w_BOOL_b1)).other W7 (Or.inl ne_w_BOOL_b1)).other W8 (Or.inl ne_w_BOOL_b1)).other W9 (Or.inl ne_w_BOOL_b1)).other W10 (Or.inl ne_w_BOOL_b1)) (((((((((((F_w_BOOL_signed.ext O0.2).ext E1).other W2 (Or.inl ne_w_BOOL_b1)).other W3 (Or.inl ne_w_BOOL_b1)).other W4 (Or.inl ne_w_BOOL_b1)).other W5 (Or.inl ne_w_BOOL_b1)).other W6 (Or.inl ne_w_BOOL_b1)).other W7 (Or.inl ne_w_BOOL_b1)).other W8 (Or.inl ne_w_BOOL_b1)).other W9 (Or.inl ne_w_BOOL_b1)).other W10 (Or.inl ne_w_BOOL_b1)) (((((((((((E_w_UNSIGNED_CHAR.ext O0.2).ext E1).wr W2).wr W3).wr W4).wr W5).wr W6).wr W7).wr W8).wr W9).wr W10) (((((((((((F_w_UNSIGNED_CHAR_width.ext O0.2).ext E1).other W2 (Or.inl ne_w_UNSIGNED_CHAR_b1)).other W3 (Or.inl ne_w_UNSIGNED_CHAR_b1)).other W4 (Or.inl ne_w_UNSIGNED_CHAR_b1)).other W5 (Or.inl ne_w_UNSIGNED_CHAR_b1)).other W6 (Or.inl ne_w_UNSIGNED_CHAR_b1)).other W7 (Or.inl ne_w_UNSIGNED_CHAR_b1)).other W8 (Or.inl ne_w_UNSIGNED_CHAR_b1)).other W9 (Or.inl ne_w_UNSIGNED_CHAR_b1)).other W10 (Or.inl ne_w_UNSIGNED_CHAR_b1)) (((((((((((F_w_UNSIGNED_CHAR_signed.ext O0.2).ext E1).other W2 (Or.inl ne_w_UNSIGNED_CHAR_b1)).other W3 (Or.inl ne_w_UNSIGNED_CHAR_b1)).other W4 (Or.inl ne_w_UNSIGNED_CHAR_b1)).other W5 (Or.inl ne_w_UNSIGNED_CHAR_b1)).other W6 (Or.inl ne_w_UNSIGNED_CHAR_b1)).other W7 (Or.inl ne_w_UNSIGNED_CHAR_b1)).other W8 (Or.inl ne_w_UNSIGNED_CHAR_b1)).other W9 (Or.inl ne_w_UNSIGNED_CHAR_b1)).other W10 (Or.inl ne_w_UNSIGNED_CHAR_b1)) (by decide) (by decide)) at_113 rfl (lenOf own_pd2 rfl) rfl rfl rfl (by decide) (by decide) rfl rfl (by decide) (by decide) (own_kv fun v31 h31 q31 => ?_)
      obtain ⟨rfl, e31⟩ := q31
      rw [e31]
      rw [show own_com w_INT w_BOOL (1 : Int32) (0 : Int32) w_UNSIGNED_CHAR (8 : Int32) (0 : Int32) = w_INT from by simp [own_com]]
      refine own_aload 118 rfl at_116 rfl rfl ?_
      refine own_acmpNo 121 rfl at_118 rfl rfl (own_teq (rfl : ((.ref w_INT) : Value) = (.ref w_INT))).2 ?_
      refine own_iconst 122 rfl (1 : Int32) at_121 rfl ?_
      refine own_goto 126 at_122 (by decide) (by decide) ?_
      refine own_retN rfl (by simp) at_126 (by decide) (by decide) ?_
      exact ⟨_, rfl, rfl⟩
    · have hin_j := (rfl : (3 : Int) = 3)
      refine own_iloadN 81 rfl at_80 rfl ?_
      refine own_iconst 82 rfl (5 : Int32) at_81 rfl ?_
      refine own_callS 85 rfl 1 9 0 [(.int (0 : Int32)), (.int (5 : Int32))] [] (y := (⟨"java/lang/Math", "max", "(II)I"⟩ : MethodName)) (hw _ (List.mem_of_getElem? (i := 23) rfl)) (hw _ (List.mem_of_getElem? (i := 24) rfl)) (hw _ (List.mem_of_getElem? (i := 25) rfl)) (hw _ (List.mem_of_getElem? (i := 26) rfl)) (by decide) (rm1 l Z a0 hw [] (0 : Int32) (5 : Int32)  h10 ) at_82 rfl (lenOf own_pd1 rfl) rfl rfl rfl (by decide) (by decide) rfl rfl (by decide) (by decide) (own_kv fun v32 h32 q32 => ?_)
      obtain ⟨rfl, e32⟩ := q32
      rw [e32]
      rw [show (if (0 : Int32) < (5 : Int32) then (5 : Int32) else (0 : Int32)) = (5 : Int32) from by decide]
      refine own_istore 87 rfl #[.val (.int p1), .val (.int p2), .val (.ref b1), .val (.int (0 : Int32)), .val (.int (3 : Int32)), .val (.int (5 : Int32)), .unset, .unset] at_85 rfl ?_
      refine own_iload 89 rfl at_87 rfl ?_
      refine own_iconst 90 rfl (5 : Int32) at_89 rfl ?_
      refine own_callS 93 rfl 1 9 0 [(.int (3 : Int32)), (.int (5 : Int32))] [] (y := (⟨"java/lang/Math", "max", "(II)I"⟩ : MethodName)) (hw _ (List.mem_of_getElem? (i := 23) rfl)) (hw _ (List.mem_of_getElem? (i := 24) rfl)) (hw _ (List.mem_of_getElem? (i := 25) rfl)) (hw _ (List.mem_of_getElem? (i := 26) rfl)) (by decide) (rm1 l Z a0 hw [] (3 : Int32) (5 : Int32)  h10 ) at_90 rfl (lenOf own_pd1 rfl) rfl rfl rfl (by decide) (by decide) rfl rfl (by decide) (by decide) (own_kv fun v33 h33 q33 => ?_)
      obtain ⟨rfl, e33⟩ := q33
      rw [e33]
      rw [show (if (3 : Int32) < (5 : Int32) then (5 : Int32) else (3 : Int32)) = (5 : Int32) from by decide]
      refine own_istore 95 rfl #[.val (.int p1), .val (.int p2), .val (.ref b1), .val (.int (0 : Int32)), .val (.int (3 : Int32)), .val (.int (5 : Int32)), .val (.int (5 : Int32)), .unset] at_93 rfl ?_
      refine own_aloadN 96 rfl at_95 rfl rfl ?_
      refine own_iload 98 rfl at_96 rfl ?_
      refine own_iload 100 rfl at_98 rfl ?_
      refine own_callS 103 rfl 1 9 1 [(.int (5 : Int32)), (.int (5 : Int32))] [(.ref b1)] (y := (⟨"java/lang/Math", "max", "(II)I"⟩ : MethodName)) (hw _ (List.mem_of_getElem? (i := 23) rfl)) (hw _ (List.mem_of_getElem? (i := 24) rfl)) (hw _ (List.mem_of_getElem? (i := 25) rfl)) (hw _ (List.mem_of_getElem? (i := 26) rfl)) (by decide) (rm1 l Z a0 hw [] (5 : Int32) (5 : Int32)  h10 ) at_100 rfl (lenOf own_pd1 rfl) rfl rfl rfl (by decide) (by decide) rfl rfl (by decide) (by decide) (own_kv fun v34 h34 q34 => ?_)
      obtain ⟨rfl, e34⟩ := q34
      rw [e34]
      rw [show (if (5 : Int32) < (5 : Int32) then (5 : Int32) else (5 : Int32)) = (5 : Int32) from by decide]
      obtain ⟨c35, A35, q35, S35, N35, H35, G35⟩ := id V10
      refine own_aaload 104 rfl A35 rfl (inb_of S35 ⟨by decide, by decide⟩) (Has.at H35 (inb_of S35 ⟨by decide, by decide⟩) rfl) at_103 ?_
      refine own_astore 106 rfl #[.val (.int p1), .val (.int p2), .val (.ref b1), .val (.int (0 : Int32)), .val (.int (3 : Int32)), .val (.int (5 : Int32)), .val (.int (5 : Int32)), .val (.ref w_INT)] at_104 rfl rfl ?_
      refine own_aloadN 107 rfl at_106 rfl rfl ?_
      refine own_iloadN 108 rfl at_107 rfl ?_
      obtain ⟨c36, A36, q36, S36, N36, H36, G36⟩ := id V10
      refine own_aaload 109 rfl A36 rfl (inb_of S36 ⟨by decide, by decide⟩) (Has.at H36 (inb_of S36 ⟨by decide, by decide⟩) rfl) at_108 ?_
      refine own_aloadN 110 rfl at_109 rfl rfl ?_
      refine own_iload 112 rfl at_110 rfl ?_
      obtain ⟨c37, A37, q37, S37, N37, H37, G37⟩ := id V10
      refine own_aaload 113 rfl A37 rfl (inb_of S37 ⟨by decide, by decide⟩) (Has.at H37 (inb_of S37 ⟨by decide, by decide⟩) rfl) at_112 ?_
      refine own_callS 116 rfl 1 9 0 [(.ref w_BOOL), (.ref w_SHORT)] [] (y := (⟨"com/example/counterpath/counterpath/cfa/Type", "common", "(Lcom/example/counterpath/counterpath/cfa/Type;Lcom/example/counterpath/counterpath/cfa/Type;)Lcom/example/counterpath/counterpath/cfa/Type;"⟩ : MethodName)) (hw _ (List.mem_of_getElem? (i := 27) rfl)) (hw _ (List.mem_of_getElem? (i := 28) rfl)) (hw _ (List.mem_of_getElem? (i := 3) rfl)) (hw _ (List.mem_of_getElem? (i := 29) rfl)) (by decide) (rm2 l Z a0 hw [] w_BOOL w_SHORT (1 : Int32) (0 : Int32) (16 : Int32) (1 : Int32) w_BOOL w_SIGNED_CHAR w_UNSIGNED_CHAR w_SHORT w_UNSIGNED_SHORT w_INT w_UNSIGNED_INT w_LONG_LONG w_UNSIGNED_LONG_LONG h10 I (((((((((((E_w_BOOL.ext O0.2).ext E1).wr W2).wr W3).wr W4).wr W5).wr W6).wr W7).wr W8).wr W9).wr W10) (((((((((((F_w_BOOL_width.ext O0.2).ext E1).other W2 (Or.inl ne_w_BOOL_b1)).other W3 (Or.inl ne_w_BOOL_b1)).other W4 (Or.inl ne_w_BOOL_b1)).other W5 (Or.inl ne_w_BOOL_b1)).other W6 (Or.inl ne_w_BOOL_b1)).other W7 (Or.inl ne_w_BOOL_b1)).other W8 (Or.inl ne_w_BOOL_b1)).other W9 (Or.inl ne_w_BOOL_b1)).other W10 (Or.inl ne_w_BOOL_b1)) (((((((((((F_w_BOOL_signed.ext O0.2).ext E1).other W2 (Or.inl ne_w_BOOL_b1)).other W3 (Or.inl ne_w_BOOL_b1)).other W4 (Or.inl ne_w_BOOL_b1)).other W5 (Or.inl ne_w_BOOL_b1)).other W6 (Or.inl ne_w_BOOL_b1)).other W7 (Or.inl ne_w_BOOL_b1)).other W8 (Or.inl ne_w_BOOL_b1)).other W9 (Or.inl ne_w_BOOL_b1)).other W10 (Or.inl ne_w_BOOL_b1)) (((((((((((E_w_SHORT.ext O0.2).ext E1).wr W2).wr W3).wr W4).wr W5).wr W6).wr W7).wr W8).wr W9).wr W10) (((((((((((F_w_SHORT_width.ext O0.2).ext E1).other W2 (Or.inl ne_w_SHORT_b1)).other W3 (Or.inl ne_w_SHORT_b1)).other W4 (Or.inl ne_w_SHORT_b1)).other W5 (Or.inl ne_w_SHORT_b1)).other W6 (Or.inl ne_w_SHORT_b1)).other W7 (Or.inl ne_w_SHORT_b1)).other W8 (Or.inl ne_w_SHORT_b1)).other W9 (Or.inl ne_w_SHORT_b1)).other W10 (Or.inl ne_w_SHORT_b1)) (((((((((((F_w_SHORT_signed.ext O0.2).ext E1).other W2 (Or.inl ne_w_SHORT_b1)).other W3 (Or.inl ne_w_SHORT_b1)).other W4 (Or.inl ne_w_SHORT_b1)).other W5 (Or.inl ne_w_SHORT_b1)).other W6 (Or.inl ne_w_SHORT_b1)).other W7 (Or.inl ne_w_SHORT_b1)).other W8 (Or.inl ne_w_SHORT_b1)).other W9 (Or.inl ne_w_SHORT_b1)).other W10 (Or.inl ne_w_SHORT_b1)) (by decide) (by decide)) at_113 rfl (lenOf own_pd2 rfl) rfl rfl rfl (by decide) (by decide) rfl rfl (by decide) (by decide) (own_kv fun v38 h38 q38 => ?_)
      obtain ⟨rfl, e38⟩ := q38
      rw [e38]
      rw [show own_com w_INT w_BOOL (1 : Int32) (0 : Int32) w_SHORT (16 : Int32) (1 : Int32) = w_INT from by simp [own_com]]
      refine own_aload 118 rfl at_116 rfl rfl ?_
      refine own_acmpNo 121 rfl at_118 rfl rfl (own_teq (rfl : ((.ref w_INT) : Value) = (.ref w_INT))).2 ?_
      refine own_iconst 122 rfl (1 : Int32) at_121 rfl ?_
      refine own_goto 126 at_122 (by decide) (by decide) ?_
      refine own_retN rfl (by simp) at_126 (by decide) (by decide) ?_
      exact ⟨_, rfl, rfl⟩
    · have hin_j := (rfl : (4 : Int) = 4)
      refine own_iloadN 81 rfl at_80 rfl ?_
      refine own_iconst 82 rfl (5 : Int32) at_81 rfl ?_
      refine own_callS 85 rfl 1 9 0 [(.int (0 : Int32)), (.int (5 : Int32))] [] (y := (⟨"java/lang/Math", "max", "(II)I"⟩ : MethodName)) (hw _ (List.mem_of_getElem? (i := 23) rfl)) (hw _ (List.mem_of_getElem? (i := 24) rfl)) (hw _ (List.mem_of_getElem? (i := 25) rfl)) (hw _ (List.mem_of_getElem? (i := 26) rfl)) (by decide) (rm1 l Z a0 hw [] (0 : Int32) (5 : Int32)  h10 ) at_82 rfl (lenOf own_pd1 rfl) rfl rfl rfl (by decide) (by decide) rfl rfl (by decide) (by decide) (own_kv fun v39 h39 q39 => ?_)
      obtain ⟨rfl, e39⟩ := q39
      rw [e39]
      rw [show (if (0 : Int32) < (5 : Int32) then (5 : Int32) else (0 : Int32)) = (5 : Int32) from by decide]
      refine own_istore 87 rfl #[.val (.int p1), .val (.int p2), .val (.ref b1), .val (.int (0 : Int32)), .val (.int (4 : Int32)), .val (.int (5 : Int32)), .unset, .unset] at_85 rfl ?_
      refine own_iload 89 rfl at_87 rfl ?_
      refine own_iconst 90 rfl (5 : Int32) at_89 rfl ?_
      refine own_callS 93 rfl 1 9 0 [(.int (4 : Int32)), (.int (5 : Int32))] [] (y := (⟨"java/lang/Math", "max", "(II)I"⟩ : MethodName)) (hw _ (List.mem_of_getElem? (i := 23) rfl)) (hw _ (List.mem_of_getElem? (i := 24) rfl)) (hw _ (List.mem_of_getElem? (i := 25) rfl)) (hw _ (List.mem_of_getElem? (i := 26) rfl)) (by decide) (rm1 l Z a0 hw [] (4 : Int32) (5 : Int32)  h10 ) at_90 rfl (lenOf own_pd1 rfl) rfl rfl rfl (by decide) (by decide) rfl rfl (by decide) (by decide) (own_kv fun v40 h40 q40 => ?_)
      obtain ⟨rfl, e40⟩ := q40
      rw [e40]
      rw [show (if (4 : Int32) < (5 : Int32) then (5 : Int32) else (4 : Int32)) = (5 : Int32) from by decide]
      refine own_istore 95 rfl #[.val (.int p1), .val (.int p2), .val (.ref b1), .val (.int (0 : Int32)), .val (.int (4 : Int32)), .val (.int (5 : Int32)), .val (.int (5 : Int32)), .unset] at_93 rfl ?_
      refine own_aloadN 96 rfl at_95 rfl rfl ?_
      refine own_iload 98 rfl at_96 rfl ?_
      refine own_iload 100 rfl at_98 rfl ?_
      refine own_callS 103 rfl 1 9 1 [(.int (5 : Int32)), (.int (5 : Int32))] [(.ref b1)] (y := (⟨"java/lang/Math", "max", "(II)I"⟩ : MethodName)) (hw _ (List.mem_of_getElem? (i := 23) rfl)) (hw _ (List.mem_of_getElem? (i := 24) rfl)) (hw _ (List.mem_of_getElem? (i := 25) rfl)) (hw _ (List.mem_of_getElem? (i := 26) rfl)) (by decide) (rm1 l Z a0 hw [] (5 : Int32) (5 : Int32)  h10 ) at_100 rfl (lenOf own_pd1 rfl) rfl rfl rfl (by decide) (by decide) rfl rfl (by decide) (by decide) (own_kv fun v41 h41 q41 => ?_)
      obtain ⟨rfl, e41⟩ := q41
      rw [e41]
      rw [show (if (5 : Int32) < (5 : Int32) then (5 : Int32) else (5 : Int32)) = (5 : Int32) from by decide]
      obtain ⟨c42, A42, q42, S42, N42, H42, G42⟩ := id V10
      refine own_aaload 104 rfl A42 rfl (inb_of S42 ⟨by decide, by decide⟩) (Has.at H42 (inb_of S42 ⟨by decide, by decide⟩) rfl) at_103 ?_
      refine own_astore 106 rfl #[.val (.int p1), .val (.int p2), .val (.ref b1), .val (.int (0 : Int32)), .val (.int (4 : Int32)), .val (.int (5 : Int32)), .val (.int (5 : Int32)), .val (.ref w_INT)] at_104 rfl rfl ?_
      refine own_aloadN 107 rfl at_106 rfl rfl ?_
      refine own_iloadN 108 rfl at_107 rfl ?_
      obtain ⟨c43, A43, q43, S43, N43, H43, G43⟩ := id V10
      refine own_aaload 109 rfl A43 rfl (inb_of S43 ⟨by decide, by decide⟩) (Has.at H43 (inb_of S43 ⟨by decide, by decide⟩) rfl) at_108 ?_
      refine own_aloadN 110 rfl at_109 rfl rfl ?_
      refine own_iload 112 rfl at_110 rfl ?_
      obtain ⟨c44, A44, q44, S44, N44, H44, G44⟩ := id V10
      refine own_aaload 113 rfl A44 rfl (inb_of S44 ⟨by decide, by decide⟩) (Has.at H44 (inb_of S44 ⟨by decide, by decide⟩) rfl) at_112 ?_
      refine own_callS 116 rfl 1 9 0 [(.ref w_BOOL), (.ref w_UNSIGNED_SHORT)] [] (y := (⟨"com/example/counterpath/counterpath/cfa/Type", "common", "(Lcom/example/counterpath/counterpath/cfa/Type;Lcom/example/counterpath/counterpath/cfa/Type;)Lcom/example/counterpath/counterpath/cfa/Type;"⟩ : MethodName)) (hw _ (List.mem_of_getElem? (i := 27) rfl)) (hw _ (List.mem_of_getElem? (i := 28) rfl)) (hw _ (List.mem_of_getElem? (i := 3) rfl)) (hw _ (List.mem_of_getElem? (i := 29) rfl)) (by decide) (rm2 l Z a0 hw [] w_BOOL w_UNSIGNED_SHORT (1 : Int32) (0 : Int32) (16 : Int32) (0 : Int32) w_BOOL w_SIGNED_CHAR w_UNSIGNED_CHAR w_SHORT w_UNSIGNED_SHORT w_INT w_UNSIGNED_INT w_LONG_LONG w_UNSIGNED_LONG_LONG h10 I (((((((((((E_w_BOOL.ext O0.2).ext E1).wr W2).wr W3).wr W4).wr W5).wr W6).wr W7).wr W8).wr W9).wr W10) (((((((((((F_w_BOOL_width.ext O0.2).ext E1).other W2 (Or.inl ne_w_BOOL_b1)).other W3 (Or.inl ne_w_BOOL_b1)).other W4 (Or.inl ne_w_BOOL_b1)).other W5 (Or.inl ne_w_BOOL_b1)).other W6 (Or.inl ne_w_BOOL_b1)).other W7 (Or.inl ne_w_BOOL_b1)).other W8 (Or.inl ne_w_BOOL_b1)).other W9 (Or.inl ne_w_BOOL_b1)).other W10 (Or.inl ne_w_BOOL_b1)) (((((((((((F_w_BOOL_signed.ext O0.2).ext E1).other W2 (Or.inl ne_w_BOOL_b1)).other W3 (Or.inl ne_w_BOOL_b1)).other W4 (Or.inl ne_w_BOOL_b1)).other W5 (Or.inl ne_w_BOOL_b1)).other W6 (Or.inl ne_w_BOOL_b1)).other W7 (Or.inl ne_w_BOOL_b1)).other W8 (Or.inl ne_w_BOOL_b1)).other W9 (Or.inl ne_w_BOOL_b1)).other W10 (Or.inl ne_w_BOOL_b1)) (((((((((((E_w_UNSIGNED_SHORT.ext O0.2).ext E1).wr W2).wr W3).wr W4).wr W5).wr W6).wr W7).wr W8).wr W9).wr W10) (((((((((((F_w_UNSIGNED_SHORT_width.ext O0.2).ext E1).other W2 (Or.inl ne_w_UNSIGNED_SHORT_b1)).other W3 (Or.inl ne_w_UNSIGNED_SHORT_b1)).other W4 (Or.inl ne_w_UNSIGNED_SHORT_b1)).other W5 (Or.inl ne_w_UNSIGNED_SHORT_b1)).other W6 (Or.inl ne_w_UNSIGNED_SHORT_b1)).other W7 (Or.inl ne_w_UNSIGNED_SHORT_b1)).other W8 (Or.inl ne_w_UNSIGNED_SHORT_b1)).other W9 (Or.inl ne_w_UNSIGNED_SHORT_b1)).other W10 (Or.inl ne_w_UNSIGNED_SHORT_b1)) (((((((((((F_w_UNSIGNED_SHORT_signed.ext O0.2).ext E1).other W2 (Or.inl ne_w_UNSIGNED_SHORT_b1)).other W3 (Or.inl ne_w_UNSIGNED_SHORT_b1)).other W4 (Or.inl ne_w_UNSIGNED_SHORT_b1)).other W5 (Or.inl ne_w_UNSIGNED_SHORT_b1)).other W6 (Or.inl ne_w_UNSIGNED_SHORT_b1)).other W7 (Or.inl ne_w_UNSIGNED_SHORT_b1)).other W8 (Or.inl ne_w_UNSIGNED_SHORT_b1)).other W9 (Or.inl ne_w_UNSIGNED_SHORT_b1)).other W10 (Or.inl ne_w_UNSIGNED_SHORT_b1)) (by decide) (by decide)) at_113 rfl (lenOf own_pd2 rfl) rfl rfl rfl (by decide) (by decide) rfl rfl (by decide) (by decide) (own_kv fun v45 h45 q45 => ?_)
      obtain ⟨rfl, e45⟩ := q45
      rw [e45]
      rw [show own_com w_INT w_BOOL (1 : Int32) (0 : Int32) w_UNSIGNED_SHORT (16 : Int32) (0 : Int32) = w_INT from by simp [own_com]]
      refine own_aload 118 rfl at_116 rfl rfl ?_
      refine own_acmpNo 121 rfl at_118 rfl rfl (own_teq (rfl : ((.ref w_INT) : Value) = (.ref w_INT))).2 ?_
      refine own_iconst 122 rfl (1 : Int32) at_121 rfl ?_
      refine own_goto 126 at_122 (by decide) (by decide) ?_
      refine own_retN rfl (by simp) at_126 (by decide) (by decide) ?_
      exact ⟨_, rfl, rfl⟩
    · have hin_j := (rfl : (5 : Int) = 5)
      refine own_iloadN 81 rfl at_80 rfl ?_
      refine own_iconst 82 rfl (5 : Int32) at_81 rfl ?_
      refine own_callS 85 rfl 1 9 0 [(.int (0 : Int32)), (.int (5 : Int32))] [] (y := (⟨"java/lang/Math", "max", "(II)I"⟩ : MethodName)) (hw _ (List.mem_of_getElem? (i := 23) rfl)) (hw _ (List.mem_of_getElem? (i := 24) rfl)) (hw _ (List.mem_of_getElem? (i := 25) rfl)) (hw _ (List.mem_of_getElem? (i := 26) rfl)) (by decide) (rm1 l Z a0 hw [] (0 : Int32) (5 : Int32)  h10 ) at_82 rfl (lenOf own_pd1 rfl) rfl rfl rfl (by decide) (by decide) rfl rfl (by decide) (by decide) (own_kv fun v46 h46 q46 => ?_)
      obtain ⟨rfl, e46⟩ := q46
      rw [e46]
      rw [show (if (0 : Int32) < (5 : Int32) then (5 : Int32) else (0 : Int32)) = (5 : Int32) from by decide]
      refine own_istore 87 rfl #[.val (.int p1), .val (.int p2), .val (.ref b1), .val (.int (0 : Int32)), .val (.int (5 : Int32)), .val (.int (5 : Int32)), .unset, .unset] at_85 rfl ?_
      refine own_iload 89 rfl at_87 rfl ?_
      refine own_iconst 90 rfl (5 : Int32) at_89 rfl ?_
      refine own_callS 93 rfl 1 9 0 [(.int (5 : Int32)), (.int (5 : Int32))] [] (y := (⟨"java/lang/Math", "max", "(II)I"⟩ : MethodName)) (hw _ (List.mem_of_getElem? (i := 23) rfl)) (hw _ (List.mem_of_getElem? (i := 24) rfl)) (hw _ (List.mem_of_getElem? (i := 25) rfl)) (hw _ (List.mem_of_getElem? (i := 26) rfl)) (by decide) (rm1 l Z a0 hw [] (5 : Int32) (5 : Int32)  h10 ) at_90 rfl (lenOf own_pd1 rfl) rfl rfl rfl (by decide) (by decide) rfl rfl (by decide) (by decide) (own_kv fun v47 h47 q47 => ?_)
      obtain ⟨rfl, e47⟩ := q47
      rw [e47]
      rw [show (if (5 : Int32) < (5 : Int32) then (5 : Int32) else (5 : Int32)) = (5 : Int32) from by decide]
      refine own_istore 95 rfl #[.val (.int p1), .val (.int p2), .val (.ref b1), .val (.int (0 : Int32)), .val (.int (5 : Int32)), .val (.int (5 : Int32)), .val (.int (5 : Int32)), .unset] at_93 rfl ?_
      refine own_aloadN 96 rfl at_95 rfl rfl ?_
      refine own_iload 98 rfl at_96 rfl ?_
      refine own_iload 100 rfl at_98 rfl ?_
      refine own_callS 103 rfl 1 9 1 [(.int (5 : Int32)), (.int (5 : Int32))] [(.ref b1)] (y := (⟨"java/lang/Math", "max", "(II)I"⟩ : MethodName)) (hw _ (List.mem_of_getElem? (i := 23) rfl)) (hw _ (List.mem_of_getElem? (i := 24) rfl)) (hw _ (List.mem_of_getElem? (i := 25) rfl)) (hw _ (List.mem_of_getElem? (i := 26) rfl)) (by decide) (rm1 l Z a0 hw [] (5 : Int32) (5 : Int32)  h10 ) at_100 rfl (lenOf own_pd1 rfl) rfl rfl rfl (by decide) (by decide) rfl rfl (by decide) (by decide) (own_kv fun v48 h48 q48 => ?_)
      obtain ⟨rfl, e48⟩ := q48
      rw [e48]
      rw [show (if (5 : Int32) < (5 : Int32) then (5 : Int32) else (5 : Int32)) = (5 : Int32) from by decide]
      obtain ⟨c49, A49, q49, S49, N49, H49, G49⟩ := id V10
      refine own_aaload 104 rfl A49 rfl (inb_of S49 ⟨by decide, by decide⟩) (Has.at H49 (inb_of S49 ⟨by decide, by decide⟩) rfl) at_103 ?_
      refine own_astore 106 rfl #[.val (.int p1), .val (.int p2), .val (.ref b1), .val (.int (0 : Int32)), .val (.int (5 : Int32)), .val (.int (5 : Int32)), .val (.int (5 : Int32)), .val (.ref w_INT)] at_104 rfl rfl ?_
      refine own_aloadN 107 rfl at_106 rfl rfl ?_
      refine own_iloadN 108 rfl at_107 rfl ?_
      obtain ⟨c50, A50, q50, S50, N50, H50, G50⟩ := id V10
      refine own_aaload 109 rfl A50 rfl (inb_of S50 ⟨by decide, by decide⟩) (Has.at H50 (inb_of S50 ⟨by decide, by decide⟩) rfl) at_108 ?_
      refine own_aloadN 110 rfl at_109 rfl rfl ?_
      refine own_iload 112 rfl at_110 rfl ?_
      obtain ⟨c51, A51, q51, S51, N51, H51, G51⟩ := id V10
      refine own_aaload 113 rfl A51 rfl (inb_of S51 ⟨by decide, by decide⟩) (Has.at H51 (inb_of S51 ⟨by decide, by decide⟩) rfl) at_112 ?_
      refine own_callS 116 rfl 1 9 0 [(.ref w_BOOL), (.ref w_INT)] [] (y := (⟨"com/example/counterpath/counterpath/cfa/Type", "common", "(Lcom/example/counterpath/counterpath/cfa/Type;Lcom/example/counterpath/counterpath/cfa/Type;)Lcom/example/counterpath/counterpath/cfa/Type;"⟩ : MethodName)) (hw _ (List.mem_of_getElem? (i := 27) rfl)) (hw _ (List.mem_of_getElem? (i := 28) rfl)) (hw _ (List.mem_of_getElem? (i := 3) rfl)) (hw _ (List.mem_of_getElem? (i := 29) rfl)) (by decide) (rm2 l Z a0 hw [] w_BOOL w_INT (1 : Int32) (0 : Int32) (32 : Int32) (1 : Int32) w_BOOL w_SIGNED_CHAR w_UNSIGNED_CHAR w_SHORT w_UNSIGNED_SHORT w_INT w_UNSIGNED_INT w_LONG_LONG w_UNSIGNED_LONG_LONG h10 I (((((((((((E_w_BOOL.ext O0.2).ext E1).wr W2).wr W3).wr W4).wr W5).wr W6).wr W7).wr W8).wr W9).wr W10) (((((((((((F_w_BOOL_width.ext O0.2).ext E1).other W2 (Or.inl ne_w_BOOL_b1)).other W3 (Or.inl ne_w_BOOL_b1)).other W4 (Or.inl ne_w_BOOL_b1)).other W5 (Or.inl ne_w_BOOL_b1)).other W6 (Or.inl ne_w_BOOL_b1)).other W7 (Or.inl ne_w_BOOL_b1)).other W8 (Or.inl ne_w_BOOL_b1)).other W9 (Or.inl ne_w_BOOL_b1)).other W10 (Or.inl ne_w_BOOL_b1)) (((((((((((F_w_BOOL_signed.ext O0.2).ext E1).other W2 (Or.inl ne_w_BOOL_b1)).other W3 (Or.inl ne_w_BOOL_b1)).other W4 (Or.inl ne_w_BOOL_b1)).other W5 (Or.inl ne_w_BOOL_b1)).other W6 (Or.inl ne_w_BOOL_b1)).other W7 (Or.inl ne_w_BOOL_b1)).other W8 (Or.inl ne_w_BOOL_b1)).other W9 (Or.inl ne_w_BOOL_b1)).other W10 (Or.inl ne_w_BOOL_b1)) (((((((((((E_w_INT.ext O0.2).ext E1).wr W2).wr W3).wr W4).wr W5).wr W6).wr W7).wr W8).wr W9).wr W10) (((((((((((F_w_INT_width.ext O0.2).ext E1).other W2 (Or.inl ne_w_INT_b1)).other W3 (Or.inl ne_w_INT_b1)).other W4 (Or.inl ne_w_INT_b1)).other W5 (Or.inl ne_w_INT_b1)).other W6 (Or.inl ne_w_INT_b1)).other W7 (Or.inl ne_w_INT_b1)).other W8 (Or.inl ne_w_INT_b1)).other W9 (Or.inl ne_w_INT_b1)).other W10 (Or.inl ne_w_INT_b1)) (((((((((((F_w_INT_signed.ext O0.2).ext E1).other W2 (Or.inl ne_w_INT_b1)).other W3 (Or.inl ne_w_INT_b1)).other W4 (Or.inl ne_w_INT_b1)).other W5 (Or.inl ne_w_INT_b1)).other W6 (Or.inl ne_w_INT_b1)).other W7 (Or.inl ne_w_INT_b1)).other W8 (Or.inl ne_w_INT_b1)).other W9 (Or.inl ne_w_INT_b1)).other W10 (Or.inl ne_w_INT_b1)) (by decide) (by decide)) at_113 rfl (lenOf own_pd2 rfl) rfl rfl rfl (by decide) (by decide) rfl rfl (by decide) (by decide) (own_kv fun v52 h52 q52 => ?_)
      obtain ⟨rfl, e52⟩ := q52
      rw [e52]
      rw [show own_com w_INT w_BOOL (1 : Int32) (0 : Int32) w_INT (32 : Int32) (1 : Int32) = w_INT from by simp [own_com]]
      refine own_aload 118 rfl at_116 rfl rfl ?_
      refine own_acmpNo 121 rfl at_118 rfl rfl (own_teq (rfl : ((.ref w_INT) : Value) = (.ref w_INT))).2 ?_
      refine own_iconst 122 rfl (1 : Int32) at_121 rfl ?_
      refine own_goto 126 at_122 (by decide) (by decide) ?_
      refine own_retN rfl (by simp) at_126 (by decide) (by decide) ?_
      exact ⟨_, rfl, rfl⟩
    · have hin_j := (rfl : (6 : Int) = 6)
      refine own_iloadN 81 rfl at_80 rfl ?_
      refine own_iconst 82 rfl (5 : Int32) at_81 rfl ?_
      refine own_callS 85 rfl 1 9 0 [(.int (0 : Int32)), (.int (5 : Int32))] [] (y := (⟨"java/lang/Math", "max", "(II)I"⟩ : MethodName)) (hw _ (List.mem_of_getElem? (i := 23) rfl)) (hw _ (List.mem_of_getElem? (i := 24) rfl)) (hw _ (List.mem_of_getElem? (i := 25) rfl)) (hw _ (List.mem_of_getElem? (i := 26) rfl)) (by decide) (rm1 l Z a0 hw [] (0 : Int32) (5 : Int32)  h10 ) at_82 rfl (lenOf own_pd1 rfl) rfl rfl rfl (by decide) (by decide) rfl rfl (by decide) (by decide) (own_kv fun v53 h53 q53 => ?_)
      obtain ⟨rfl, e53⟩ := q53
      rw [e53]
      rw [show (if (0 : Int32) < (5 : Int32) then (5 : Int32) else (0 : Int32)) = (5 : Int32) from by decide]
      refine own_istore 87 rfl #[.val (.int p1), .val (.int p2), .val (.ref b1), .val (.int (0 : Int32)), .val (.int (6 : Int32)), .val (.int (5 : Int32)), .unset, .unset] at_85 rfl ?_
      refine own_iload 89 rfl at_87 rfl ?_
      refine own_iconst 90 rfl (5 : Int32) at_89 rfl ?_
      refine own_callS 93 rfl 1 9 0 [(.int (6 : Int32)), (.int (5 : Int32))] [] (y := (⟨"java/lang/Math", "max", "(II)I"⟩ : MethodName)) (hw _ (List.mem_of_getElem? (i := 23) rfl)) (hw _ (List.mem_of_getElem? (i := 24) rfl)) (hw _ (List.mem_of_getElem? (i := 25) rfl)) (hw _ (List.mem_of_getElem? (i := 26) rfl)) (by decide) (rm1 l Z a0 hw [] (6 : Int32) (5 : Int32)  h10 ) at_90 rfl (lenOf own_pd1 rfl) rfl rfl rfl (by decide) (by decide) rfl rfl (by decide) (by decide) (own_kv fun v54 h54 q54 => ?_)
      obtain ⟨rfl, e54⟩ := q54
      rw [e54]
      rw [show (if (6 : Int32) < (5 : Int32) then (5 : Int32) else (6 : Int32)) = (6 : Int32) from by decide]
      refine own_istore 95 rfl #[.val (.int p1), .val (.int p2), .val (.ref b1), .val (.int (0 : Int32)), .val (.int (6 : Int32)), .val (.int (5 : Int32)), .val (.int (6 : Int32)), .unset] at_93 rfl ?_
      refine own_aloadN 96 rfl at_95 rfl rfl ?_
      refine own_iload 98 rfl at_96 rfl ?_
      refine own_iload 100 rfl at_98 rfl ?_
      refine own_callS 103 rfl 1 9 1 [(.int (5 : Int32)), (.int (6 : Int32))] [(.ref b1)] (y := (⟨"java/lang/Math", "max", "(II)I"⟩ : MethodName)) (hw _ (List.mem_of_getElem? (i := 23) rfl)) (hw _ (List.mem_of_getElem? (i := 24) rfl)) (hw _ (List.mem_of_getElem? (i := 25) rfl)) (hw _ (List.mem_of_getElem? (i := 26) rfl)) (by decide) (rm1 l Z a0 hw [] (5 : Int32) (6 : Int32)  h10 ) at_100 rfl (lenOf own_pd1 rfl) rfl rfl rfl (by decide) (by decide) rfl rfl (by decide) (by decide) (own_kv fun v55 h55 q55 => ?_)
      obtain ⟨rfl, e55⟩ := q55
      rw [e55]
      rw [show (if (5 : Int32) < (6 : Int32) then (6 : Int32) else (5 : Int32)) = (6 : Int32) from by decide]
      obtain ⟨c56, A56, q56, S56, N56, H56, G56⟩ := id V10
      refine own_aaload 104 rfl A56 rfl (inb_of S56 ⟨by decide, by decide⟩) (Has.at H56 (inb_of S56 ⟨by decide, by decide⟩) rfl) at_103 ?_
      refine own_astore 106 rfl #[.val (.int p1), .val (.int p2), .val (.ref b1), .val (.int (0 : Int32)), .val (.int (6 : Int32)), .val (.int (5 : Int32)), .val (.int (6 : Int32)), .val (.ref w_UNSIGNED_INT)] at_104 rfl rfl ?_
      refine own_aloadN 107 rfl at_106 rfl rfl ?_
      refine own_iloadN 108 rfl at_107 rfl ?_
      obtain ⟨c57, A57, q57, S57, N57, H57, G57⟩ := id V10
      refine own_aaload 109 rfl A57 rfl (inb_of S57 ⟨by decide, by decide⟩) (Has.at H57 (inb_of S57 ⟨by decide, by decide⟩) rfl) at_108 ?_
      refine own_aloadN 110 rfl at_109 rfl rfl ?_
      refine own_iload 112 rfl at_110 rfl ?_
      obtain ⟨c58, A58, q58, S58, N58, H58, G58⟩ := id V10
      refine own_aaload 113 rfl A58 rfl (inb_of S58 ⟨by decide, by decide⟩) (Has.at H58 (inb_of S58 ⟨by decide, by decide⟩) rfl) at_112 ?_
      refine own_callS 116 rfl 1 9 0 [(.ref w_BOOL), (.ref w_UNSIGNED_INT)] [] (y := (⟨"com/example/counterpath/counterpath/cfa/Type", "common", "(Lcom/example/counterpath/counterpath/cfa/Type;Lcom/example/counterpath/counterpath/cfa/Type;)Lcom/example/counterpath/counterpath/cfa/Type;"⟩ : MethodName)) (hw _ (List.mem_of_getElem? (i := 27) rfl)) (hw _ (List.mem_of_getElem? (i := 28) rfl)) (hw _ (List.mem_of_getElem? (i := 3) rfl)) (hw _ (List.mem_of_getElem? (i := 29) rfl)) (by decide) (rm2 l Z a0 hw [] w_BOOL w_UNSIGNED_INT (1 : Int32) (0 : Int32) (32 : Int32) (0 : Int32) w_BOOL w_SIGNED_CHAR w_UNSIGNED_CHAR w_SHORT w_UNSIGNED_SHORT w_INT w_UNSIGNED_INT w_LONG_LONG w_UNSIGNED_LONG_LONG h10 I (((((((((((E_w_BOOL.ext O0.2).ext E1).wr W2).wr W3).wr W4).wr W5).wr W6).wr W7).wr W8).wr W9).wr W10) (((((((((((F_w_BOOL_width.ext O0.2).ext E1).other W2 (Or.inl ne_w_BOOL_b1)).other W3 (Or.inl ne_w_BOOL_b1)).other W4 (Or.inl ne_w_BOOL_b1)).other W5 (Or.inl ne_w_BOOL_b1)).other W6 (Or.inl ne_w_BOOL_b1)).other W7 (Or.inl ne_w_BOOL_b1)).other W8 (Or.inl ne_w_BOOL_b1)).other W9 (Or.inl ne_w_BOOL_b1)).other W10 (Or.inl ne_w_BOOL_b1)) (((((((((((F_w_BOOL_signed.ext O0.2).ext E1).other W2 (Or.inl ne_w_BOOL_b1)).other W3 (Or.inl ne_w_BOOL_b1)).other W4 (Or.inl ne_w_BOOL_b1)).other W5 (Or.inl ne_w_BOOL_b1)).other W6 (Or.inl ne_w_BOOL_b1)).other W7 (Or.inl ne_w_BOOL_b1)).other W8 (Or.inl ne_w_BOOL_b1)).other W9 (Or.inl ne_w_BOOL_b1)).other W10 (Or.inl ne_w_BOOL_b1)) (((((((((((E_w_UNSIGNED_INT.ext O0.2).ext E1).wr W2).wr W3).wr W4).wr W5).wr W6).wr W7).wr W8).wr W9).wr W10) (((((((((((F_w_UNSIGNED_INT_width.ext O0.2).ext E1).other W2 (Or.inl ne_w_UNSIGNED_INT_b1)).other W3 (Or.inl ne_w_UNSIGNED_INT_b1)).other W4 (Or.inl ne_w_UNSIGNED_INT_b1)).other W5 (Or.inl ne_w_UNSIGNED_INT_b1)).other W6 (Or.inl ne_w_UNSIGNED_INT_b1)).other W7 (Or.inl ne_w_UNSIGNED_INT_b1)).other W8 (Or.inl ne_w_UNSIGNED_INT_b1)).other W9 (Or.inl ne_w_UNSIGNED_INT_b1)).other W10 (Or.inl ne_w_UNSIGNED_INT_b1)) (((((((((((F_w_UNSIGNED_INT_signed.ext O0.2).ext E1).other W2 (Or.inl ne_w_UNSIGNED_INT_b1)).other W3 (Or.inl ne_w_UNSIGNED_INT_b1)).other W4 (Or.inl ne_w_UNSIGNED_INT_b1)).other W5 (Or.inl ne_w_UNSIGNED_INT_b1)).other W6 (Or.inl ne_w_UNSIGNED_INT_b1)).other W7 (Or.inl ne_w_UNSIGNED_INT_b1)).other W8 (Or.inl ne_w_UNSIGNED_INT_b1)).other W9 (Or.inl ne_w_UNSIGNED_INT_b1)).other W10 (Or.inl ne_w_UNSIGNED_INT_b1)) (by decide) (by decide)) at_113 rfl (lenOf own_pd2 rfl) rfl rfl rfl (by decide) (by decide) rfl rfl (by decide) (by decide) (own_kv fun v59 h59 q59 => ?_)
      obtain ⟨rfl, e59⟩ := q59
      rw [e59]
      rw [show own_com w_INT w_BOOL (1 : Int32) (0 : Int32) w_UNSIGNED_INT (32 : Int32) (0 : Int32) = w_UNSIGNED_INT from by simp [own_com]]
      refine own_aload 118 rfl at_116 rfl rfl ?_
      refine own_acmpNo 121 rfl at_118 rfl rfl (own_teq (rfl : ((.ref w_UNSIGNED_INT) : Value) = (.ref w_UNSIGNED_INT))).2 ?_
      refine own_iconst 122 rfl (1 : Int32) at_121 rfl ?_
      refine own_goto 126 at_122 (by decide) (by decide) ?_
      refine own_retN rfl (by simp) at_126 (by decide) (by decide) ?_
      exact ⟨_, rfl, rfl⟩
    · have hin_j := (rfl : (7 : Int) = 7)
      refine own_iloadN 81 rfl at_80 rfl ?_
      refine own_iconst 82 rfl (5 : Int32) at_81 rfl ?_
      refine own_callS 85 rfl 1 9 0 [(.int (0 : Int32)), (.int (5 : Int32))] [] (y := (⟨"java/lang/Math", "max", "(II)I"⟩ : MethodName)) (hw _ (List.mem_of_getElem? (i := 23) rfl)) (hw _ (List.mem_of_getElem? (i := 24) rfl)) (hw _ (List.mem_of_getElem? (i := 25) rfl)) (hw _ (List.mem_of_getElem? (i := 26) rfl)) (by decide) (rm1 l Z a0 hw [] (0 : Int32) (5 : Int32)  h10 ) at_82 rfl (lenOf own_pd1 rfl) rfl rfl rfl (by decide) (by decide) rfl rfl (by decide) (by decide) (own_kv fun v60 h60 q60 => ?_)
      obtain ⟨rfl, e60⟩ := q60
      rw [e60]
      rw [show (if (0 : Int32) < (5 : Int32) then (5 : Int32) else (0 : Int32)) = (5 : Int32) from by decide]
      refine own_istore 87 rfl #[.val (.int p1), .val (.int p2), .val (.ref b1), .val (.int (0 : Int32)), .val (.int (7 : Int32)), .val (.int (5 : Int32)), .unset, .unset] at_85 rfl ?_
      refine own_iload 89 rfl at_87 rfl ?_
      refine own_iconst 90 rfl (5 : Int32) at_89 rfl ?_
      refine own_callS 93 rfl 1 9 0 [(.int (7 : Int32)), (.int (5 : Int32))] [] (y := (⟨"java/lang/Math", "max", "(II)I"⟩ : MethodName)) (hw _ (List.mem_of_getElem? (i := 23) rfl)) (hw _ (List.mem_of_getElem? (i := 24) rfl)) (hw _ (List.mem_of_getElem? (i := 25) rfl)) (hw _ (List.mem_of_getElem? (i := 26) rfl)) (by decide) (rm1 l Z a0 hw [] (7 : Int32) (5 : Int32)  h10 ) at_90 rfl (lenOf own_pd1 rfl) rfl rfl rfl (by decide) (by decide) rfl rfl (by decide) (by decide) (own_kv fun v61 h61 q61 => ?_)
      obtain ⟨rfl, e61⟩ := q61
      rw [e61]
      rw [show (if (7 : Int32) < (5 : Int32) then (5 : Int32) else (7 : Int32)) = (7 : Int32) from by decide]
      refine own_istore 95 rfl #[.val (.int p1), .val (.int p2), .val (.ref b1), .val (.int (0 : Int32)), .val (.int (7 : Int32)), .val (.int (5 : Int32)), .val (.int (7 : Int32)), .unset] at_93 rfl ?_
      refine own_aloadN 96 rfl at_95 rfl rfl ?_
      refine own_iload 98 rfl at_96 rfl ?_
      refine own_iload 100 rfl at_98 rfl ?_
      refine own_callS 103 rfl 1 9 1 [(.int (5 : Int32)), (.int (7 : Int32))] [(.ref b1)] (y := (⟨"java/lang/Math", "max", "(II)I"⟩ : MethodName)) (hw _ (List.mem_of_getElem? (i := 23) rfl)) (hw _ (List.mem_of_getElem? (i := 24) rfl)) (hw _ (List.mem_of_getElem? (i := 25) rfl)) (hw _ (List.mem_of_getElem? (i := 26) rfl)) (by decide) (rm1 l Z a0 hw [] (5 : Int32) (7 : Int32)  h10 ) at_100 rfl (lenOf own_pd1 rfl) rfl rfl rfl (by decide) (by decide) rfl rfl (by decide) (by decide) (own_kv fun v62 h62 q62 => ?_)
      obtain ⟨rfl, e62⟩ := q62
      rw [e62]
      rw [show (if (5 : Int32) < (7 : Int32) then (7 : Int32) else (5 : Int32)) = (7 : Int32) from by decide]
      obtain ⟨c63, A63, q63, S63, N63, H63, G63⟩ := id V10
      refine own_aaload 104 rfl A63 rfl (inb_of S63 ⟨by decide, by decide⟩) (Has.at H63 (inb_of S63 ⟨by decide, by decide⟩) rfl) at_103 ?_
      refine own_astore 106 rfl #[.val (.int p1), .val (.int p2), .val (.ref b1), .val (.int (0 : Int32)), .val (.int (7 : Int32)), .val (.int (5 : Int32)), .val (.int (7 : Int32)), .val (.ref w_LONG_LONG)] at_104 rfl rfl ?_
      refine own_aloadN 107 rfl at_106 rfl rfl ?_
      refine own_iloadN 108 rfl at_107 rfl ?_
      obtain ⟨c64, A64, q64, S64, N64, H64, G64⟩ := id V10
      refine own_aaload 109 rfl A64 rfl (inb_of S64 ⟨by decide, by decide⟩) (Has.at H64 (inb_of S64 ⟨by decide, by decide⟩) rfl) at_108 ?_
      refine own_aloadN 110 rfl at_109 rfl rfl ?_
      refine own_iload 112 rfl at_110 rfl ?_
      obtain ⟨c65, A65, q65, S65, N65, H65, G65⟩ := id V10
      refine own_aaload 113 rfl A65 rfl (inb_of S65 ⟨by decide, by decide⟩) (Has.at H65 (inb_of S65 ⟨by decide, by decide⟩) rfl) at_112 ?_
      refine own_callS 116 rfl 1 9 0 [(.ref w_BOOL), (.ref w_LONG_LONG)] [] (y := (⟨"com/example/counterpath/counterpath/cfa/Type", "common", "(Lcom/example/counterpath/counterpath/cfa/Type;Lcom/example/counterpath/counterpath/cfa/Type;)Lcom/example/counterpath/counterpath/cfa/Type;"⟩ : MethodName)) (hw _ (List.mem_of_getElem? (i := 27) rfl)) (hw _ (List.mem_of_getElem? (i := 28) rfl)) (hw _ (List.mem_of_getElem? (i := 3) rfl)) (hw _ (List.mem_of_getElem? (i := 29) rfl)) (by decide) (rm2 l Z a0 hw [] w_BOOL w_LONG_LONG (1 : Int32) (0 : Int32) (64 : Int32) (1 : Int32) w_BOOL w_SIGNED_CHAR w_UNSIGNED_CHAR w_SHORT w_UNSIGNED_SHORT w_INT w_UNSIGNED_INT w_LONG_LONG w_UNSIGNED_LONG_LONG h10 I (((((((((((E_w_BOOL.ext O0.2).ext E1).wr W2).wr W3).wr W4).wr W5).wr W6).wr W7).wr W8).wr W9).wr W10) (((((((((((F_w_BOOL_width.ext O0.2).ext E1).other W2 (Or.inl ne_w_BOOL_b1)).other W3 (Or.inl ne_w_BOOL_b1)).other W4 (Or.inl ne_w_BOOL_b1)).other W5 (Or.inl ne_w_BOOL_b1)).other W6 (Or.inl ne_w_BOOL_b1)).other W7 (Or.inl ne_w_BOOL_b1)).other W8 (Or.inl ne_w_BOOL_b1)).other W9 (Or.inl ne_w_BOOL_b1)).other W10 (Or.inl ne_w_BOOL_b1)) (((((((((((F_w_BOOL_signed.ext O0.2).ext E1).other W2 (Or.inl ne_w_BOOL_b1)).other W3 (Or.inl ne_w_BOOL_b1)).other W4 (Or.inl ne_w_BOOL_b1)).other W5 (Or.inl ne_w_BOOL_b1)).other W6 (Or.inl ne_w_BOOL_b1)).other W7 (Or.inl ne_w_BOOL_b1)).other W8 (Or.inl ne_w_BOOL_b1)).other W9 (Or.inl ne_w_BOOL_b1)).other W10 (Or.inl ne_w_BOOL_b1)) (((((((((((E_w_LONG_LONG.ext O0.2).ext E1).wr W2).wr W3).wr W4).wr W5).wr W6).wr W7).wr W8).wr W9).wr W10) (((((((((((F_w_LONG_LONG_width.ext O0.2).ext E1).other W2 (Or.inl ne_w_LONG_LONG_b1)).other W3 (Or.inl ne_w_LONG_LONG_b1)).other W4 (Or.inl ne_w_LONG_LONG_b1)).other W5 (Or.inl ne_w_LONG_LONG_b1)).other W6 (Or.inl ne_w_LONG_LONG_b1)).other W7 (Or.inl ne_w_LONG_LONG_b1)).other W8 (Or.inl ne_w_LONG_LONG_b1)).other W9 (Or.inl ne_w_LONG_LONG_b1)).other W10 (Or.inl ne_w_LONG_LONG_b1)) (((((((((((F_w_LONG_LONG_signed.ext O0.2).ext E1).other W2 (Or.inl ne_w_LONG_LONG_b1)).other W3 (Or.inl ne_w_LONG_LONG_b1)).other W4 (Or.inl ne_w_LONG_LONG_b1)).other W5 (Or.inl ne_w_LONG_LONG_b1)).other W6 (Or.inl ne_w_LONG_LONG_b1)).other W7 (Or.inl ne_w_LONG_LONG_b1)).other W8 (Or.inl ne_w_LONG_LONG_b1)).other W9 (Or.inl ne_w_LONG_LONG_b1)).other W10 (Or.inl ne_w_LONG_LONG_b1)) (by decide) (by decide)) at_113 rfl (lenOf own_pd2 rfl) rfl rfl rfl (by decide) (by decide) rfl rfl (by decide) (by decide) (own_kv fun v66 h66 q66 => ?_)
      obtain ⟨rfl, e66⟩ := q66
      rw [e66]
      rw [show own_com w_INT w_BOOL (1 : Int32) (0 : Int32) w_LONG_LONG (64 : Int32) (1 : Int32) = w_LONG_LONG from by simp [own_com]]
      refine own_aload 118 rfl at_116 rfl rfl ?_
      refine own_acmpNo 121 rfl at_118 rfl rfl (own_teq (rfl : ((.ref w_LONG_LONG) : Value) = (.ref w_LONG_LONG))).2 ?_
      refine own_iconst 122 rfl (1 : Int32) at_121 rfl ?_
      refine own_goto 126 at_122 (by decide) (by decide) ?_
      refine own_retN rfl (by simp) at_126 (by decide) (by decide) ?_
      exact ⟨_, rfl, rfl⟩
    · have hin_j := (rfl : (8 : Int) = 8)
      refine own_iloadN 81 rfl at_80 rfl ?_
      refine own_iconst 82 rfl (5 : Int32) at_81 rfl ?_
      refine own_callS 85 rfl 1 9 0 [(.int (0 : Int32)), (.int (5 : Int32))] [] (y := (⟨"java/lang/Math", "max", "(II)I"⟩ : MethodName)) (hw _ (List.mem_of_getElem? (i := 23) rfl)) (hw _ (List.mem_of_getElem? (i := 24) rfl)) (hw _ (List.mem_of_getElem? (i := 25) rfl)) (hw _ (List.mem_of_getElem? (i := 26) rfl)) (by decide) (rm1 l Z a0 hw [] (0 : Int32) (5 : Int32)  h10 ) at_82 rfl (lenOf own_pd1 rfl) rfl rfl rfl (by decide) (by decide) rfl rfl (by decide) (by decide) (own_kv fun v67 h67 q67 => ?_)
      obtain ⟨rfl, e67⟩ := q67
      rw [e67]
      rw [show (if (0 : Int32) < (5 : Int32) then (5 : Int32) else (0 : Int32)) = (5 : Int32) from by decide]
      refine own_istore 87 rfl #[.val (.int p1), .val (.int p2), .val (.ref b1), .val (.int (0 : Int32)), .val (.int (8 : Int32)), .val (.int (5 : Int32)), .unset, .unset] at_85 rfl ?_
      refine own_iload 89 rfl at_87 rfl ?_
      refine own_iconst 90 rfl (5 : Int32) at_89 rfl ?_
      refine own_callS 93 rfl 1 9 0 [(.int (8 : Int32)), (.int (5 : Int32))] [] (y := (⟨"java/lang/Math", "max", "(II)I"⟩ : MethodName)) (hw _ (List.mem_of_getElem? (i := 23) rfl)) (hw _ (List.mem_of_getElem? (i := 24) rfl)) (hw _ (List.mem_of_getElem? (i := 25) rfl)) (hw _ (List.mem_of_getElem? (i := 26) rfl)) (by decide) (rm1 l Z a0 hw [] (8 : Int32) (5 : Int32)  h10 ) at_90 rfl (lenOf own_pd1 rfl) rfl rfl rfl (by decide) (by decide) rfl rfl (by decide) (by decide) (own_kv fun v68 h68 q68 => ?_)
      obtain ⟨rfl, e68⟩ := q68
      rw [e68]
      rw [show (if (8 : Int32) < (5 : Int32) then (5 : Int32) else (8 : Int32)) = (8 : Int32) from by decide]
      refine own_istore 95 rfl #[.val (.int p1), .val (.int p2), .val (.ref b1), .val (.int (0 : Int32)), .val (.int (8 : Int32)), .val (.int (5 : Int32)), .val (.int (8 : Int32)), .unset] at_93 rfl ?_
      refine own_aloadN 96 rfl at_95 rfl rfl ?_
      refine own_iload 98 rfl at_96 rfl ?_
      refine own_iload 100 rfl at_98 rfl ?_
      refine own_callS 103 rfl 1 9 1 [(.int (5 : Int32)), (.int (8 : Int32))] [(.ref b1)] (y := (⟨"java/lang/Math", "max", "(II)I"⟩ : MethodName)) (hw _ (List.mem_of_getElem? (i := 23) rfl)) (hw _ (List.mem_of_getElem? (i := 24) rfl)) (hw _ (List.mem_of_getElem? (i := 25) rfl)) (hw _ (List.mem_of_getElem? (i := 26) rfl)) (by decide) (rm1 l Z a0 hw [] (5 : Int32) (8 : Int32)  h10 ) at_100 rfl (lenOf own_pd1 rfl) rfl rfl rfl (by decide) (by decide) rfl rfl (by decide) (by decide) (own_kv fun v69 h69 q69 => ?_)
      obtain ⟨rfl, e69⟩ := q69
      rw [e69]
      rw [show (if (5 : Int32) < (8 : Int32) then (8 : Int32) else (5 : Int32)) = (8 : Int32) from by decide]
      obtain ⟨c70, A70, q70, S70, N70, H70, G70⟩ := id V10
      refine own_aaload 104 rfl A70 rfl (inb_of S70 ⟨by decide, by decide⟩) (Has.at H70 (inb_of S70 ⟨by decide, by decide⟩) rfl) at_103 ?_
      refine own_astore 106 rfl #[.val (.int p1), .val (.int p2), .val (.ref b1), .val (.int (0 : Int32)), .val (.int (8 : Int32)), .val (.int (5 : Int32)), .val (.int (8 : Int32)), .val (.ref w_UNSIGNED_LONG_LONG)] at_104 rfl rfl ?_
      refine own_aloadN 107 rfl at_106 rfl rfl ?_
      refine own_iloadN 108 rfl at_107 rfl ?_
      obtain ⟨c71, A71, q71, S71, N71, H71, G71⟩ := id V10
      refine own_aaload 109 rfl A71 rfl (inb_of S71 ⟨by decide, by decide⟩) (Has.at H71 (inb_of S71 ⟨by decide, by decide⟩) rfl) at_108 ?_
      refine own_aloadN 110 rfl at_109 rfl rfl ?_
      refine own_iload 112 rfl at_110 rfl ?_
      obtain ⟨c72, A72, q72, S72, N72, H72, G72⟩ := id V10
      refine own_aaload 113 rfl A72 rfl (inb_of S72 ⟨by decide, by decide⟩) (Has.at H72 (inb_of S72 ⟨by decide, by decide⟩) rfl) at_112 ?_
      refine own_callS 116 rfl 1 9 0 [(.ref w_BOOL), (.ref w_UNSIGNED_LONG_LONG)] [] (y := (⟨"com/example/counterpath/counterpath/cfa/Type", "common", "(Lcom/example/counterpath/counterpath/cfa/Type;Lcom/example/counterpath/counterpath/cfa/Type;)Lcom/example/counterpath/counterpath/cfa/Type;"⟩ : MethodName)) (hw _ (List.mem_of_getElem? (i := 27) rfl)) (hw _ (List.mem_of_getElem? (i := 28) rfl)) (hw _ (List.mem_of_getElem? (i := 3) rfl)) (hw _ (List.mem_of_getElem? (i := 29) rfl)) (by decide) (rm2 l Z a0 hw [] w_BOOL w_UNSIGNED_LONG_LONG (1 : Int32) (0 : Int32) (64 : Int32) (0 : Int32) w_BOOL w_SIGNED_CHAR w_UNSIGNED_CHAR w_SHORT w_UNSIGNED_SHORT w_INT w_UNSIGNED_INT w_LONG_LONG w_UNSIGNED_LONG_LONG h10 I (((((((((((E_w_BOOL.ext O0.2).ext E1).wr W2).wr W3).wr W4).wr W5).wr W6).wr W7).wr W8).wr W9).wr W10) (((((((((((F_w_BOOL_width.ext O0.2).ext E1).other W2 (Or.inl ne_w_BOOL_b1)).other W3 (Or.inl ne_w_BOOL_b1)).other W4 (Or.inl ne_w_BOOL_b1)).other W5 (Or.inl ne_w_BOOL_b1)).other W6 (Or.inl ne_w_BOOL_b1)).other W7 (Or.inl ne_w_BOOL_b1)).other W8 (Or.inl ne_w_BOOL_b1)).other W9 (Or.inl ne_w_BOOL_b1)).other W10 (Or.inl ne_w_BOOL_b1)) (((((((((((F_w_BOOL_signed.ext O0.2).ext E1).other W2 (Or.inl ne_w_BOOL_b1)).other W3 (Or.inl ne_w_BOOL_b1)).other W4 (Or.inl ne_w_BOOL_b1)).other W5 (Or.inl ne_w_BOOL_b1)).other W6 (Or.inl ne_w_BOOL_b1)).other W7 (Or.inl ne_w_BOOL_b1)).other W8 (Or.inl ne_w_BOOL_b1)).other W9 (Or.inl ne_w_BOOL_b1)).other W10 (Or.inl ne_w_BOOL_b1)) (((((((((((E_w_UNSIGNED_LONG_LONG.ext O0.2).ext E1).wr W2).wr W3).wr W4).wr W5).wr W6).wr W7).wr W8).wr W9).wr W10) (((((((((((F_w_UNSIGNED_LONG_LONG_width.ext O0.2).ext E1).other W2 (Or.inl ne_w_UNSIGNED_LONG_LONG_b1)).other W3 (Or.inl ne_w_UNSIGNED_LONG_LONG_b1)).other W4 (Or.inl ne_w_UNSIGNED_LONG_LONG_b1)).other W5 (Or.inl ne_w_UNSIGNED_LONG_LONG_b1)).other W6 (Or.inl ne_w_UNSIGNED_LONG_LONG_b1)).other W7 (Or.inl ne_w_UNSIGNED_LONG_LONG_b1)).other W8 (Or.inl ne_w_UNSIGNED_LONG_LONG_b1)).other W9 (Or.inl ne_w_UNSIGNED_LONG_LONG_b1)).other W10 (Or.inl ne_w_UNSIGNED_LONG_LONG_b1)) (((((((((((F_w_UNSIGNED_LONG_LONG_signed.ext O0.2).ext E1).other W2 (Or.inl ne_w_UNSIGNED_LONG_LONG_b1)).other W3 (Or.inl ne_w_UNSIGNED_LONG_LONG_b1)).other W4 (Or.inl ne_w_UNSIGNED_LONG_LONG_b1)).other W5 (Or.inl ne_w_UNSIGNED_LONG_LONG_b1)).other W6 (Or.inl ne_w_UNSIGNED_LONG_LONG_b1)).other W7 (Or.inl ne_w_UNSIGNED_LONG_LONG_b1)).other W8 (Or.inl ne_w_UNSIGNED_LONG_LONG_b1)).other W9 (Or.inl ne_w_UNSIGNED_LONG_LONG_b1)).other W10 (Or.inl ne_w_UNSIGNED_LONG_LONG_b1)) (by decide) (by decide)) at_113 rfl (lenOf own_pd2 rfl) rfl rfl rfl (by decide) (by decide) rfl rfl (by decide) (by decide) (own_kv fun v73 h73 q73 => ?_)
      obtain ⟨rfl, e73⟩ := q73
      rw [e73]
      rw [show own_com w_INT w_BOOL (1 : Int32) (0 : Int32) w_UNSIGNED_LONG_LONG (64 : Int32) (0 : Int32) = w_UNSIGNED_LONG_LONG from by simp [own_com]]
      refine own_aload 118 rfl at_116 rfl rfl ?_
      refine own_acmpNo 121 rfl at_118 rfl rfl (own_teq (rfl : ((.ref w_UNSIGNED_LONG_LONG) : Value) = (.ref w_UNSIGNED_LONG_LONG))).2 ?_
      refine own_iconst 122 rfl (1 : Int32) at_121 rfl ?_
      refine own_goto 126 at_122 (by decide) (by decide) ?_
      refine own_retN rfl (by simp) at_126 (by decide) (by decide) ?_
      exact ⟨_, rfl, rfl⟩
  · have hin_k := (rfl : (1 : Int) = 1)
    have hr_j : j = (0 : Int32) ∨ j = (1 : Int32) ∨ j = (2 : Int32) ∨ j = (3 : Int32) ∨ j = (4 : Int32) ∨ j = (5 : Int32) ∨ j = (6 : Int32) ∨ j = (7 : Int32) ∨ j = (8 : Int32) := by
      have hrz : j.toInt = 0 ∨ j.toInt = 1 ∨ j.toInt = 2 ∨ j.toInt = 3 ∨ j.toInt = 4 ∨ j.toInt = 5 ∨ j.toInt = 6 ∨ j.toInt = 7 ∨ j.toInt = 8 := by omega
      rcases hrz with q | q | q | q | q | q | q | q | q
      · exact Or.inl (own_eq' q)
      · exact Or.inr (Or.inl (own_eq' q))
      · exact Or.inr (Or.inr (Or.inl (own_eq' q)))
      · exact Or.inr (Or.inr (Or.inr (Or.inl (own_eq' q))))
      · exact Or.inr (Or.inr (Or.inr (Or.inr (Or.inl (own_eq' q)))))
      · exact Or.inr (Or.inr (Or.inr (Or.inr (Or.inr (Or.inl (own_eq' q))))))
      · exact Or.inr (Or.inr (Or.inr (Or.inr (Or.inr (Or.inr (Or.inl (own_eq' q)))))))
      · exact Or.inr (Or.inr (Or.inr (Or.inr (Or.inr (Or.inr (Or.inr (Or.inl (own_eq' q))))))))
      · exact Or.inr (Or.inr (Or.inr (Or.inr (Or.inr (Or.inr (Or.inr (Or.inr (own_eq' q))))))))
    rcases hr_j with rfl | rfl | rfl | rfl | rfl | rfl | rfl | rfl | rfl
    · have hin_j := (rfl : (0 : Int) = 0)
      refine own_iloadN 81 rfl at_80 rfl ?_
      refine own_iconst 82 rfl (5 : Int32) at_81 rfl ?_
      refine own_callS 85 rfl 1 9 0 [(.int (1 : Int32)), (.int (5 : Int32))] [] (y := (⟨"java/lang/Math", "max", "(II)I"⟩ : MethodName)) (hw _ (List.mem_of_getElem? (i := 23) rfl)) (hw _ (List.mem_of_getElem? (i := 24) rfl)) (hw _ (List.mem_of_getElem? (i := 25) rfl)) (hw _ (List.mem_of_getElem? (i := 26) rfl)) (by decide) (rm1 l Z a0 hw [] (1 : Int32) (5 : Int32)  h10 ) at_82 rfl (lenOf own_pd1 rfl) rfl rfl rfl (by decide) (by decide) rfl rfl (by decide) (by decide) (own_kv fun v74 h74 q74 => ?_)
      obtain ⟨rfl, e74⟩ := q74
      rw [e74]
      rw [show (if (1 : Int32) < (5 : Int32) then (5 : Int32) else (1 : Int32)) = (5 : Int32) from by decide]
      refine own_istore 87 rfl #[.val (.int p1), .val (.int p2), .val (.ref b1), .val (.int (1 : Int32)), .val (.int (0 : Int32)), .val (.int (5 : Int32)), .unset, .unset] at_85 rfl ?_
      refine own_iload 89 rfl at_87 rfl ?_
      refine own_iconst 90 rfl (5 : Int32) at_89 rfl ?_
      refine own_callS 93 rfl 1 9 0 [(.int (0 : Int32)), (.int (5 : Int32))] [] (y := (⟨"java/lang/Math", "max", "(II)I"⟩ : MethodName)) (hw _ (List.mem_of_getElem? (i := 23) rfl)) (hw _ (List.mem_of_getElem? (i := 24) rfl)) (hw _ (List.mem_of_getElem? (i := 25) rfl)) (hw _ (List.mem_of_getElem? (i := 26) rfl)) (by decide) (rm1 l Z a0 hw [] (0 : Int32) (5 : Int32)  h10 ) at_90 rfl (lenOf own_pd1 rfl) rfl rfl rfl (by decide) (by decide) rfl rfl (by decide) (by decide) (own_kv fun v75 h75 q75 => ?_)
      obtain ⟨rfl, e75⟩ := q75
      rw [e75]
      rw [show (if (0 : Int32) < (5 : Int32) then (5 : Int32) else (0 : Int32)) = (5 : Int32) from by decide]
      refine own_istore 95 rfl #[.val (.int p1), .val (.int p2), .val (.ref b1), .val (.int (1 : Int32)), .val (.int (0 : Int32)), .val (.int (5 : Int32)), .val (.int (5 : Int32)), .unset] at_93 rfl ?_
      refine own_aloadN 96 rfl at_95 rfl rfl ?_
      refine own_iload 98 rfl at_96 rfl ?_
      refine own_iload 100 rfl at_98 rfl ?_
      refine own_callS 103 rfl 1 9 1 [(.int (5 : Int32)), (.int (5 : Int32))] [(.ref b1)] (y := (⟨"java/lang/Math", "max", "(II)I"⟩ : MethodName)) (hw _ (List.mem_of_getElem? (i := 23) rfl)) (hw _ (List.mem_of_getElem? (i := 24) rfl)) (hw _ (List.mem_of_getElem? (i := 25) rfl)) (hw _ (List.mem_of_getElem? (i := 26) rfl)) (by decide) (rm1 l Z a0 hw [] (5 : Int32) (5 : Int32)  h10 ) at_100 rfl (lenOf own_pd1 rfl) rfl rfl rfl (by decide) (by decide) rfl rfl (by decide) (by decide) (own_kv fun v76 h76 q76 => ?_)
      obtain ⟨rfl, e76⟩ := q76
      rw [e76]
      rw [show (if (5 : Int32) < (5 : Int32) then (5 : Int32) else (5 : Int32)) = (5 : Int32) from by decide]
      obtain ⟨c77, A77, q77, S77, N77, H77, G77⟩ := id V10
      refine own_aaload 104 rfl A77 rfl (inb_of S77 ⟨by decide, by decide⟩) (Has.at H77 (inb_of S77 ⟨by decide, by decide⟩) rfl) at_103 ?_
      refine own_astore 106 rfl #[.val (.int p1), .val (.int p2), .val (.ref b1), .val (.int (1 : Int32)), .val (.int (0 : Int32)), .val (.int (5 : Int32)), .val (.int (5 : Int32)), .val (.ref w_INT)] at_104 rfl rfl ?_
      refine own_aloadN 107 rfl at_106 rfl rfl ?_
      refine own_iloadN 108 rfl at_107 rfl ?_
      obtain ⟨c78, A78, q78, S78, N78, H78, G78⟩ := id V10
      refine own_aaload 109 rfl A78 rfl (inb_of S78 ⟨by decide, by decide⟩) (Has.at H78 (inb_of S78 ⟨by decide, by decide⟩) rfl) at_108 ?_
      refine own_aloadN 110 rfl at_109 rfl rfl ?_
      refine own_iload 112 rfl at_110 rfl ?_
      obtain ⟨c79, A79, q79, S79, N79, H79, G79⟩ := id V10
      refine own_aaload 113 rfl A79 rfl (inb_of S79 ⟨by decide, by decide⟩) (Has.at H79 (inb_of S79 ⟨by decide, by decide⟩) rfl) at_112 ?_
      refine own_callS 116 rfl 1 9 0 [(.ref w_SIGNED_CHAR), (.ref w_BOOL)] [] (y := (⟨"com/example/counterpath/counterpath/cfa/Type", "common", "(Lcom/example/counterpath/counterpath/cfa/Type;Lcom/example/counterpath/counterpath/cfa/Type;)Lcom/example/counterpath/counterpath/cfa/Type;"⟩ : MethodName)) (hw _ (List.mem_of_getElem? (i := 27) rfl)) (hw _ (List.mem_of_getElem? (i := 28) rfl)) (hw _ (List.mem_of_getElem? (i := 3) rfl)) (hw _ (List.mem_of_getElem? (i := 29) rfl)) (by decide) (rm2 l Z a0 hw [] w_SIGNED_CHAR w_BOOL (8 : Int32) (1 : Int32) (1 : Int32) (0 : Int32) w_BOOL w_SIGNED_CHAR w_UNSIGNED_CHAR w_SHORT w_UNSIGNED_SHORT w_INT w_UNSIGNED_INT w_LONG_LONG w_UNSIGNED_LONG_LONG h10 I (((((((((((E_w_SIGNED_CHAR.ext O0.2).ext E1).wr W2).wr W3).wr W4).wr W5).wr W6).wr W7).wr W8).wr W9).wr W10) (((((((((((F_w_SIGNED_CHAR_width.ext O0.2).ext E1).other W2 (Or.inl ne_w_SIGNED_CHAR_b1)).other W3 (Or.inl ne_w_SIGNED_CHAR_b1)).other W4 (Or.inl ne_w_SIGNED_CHAR_b1)).other W5 (Or.inl ne_w_SIGNED_CHAR_b1)).other W6 (Or.inl ne_w_SIGNED_CHAR_b1)).other W7 (Or.inl ne_w_SIGNED_CHAR_b1)).other W8 (Or.inl ne_w_SIGNED_CHAR_b1)).other W9 (Or.inl ne_w_SIGNED_CHAR_b1)).other W10 (Or.inl ne_w_SIGNED_CHAR_b1)) (((((((((((F_w_SIGNED_CHAR_signed.ext O0.2).ext E1).other W2 (Or.inl ne_w_SIGNED_CHAR_b1)).other W3 (Or.inl ne_w_SIGNED_CHAR_b1)).other W4 (Or.inl ne_w_SIGNED_CHAR_b1)).other W5 (Or.inl ne_w_SIGNED_CHAR_b1)).other W6 (Or.inl ne_w_SIGNED_CHAR_b1)).other W7 (Or.inl ne_w_SIGNED_CHAR_b1)).other W8 (Or.inl ne_w_SIGNED_CHAR_b1)).other W9 (Or.inl ne_w_SIGNED_CHAR_b1)).other W10 (Or.inl ne_w_SIGNED_CHAR_b1)) (((((((((((E_w_BOOL.ext O0.2).ext E1).wr W2).wr W3).wr W4).wr W5).wr W6).wr W7).wr W8).wr W9).wr W10) (((((((((((F_w_BOOL_width.ext O0.2).ext E1).other W2 (Or.inl ne_w_BOOL_b1)).other W3 (Or.inl ne_w_BOOL_b1)).other W4 (Or.inl ne_w_BOOL_b1)).other W5 (Or.inl ne_w_BOOL_b1)).other W6 (Or.inl ne_w_BOOL_b1)).other W7 (Or.inl ne_w_BOOL_b1)).other W8 (Or.inl ne_w_BOOL_b1)).other W9 (Or.inl ne_w_BOOL_b1)).other W10 (Or.inl ne_w_BOOL_b1)) (((((((((((F_w_BOOL_signed.ext O0.2).ext E1).other W2 (Or.inl ne_w_BOOL_b1)).other W3 (Or.inl ne_w_BOOL_b1)).other W4 (Or.inl ne_w_BOOL_b1)).other W5 (Or.inl ne_w_BOOL_b1)).other W6 (Or.inl ne_w_BOOL_b1)).other W7 (Or.inl ne_w_BOOL_b1)).other W8 (Or.inl ne_w_BOOL_b1)).other W9 (Or.inl ne_w_BOOL_b1)).other W10 (Or.inl ne_w_BOOL_b1)) (by decide) (by decide)) at_113 rfl (lenOf own_pd2 rfl) rfl rfl rfl (by decide) (by decide) rfl rfl (by decide) (by decide) (own_kv fun v80 h80 q80 => ?_)
      obtain ⟨rfl, e80⟩ := q80
      rw [e80]
      rw [show own_com w_INT w_SIGNED_CHAR (8 : Int32) (1 : Int32) w_BOOL (1 : Int32) (0 : Int32) = w_INT from by simp [own_com]]
      refine own_aload 118 rfl at_116 rfl rfl ?_
      refine own_acmpNo 121 rfl at_118 rfl rfl (own_teq (rfl : ((.ref w_INT) : Value) = (.ref w_INT))).2 ?_
      refine own_iconst 122 rfl (1 : Int32) at_121 rfl ?_
      refine own_goto 126 at_122 (by decide) (by decide) ?_
      refine own_retN rfl (by simp) at_126 (by decide) (by decide) ?_
      exact ⟨_, rfl, rfl⟩
    · have hin_j := (rfl : (1 : Int) = 1)
      refine own_iloadN 81 rfl at_80 rfl ?_
      refine own_iconst 82 rfl (5 : Int32) at_81 rfl ?_
      refine own_callS 85 rfl 1 9 0 [(.int (1 : Int32)), (.int (5 : Int32))] [] (y := (⟨"java/lang/Math", "max", "(II)I"⟩ : MethodName)) (hw _ (List.mem_of_getElem? (i := 23) rfl)) (hw _ (List.mem_of_getElem? (i := 24) rfl)) (hw _ (List.mem_of_getElem? (i := 25) rfl)) (hw _ (List.mem_of_getElem? (i := 26) rfl)) (by decide) (rm1 l Z a0 hw [] (1 : Int32) (5 : Int32)  h10 ) at_82 rfl (lenOf own_pd1 rfl) rfl rfl rfl (by decide) (by decide) rfl rfl (by decide) (by decide) (own_kv fun v81 h81 q81 => ?_)
      obtain ⟨rfl, e81⟩ := q81
      rw [e81]
      rw [show (if (1 : Int32) < (5 : Int32) then (5 : Int32) else (1 : Int32)) = (5 : Int32) from by decide]
      refine own_istore 87 rfl #[.val (.int p1), .val (.int p2), .val (.ref b1), .val (.int (1 : Int32)), .val (.int (1 : Int32)), .val (.int (5 : Int32)), .unset, .unset] at_85 rfl ?_
      refine own_iload 89 rfl at_87 rfl ?_
      refine own_iconst 90 rfl (5 : Int32) at_89 rfl ?_
      refine own_callS 93 rfl 1 9 0 [(.int (1 : Int32)), (.int (5 : Int32))] [] (y := (⟨"java/lang/Math", "max", "(II)I"⟩ : MethodName)) (hw _ (List.mem_of_getElem? (i := 23) rfl)) (hw _ (List.mem_of_getElem? (i := 24) rfl)) (hw _ (List.mem_of_getElem? (i := 25) rfl)) (hw _ (List.mem_of_getElem? (i := 26) rfl)) (by decide) (rm1 l Z a0 hw [] (1 : Int32) (5 : Int32)  h10 ) at_90 rfl (lenOf own_pd1 rfl) rfl rfl rfl (by decide) (by decide) rfl rfl (by decide) (by decide) (own_kv fun v82 h82 q82 => ?_)
      obtain ⟨rfl, e82⟩ := q82
      rw [e82]
      rw [show (if (1 : Int32) < (5 : Int32) then (5 : Int32) else (1 : Int32)) = (5 : Int32) from by decide]
      refine own_istore 95 rfl #[.val (.int p1), .val (.int p2), .val (.ref b1), .val (.int (1 : Int32)), .val (.int (1 : Int32)), .val (.int (5 : Int32)), .val (.int (5 : Int32)), .unset] at_93 rfl ?_
      refine own_aloadN 96 rfl at_95 rfl rfl ?_
      refine own_iload 98 rfl at_96 rfl ?_
      refine own_iload 100 rfl at_98 rfl ?_
      refine own_callS 103 rfl 1 9 1 [(.int (5 : Int32)), (.int (5 : Int32))] [(.ref b1)] (y := (⟨"java/lang/Math", "max", "(II)I"⟩ : MethodName)) (hw _ (List.mem_of_getElem? (i := 23) rfl)) (hw _ (List.mem_of_getElem? (i := 24) rfl)) (hw _ (List.mem_of_getElem? (i := 25) rfl)) (hw _ (List.mem_of_getElem? (i := 26) rfl)) (by decide) (rm1 l Z a0 hw [] (5 : Int32) (5 : Int32)  h10 ) at_100 rfl (lenOf own_pd1 rfl) rfl rfl rfl (by decide) (by decide) rfl rfl (by decide) (by decide) (own_kv fun v83 h83 q83 => ?_)
      obtain ⟨rfl, e83⟩ := q83
      rw [e83]
      rw [show (if (5 : Int32) < (5 : Int32) then (5 : Int32) else (5 : Int32)) = (5 : Int32) from by decide]
      obtain ⟨c84, A84, q84, S84, N84, H84, G84⟩ := id V10
      refine own_aaload 104 rfl A84 rfl (inb_of S84 ⟨by decide, by decide⟩) (Has.at H84 (inb_of S84 ⟨by decide, by decide⟩) rfl) at_103 ?_
      refine own_astore 106 rfl #[.val (.int p1), .val (.int p2), .val (.ref b1), .val (.int (1 : Int32)), .val (.int (1 : Int32)), .val (.int (5 : Int32)), .val (.int (5 : Int32)), .val (.ref w_INT)] at_104 rfl rfl ?_
      refine own_aloadN 107 rfl at_106 rfl rfl ?_
      refine own_iloadN 108 rfl at_107 rfl ?_
      obtain ⟨c85, A85, q85, S85, N85, H85, G85⟩ := id V10
      refine own_aaload 109 rfl A85 rfl (inb_of S85 ⟨by decide, by decide⟩) (Has.at H85 (inb_of S85 ⟨by decide, by decide⟩) rfl) at_108 ?_
      refine own_aloadN 110 rfl at_109 rfl rfl ?_
      refine own_iload 112 rfl at_110 rfl ?_
      obtain ⟨c86, A86, q86, S86, N86, H86, G86⟩ := id V10
      refine own_aaload 113 rfl A86 rfl (inb_of S86 ⟨by decide, by decide⟩) (Has.at H86 (inb_of S86 ⟨by decide, by decide⟩) rfl) at_112 ?_
      refine own_callS 116 rfl 1 9 0 [(.ref w_SIGNED_CHAR), (.ref w_SIGNED_CHAR)] [] (y := (⟨"com/example/counterpath/counterpath/cfa/Type", "common", "(Lcom/example/counterpath/counterpath/cfa/Type;Lcom/example/counterpath/counterpath/cfa/Type;)Lcom/example/counterpath/counterpath/cfa/Type;"⟩ : MethodName)) (hw _ (List.mem_of_getElem? (i := 27) rfl)) (hw _ (List.mem_of_getElem? (i := 28) rfl)) (hw _ (List.mem_of_getElem? (i := 3) rfl)) (hw _ (List.mem_of_getElem? (i := 29) rfl)) (by decide) (rm2 l Z a0 hw [] w_SIGNED_CHAR w_SIGNED_CHAR (8 : Int32) (1 : Int32) (8 : Int32) (1 : Int32) w_BOOL w_SIGNED_CHAR w_UNSIGNED_CHAR w_SHORT w_UNSIGNED_SHORT w_INT w_UNSIGNED_INT w_LONG_LONG w_UNSIGNED_LONG_LONG h10 I (((((((((((E_w_SIGNED_CHAR.ext O0.2).ext E1).wr W2).wr W3).wr W4).wr W5).wr W6).wr W7).wr W8).wr W9).wr W10) (((((((((((F_w_SIGNED_CHAR_width.ext O0.2).ext E1).other W2 (Or.inl ne_w_SIGNED_CHAR_b1)).other W3 (Or.inl ne_w_SIGNED_CHAR_b1)).other W4 (Or.inl ne_w_SIGNED_CHAR_b1)).other W5 (Or.inl ne_w_SIGNED_CHAR_b1)).other W6 (Or.inl ne_w_SIGNED_CHAR_b1)).other W7 (Or.inl ne_w_SIGNED_CHAR_b1)).other W8 (Or.inl ne_w_SIGNED_CHAR_b1)).other W9 (Or.inl ne_w_SIGNED_CHAR_b1)).other W10 (Or.inl ne_w_SIGNED_CHAR_b1)) (((((((((((F_w_SIGNED_CHAR_signed.ext O0.2).ext E1).other W2 (Or.inl ne_w_SIGNED_CHAR_b1)).other W3 (Or.inl ne_w_SIGNED_CHAR_b1)).other W4 (Or.inl ne_w_SIGNED_CHAR_b1)).other W5 (Or.inl ne_w_SIGNED_CHAR_b1)).other W6 (Or.inl ne_w_SIGNED_CHAR_b1)).other W7 (Or.inl ne_w_SIGNED_CHAR_b1)).other W8 (Or.inl ne_w_SIGNED_CHAR_b1)).other W9 (Or.inl ne_w_SIGNED_CHAR_b1)).other W10 (Or.inl ne_w_SIGNED_CHAR_b1)) (((((((((((E_w_SIGNED_CHAR.ext O0.2).ext E1).wr W2).wr W3).wr W4).wr W5).wr W6).wr W7).wr W8).wr W9).wr W10) (((((((((((F_w_SIGNED_CHAR_width.ext O0.2).ext E1).other W2 (Or.inl ne_w_SIGNED_CHAR_b1)).other W3 (Or.inl ne_w_SIGNED_CHAR_b1)).other W4 (Or.inl ne_w_SIGNED_CHAR_b1)).other W5 (Or.inl ne_w_SIGNED_CHAR_b1)).other W6 (Or.inl ne_w_SIGNED_CHAR_b1)).other W7 (Or.inl ne_w_SIGNED_CHAR_b1)).other W8 (Or.inl ne_w_SIGNED_CHAR_b1)).other W9 (Or.inl ne_w_SIGNED_CHAR_b1)).other W10 (Or.inl ne_w_SIGNED_CHAR_b1)) (((((((((((F_w_SIGNED_CHAR_signed.ext O0.2).ext E1).other W2 (Or.inl ne_w_SIGNED_CHAR_b1)).other W3 (Or.inl ne_w_SIGNED_CHAR_b1)).other W4 (Or.inl ne_w_SIGNED_CHAR_b1)).other W5 (Or.inl ne_w_SIGNED_CHAR_b1)).other W6 (Or.inl ne_w_SIGNED_CHAR_b1)).other W7 (Or.inl ne_w_SIGNED_CHAR_b1)).other W8 (Or.inl ne_w_SIGNED_CHAR_b1)).other W9 (Or.inl ne_w_SIGNED_CHAR_b1)).other W10 (Or.inl ne_w_SIGNED_CHAR_b1)) (by decide) (by decide)) at_113 rfl (lenOf own_pd2 rfl) rfl rfl rfl (by decide) (by decide) rfl rfl (by decide) (by decide) (own_kv fun v87 h87 q87 => ?_)
      obtain ⟨rfl, e87⟩ := q87
      rw [e87]
      rw [show own_com w_INT w_SIGNED_CHAR (8 : Int32) (1 : Int32) w_SIGNED_CHAR (8 : Int32) (1 : Int32) = w_INT from by simp [own_com]]
      refine own_aload 118 rfl at_116 rfl rfl ?_
      refine own_acmpNo 121 rfl at_118 rfl rfl (own_teq (rfl : ((.ref w_INT) : Value) = (.ref w_INT))).2 ?_
      refine own_iconst 122 rfl (1 : Int32) at_121 rfl ?_
      refine own_goto 126 at_122 (by decide) (by decide) ?_
      refine own_retN rfl (by simp) at_126 (by decide) (by decide) ?_
      exact ⟨_, rfl, rfl⟩
    · have hin_j := (rfl : (2 : Int) = 2)
      refine own_iloadN 81 rfl at_80 rfl ?_
      refine own_iconst 82 rfl (5 : Int32) at_81 rfl ?_
      refine own_callS 85 rfl 1 9 0 [(.int (1 : Int32)), (.int (5 : Int32))] [] (y := (⟨"java/lang/Math", "max", "(II)I"⟩ : MethodName)) (hw _ (List.mem_of_getElem? (i := 23) rfl)) (hw _ (List.mem_of_getElem? (i := 24) rfl)) (hw _ (List.mem_of_getElem? (i := 25) rfl)) (hw _ (List.mem_of_getElem? (i := 26) rfl)) (by decide) (rm1 l Z a0 hw [] (1 : Int32) (5 : Int32)  h10 ) at_82 rfl (lenOf own_pd1 rfl) rfl rfl rfl (by decide) (by decide) rfl rfl (by decide) (by decide) (own_kv fun v88 h88 q88 => ?_)
      obtain ⟨rfl, e88⟩ := q88
      rw [e88]
      rw [show (if (1 : Int32) < (5 : Int32) then (5 : Int32) else (1 : Int32)) = (5 : Int32) from by decide]
      refine own_istore 87 rfl #[.val (.int p1), .val (.int p2), .val (.ref b1), .val (.int (1 : Int32)), .val (.int (2 : Int32)), .val (.int (5 : Int32)), .unset, .unset] at_85 rfl ?_
      refine own_iload 89 rfl at_87 rfl ?_
      refine own_iconst 90 rfl (5 : Int32) at_89 rfl ?_
      refine own_callS 93 rfl 1 9 0 [(.int (2 : Int32)), (.int (5 : Int32))] [] (y := (⟨"java/lang/Math", "max", "(II)I"⟩ : MethodName)) (hw _ (List.mem_of_getElem? (i := 23) rfl)) (hw _ (List.mem_of_getElem? (i := 24) rfl)) (hw _ (List.mem_of_getElem? (i := 25) rfl)) (hw _ (List.mem_of_getElem? (i := 26) rfl)) (by decide) (rm1 l Z a0 hw [] (2 : Int32) (5 : Int32)  h10 ) at_90 rfl (lenOf own_pd1 rfl) rfl rfl rfl (by decide) (by decide) rfl rfl (by decide) (by decide) (own_kv fun v89 h89 q89 => ?_)
      obtain ⟨rfl, e89⟩ := q89
      rw [e89]
      rw [show (if (2 : Int32) < (5 : Int32) then (5 : Int32) else (2 : Int32)) = (5 : Int32) from by decide]
      refine own_istore 95 rfl #[.val (.int p1), .val (.int p2), .val (.ref b1), .val (.int (1 : Int32)), .val (.int (2 : Int32)), .val (.int (5 : Int32)), .val (.int (5 : Int32)), .unset] at_93 rfl ?_
      refine own_aloadN 96 rfl at_95 rfl rfl ?_
      refine own_iload 98 rfl at_96 rfl ?_
      refine own_iload 100 rfl at_98 rfl ?_
      refine own_callS 103 rfl 1 9 1 [(.int (5 : Int32)), (.int (5 : Int32))] [(.ref b1)] (y := (⟨"java/lang/Math", "max", "(II)I"⟩ : MethodName)) (hw _ (List.mem_of_getElem? (i := 23) rfl)) (hw _ (List.mem_of_getElem? (i := 24) rfl)) (hw _ (List.mem_of_getElem? (i := 25) rfl)) (hw _ (List.mem_of_getElem? (i := 26) rfl)) (by decide) (rm1 l Z a0 hw [] (5 : Int32) (5 : Int32)  h10 ) at_100 rfl (lenOf own_pd1 rfl) rfl rfl rfl (by decide) (by decide) rfl rfl (by decide) (by decide) (own_kv fun v90 h90 q90 => ?_)
      obtain ⟨rfl, e90⟩ := q90
      rw [e90]
      rw [show (if (5 : Int32) < (5 : Int32) then (5 : Int32) else (5 : Int32)) = (5 : Int32) from by decide]
      obtain ⟨c91, A91, q91, S91, N91, H91, G91⟩ := id V10
      refine own_aaload 104 rfl A91 rfl (inb_of S91 ⟨by decide, by decide⟩) (Has.at H91 (inb_of S91 ⟨by decide, by decide⟩) rfl) at_103 ?_
      refine own_astore 106 rfl #[.val (.int p1), .val (.int p2), .val (.ref b1), .val (.int (1 : Int32)), .val (.int (2 : Int32)), .val (.int (5 : Int32)), .val (.int (5 : Int32)), .val (.ref w_INT)] at_104 rfl rfl ?_
      refine own_aloadN 107 rfl at_106 rfl rfl ?_
      refine own_iloadN 108 rfl at_107 rfl ?_
      obtain ⟨c92, A92, q92, S92, N92, H92, G92⟩ := id V10
      refine own_aaload 109 rfl A92 rfl (inb_of S92 ⟨by decide, by decide⟩) (Has.at H92 (inb_of S92 ⟨by decide, by decide⟩) rfl) at_108 ?_
      refine own_aloadN 110 rfl at_109 rfl rfl ?_
      refine own_iload 112 rfl at_110 rfl ?_
      obtain ⟨c93, A93, q93, S93, N93, H93, G93⟩ := id V10
      refine own_aaload 113 rfl A93 rfl (inb_of S93 ⟨by decide, by decide⟩) (Has.at H93 (inb_of S93 ⟨by decide, by decide⟩) rfl) at_112 ?_
      refine own_callS 116 rfl 1 9 0 [(.ref w_SIGNED_CHAR), (.ref w_UNSIGNED_CHAR)] [] (y := (⟨"com/example/counterpath/counterpath/cfa/Type", "common", "(Lcom/example/counterpath/counterpath/cfa/Type;Lcom/example/counterpath/counterpath/cfa/Type;)Lcom/example/counterpath/counterpath/cfa/Type;"⟩ : MethodName)) (hw _ (List.mem_of_getElem? (i := 27) rfl)) (hw _ (List.mem_of_getElem? (i := 28) rfl)) (hw _ (List.mem_of_getElem? (i := 3) rfl)) (hw _ (List.mem_of_getElem? (i := 29) rfl)) (by decide) (rm2 l Z a0 hw [] w_SIGNED_CHAR w_UNSIGNED_CHAR (8 : Int32) (1 : Int32) (8 : Int32) (0 : Int32) w_BOOL w_SIGNED_CHAR w_UNSIGNED_CHAR w_SHORT w_UNSIGNED_SHORT w_INT w_UNSIGNED_INT w_LONG_LONG w_UNSIGNED_LONG_LONG h10 I (((((((((((E_w_SIGNED_CHAR.ext O0.2).ext E1).wr W2).wr W3).wr W4).wr W5).wr W6).wr W7).wr W8).wr W9).wr W10) (((((((((((F_w_SIGNED_CHAR_width.ext O0.2).ext E1).other W2 (Or.inl ne_w_SIGNED_CHAR_b1)).other W3 (Or.inl ne_w_SIGNED_CHAR_b1)).other W4 (Or.inl ne_w_SIGNED_CHAR_b1)).other W5 (Or.inl ne_w_SIGNED_CHAR_b1)).other W6 (Or.inl ne_w_SIGNED_CHAR_b1)).other W7 (Or.inl ne_w_SIGNED_CHAR_b1)).other W8 (Or.inl ne_w_SIGNED_CHAR_b1)).other W9 (Or.inl ne_w_SIGNED_CHAR_b1)).other W10 (Or.inl ne_w_SIGNED_CHAR_b1)) (((((((((((F_w_SIGNED_CHAR_signed.ext O0.2).ext E1).other W2 (Or.inl ne_w_SIGNED_CHAR_b1)).other W3 (Or.inl ne_w_SIGNED_CHAR_b1)).other W4 (Or.inl ne_w_SIGNED_CHAR_b1)).other W5 (Or.inl ne_w_SIGNED_CHAR_b1)).other W6 (Or.inl ne_w_SIGNED_CHAR_b1)).other W7 (Or.inl ne_w_SIGNED_CHAR_b1)).other W8 (Or.inl ne_w_SIGNED_CHAR_b1)).other W9 (Or.inl ne_w_SIGNED_CHAR_b1)).other W10 (Or.inl ne_w_SIGNED_CHAR_b1)) (((((((((((E_w_UNSIGNED_CHAR.ext O0.2).ext E1).wr W2).wr W3).wr W4).wr W5).wr W6).wr W7).wr W8).wr W9).wr W10) (((((((((((F_w_UNSIGNED_CHAR_width.ext O0.2).ext E1).other W2 (Or.inl ne_w_UNSIGNED_CHAR_b1)).other W3 (Or.inl ne_w_UNSIGNED_CHAR_b1)).other W4 (Or.inl ne_w_UNSIGNED_CHAR_b1)).other W5 (Or.inl ne_w_UNSIGNED_CHAR_b1)).other W6 (Or.inl ne_w_UNSIGNED_CHAR_b1)).other W7 (Or.inl ne_w_UNSIGNED_CHAR_b1)).other W8 (Or.inl ne_w_UNSIGNED_CHAR_b1)).other W9 (Or.inl ne_w_UNSIGNED_CHAR_b1)).other W10 (Or.inl ne_w_UNSIGNED_CHAR_b1)) (((((((((((F_w_UNSIGNED_CHAR_signed.ext O0.2).ext E1).other W2 (Or.inl ne_w_UNSIGNED_CHAR_b1)).other W3 (Or.inl ne_w_UNSIGNED_CHAR_b1)).other W4 (Or.inl ne_w_UNSIGNED_CHAR_b1)).other W5 (Or.inl ne_w_UNSIGNED_CHAR_b1)).other W6 (Or.inl ne_w_UNSIGNED_CHAR_b1)).other W7 (Or.inl ne_w_UNSIGNED_CHAR_b1)).other W8 (Or.inl ne_w_UNSIGNED_CHAR_b1)).other W9 (Or.inl ne_w_UNSIGNED_CHAR_b1)).other W10 (Or.inl ne_w_UNSIGNED_CHAR_b1)) (by decide) (by decide)) at_113 rfl (lenOf own_pd2 rfl) rfl rfl rfl (by decide) (by decide) rfl rfl (by decide) (by decide) (own_kv fun v94 h94 q94 => ?_)
      obtain ⟨rfl, e94⟩ := q94
      rw [e94]
      rw [show own_com w_INT w_SIGNED_CHAR (8 : Int32) (1 : Int32) w_UNSIGNED_CHAR (8 : Int32) (0 : Int32) = w_INT from by simp [own_com]]
      refine own_aload 118 rfl at_116 rfl rfl ?_
      refine own_acmpNo 121 rfl at_118 rfl rfl (own_teq (rfl : ((.ref w_INT) : Value) = (.ref w_INT))).2 ?_
      refine own_iconst 122 rfl (1 : Int32) at_121 rfl ?_
      refine own_goto 126 at_122 (by decide) (by decide) ?_
      refine own_retN rfl (by simp) at_126 (by decide) (by decide) ?_
      exact ⟨_, rfl, rfl⟩
    · have hin_j := (rfl : (3 : Int) = 3)
      refine own_iloadN 81 rfl at_80 rfl ?_
      refine own_iconst 82 rfl (5 : Int32) at_81 rfl ?_
      refine own_callS 85 rfl 1 9 0 [(.int (1 : Int32)), (.int (5 : Int32))] [] (y := (⟨"java/lang/Math", "max", "(II)I"⟩ : MethodName)) (hw _ (List.mem_of_getElem? (i := 23) rfl)) (hw _ (List.mem_of_getElem? (i := 24) rfl)) (hw _ (List.mem_of_getElem? (i := 25) rfl)) (hw _ (List.mem_of_getElem? (i := 26) rfl)) (by decide) (rm1 l Z a0 hw [] (1 : Int32) (5 : Int32)  h10 ) at_82 rfl (lenOf own_pd1 rfl) rfl rfl rfl (by decide) (by decide) rfl rfl (by decide) (by decide) (own_kv fun v95 h95 q95 => ?_)
      obtain ⟨rfl, e95⟩ := q95
      rw [e95]
      rw [show (if (1 : Int32) < (5 : Int32) then (5 : Int32) else (1 : Int32)) = (5 : Int32) from by decide]
      refine own_istore 87 rfl #[.val (.int p1), .val (.int p2), .val (.ref b1), .val (.int (1 : Int32)), .val (.int (3 : Int32)), .val (.int (5 : Int32)), .unset, .unset] at_85 rfl ?_
      refine own_iload 89 rfl at_87 rfl ?_
      refine own_iconst 90 rfl (5 : Int32) at_89 rfl ?_
      refine own_callS 93 rfl 1 9 0 [(.int (3 : Int32)), (.int (5 : Int32))] [] (y := (⟨"java/lang/Math", "max", "(II)I"⟩ : MethodName)) (hw _ (List.mem_of_getElem? (i := 23) rfl)) (hw _ (List.mem_of_getElem? (i := 24) rfl)) (hw _ (List.mem_of_getElem? (i := 25) rfl)) (hw _ (List.mem_of_getElem? (i := 26) rfl)) (by decide) (rm1 l Z a0 hw [] (3 : Int32) (5 : Int32)  h10 ) at_90 rfl (lenOf own_pd1 rfl) rfl rfl rfl (by decide) (by decide) rfl rfl (by decide) (by decide) (own_kv fun v96 h96 q96 => ?_)
      obtain ⟨rfl, e96⟩ := q96
      rw [e96]
      rw [show (if (3 : Int32) < (5 : Int32) then (5 : Int32) else (3 : Int32)) = (5 : Int32) from by decide]
      refine own_istore 95 rfl #[.val (.int p1), .val (.int p2), .val (.ref b1), .val (.int (1 : Int32)), .val (.int (3 : Int32)), .val (.int (5 : Int32)), .val (.int (5 : Int32)), .unset] at_93 rfl ?_
      refine own_aloadN 96 rfl at_95 rfl rfl ?_
      refine own_iload 98 rfl at_96 rfl ?_
      refine own_iload 100 rfl at_98 rfl ?_
      refine own_callS 103 rfl 1 9 1 [(.int (5 : Int32)), (.int (5 : Int32))] [(.ref b1)] (y := (⟨"java/lang/Math", "max", "(II)I"⟩ : MethodName)) (hw _ (List.mem_of_getElem? (i := 23) rfl)) (hw _ (List.mem_of_getElem? (i := 24) rfl)) (hw _ (List.mem_of_getElem? (i := 25) rfl)) (hw _ (List.mem_of_getElem? (i := 26) rfl)) (by decide) (rm1 l Z a0 hw [] (5 : Int32) (5 : Int32)  h10 ) at_100 rfl (lenOf own_pd1 rfl) rfl rfl rfl (by decide) (by decide) rfl rfl (by decide) (by decide) (own_kv fun v97 h97 q97 => ?_)
      obtain ⟨rfl, e97⟩ := q97
      rw [e97]
      rw [show (if (5 : Int32) < (5 : Int32) then (5 : Int32) else (5 : Int32)) = (5 : Int32) from by decide]
      obtain ⟨c98, A98, q98, S98, N98, H98, G98⟩ := id V10
      refine own_aaload 104 rfl A98 rfl (inb_of S98 ⟨by decide, by decide⟩) (Has.at H98 (inb_of S98 ⟨by decide, by decide⟩) rfl) at_103 ?_
      refine own_astore 106 rfl #[.val (.int p1), .val (.int p2), .val (.ref b1), .val (.int (1 : Int32)), .val (.int (3 : Int32)), .val (.int (5 : Int32)), .val (.int (5 : Int32)), .val (.ref w_INT)] at_104 rfl rfl ?_
      refine own_aloadN 107 rfl at_106 rfl rfl ?_
      refine own_iloadN 108 rfl at_107 rfl ?_
      obtain ⟨c99, A99, q99, S99, N99, H99, G99⟩ := id V10
      refine own_aaload 109 rfl A99 rfl (inb_of S99 ⟨by decide, by decide⟩) (Has.at H99 (inb_of S99 ⟨by decide, by decide⟩) rfl) at_108 ?_
      refine own_aloadN 110 rfl at_109 rfl rfl ?_
      refine own_iload 112 rfl at_110 rfl ?_
      obtain ⟨c100, A100, q100, S100, N100, H100, G100⟩ := id V10
      refine own_aaload 113 rfl A100 rfl (inb_of S100 ⟨by decide, by decide⟩) (Has.at H100 (inb_of S100 ⟨by decide, by decide⟩) rfl) at_112 ?_
      refine own_callS 116 rfl 1 9 0 [(.ref w_SIGNED_CHAR), (.ref w_SHORT)] [] (y := (⟨"com/example/counterpath/counterpath/cfa/Type", "common", "(Lcom/example/counterpath/counterpath/cfa/Type;Lcom/example/counterpath/counterpath/cfa/Type;)Lcom/example/counterpath/counterpath/cfa/Type;"⟩ : MethodName)) (hw _ (List.mem_of_getElem? (i := 27) rfl)) (hw _ (List.mem_of_getElem? (i := 28) rfl)) (hw _ (List.mem_of_getElem? (i := 3) rfl)) (hw _ (List.mem_of_getElem? (i := 29) rfl)) (by decide) (rm2 l Z a0 hw [] w_SIGNED_CHAR w_SHORT (8 : Int32) (1 : Int32) (16 : Int32) (1 : Int32) w_BOOL w_SIGNED_CHAR w_UNSIGNED_CHAR w_SHORT w_UNSIGNED_SHORT w_INT w_UNSIGNED_INT w_LONG_LONG w_UNSIGNED_LONG_LONG h10 I (((((((((((E_w_SIGNED_CHAR.ext O0.2).ext E1).wr W2).wr W3).wr W4).wr W5).wr W6).wr W7).wr W8).wr W9).wr W10) (((((((((((F_w_SIGNED_CHAR_width.ext O0.2).ext E1).other W2 (Or.inl ne_w_SIGNED_CHAR_b1)).other W3 (Or.inl ne_w_SIGNED_CHAR_b1)).other W4 (Or.inl ne_w_SIGNED_CHAR_b1)).other W5 (Or.inl ne_w_SIGNED_CHAR_b1)).other W6 (Or.inl ne_w_SIGNED_CHAR_b1)).other W7 (Or.inl ne_w_SIGNED_CHAR_b1)).other W8 (Or.inl ne_w_SIGNED_CHAR_b1)).other W9 (Or.inl ne_w_SIGNED_CHAR_b1)).other W10 (Or.inl ne_w_SIGNED_CHAR_b1)) (((((((((((F_w_SIGNED_CHAR_signed.ext O0.2).ext E1).other W2 (Or.inl ne_w_SIGNED_CHAR_b1)).other W3 (Or.inl ne_w_SIGNED_CHAR_b1)).other W4 (Or.inl ne_w_SIGNED_CHAR_b1)).other W5 (Or.inl ne_w_SIGNED_CHAR_b1)).other W6 (Or.inl ne_w_SIGNED_CHAR_b1)).other W7 (Or.inl ne_w_SIGNED_CHAR_b1)).other W8 (Or.inl ne_w_SIGNED_CHAR_b1)).other W9 (Or.inl ne_w_SIGNED_CHAR_b1)).other W10 (Or.inl ne_w_SIGNED_CHAR_b1)) (((((((((((E_w_SHORT.ext O0.2).ext E1).wr W2).wr W3).wr W4).wr W5).wr W6).wr W7).wr W8).wr W9).wr W10) (((((((((((F_w_SHORT_width.ext O0.2).ext E1).other W2 (Or.inl ne_w_SHORT_b1)).other W3 (Or.inl ne_w_SHORT_b1)).other W4 (Or.inl ne_w_SHORT_b1)).other W5 (Or.inl ne_w_SHORT_b1)).other W6 (Or.inl ne_w_SHORT_b1)).other W7 (Or.inl ne_w_SHORT_b1)).other W8 (Or.inl ne_w_SHORT_b1)).other W9 (Or.inl ne_w_SHORT_b1)).other W10 (Or.inl ne_w_SHORT_b1)) (((((((((((F_w_SHORT_signed.ext O0.2).ext E1).other W2 (Or.inl ne_w_SHORT_b1)).other W3 (Or.inl ne_w_SHORT_b1)).other W4 (Or.inl ne_w_SHORT_b1)).other W5 (Or.inl ne_w_SHORT_b1)).other W6 (Or.inl ne_w_SHORT_b1)).other W7 (Or.inl ne_w_SHORT_b1)).other W8 (Or.inl ne_w_SHORT_b1)).other W9 (Or.inl ne_w_SHORT_b1)).other W10 (Or.inl ne_w_SHORT_b1)) (by decide) (by decide)) at_113 rfl (lenOf own_pd2 rfl) rfl rfl rfl (by decide) (by decide) rfl rfl (by decide) (by decide) (own_kv fun v101 h101 q101 => ?_)
      obtain ⟨rfl, e101⟩ := q101
      rw [e101]
      rw [show own_com w_INT w_SIGNED_CHAR (8 : Int32) (1 : Int32) w_SHORT (16 : Int32) (1 : Int32) = w_INT from by simp [own_com]]
      refine own_aload 118 rfl at_116 rfl rfl ?_
      refine own_acmpNo 121 rfl at_118 rfl rfl (own_teq (rfl : ((.ref w_INT) : Value) = (.ref w_INT))).2 ?_
      refine own_iconst 122 rfl (1 : Int32) at_121 rfl ?_
      refine own_goto 126 at_122 (by decide) (by decide) ?_
      refine own_retN rfl (by simp) at_126 (by decide) (by decide) ?_
      exact ⟨_, rfl, rfl⟩
    · have hin_j := (rfl : (4 : Int) = 4)
      refine own_iloadN 81 rfl at_80 rfl ?_
      refine own_iconst 82 rfl (5 : Int32) at_81 rfl ?_
      refine own_callS 85 rfl 1 9 0 [(.int (1 : Int32)), (.int (5 : Int32))] [] (y := (⟨"java/lang/Math", "max", "(II)I"⟩ : MethodName)) (hw _ (List.mem_of_getElem? (i := 23) rfl)) (hw _ (List.mem_of_getElem? (i := 24) rfl)) (hw _ (List.mem_of_getElem? (i := 25) rfl)) (hw _ (List.mem_of_getElem? (i := 26) rfl)) (by decide) (rm1 l Z a0 hw [] (1 : Int32) (5 : Int32)  h10 ) at_82 rfl (lenOf own_pd1 rfl) rfl rfl rfl (by decide) (by decide) rfl rfl (by decide) (by decide) (own_kv fun v102 h102 q102 => ?_)
      obtain ⟨rfl, e102⟩ := q102
      rw [e102]
      rw [show (if (1 : Int32) < (5 : Int32) then (5 : Int32) else (1 : Int32)) = (5 : Int32) from by decide]
      refine own_istore 87 rfl #[.val (.int p1), .val (.int p2), .val (.ref b1), .val (.int (1 : Int32)), .val (.int (4 : Int32)), .val (.int (5 : Int32)), .unset, .unset] at_85 rfl ?_
      refine own_iload 89 rfl at_87 rfl ?_
      refine own_iconst 90 rfl (5 : Int32) at_89 rfl ?_
      refine own_callS 93 rfl 1 9 0 [(.int (4 : Int32)), (.int (5 : Int32))] [] (y := (⟨"java/lang/Math", "max", "(II)I"⟩ : MethodName)) (hw _ (List.mem_of_getElem? (i := 23) rfl)) (hw _ (List.mem_of_getElem? (i := 24) rfl)) (hw _ (List.mem_of_getElem? (i := 25) rfl)) (hw _ (List.mem_of_getElem? (i := 26) rfl)) (by decide) (rm1 l Z a0 hw [] (4 : Int32) (5 : Int32)  h10 ) at_90 rfl (lenOf own_pd1 rfl) rfl rfl rfl (by decide) (by decide) rfl rfl (by decide) (by decide) (own_kv fun v103 h103 q103 => ?_)
      obtain ⟨rfl, e103⟩ := q103
      rw [e103]
      rw [show (if (4 : Int32) < (5 : Int32) then (5 : Int32) else (4 : Int32)) = (5 : Int32) from by decide]
      refine own_istore 95 rfl #[.val (.int p1), .val (.int p2), .val (.ref b1), .val (.int (1 : Int32)), .val (.int (4 : Int32)), .val (.int (5 : Int32)), .val (.int (5 : Int32)), .unset] at_93 rfl ?_
      refine own_aloadN 96 rfl at_95 rfl rfl ?_
      refine own_iload 98 rfl at_96 rfl ?_
      refine own_iload 100 rfl at_98 rfl ?_
      refine own_callS 103 rfl 1 9 1 [(.int (5 : Int32)), (.int (5 : Int32))] [(.ref b1)] (y := (⟨"java/lang/Math", "max", "(II)I"⟩ : MethodName)) (hw _ (List.mem_of_getElem? (i := 23) rfl)) (hw _ (List.mem_of_getElem? (i := 24) rfl)) (hw _ (List.mem_of_getElem? (i := 25) rfl)) (hw _ (List.mem_of_getElem? (i := 26) rfl)) (by decide) (rm1 l Z a0 hw [] (5 : Int32) (5 : Int32)  h10 ) at_100 rfl (lenOf own_pd1 rfl) rfl rfl rfl (by decide) (by decide) rfl rfl (by decide) (by decide) (own_kv fun v104 h104 q104 => ?_)
      obtain ⟨rfl, e104⟩ := q104
      rw [e104]
      rw [show (if (5 : Int32) < (5 : Int32) then (5 : Int32) else (5 : Int32)) = (5 : Int32) from by decide]
      obtain ⟨c105, A105, q105, S105, N105, H105, G105⟩ := id V10
      refine own_aaload 104 rfl A105 rfl (inb_of S105 ⟨by decide, by decide⟩) (Has.at H105 (inb_of S105 ⟨by decide, by decide⟩) rfl) at_103 ?_
      refine own_astore 106 rfl #[.val (.int p1), .val (.int p2), .val (.ref b1), .val (.int (1 : Int32)), .val (.int (4 : Int32)), .val (.int (5 : Int32)), .val (.int (5 : Int32)), .val (.ref w_INT)] at_104 rfl rfl ?_
      refine own_aloadN 107 rfl at_106 rfl rfl ?_
      refine own_iloadN 108 rfl at_107 rfl ?_
      obtain ⟨c106, A106, q106, S106, N106, H106, G106⟩ := id V10
      refine own_aaload 109 rfl A106 rfl (inb_of S106 ⟨by decide, by decide⟩) (Has.at H106 (inb_of S106 ⟨by decide, by decide⟩) rfl) at_108 ?_
      refine own_aloadN 110 rfl at_109 rfl rfl ?_
      refine own_iload 112 rfl at_110 rfl ?_
      obtain ⟨c107, A107, q107, S107, N107, H107, G107⟩ := id V10
      refine own_aaload 113 rfl A107 rfl (inb_of S107 ⟨by decide, by decide⟩) (Has.at H107 (inb_of S107 ⟨by decide, by decide⟩) rfl) at_112 ?_
      refine own_callS 116 rfl 1 9 0 [(.ref w_SIGNED_CHAR), (.ref w_UNSIGNED_SHORT)] [] (y := (⟨"com/example/counterpath/counterpath/cfa/Type", "common", "(Lcom/example/counterpath/counterpath/cfa/Type;Lcom/example/counterpath/counterpath/cfa/Type;)Lcom/example/counterpath/counterpath/cfa/Type;"⟩ : MethodName)) (hw _ (List.mem_of_getElem? (i := 27) rfl)) (hw _ (List.mem_of_getElem? (i := 28) rfl)) (hw _ (List.mem_of_getElem? (i := 3) rfl)) (hw _ (List.mem_of_getElem? (i := 29) rfl)) (by decide) (rm2 l Z a0 hw [] w_SIGNED_CHAR w_UNSIGNED_SHORT (8 : Int32) (1 : Int32) (16 : Int32) (0 : Int32) w_BOOL w_SIGNED_CHAR w_UNSIGNED_CHAR w_SHORT w_UNSIGNED_SHORT w_INT w_UNSIGNED_INT w_LONG_LONG w_UNSIGNED_LONG_LONG h10 I (((((((((((E_w_SIGNED_CHAR.ext O0.2).ext E1).wr W2).wr W3).wr W4).wr W5).wr W6).wr W7).wr W8).wr W9).wr W10) (((((((((((F_w_SIGNED_CHAR_width.ext O0.2).ext E1).other W2 (Or.inl ne_w_SIGNED_CHAR_b1)).other W3 (Or.inl ne_w_SIGNED_CHAR_b1)).other W4 (Or.inl ne_w_SIGNED_CHAR_b1)).other W5 (Or.inl ne_w_SIGNED_CHAR_b1)).other W6 (Or.inl ne_w_SIGNED_CHAR_b1)).other W7 (Or.inl ne_w_SIGNED_CHAR_b1)).other W8 (Or.inl ne_w_SIGNED_CHAR_b1)).other W9 (Or.inl ne_w_SIGNED_CHAR_b1)).other W10 (Or.inl ne_w_SIGNED_CHAR_b1)) (((((((((((F_w_SIGNED_CHAR_signed.ext O0.2).ext E1).other W2 (Or.inl ne_w_SIGNED_CHAR_b1)).other W3 (Or.inl ne_w_SIGNED_CHAR_b1)).other W4 (Or.inl ne_w_SIGNED_CHAR_b1)).other W5 (Or.inl ne_w_SIGNED_CHAR_b1)).other W6 (Or.inl ne_w_SIGNED_CHAR_b1)).other W7 (Or.inl ne_w_SIGNED_CHAR_b1)).other W8 (Or.inl ne_w_SIGNED_CHAR_b1)).other W9 (Or.inl ne_w_SIGNED_CHAR_b1)).other W10 (Or.inl ne_w_SIGNED_CHAR_b1)) (((((((((((E_w_UNSIGNED_SHORT.ext O0.2).ext E1).wr W2).wr W3).wr W4).wr W5).wr W6).wr W7).wr W8).wr W9).wr W10) (((((((((((F_w_UNSIGNED_SHORT_width.ext O0.2).ext E1).other W2 (Or.inl ne_w_UNSIGNED_SHORT_b1)).other W3 (Or.inl ne_w_UNSIGNED_SHORT_b1)).other W4 (Or.inl ne_w_UNSIGNED_SHORT_b1)).other W5 (Or.inl ne_w_UNSIGNED_SHORT_b1)).other W6 (Or.inl ne_w_UNSIGNED_SHORT_b1)).other W7 (Or.inl ne_w_UNSIGNED_SHORT_b1)).other W8 (Or.inl ne_w_UNSIGNED_SHORT_b1)).other W9 (Or.inl ne_w_UNSIGNED_SHORT_b1)).other W10 (Or.inl ne_w_UNSIGNED_SHORT_b1)) (((((((((((F_w_UNSIGNED_SHORT_signed.ext O0.2).ext E1).other W2 (Or.inl ne_w_UNSIGNED_SHORT_b1)).other W3 (Or.inl ne_w_UNSIGNED_SHORT_b1)).other W4 (Or.inl ne_w_UNSIGNED_SHORT_b1)).other W5 (Or.inl ne_w_UNSIGNED_SHORT_b1)).other W6 (Or.inl ne_w_UNSIGNED_SHORT_b1)).other W7 (Or.inl ne_w_UNSIGNED_SHORT_b1)).other W8 (Or.inl ne_w_UNSIGNED_SHORT_b1)).other W9 (Or.inl ne_w_UNSIGNED_SHORT_b1)).other W10 (Or.inl ne_w_UNSIGNED_SHORT_b1)) (by decide) (by decide)) at_113 rfl (lenOf own_pd2 rfl) rfl rfl rfl (by decide) (by decide) rfl rfl (by decide) (by decide) (own_kv fun v108 h108 q108 => ?_)
      obtain ⟨rfl, e108⟩ := q108
      rw [e108]
      rw [show own_com w_INT w_SIGNED_CHAR (8 : Int32) (1 : Int32) w_UNSIGNED_SHORT (16 : Int32) (0 : Int32) = w_INT from by simp [own_com]]
      refine own_aload 118 rfl at_116 rfl rfl ?_
      refine own_acmpNo 121 rfl at_118 rfl rfl (own_teq (rfl : ((.ref w_INT) : Value) = (.ref w_INT))).2 ?_
      refine own_iconst 122 rfl (1 : Int32) at_121 rfl ?_
      refine own_goto 126 at_122 (by decide) (by decide) ?_
      refine own_retN rfl (by simp) at_126 (by decide) (by decide) ?_
      exact ⟨_, rfl, rfl⟩
    · have hin_j := (rfl : (5 : Int) = 5)
      refine own_iloadN 81 rfl at_80 rfl ?_
      refine own_iconst 82 rfl (5 : Int32) at_81 rfl ?_
      refine own_callS 85 rfl 1 9 0 [(.int (1 : Int32)), (.int (5 : Int32))] [] (y := (⟨"java/lang/Math", "max", "(II)I"⟩ : MethodName)) (hw _ (List.mem_of_getElem? (i := 23) rfl)) (hw _ (List.mem_of_getElem? (i := 24) rfl)) (hw _ (List.mem_of_getElem? (i := 25) rfl)) (hw _ (List.mem_of_getElem? (i := 26) rfl)) (by decide) (rm1 l Z a0 hw [] (1 : Int32) (5 : Int32)  h10 ) at_82 rfl (lenOf own_pd1 rfl) rfl rfl rfl (by decide) (by decide) rfl rfl (by decide) (by decide) (own_kv fun v109 h109 q109 => ?_)
      obtain ⟨rfl, e109⟩ := q109
      rw [e109]
      rw [show (if (1 : Int32) < (5 : Int32) then (5 : Int32) else (1 : Int32)) = (5 : Int32) from by decide]
      refine own_istore 87 rfl #[.val (.int p1), .val (.int p2), .val (.ref b1), .val (.int (1 : Int32)), .val (.int (5 : Int32)), .val (.int (5 : Int32)), .unset, .unset] at_85 rfl ?_
      refine own_iload 89 rfl at_87 rfl ?_
      refine own_iconst 90 rfl (5 : Int32) at_89 rfl ?_
      refine own_callS 93 rfl 1 9 0 [(.int (5 : Int32)), (.int (5 : Int32))] [] (y := (⟨"java/lang/Math", "max", "(II)I"⟩ : MethodName)) (hw _ (List.mem_of_getElem? (i := 23) rfl)) (hw _ (List.mem_of_getElem? (i := 24) rfl)) (hw _ (List.mem_of_getElem? (i := 25) rfl)) (hw _ (List.mem_of_getElem? (i := 26) rfl)) (by decide) (rm1 l Z a0 hw [] (5 : Int32) (5 : Int32)  h10 ) at_90 rfl (lenOf own_pd1 rfl) rfl rfl rfl (by decide) (by decide) rfl rfl (by decide) (by decide) (own_kv fun v110 h110 q110 => ?_)
      obtain ⟨rfl, e110⟩ := q110
      rw [e110]
      rw [show (if (5 : Int32) < (5 : Int32) then (5 : Int32) else (5 : Int32)) = (5 : Int32) from by decide]
      refine own_istore 95 rfl #[.val (.int p1), .val (.int p2), .val (.ref b1), .val (.int (1 : Int32)), .val (.int (5 : Int32)), .val (.int (5 : Int32)), .val (.int (5 : Int32)), .unset] at_93 rfl ?_
      refine own_aloadN 96 rfl at_95 rfl rfl ?_
      refine own_iload 98 rfl at_96 rfl ?_
      refine own_iload 100 rfl at_98 rfl ?_
      refine own_callS 103 rfl 1 9 1 [(.int (5 : Int32)), (.int (5 : Int32))] [(.ref b1)] (y := (⟨"java/lang/Math", "max", "(II)I"⟩ : MethodName)) (hw _ (List.mem_of_getElem? (i := 23) rfl)) (hw _ (List.mem_of_getElem? (i := 24) rfl)) (hw _ (List.mem_of_getElem? (i := 25) rfl)) (hw _ (List.mem_of_getElem? (i := 26) rfl)) (by decide) (rm1 l Z a0 hw [] (5 : Int32) (5 : Int32)  h10 ) at_100 rfl (lenOf own_pd1 rfl) rfl rfl rfl (by decide) (by decide) rfl rfl (by decide) (by decide) (own_kv fun v111 h111 q111 => ?_)
      obtain ⟨rfl, e111⟩ := q111
      rw [e111]
      rw [show (if (5 : Int32) < (5 : Int32) then (5 : Int32) else (5 : Int32)) = (5 : Int32) from by decide]
      obtain ⟨c112, A112, q112, S112, N112, H112, G112⟩ := id V10
      refine own_aaload 104 rfl A112 rfl (inb_of S112 ⟨by decide, by decide⟩) (Has.at H112 (inb_of S112 ⟨by decide, by decide⟩) rfl) at_103 ?_
      refine own_astore 106 rfl #[.val (.int p1), .val (.int p2), .val (.ref b1), .val (.int (1 : Int32)), .val (.int (5 : Int32)), .val (.int (5 : Int32)), .val (.int (5 : Int32)), .val (.ref w_INT)] at_104 rfl rfl ?_
      refine own_aloadN 107 rfl at_106 rfl rfl ?_
      refine own_iloadN 108 rfl at_107 rfl ?_
      obtain ⟨c113, A113, q113, S113, N113, H113, G113⟩ := id V10
      refine own_aaload 109 rfl A113 rfl (inb_of S113 ⟨by decide, by decide⟩) (Has.at H113 (inb_of S113 ⟨by decide, by decide⟩) rfl) at_108 ?_
      refine own_aloadN 110 rfl at_109 rfl rfl ?_
      refine own_iload 112 rfl at_110 rfl ?_
      obtain ⟨c114, A114, q114, S114, N114, H114, G114⟩ := id V10
      refine own_aaload 113 rfl A114 rfl (inb_of S114 ⟨by decide, by decide⟩) (Has.at H114 (inb_of S114 ⟨by decide, by decide⟩) rfl) at_112 ?_
      refine own_callS 116 rfl 1 9 0 [(.ref w_SIGNED_CHAR), (.ref w_INT)] [] (y := (⟨"com/example/counterpath/counterpath/cfa/Type", "common", "(Lcom/example/counterpath/counterpath/cfa/Type;Lcom/example/counterpath/counterpath/cfa/Type;)Lcom/example/counterpath/counterpath/cfa/Type;"⟩ : MethodName)) (hw _ (List.mem_of_getElem? (i := 27) rfl)) (hw _ (List.mem_of_getElem? (i := 28) rfl)) (hw _ (List.mem_of_getElem? (i := 3) rfl)) (hw _ (List.mem_of_getElem? (i := 29) rfl)) (by decide) (rm2 l Z a0 hw [] w_SIGNED_CHAR w_INT (8 : Int32) (1 : Int32) (32 : Int32) (1 : Int32) w_BOOL w_SIGNED_CHAR w_UNSIGNED_CHAR w_SHORT w_UNSIGNED_SHORT w_INT w_UNSIGNED_INT w_LONG_LONG w_UNSIGNED_LONG_LONG h10 I (((((((((((E_w_SIGNED_CHAR.ext O0.2).ext E1).wr W2).wr W3).wr W4).wr W5).wr W6).wr W7).wr W8).wr W9).wr W10) (((((((((((F_w_SIGNED_CHAR_width.ext O0.2).ext E1).other W2 (Or.inl ne_w_SIGNED_CHAR_b1)).other W3 (Or.inl ne_w_SIGNED_CHAR_b1)).other W4 (Or.inl ne_w_SIGNED_CHAR_b1)).other W5 (Or.inl ne_w_SIGNED_CHAR_b1)).other W6 (Or.inl ne_w_SIGNED_CHAR_b1)).other W7 (Or.inl ne_w_SIGNED_CHAR_b1)).other W8 (Or.inl ne_w_SIGNED_CHAR_b1)).other W9 (Or.inl ne_w_SIGNED_CHAR_b1)).other W10 (Or.inl ne_w_SIGNED_CHAR_b1)) (((((((((((F_w_SIGNED_CHAR_signed.ext O0.2).ext E1).other W2 (Or.inl ne_w_SIGNED_CHAR_b1)).other W3 (Or.inl ne_w_SIGNED_CHAR_b1)).other W4 (Or.inl ne_w_SIGNED_CHAR_b1)).other W5 (Or.inl ne_w_SIGNED_CHAR_b1)).other W6 (Or.inl ne_w_SIGNED_CHAR_b1)).other W7 (Or.inl ne_w_SIGNED_CHAR_b1)).other W8 (Or.inl ne_w_SIGNED_CHAR_b1)).other W9 (Or.inl ne_w_SIGNED_CHAR_b1)).other W10 (Or.inl ne_w_SIGNED_CHAR_b1)) (((((((((((E_w_INT.ext O0.2).ext E1).wr W2).wr W3).wr W4).wr W5).wr W6).wr W7).wr W8).wr W9).wr W10) (((((((((((F_w_INT_width.ext O0.2).ext E1).other W2 (Or.inl ne_w_INT_b1)).other W3 (Or.inl ne_w_INT_b1)).other W4 (Or.inl ne_w_INT_b1)).other W5 (Or.inl ne_w_INT_b1)).other W6 (Or.inl ne_w_INT_b1)).other W7 (Or.inl ne_w_INT_b1)).other W8 (Or.inl ne_w_INT_b1)).other W9 (Or.inl ne_w_INT_b1)).other W10 (Or.inl ne_w_INT_b1)) (((((((((((F_w_INT_signed.ext O0.2).ext E1).other W2 (Or.inl ne_w_INT_b1)).other W3 (Or.inl ne_w_INT_b1)).other W4 (Or.inl ne_w_INT_b1)).other W5 (Or.inl ne_w_INT_b1)).other W6 (Or.inl ne_w_INT_b1)).other W7 (Or.inl ne_w_INT_b1)).other W8 (Or.inl ne_w_INT_b1)).other W9 (Or.inl ne_w_INT_b1)).other W10 (Or.inl ne_w_INT_b1)) (by decide) (by decide)) at_113 rfl (lenOf own_pd2 rfl) rfl rfl rfl (by decide) (by decide) rfl rfl (by decide) (by decide) (own_kv fun v115 h115 q115 => ?_)
      obtain ⟨rfl, e115⟩ := q115
      rw [e115]
      rw [show own_com w_INT w_SIGNED_CHAR (8 : Int32) (1 : Int32) w_INT (32 : Int32) (1 : Int32) = w_INT from by simp [own_com]]
      refine own_aload 118 rfl at_116 rfl rfl ?_
      refine own_acmpNo 121 rfl at_118 rfl rfl (own_teq (rfl : ((.ref w_INT) : Value) = (.ref w_INT))).2 ?_
      refine own_iconst 122 rfl (1 : Int32) at_121 rfl ?_
      refine own_goto 126 at_122 (by decide) (by decide) ?_
      refine own_retN rfl (by simp) at_126 (by decide) (by decide) ?_
      exact ⟨_, rfl, rfl⟩
    · have hin_j := (rfl : (6 : Int) = 6)
      refine own_iloadN 81 rfl at_80 rfl ?_
      refine own_iconst 82 rfl (5 : Int32) at_81 rfl ?_
      refine own_callS 85 rfl 1 9 0 [(.int (1 : Int32)), (.int (5 : Int32))] [] (y := (⟨"java/lang/Math", "max", "(II)I"⟩ : MethodName)) (hw _ (List.mem_of_getElem? (i := 23) rfl)) (hw _ (List.mem_of_getElem? (i := 24) rfl)) (hw _ (List.mem_of_getElem? (i := 25) rfl)) (hw _ (List.mem_of_getElem? (i := 26) rfl)) (by decide) (rm1 l Z a0 hw [] (1 : Int32) (5 : Int32)  h10 ) at_82 rfl (lenOf own_pd1 rfl) rfl rfl rfl (by decide) (by decide) rfl rfl (by decide) (by decide) (own_kv fun v116 h116 q116 => ?_)
      obtain ⟨rfl, e116⟩ := q116
      rw [e116]
      rw [show (if (1 : Int32) < (5 : Int32) then (5 : Int32) else (1 : Int32)) = (5 : Int32) from by decide]
      refine own_istore 87 rfl #[.val (.int p1), .val (.int p2), .val (.ref b1), .val (.int (1 : Int32)), .val (.int (6 : Int32)), .val (.int (5 : Int32)), .unset, .unset] at_85 rfl ?_
      refine own_iload 89 rfl at_87 rfl ?_
      refine own_iconst 90 rfl (5 : Int32) at_89 rfl ?_
      refine own_callS 93 rfl 1 9 0 [(.int (6 : Int32)), (.int (5 : Int32))] [] (y := (⟨"java/lang/Math", "max", "(II)I"⟩ : MethodName)) (hw _ (List.mem_of_getElem? (i := 23) rfl)) (hw _ (List.mem_of_getElem? (i := 24) rfl)) (hw _ (List.mem_of_getElem? (i := 25) rfl)) (hw _ (List.mem_of_getElem? (i := 26) rfl)) (by decide) (rm1 l Z a0 hw [] (6 : Int32) (5 : Int32)  h10 ) at_90 rfl (lenOf own_pd1 rfl) rfl rfl rfl (by decide) (by decide) rfl rfl (by decide) (by decide) (own_kv fun v117 h117 q117 => ?_)
      obtain ⟨rfl, e117⟩ := q117
      rw [e117]
      rw [show (if (6 : Int32) < (5 : Int32) then (5 : Int32) else (6 : Int32)) = (6 : Int32) from by decide]
      refine own_istore 95 rfl #[.val (.int p1), .val (.int p2), .val (.ref b1), .val (.int (1 : Int32)), .val (.int (6 : Int32)), .val (.int (5 : Int32)), .val (.int (6 : Int32)), .unset] at_93 rfl ?_
      refine own_aloadN 96 rfl at_95 rfl rfl ?_
      refine own_iload 98 rfl at_96 rfl ?_
      refine own_iload 100 rfl at_98 rfl ?_
      refine own_callS 103 rfl 1 9 1 [(.int (5 : Int32)), (.int (6 : Int32))] [(.ref b1)] (y := (⟨"java/lang/Math", "max", "(II)I"⟩ : MethodName)) (hw _ (List.mem_of_getElem? (i := 23) rfl)) (hw _ (List.mem_of_getElem? (i := 24) rfl)) (hw _ (List.mem_of_getElem? (i := 25) rfl)) (hw _ (List.mem_of_getElem? (i := 26) rfl)) (by decide) (rm1 l Z a0 hw [] (5 : Int32) (6 : Int32)  h10 ) at_100 rfl (lenOf own_pd1 rfl) rfl rfl rfl (by decide) (by decide) rfl rfl (by decide) (by decide) (own_kv fun v118 h118 q118 => ?_)
      obtain ⟨rfl, e118⟩ := q118
      rw [e118]
      rw [show (if (5 : Int32) < (6 : Int32) then (6 : Int32) else (5 : Int32)) = (6 : Int32) from by decide]
      obtain ⟨c119, A119, q119, S119, N119, H119, G119⟩ := id V10
      refine own_aaload 104 rfl A119 rfl (inb_of S119 ⟨by decide, by decide⟩) (Has.at H119 (inb_of S119 ⟨by decide, by decide⟩) rfl) at_103 ?_
      refine own_astore 106 rfl #[.val (.int p1), .val (.int p2), .val (.ref b1), .val (.int (1 : Int32)), .val (.int (6 : Int32)), .val (.int (5 : Int32)), .val (.int (6 : Int32)), .val (.ref w_UNSIGNED_INT)] at_104 rfl rfl ?_
      refine own_aloadN 107 rfl at_106 rfl rfl ?_
      refine own_iloadN 108 rfl at_107 rfl ?_
      obtain ⟨c120, A120, q120, S120, N120, H120, G120⟩ := id V10
      refine own_aaload 109 rfl A120 rfl (inb_of S120 ⟨by decide, by decide⟩) (Has.at H120 (inb_of S120 ⟨by decide, by decide⟩) rfl) at_108 ?_
      refine own_aloadN 110 rfl at_109 rfl rfl ?_
      refine own_iload 112 rfl at_110 rfl ?_
      obtain ⟨c121, A121, q121, S121, N121, H121, G121⟩ := id V10
      refine own_aaload 113 rfl A121 rfl (inb_of S121 ⟨by decide, by decide⟩) (Has.at H121 (inb_of S121 ⟨by decide, by decide⟩) rfl) at_112 ?_
      refine own_callS 116 rfl 1 9 0 [(.ref w_SIGNED_CHAR), (.ref w_UNSIGNED_INT)] [] (y := (⟨"com/example/counterpath/counterpath/cfa/Type", "common", "(Lcom/example/counterpath/counterpath/cfa/Type;Lcom/example/counterpath/counterpath/cfa/Type;)Lcom/example/counterpath/counterpath/cfa/Type;"⟩ : MethodName)) (hw _ (List.mem_of_getElem? (i := 27) rfl)) (hw _ (List.mem_of_getElem? (i := 28) rfl)) (hw _ (List.mem_of_getElem? (i := 3) rfl)) (hw _ (List.mem_of_getElem? (i := 29) rfl)) (by decide) (rm2 l Z a0 hw [] w_SIGNED_CHAR w_UNSIGNED_INT (8 : Int32) (1 : Int32) (32 : Int32) (0 : Int32) w_BOOL w_SIGNED_CHAR w_UNSIGNED_CHAR w_SHORT w_UNSIGNED_SHORT w_INT w_UNSIGNED_INT w_LONG_LONG w_UNSIGNED_LONG_LONG h10 I (((((((((((E_w_SIGNED_CHAR.ext O0.2).ext E1).wr W2).wr W3).wr W4).wr W5).wr W6).wr W7).wr W8).wr W9).wr W10) (((((((((((F_w_SIGNED_CHAR_width.ext O0.2).ext E1).other W2 (Or.inl ne_w_SIGNED_CHAR_b1)).other W3 (Or.inl ne_w_SIGNED_CHAR_b1)).other W4 (Or.inl ne_w_SIGNED_CHAR_b1)).other W5 (Or.inl ne_w_SIGNED_CHAR_b1)).other W6 (Or.inl ne_w_SIGNED_CHAR_b1)).other W7 (Or.inl ne_w_SIGNED_CHAR_b1)).other W8 (Or.inl ne_w_SIGNED_CHAR_b1)).other W9 (Or.inl ne_w_SIGNED_CHAR_b1)).other W10 (Or.inl ne_w_SIGNED_CHAR_b1)) (((((((((((F_w_SIGNED_CHAR_signed.ext O0.2).ext E1).other W2 (Or.inl ne_w_SIGNED_CHAR_b1)).other W3 (Or.inl ne_w_SIGNED_CHAR_b1)).other W4 (Or.inl ne_w_SIGNED_CHAR_b1)).other W5 (Or.inl ne_w_SIGNED_CHAR_b1)).other W6 (Or.inl ne_w_SIGNED_CHAR_b1)).other W7 (Or.inl ne_w_SIGNED_CHAR_b1)).other W8 (Or.inl ne_w_SIGNED_CHAR_b1)).other W9 (Or.inl ne_w_SIGNED_CHAR_b1)).other W10 (Or.inl ne_w_SIGNED_CHAR_b1)) (((((((((((E_w_UNSIGNED_INT.ext O0.2).ext E1).wr W2).wr W3).wr W4).wr W5).wr W6).wr W7).wr W8).wr W9).wr W10) (((((((((((F_w_UNSIGNED_INT_width.ext O0.2).ext E1).other W2 (Or.inl ne_w_UNSIGNED_INT_b1)).other W3 (Or.inl ne_w_UNSIGNED_INT_b1)).other W4 (Or.inl ne_w_UNSIGNED_INT_b1)).other W5 (Or.inl ne_w_UNSIGNED_INT_b1)).other W6 (Or.inl ne_w_UNSIGNED_INT_b1)).other W7 (Or.inl ne_w_UNSIGNED_INT_b1)).other W8 (Or.inl ne_w_UNSIGNED_INT_b1)).other W9 (Or.inl ne_w_UNSIGNED_INT_b1)).other W10 (Or.inl ne_w_UNSIGNED_INT_b1)) (((((((((((F_w_UNSIGNED_INT_signed.ext O0.2).ext E1).other W2 (Or.inl ne_w_UNSIGNED_INT_b1)).other W3 (Or.inl ne_w_UNSIGNED_INT_b1)).other W4 (Or.inl ne_w_UNSIGNED_INT_b1)).other W5 (Or.inl ne_w_UNSIGNED_INT_b1)).other W6 (Or.inl ne_w_UNSIGNED_INT_b1)).other W7 (Or.inl ne_w_UNSIGNED_INT_b1)).other W8 (Or.inl ne_w_UNSIGNED_INT_b1)).other W9 (Or.inl ne_w_UNSIGNED_INT_b1)).other W10 (Or.inl ne_w_UNSIGNED_INT_b1)) (by decide) (by decide)) at_113 rfl (lenOf own_pd2 rfl) rfl rfl rfl (by decide) (by decide) rfl rfl (by decide) (by decide) (own_kv fun v122 h122 q122 => ?_)
      obtain ⟨rfl, e122⟩ := q122
      rw [e122]
      rw [show own_com w_INT w_SIGNED_CHAR (8 : Int32) (1 : Int32) w_UNSIGNED_INT (32 : Int32) (0 : Int32) = w_UNSIGNED_INT from by simp [own_com]]
      refine own_aload 118 rfl at_116 rfl rfl ?_
      refine own_acmpNo 121 rfl at_118 rfl rfl (own_teq (rfl : ((.ref w_UNSIGNED_INT) : Value) = (.ref w_UNSIGNED_INT))).2 ?_
      refine own_iconst 122 rfl (1 : Int32) at_121 rfl ?_
      refine own_goto 126 at_122 (by decide) (by decide) ?_
      refine own_retN rfl (by simp) at_126 (by decide) (by decide) ?_
      exact ⟨_, rfl, rfl⟩
    · have hin_j := (rfl : (7 : Int) = 7)
      refine own_iloadN 81 rfl at_80 rfl ?_
      refine own_iconst 82 rfl (5 : Int32) at_81 rfl ?_
      refine own_callS 85 rfl 1 9 0 [(.int (1 : Int32)), (.int (5 : Int32))] [] (y := (⟨"java/lang/Math", "max", "(II)I"⟩ : MethodName)) (hw _ (List.mem_of_getElem? (i := 23) rfl)) (hw _ (List.mem_of_getElem? (i := 24) rfl)) (hw _ (List.mem_of_getElem? (i := 25) rfl)) (hw _ (List.mem_of_getElem? (i := 26) rfl)) (by decide) (rm1 l Z a0 hw [] (1 : Int32) (5 : Int32)  h10 ) at_82 rfl (lenOf own_pd1 rfl) rfl rfl rfl (by decide) (by decide) rfl rfl (by decide) (by decide) (own_kv fun v123 h123 q123 => ?_)
      obtain ⟨rfl, e123⟩ := q123
      rw [e123]
      rw [show (if (1 : Int32) < (5 : Int32) then (5 : Int32) else (1 : Int32)) = (5 : Int32) from by decide]
      refine own_istore 87 rfl #[.val (.int p1), .val (.int p2), .val (.ref b1), .val (.int (1 : Int32)), .val (.int (7 : Int32)), .val (.int (5 : Int32)), .unset, .unset] at_85 rfl ?_
      refine own_iload 89 rfl at_87 rfl ?_
      refine own_iconst 90 rfl (5 : Int32) at_89 rfl ?_
      refine own_callS 93 rfl 1 9 0 [(.int (7 : Int32)), (.int (5 : Int32))] [] (y := (⟨"java/lang/Math", "max", "(II)I"⟩ : MethodName)) (hw _ (List.mem_of_getElem? (i := 23) rfl)) (hw _ (List.mem_of_getElem? (i := 24) rfl)) (hw _ (List.mem_of_getElem? (i := 25) rfl)) (hw _ (List.mem_of_getElem? (i := 26) rfl)) (by decide) (rm1 l Z a0 hw [] (7 : Int32) (5 : Int32)  h10 ) at_90 rfl (lenOf own_pd1 rfl) rfl rfl rfl (by decide) (by decide) rfl rfl (by decide) (by decide) (own_kv fun v124 h124 q124 => ?_)
      obtain ⟨rfl, e124⟩ := q124
      rw [e124]
      rw [show (if (7 : Int32) < (5 : Int32) then (5 : Int32) else (7 : Int32)) = (7 : Int32) from by decide]
      refine own_istore 95 rfl #[.val (.int p1), .val (.int p2), .val (.ref b1), .val (.int (1 : Int32)), .val (.int (7 : Int32)), .val (.int (5 : Int32)), .val (.int (7 : Int32)), .unset] at_93 rfl ?_
      refine own_aloadN 96 rfl at_95 rfl rfl ?_
      refine own_iload 98 rfl at_96 rfl ?_
      refine own_iload 100 rfl at_98 rfl ?_
      refine own_callS 103 rfl 1 9 1 [(.int (5 : Int32)), (.int (7 : Int32))] [(.ref b1)] (y := (⟨"java/lang/Math", "max", "(II)I"⟩ : MethodName)) (hw _ (List.mem_of_getElem? (i := 23) rfl)) (hw _ (List.mem_of_getElem? (i := 24) rfl)) (hw _ (List.mem_of_getElem? (i := 25) rfl)) (hw _ (List.mem_of_getElem? (i := 26) rfl)) (by decide) (rm1 l Z a0 hw [] (5 : Int32) (7 : Int32)  h10 ) at_100 rfl (lenOf own_pd1 rfl) rfl rfl rfl (by decide) (by decide) rfl rfl (by decide) (by decide) (own_kv fun v125 h125 q125 => ?_)
      obtain ⟨rfl, e125⟩ := q125
      rw [e125]
      rw [show (if (5 : Int32) < (7 : Int32) then (7 : Int32) else (5 : Int32)) = (7 : Int32) from by decide]
      obtain ⟨c126, A126, q126, S126, N126, H126, G126⟩ := id V10
      refine own_aaload 104 rfl A126 rfl (inb_of S126 ⟨by decide, by decide⟩) (Has.at H126 (inb_of S126 ⟨by decide, by decide⟩) rfl) at_103 ?_
      refine own_astore 106 rfl #[.val (.int p1), .val (.int p2), .val (.ref b1), .val (.int (1 : Int32)), .val (.int (7 : Int32)), .val (.int (5 : Int32)), .val (.int (7 : Int32)), .val (.ref w_LONG_LONG)] at_104 rfl rfl ?_
      refine own_aloadN 107 rfl at_106 rfl rfl ?_
      refine own_iloadN 108 rfl at_107 rfl ?_
      obtain ⟨c127, A127, q127, S127, N127, H127, G127⟩ := id V10
      refine own_aaload 109 rfl A127 rfl (inb_of S127 ⟨by decide, by decide⟩) (Has.at H127 (inb_of S127 ⟨by decide, by decide⟩) rfl) at_108 ?_
      refine own_aloadN 110 rfl at_109 rfl rfl ?_
      refine own_iload 112 rfl at_110 rfl ?_
      obtain ⟨c128, A128, q128, S128, N128, H128, G128⟩ := id V10
      refine own_aaload 113 rfl A128 rfl (inb_of S128 ⟨by decide, by decide⟩) (Has.at H128 (inb_of S128 ⟨by decide, by decide⟩) rfl) at_112 ?_
      refine own_callS 116 rfl 1 9 0 [(.ref w_SIGNED_CHAR), (.ref w_LONG_LONG)] [] (y := (⟨"com/example/counterpath/counterpath/cfa/Type", "common", "(Lcom/example/counterpath/counterpath/cfa/Type;Lcom/example/counterpath/counterpath/cfa/Type;)Lcom/example/counterpath/counterpath/cfa/Type;"⟩ : MethodName)) (hw _ (List.mem_of_getElem? (i := 27) rfl)) (hw _ (List.mem_of_getElem? (i := 28) rfl)) (hw _ (List.mem_of_getElem? (i := 3) rfl)) (hw _ (List.mem_of_getElem? (i := 29) rfl)) (by decide) (rm2 l Z a0 hw [] w_SIGNED_CHAR w_LONG_LONG (8 : Int32) (1 : Int32) (64 : Int32) (1 : Int32) w_BOOL w_SIGNED_CHAR w_UNSIGNED_CHAR w_SHORT w_UNSIGNED_SHORT w_INT w_UNSIGNED_INT w_LONG_LONG w_UNSIGNED_LONG_LONG h10 I (((((((((((E_w_SIGNED_CHAR.ext O0.2).ext E1).wr W2).wr W3).wr W4).wr W5).wr W6).wr W7).wr W8).wr W9).wr W10) (((((((((((F_w_SIGNED_CHAR_width.ext O0.2).ext E1).other W2 (Or.inl ne_w_SIGNED_CHAR_b1)).other W3 (Or.inl ne_w_SIGNED_CHAR_b1)).other W4 (Or.inl ne_w_SIGNED_CHAR_b1)).other W5 (Or.inl ne_w_SIGNED_CHAR_b1)).other W6 (Or.inl ne_w_SIGNED_CHAR_b1)).other W7 (Or.inl ne_w_SIGNED_CHAR_b1)).other W8 (Or.inl ne_w_SIGNED_CHAR_b1)).other W9 (Or.inl ne_w_SIGNED_CHAR_b1)).other W10 (Or.inl ne_w_SIGNED_CHAR_b1)) (((((((((((F_w_SIGNED_CHAR_signed.ext O0.2).ext E1).other W2 (Or.inl ne_w_SIGNED_CHAR_b1)).other W3 (Or.inl ne_w_SIGNED_CHAR_b1)).other W4 (Or.inl ne_w_SIGNED_CHAR_b1)).other W5 (Or.inl ne_w_SIGNED_CHAR_b1)).other W6 (Or.inl ne_w_SIGNED_CHAR_b1)).other W7 (Or.inl ne_w_SIGNED_CHAR_b1)).other W8 (Or.inl ne_w_SIGNED_CHAR_b1)).other W9 (Or.inl ne_w_SIGNED_CHAR_b1)).other W10 (Or.inl ne_w_SIGNED_CHAR_b1)) (((((((((((E_w_LONG_LONG.ext O0.2).ext E1).wr W2).wr W3).wr W4).wr W5).wr W6).wr W7).wr W8).wr W9).wr W10) (((((((((((F_w_LONG_LONG_width.ext O0.2).ext E1).other W2 (Or.inl ne_w_LONG_LONG_b1)).other W3 (Or.inl ne_w_LONG_LONG_b1)).other W4 (Or.inl ne_w_LONG_LONG_b1)).other W5 (Or.inl ne_w_LONG_LONG_b1)).other W6 (Or.inl ne_w_LONG_LONG_b1)).other W7 (Or.inl ne_w_LONG_LONG_b1)).other W8 (Or.inl ne_w_LONG_LONG_b1)).other W9 (Or.inl ne_w_LONG_LONG_b1)).other W10 (Or.inl ne_w_LONG_LONG_b1)) (((((((((((F_w_LONG_LONG_signed.ext O0.2).ext E1).other W2 (Or.inl ne_w_LONG_LONG_b1)).other W3 (Or.inl ne_w_LONG_LONG_b1)).other W4 (Or.inl ne_w_LONG_LONG_b1)).other W5 (Or.inl ne_w_LONG_LONG_b1)).other W6 (Or.inl ne_w_LONG_LONG_b1)).other W7 (Or.inl ne_w_LONG_LONG_b1)).other W8 (Or.inl ne_w_LONG_LONG_b1)).other W9 (Or.inl ne_w_LONG_LONG_b1)).other W10 (Or.inl ne_w_LONG_LONG_b1)) (by decide) (by decide)) at_113 rfl (lenOf own_pd2 rfl) rfl rfl rfl (by decide) (by decide) rfl rfl (by decide) (by decide) (own_kv fun v129 h129 q129 => ?_)
      obtain ⟨rfl, e129⟩ := q129
      rw [e129]
      rw [show own_com w_INT w_SIGNED_CHAR (8 : Int32) (1 : Int32) w_LONG_LONG (64 : Int32) (1 : Int32) = w_LONG_LONG from by simp [own_com]]
      refine own_aload 118 rfl at_116 rfl rfl ?_
      refine own_acmpNo 121 rfl at_118 rfl rfl (own_teq (rfl : ((.ref w_LONG_LONG) : Value) = (.ref w_LONG_LONG))).2 ?_
      refine own_iconst 122 rfl (1 : Int32) at_121 rfl ?_
      refine own_goto 126 at_122 (by decide) (by decide) ?_
      refine own_retN rfl (by simp) at_126 (by decide) (by decide) ?_
      exact ⟨_, rfl, rfl⟩
    · have hin_j := (rfl : (8 : Int) = 8)
      refine own_iloadN 81 rfl at_80 rfl ?_
      refine own_iconst 82 rfl (5 : Int32) at_81 rfl ?_
      refine own_callS 85 rfl 1 9 0 [(.int (1 : Int32)), (.int (5 : Int32))] [] (y := (⟨"java/lang/Math", "max", "(II)I"⟩ : MethodName)) (hw _ (List.mem_of_getElem? (i := 23) rfl)) (hw _ (List.mem_of_getElem? (i := 24) rfl)) (hw _ (List.mem_of_getElem? (i := 25) rfl)) (hw _ (List.mem_of_getElem? (i := 26) rfl)) (by decide) (rm1 l Z a0 hw [] (1 : Int32) (5 : Int32)  h10 ) at_82 rfl (lenOf own_pd1 rfl) rfl rfl rfl (by decide) (by decide) rfl rfl (by decide) (by decide) (own_kv fun v130 h130 q130 => ?_)
      obtain ⟨rfl, e130⟩ := q130
      rw [e130]
      rw [show (if (1 : Int32) < (5 : Int32) then (5 : Int32) else (1 : Int32)) = (5 : Int32) from by decide]
      refine own_istore 87 rfl #[.val (.int p1), .val (.int p2), .val (.ref b1), .val (.int (1 : Int32)), .val (.int (8 : Int32)), .val (.int (5 : Int32)), .unset, .unset] at_85 rfl ?_
      refine own_iload 89 rfl at_87 rfl ?_
      refine own_iconst 90 rfl (5 : Int32) at_89 rfl ?_
      refine own_callS 93 rfl 1 9 0 [(.int (8 : Int32)), (.int (5 : Int32))] [] (y := (⟨"java/lang/Math", "max", "(II)I"⟩ : MethodName)) (hw _ (List.mem_of_getElem? (i := 23) rfl)) (hw _ (List.mem_of_getElem? (i := 24) rfl)) (hw _ (List.mem_of_getElem? (i := 25) rfl)) (hw _ (List.mem_of_getElem? (i := 26) rfl)) (by decide) (rm1 l Z a0 hw [] (8 : Int32) (5 : Int32)  h10 ) at_90 rfl (lenOf own_pd1 rfl) rfl rfl rfl (by decide) (by decide) rfl rfl (by decide) (by decide) (own_kv fun v131 h131 q131 => ?_)
      obtain ⟨rfl, e131⟩ := q131
      rw [e131]
      rw [show (if (8 : Int32) < (5 : Int32) then (5 : Int32) else (8 : Int32)) = (8 : Int32) from by decide]
      refine own_istore 95 rfl #[.val (.int p1), .val (.int p2), .val (.ref b1), .val (.int (1 : Int32)), .val (.int (8 : Int32)), .val (.int (5 : Int32)), .val (.int (8 : Int32)), .unset] at_93 rfl ?_
      refine own_aloadN 96 rfl at_95 rfl rfl ?_
      refine own_iload 98 rfl at_96 rfl ?_
      refine own_iload 100 rfl at_98 rfl ?_
      refine own_callS 103 rfl 1 9 1 [(.int (5 : Int32)), (.int (8 : Int32))] [(.ref b1)] (y := (⟨"java/lang/Math", "max", "(II)I"⟩ : MethodName)) (hw _ (List.mem_of_getElem? (i := 23) rfl)) (hw _ (List.mem_of_getElem? (i := 24) rfl)) (hw _ (List.mem_of_getElem? (i := 25) rfl)) (hw _ (List.mem_of_getElem? (i := 26) rfl)) (by decide) (rm1 l Z a0 hw [] (5 : Int32) (8 : Int32)  h10 ) at_100 rfl (lenOf own_pd1 rfl) rfl rfl rfl (by decide) (by decide) rfl rfl (by decide) (by decide) (own_kv fun v132 h132 q132 => ?_)
      obtain ⟨rfl, e132⟩ := q132
      rw [e132]
      rw [show (if (5 : Int32) < (8 : Int32) then (8 : Int32) else (5 : Int32)) = (8 : Int32) from by decide]
      obtain ⟨c133, A133, q133, S133, N133, H133, G133⟩ := id V10
      refine own_aaload 104 rfl A133 rfl (inb_of S133 ⟨by decide, by decide⟩) (Has.at H133 (inb_of S133 ⟨by decide, by decide⟩) rfl) at_103 ?_
      refine own_astore 106 rfl #[.val (.int p1), .val (.int p2), .val (.ref b1), .val (.int (1 : Int32)), .val (.int (8 : Int32)), .val (.int (5 : Int32)), .val (.int (8 : Int32)), .val (.ref w_UNSIGNED_LONG_LONG)] at_104 rfl rfl ?_
      refine own_aloadN 107 rfl at_106 rfl rfl ?_
      refine own_iloadN 108 rfl at_107 rfl ?_
      obtain ⟨c134, A134, q134, S134, N134, H134, G134⟩ := id V10
      refine own_aaload 109 rfl A134 rfl (inb_of S134 ⟨by decide, by decide⟩) (Has.at H134 (inb_of S134 ⟨by decide, by decide⟩) rfl) at_108 ?_
      refine own_aloadN 110 rfl at_109 rfl rfl ?_
      refine own_iload 112 rfl at_110 rfl ?_
      obtain ⟨c135, A135, q135, S135, N135, H135, G135⟩ := id V10
      refine own_aaload 113 rfl A135 rfl (inb_of S135 ⟨by decide, by decide⟩) (Has.at H135 (inb_of S135 ⟨by decide, by decide⟩) rfl) at_112 ?_
      refine own_callS 116 rfl 1 9 0 [(.ref w_SIGNED_CHAR), (.ref w_UNSIGNED_LONG_LONG)] [] (y := (⟨"com/example/counterpath/counterpath/cfa/Type", "common", "(Lcom/example/counterpath/counterpath/cfa/Type;Lcom/example/counterpath/counterpath/cfa/Type;)Lcom/example/counterpath/counterpath/cfa/Type;"⟩ : MethodName)) (hw _ (List.mem_of_getElem? (i := 27) rfl)) (hw _ (List.mem_of_getElem? (i := 28) rfl)) (hw _ (List.mem_of_getElem? (i := 3) rfl)) (hw _ (List.mem_of_getElem? (i := 29) rfl)) (by decide) (rm2 l Z a0 hw [] w_SIGNED_CHAR w_UNSIGNED_LONG_LONG (8 : Int32) (1 : Int32) (64 : Int32) (0 : Int32) w_BOOL w_SIGNED_CHAR w_UNSIGNED_CHAR w_SHORT w_UNSIGNED_SHORT w_INT w_UNSIGNED_INT w_LONG_LONG w_UNSIGNED_LONG_LONG h10 I (((((((((((E_w_SIGNED_CHAR.ext O0.2).ext E1).wr W2).wr W3).wr W4).wr W5).wr W6).wr W7).wr W8).wr W9).wr W10) (((((((((((F_w_SIGNED_CHAR_width.ext O0.2).ext E1).other W2 (Or.inl ne_w_SIGNED_CHAR_b1)).other W3 (Or.inl ne_w_SIGNED_CHAR_b1)).other W4 (Or.inl ne_w_SIGNED_CHAR_b1)).other W5 (Or.inl ne_w_SIGNED_CHAR_b1)).other W6 (Or.inl ne_w_SIGNED_CHAR_b1)).other W7 (Or.inl ne_w_SIGNED_CHAR_b1)).other W8 (Or.inl ne_w_SIGNED_CHAR_b1)).other W9 (Or.inl ne_w_SIGNED_CHAR_b1)).other W10 (Or.inl ne_w_SIGNED_CHAR_b1)) (((((((((((F_w_SIGNED_CHAR_signed.ext O0.2).ext E1).other W2 (Or.inl ne_w_SIGNED_CHAR_b1)).other W3 (Or.inl ne_w_SIGNED_CHAR_b1)).other W4 (Or.inl ne_w_SIGNED_CHAR_b1)).other W5 (Or.inl ne_w_SIGNED_CHAR_b1)).other W6 (Or.inl ne_w_SIGNED_CHAR_b1)).other W7 (Or.inl ne_w_SIGNED_CHAR_b1)).other W8 (Or.inl ne_w_SIGNED_CHAR_b1)).other W9 (Or.inl ne_w_SIGNED_CHAR_b1)).other W10 (Or.inl ne_w_SIGNED_CHAR_b1)) (((((((((((E_w_UNSIGNED_LONG_LONG.ext O0.2).ext E1).wr W2).wr W3).wr W4).wr W5).wr W6).wr W7).wr W8).wr W9).wr W10) (((((((((((F_w_UNSIGNED_LONG_LONG_width.ext O0.2).ext E1).other W2 (Or.inl ne_w_UNSIGNED_LONG_LONG_b1)).other W3 (Or.inl ne_w_UNSIGNED_LONG_LONG_b1)).other W4 (Or.inl ne_w_UNSIGNED_LONG_LONG_b1)).other W5 (Or.inl ne_w_UNSIGNED_LONG_LONG_b1)).other W6 (Or.inl ne_w_UNSIGNED_LONG_LONG_b1)).other W7 (Or.inl ne_w_UNSIGNED_LONG_LONG_b1)).other W8 (Or.inl ne_w_UNSIGNED_LONG_LONG_b1)).other W9 (Or.inl ne_w_UNSIGNED_LONG_LONG_b1)).other W10 (Or.inl ne_w_UNSIGNED_LONG_LONG_b1)) (((((((((((F_w_UNSIGNED_LONG_LONG_signed.ext O0.2).ext E1).other W2 (Or.inl ne_w_UNSIGNED_LONG_LONG_b1)).other W3 (Or.inl ne_w_UNSIGNED_LONG_LONG_b1)).other W4 (Or.inl ne_w_UNSIGNED_LONG_LONG_b1)).other W5 (Or.inl ne_w_UNSIGNED_LONG_LONG_b1)).other W6 (Or.inl ne_w_UNSIGNED_LONG_LONG_b1)).other W7 (Or.inl ne_w_UNSIGNED_LONG_LONG_b1)).other W8 (Or.inl ne_w_UNSIGNED_LONG_LONG_b1)).other W9 (Or.inl ne_w_UNSIGNED_LONG_LONG_b1)).other W10 (Or.inl ne_w_UNSIGNED_LONG_LONG_b1)) (by decide) (by decide)) at_113 rfl (lenOf own_pd2 rfl) rfl rfl rfl (by decide) (by decide) rfl rfl (by decide) (by decide) (own_kv fun v136 h136 q136 => ?_)
      obtain ⟨rfl, e136⟩ := q136
      rw [e136]
      rw [show own_com w_INT w_SIGNED_CHAR (8 : Int32) (1 : Int32) w_UNSIGNED_LONG_LONG (64 : Int32) (0 : Int32) = w_UNSIGNED_LONG_LONG from by simp [own_com]]
      refine own_aload 118 rfl at_116 rfl rfl ?_
      refine own_acmpNo 121 rfl at_118 rfl rfl (own_teq (rfl : ((.ref w_UNSIGNED_LONG_LONG) : Value) = (.ref w_UNSIGNED_LONG_LONG))).2 ?_
      refine own_iconst 122 rfl (1 : Int32) at_121 rfl ?_
      refine own_goto 126 at_122 (by decide) (by decide) ?_
      refine own_retN rfl (by simp) at_126 (by decide) (by decide) ?_
      exact ⟨_, rfl, rfl⟩
  · have hin_k := (rfl : (2 : Int) = 2)
    have hr_j : j = (0 : Int32) ∨ j = (1 : Int32) ∨ j = (2 : Int32) ∨ j = (3 : Int32) ∨ j = (4 : Int32) ∨ j = (5 : Int32) ∨ j = (6 : Int32) ∨ j = (7 : Int32) ∨ j = (8 : Int32) := by
      have hrz : j.toInt = 0 ∨ j.toInt = 1 ∨ j.toInt = 2 ∨ j.toInt = 3 ∨ j.toInt = 4 ∨ j.toInt = 5 ∨ j.toInt = 6 ∨ j.toInt = 7 ∨ j.toInt = 8 := by omega
      rcases hrz with q | q | q | q | q | q | q | q | q
      · exact Or.inl (own_eq' q)
      · exact Or.inr (Or.inl (own_eq' q))
      · exact Or.inr (Or.inr (Or.inl (own_eq' q)))
      · exact Or.inr (Or.inr (Or.inr (Or.inl (own_eq' q))))
      · exact Or.inr (Or.inr (Or.inr (Or.inr (Or.inl (own_eq' q)))))
      · exact Or.inr (Or.inr (Or.inr (Or.inr (Or.inr (Or.inl (own_eq' q))))))
      · exact Or.inr (Or.inr (Or.inr (Or.inr (Or.inr (Or.inr (Or.inl (own_eq' q)))))))
      · exact Or.inr (Or.inr (Or.inr (Or.inr (Or.inr (Or.inr (Or.inr (Or.inl (own_eq' q))))))))
      · exact Or.inr (Or.inr (Or.inr (Or.inr (Or.inr (Or.inr (Or.inr (Or.inr (own_eq' q))))))))
    rcases hr_j with rfl | rfl | rfl | rfl | rfl | rfl | rfl | rfl | rfl
    · have hin_j := (rfl : (0 : Int) = 0)
      refine own_iloadN 81 rfl at_80 rfl ?_
      refine own_iconst 82 rfl (5 : Int32) at_81 rfl ?_
      refine own_callS 85 rfl 1 9 0 [(.int (2 : Int32)), (.int (5 : Int32))] [] (y := (⟨"java/lang/Math", "max", "(II)I"⟩ : MethodName)) (hw _ (List.mem_of_getElem? (i := 23) rfl)) (hw _ (List.mem_of_getElem? (i := 24) rfl)) (hw _ (List.mem_of_getElem? (i := 25) rfl)) (hw _ (List.mem_of_getElem? (i := 26) rfl)) (by decide) (rm1 l Z a0 hw [] (2 : Int32) (5 : Int32)  h10 ) at_82 rfl (lenOf own_pd1 rfl) rfl rfl rfl (by decide) (by decide) rfl rfl (by decide) (by decide) (own_kv fun v137 h137 q137 => ?_)
      obtain ⟨rfl, e137⟩ := q137
      rw [e137]
      rw [show (if (2 : Int32) < (5 : Int32) then (5 : Int32) else (2 : Int32)) = (5 : Int32) from by decide]
      refine own_istore 87 rfl #[.val (.int p1), .val (.int p2), .val (.ref b1), .val (.int (2 : Int32)), .val (.int (0 : Int32)), .val (.int (5 : Int32)), .unset, .unset] at_85 rfl ?_
      refine own_iload 89 rfl at_87 rfl ?_
      refine own_iconst 90 rfl (5 : Int32) at_89 rfl ?_
      refine own_callS 93 rfl 1 9 0 [(.int (0 : Int32)), (.int (5 : Int32))] [] (y := (⟨"java/lang/Math", "max", "(II)I"⟩ : MethodName)) (hw _ (List.mem_of_getElem? (i := 23) rfl)) (hw _ (List.mem_of_getElem? (i := 24) rfl)) (hw _ (List.mem_of_getElem? (i := 25) rfl)) (hw _ (List.mem_of_getElem? (i := 26) rfl)) (by decide) (rm1 l Z a0 hw [] (0 : Int32) (5 : Int32)  h10 ) at_90 rfl (lenOf own_pd1 rfl) rfl rfl rfl (by decide) (by decide) rfl rfl (by decide) (by decide) (own_kv fun v138 h138 q138 => ?_)
      obtain ⟨rfl, e138⟩ := q138
      rw [e138]
      rw [show (if (0 : Int32) < (5 : Int32) then (5 : Int32) else (0 : Int32)) = (5 : Int32) from by decide]
      refine own_istore 95 rfl #[.val (.int p1), .val (.int p2), .val (.ref b1), .val (.int (2 : Int32)), .val (.int (0 : Int32)), .val (.int (5 : Int32)), .val (.int (5 : Int32)), .unset] at_93 rfl ?_
      refine own_aloadN 96 rfl at_95 rfl rfl ?_
      refine own_iload 98 rfl at_96 rfl ?_
      refine own_iload 100 rfl at_98 rfl ?_
      refine own_callS 103 rfl 1 9 1 [(.int (5 : Int32)), (.int (5 : Int32))] [(.ref b1)] (y := (⟨"java/lang/Math", "max", "(II)I"⟩ : MethodName)) (hw _ (List.mem_of_getElem? (i := 23) rfl)) (hw _ (List.mem_of_getElem? (i := 24) rfl)) (hw _ (List.mem_of_getElem? (i := 25) rfl)) (hw _ (List.mem_of_getElem? (i := 26) rfl)) (by decide) (rm1 l Z a0 hw [] (5 : Int32) (5 : Int32)  h10 ) at_100 rfl (lenOf own_pd1 rfl) rfl rfl rfl (by decide) (by decide) rfl rfl (by decide) (by decide) (own_kv fun v139 h139 q139 => ?_)
      obtain ⟨rfl, e139⟩ := q139
      rw [e139]
      rw [show (if (5 : Int32) < (5 : Int32) then (5 : Int32) else (5 : Int32)) = (5 : Int32) from by decide]
      obtain ⟨c140, A140, q140, S140, N140, H140, G140⟩ := id V10
      refine own_aaload 104 rfl A140 rfl (inb_of S140 ⟨by decide, by decide⟩) (Has.at H140 (inb_of S140 ⟨by decide, by decide⟩) rfl) at_103 ?_
      refine own_astore 106 rfl #[.val (.int p1), .val (.int p2), .val (.ref b1), .val (.int (2 : Int32)), .val (.int (0 : Int32)), .val (.int (5 : Int32)), .val (.int (5 : Int32)), .val (.ref w_INT)] at_104 rfl rfl ?_
      refine own_aloadN 107 rfl at_106 rfl rfl ?_
      refine own_iloadN 108 rfl at_107 rfl ?_
      obtain ⟨c141, A141, q141, S141, N141, H141, G141⟩ := id V10
      refine own_aaload 109 rfl A141 rfl (inb_of S141 ⟨by decide, by decide⟩) (Has.at H141 (inb_of S141 ⟨by decide, by decide⟩) rfl) at_108 ?_
      refine own_aloadN 110 rfl at_109 rfl rfl ?_
      refine own_iload 112 rfl at_110 rfl ?_
      obtain ⟨c142, A142, q142, S142, N142, H142, G142⟩ := id V10
      refine own_aaload 113 rfl A142 rfl (inb_of S142 ⟨by decide, by decide⟩) (Has.at H142 (inb_of S142 ⟨by decide, by decide⟩) rfl) at_112 ?_
      refine own_callS 116 rfl 1 9 0 [(.ref w_UNSIGNED_CHAR), (.ref w_BOOL)] [] (y := (⟨"com/example/counterpath/counterpath/cfa/Type", "common", "(Lcom/example/counterpath/counterpath/cfa/Type;Lcom/example/counterpath/counterpath/cfa/Type;)Lcom/example/counterpath/counterpath/cfa/Type;"⟩ : MethodName)) (hw _ (List.mem_of_getElem? (i := 27) rfl)) (hw _ (List.mem_of_getElem? (i := 28) rfl)) (hw _ (List.mem_of_getElem? (i := 3) rfl)) (hw _ (List.mem_of_getElem? (i := 29) rfl)) (by decide) (rm2 l Z a0 hw [] w_UNSIGNED_CHAR w_BOOL (8 : Int32) (0 : Int32) (1 : Int32) (0 : Int32) w_BOOL w_SIGNED_CHAR w_UNSIGNED_CHAR w_SHORT w_UNSIGNED_SHORT w_INT w_UNSIGNED_INT w_LONG_LONG w_UNSIGNED_LONG_LONG h10 I (((((((((((E_w_UNSIGNED_CHAR.ext O0.2).ext E1).wr W2).wr W3).wr W4).wr W5).wr W6).wr W7).wr W8).wr W9).wr W10) (((((((((((F_w_UNSIGNED_CHAR_width.ext O0.2).ext E1).other W2 (Or.inl ne_w_UNSIGNED_CHAR_b1)).other W3 (Or.inl ne_w_UNSIGNED_CHAR_b1)).other W4 (Or.inl ne_w_UNSIGNED_CHAR_b1)).other W5 (Or.inl ne_w_UNSIGNED_CHAR_b1)).other W6 (Or.inl ne_w_UNSIGNED_CHAR_b1)).other W7 (Or.inl ne_w_UNSIGNED_CHAR_b1)).other W8 (Or.inl ne_w_UNSIGNED_CHAR_b1)).other W9 (Or.inl ne_w_UNSIGNED_CHAR_b1)).other W10 (Or.inl ne_w_UNSIGNED_CHAR_b1)) (((((((((((F_w_UNSIGNED_CHAR_signed.ext O0.2).ext E1).other W2 (Or.inl ne_w_UNSIGNED_CHAR_b1)).other W3 (Or.inl ne_w_UNSIGNED_CHAR_b1)).other W4 (Or.inl ne_w_UNSIGNED_CHAR_b1)).other W5 (Or.inl ne_w_UNSIGNED_CHAR_b1)).other W6 (Or.inl ne_w_UNSIGNED_CHAR_b1)).other W7 (Or.inl ne_w_UNSIGNED_CHAR_b1)).other W8 (Or.inl ne_w_UNSIGNED_CHAR_b1)).other W9 (Or.inl ne_w_UNSIGNED_CHAR_b1)).other W10 (Or.inl ne_w_UNSIGNED_CHAR_b1)) (((((((((((E_w_BOOL.ext O0.2).ext E1).wr W2).wr W3).wr W4).wr W5).wr W6).wr W7).wr W8).wr W9).wr W10) (((((((((((F_w_BOOL_width.ext O0.2).ext E1).other W2 (Or.inl ne_w_BOOL_b1)).other W3 (Or.inl ne_w_BOOL_b1)).other W4 (Or.inl ne_w_BOOL_b1)).other W5 (Or.inl ne_w_BOOL_b1)).other W6 (Or.inl ne_w_BOOL_b1)).other W7 (Or.inl ne_w_BOOL_b1)).other W8 (Or.inl ne_w_BOOL_b1)).other W9 (Or.inl ne_w_BOOL_b1)).other W10 (Or.inl ne_w_BOOL_b1)) (((((((((((F_w_BOOL_signed.ext O0.2).ext E1).other W2 (Or.inl ne_w_BOOL_b1)).other W3 (Or.inl ne_w_BOOL_b1)).other W4 (Or.inl ne_w_BOOL_b1)).other W5 (Or.inl ne_w_BOOL_b1)).other W6 (Or.inl ne_w_BOOL_b1)).other W7 (Or.inl ne_w_BOOL_b1)).other W8 (Or.inl ne_w_BOOL_b1)).other W9 (Or.inl ne_w_BOOL_b1)).other W10 (Or.inl ne_w_BOOL_b1)) (by decide) (by decide)) at_113 rfl (lenOf own_pd2 rfl) rfl rfl rfl (by decide) (by decide) rfl rfl (by decide) (by decide) (own_kv fun v143 h143 q143 => ?_)
      obtain ⟨rfl, e143⟩ := q143
      rw [e143]
      rw [show own_com w_INT w_UNSIGNED_CHAR (8 : Int32) (0 : Int32) w_BOOL (1 : Int32) (0 : Int32) = w_INT from by simp [own_com]]
      refine own_aload 118 rfl at_116 rfl rfl ?_
      refine own_acmpNo 121 rfl at_118 rfl rfl (own_teq (rfl : ((.ref w_INT) : Value) = (.ref w_INT))).2 ?_
      refine own_iconst 122 rfl (1 : Int32) at_121 rfl ?_
      refine own_goto 126 at_122 (by decide) (by decide) ?_
      refine own_retN rfl (by simp) at_126 (by decide) (by decide) ?_
      exact ⟨_, rfl, rfl⟩
    · have hin_j := (rfl : (1 : Int) = 1)
      refine own_iloadN 81 rfl at_80 rfl ?_
      refine own_iconst 82 rfl (5 : Int32) at_81 rfl ?_
      refine own_callS 85 rfl 1 9 0 [(.int (2 : Int32)), (.int (5 : Int32))] [] (y := (⟨"java/lang/Math", "max", "(II)I"⟩ : MethodName)) (hw _ (List.mem_of_getElem? (i := 23) rfl)) (hw _ (List.mem_of_getElem? (i := 24) rfl)) (hw _ (List.mem_of_getElem? (i := 25) rfl)) (hw _ (List.mem_of_getElem? (i := 26) rfl)) (by decide) (rm1 l Z a0 hw [] (2 : Int32) (5 : Int32)  h10 ) at_82 rfl (lenOf own_pd1 rfl) rfl rfl rfl (by decide) (by decide) rfl rfl (by decide) (by decide) (own_kv fun v144 h144 q144 => ?_)
      obtain ⟨rfl, e144⟩ := q144
      rw [e144]
      rw [show (if (2 : Int32) < (5 : Int32) then (5 : Int32) else (2 : Int32)) = (5 : Int32) from by decide]
      refine own_istore 87 rfl #[.val (.int p1), .val (.int p2), .val (.ref b1), .val (.int (2 : Int32)), .val (.int (1 : Int32)), .val (.int (5 : Int32)), .unset, .unset] at_85 rfl ?_
      refine own_iload 89 rfl at_87 rfl ?_
      refine own_iconst 90 rfl (5 : Int32) at_89 rfl ?_
      refine own_callS 93 rfl 1 9 0 [(.int (1 : Int32)), (.int (5 : Int32))] [] (y := (⟨"java/lang/Math", "max", "(II)I"⟩ : MethodName)) (hw _ (List.mem_of_getElem? (i := 23) rfl)) (hw _ (List.mem_of_getElem? (i := 24) rfl)) (hw _ (List.mem_of_getElem? (i := 25) rfl)) (hw _ (List.mem_of_getElem? (i := 26) rfl)) (by decide) (rm1 l Z a0 hw [] (1 : Int32) (5 : Int32)  h10 ) at_90 rfl (lenOf own_pd1 rfl) rfl rfl rfl (by decide) (by decide) rfl rfl (by decide) (by decide) (own_kv fun v145 h145 q145 => ?_)
      obtain ⟨rfl, e145⟩ := q145
      rw [e145]
      rw [show (if (1 : Int32) < (5 : Int32) then (5 : Int32) else (1 : Int32)) = (5 : Int32) from by decide]
      refine own_istore 95 rfl #[.val (.int p1), .val (.int p2), .val (.ref b1), .val (.int (2 : Int32)), .val (.int (1 : Int32)), .val (.int (5 : Int32)), .val (.int (5 : Int32)), .unset] at_93 rfl ?_
      refine own_aloadN 96 rfl at_95 rfl rfl ?_
      refine own_iload 98 rfl at_96 rfl ?_
      refine own_iload 100 rfl at_98 rfl ?_
      refine own_callS 103 rfl 1 9 1 [(.int (5 : Int32)), (.int (5 : Int32))] [(.ref b1)] (y := (⟨"java/lang/Math", "max", "(II)I"⟩ : MethodName)) (hw _ (List.mem_of_getElem? (i := 23) rfl)) (hw _ (List.mem_of_getElem? (i := 24) rfl)) (hw _ (List.mem_of_getElem? (i := 25) rfl)) (hw _ (List.mem_of_getElem? (i := 26) rfl)) (by decide) (rm1 l Z a0 hw [] (5 : Int32) (5 : Int32)  h10 ) at_100 rfl (lenOf own_pd1 rfl) rfl rfl rfl (by decide) (by decide) rfl rfl (by decide) (by decide) (own_kv fun v146 h146 q146 => ?_)
      obtain ⟨rfl, e146⟩ := q146
      rw [e146]
      rw [show (if (5 : Int32) < (5 : Int32) then (5 : Int32) else (5 : Int32)) = (5 : Int32) from by decide]
      obtain ⟨c147, A147, q147, S147, N147, H147, G147⟩ := id V10
      refine own_aaload 104 rfl A147 rfl (inb_of S147 ⟨by decide, by decide⟩) (Has.at H147 (inb_of S147 ⟨by decide, by decide⟩) rfl) at_103 ?_
      refine own_astore 106 rfl #[.val (.int p1), .val (.int p2), .val (.ref b1), .val (.int (2 : Int32)), .val (.int (1 : Int32)), .val (.int (5 : Int32)), .val (.int (5 : Int32)), .val (.ref w_INT)] at_104 rfl rfl ?_
      refine own_aloadN 107 rfl at_106 rfl rfl ?_
      refine own_iloadN 108 rfl at_107 rfl ?_
      obtain ⟨c148, A148, q148, S148, N148, H148, G148⟩ := id V10
      refine own_aaload 109 rfl A148 rfl (inb_of S148 ⟨by decide, by decide⟩) (Has.at H148 (inb_of S148 ⟨by decide, by decide⟩) rfl) at_108 ?_
      refine own_aloadN 110 rfl at_109 rfl rfl ?_
      refine own_iload 112 rfl at_110 rfl ?_
      obtain ⟨c149, A149, q149, S149, N149, H149, G149⟩ := id V10
      refine own_aaload 113 rfl A149 rfl (inb_of S149 ⟨by decide, by decide⟩) (Has.at H149 (inb_of S149 ⟨by decide, by decide⟩) rfl) at_112 ?_
      refine own_callS 116 rfl 1 9 0 [(.ref w_UNSIGNED_CHAR), (.ref w_SIGNED_CHAR)] [] (y := (⟨"com/example/counterpath/counterpath/cfa/Type", "common", "(Lcom/example/counterpath/counterpath/cfa/Type;Lcom/example/counterpath/counterpath/cfa/Type;)Lcom/example/counterpath/counterpath/cfa/Type;"⟩ : MethodName)) (hw _ (List.mem_of_getElem? (i := 27) rfl)) (hw _ (List.mem_of_getElem? (i := 28) rfl)) (hw _ (List.mem_of_getElem? (i := 3) rfl)) (hw _ (List.mem_of_getElem? (i := 29) rfl)) (by decide) (rm2 l Z a0 hw [] w_UNSIGNED_CHAR w_SIGNED_CHAR (8 : Int32) (0 : Int32) (8 : Int32) (1 : Int32) w_BOOL w_SIGNED_CHAR w_UNSIGNED_CHAR w_SHORT w_UNSIGNED_SHORT w_INT w_UNSIGNED_INT w_LONG_LONG w_UNSIGNED_LONG_LONG h10 I (((((((((((E_w_UNSIGNED_CHAR.ext O0.2).ext E1).wr W2).wr W3).wr W4).wr W5).wr W6).wr W7).wr W8).wr W9).wr W10) (((((((((((F_w_UNSIGNED_CHAR_width.ext O0.2).ext E1).other W2 (Or.inl ne_w_UNSIGNED_CHAR_b1)).other W3 (Or.inl ne_w_UNSIGNED_CHAR_b1)).other W4 (Or.inl ne_w_UNSIGNED_CHAR_b1)).other W5 (Or.inl ne_w_UNSIGNED_CHAR_b1)).other W6 (Or.inl ne_w_UNSIGNED_CHAR_b1)).other W7 (Or.inl ne_w_UNSIGNED_CHAR_b1)).other W8 (Or.inl ne_w_UNSIGNED_CHAR_b1)).other W9 (Or.inl ne_w_UNSIGNED_CHAR_b1)).other W10 (Or.inl ne_w_UNSIGNED_CHAR_b1)) (((((((((((F_w_UNSIGNED_CHAR_signed.ext O0.2).ext E1).other W2 (Or.inl ne_w_UNSIGNED_CHAR_b1)).other W3 (Or.inl ne_w_UNSIGNED_CHAR_b1)).other W4 (Or.inl ne_w_UNSIGNED_CHAR_b1)).other W5 (Or.inl ne_w_UNSIGNED_CHAR_b1)).other W6 (Or.inl ne_w_UNSIGNED_CHAR_b1)).other W7 (Or.inl ne_w_UNSIGNED_CHAR_b1)).other W8 (Or.inl ne_w_UNSIGNED_CHAR_b1)).other W9 (Or.inl ne_w_UNSIGNED_CHAR_b1)).other W10 (Or.inl ne_w_UNSIGNED_CHAR_b1)) (((((((((((E_w_SIGNED_CHAR.ext O0.2).ext E1).wr W2).wr W3).wr W4).wr W5).wr W6).wr W7).wr W8).wr W9).wr W10) (((((((((((F_w_SIGNED_CHAR_width.ext O0.2).ext E1).other W2 (Or.inl ne_w_SIGNED_CHAR_b1)).other W3 (Or.inl ne_w_SIGNED_CHAR_b1)).other W4 (Or.inl ne_w_SIGNED_CHAR_b1)).other W5 (Or.inl ne_w_SIGNED_CHAR_b1)).other W6 (Or.inl ne_w_SIGNED_CHAR_b1)).other W7 (Or.inl ne_w_SIGNED_CHAR_b1)).other W8 (Or.inl ne_w_SIGNED_CHAR_b1)).other W9 (Or.inl ne_w_SIGNED_CHAR_b1)).other W10 (Or.inl ne_w_SIGNED_CHAR_b1)) (((((((((((F_w_SIGNED_CHAR_signed.ext O0.2).ext E1).other W2 (Or.inl ne_w_SIGNED_CHAR_b1)).other W3 (Or.inl ne_w_SIGNED_CHAR_b1)).other W4 (Or.inl ne_w_SIGNED_CHAR_b1)).other W5 (Or.inl ne_w_SIGNED_CHAR_b1)).other W6 (Or.inl ne_w_SIGNED_CHAR_b1)).other W7 (Or.inl ne_w_SIGNED_CHAR_b1)).other W8 (Or.inl ne_w_SIGNED_CHAR_b1)).other W9 (Or.inl ne_w_SIGNED_CHAR_b1)).other W10 (Or.inl ne_w_SIGNED_CHAR_b1)) (by decide) (by decide)) at_113 rfl (lenOf own_pd2 rfl) rfl rfl rfl (by decide) (by decide) rfl rfl (by decide) (by decide) (own_kv fun v150 h150 q150 => ?_)
      obtain ⟨rfl, e150⟩ := q150
      rw [e150]
      rw [show own_com w_INT w_UNSIGNED_CHAR (8 : Int32) (0 : Int32) w_SIGNED_CHAR (8 : Int32) (1 : Int32) = w_INT from by simp [own_com]]
      refine own_aload 118 rfl at_116 rfl rfl ?_
      refine own_acmpNo 121 rfl at_118 rfl rfl (own_teq (rfl : ((.ref w_INT) : Value) = (.ref w_INT))).2 ?_
      refine own_iconst 122 rfl (1 : Int32) at_121 rfl ?_
      refine own_goto 126 at_122 (by decide) (by decide) ?_
      refine own_retN rfl (by simp) at_126 (by decide) (by decide) ?_
      exact ⟨_, rfl, rfl⟩
    · have hin_j := (rfl : (2 : Int) = 2)
      refine own_iloadN 81 rfl at_80 rfl ?_
      refine own_iconst 82 rfl (5 : Int32) at_81 rfl ?_
      refine own_callS 85 rfl 1 9 0 [(.int (2 : Int32)), (.int (5 : Int32))] [] (y := (⟨"java/lang/Math", "max", "(II)I"⟩ : MethodName)) (hw _ (List.mem_of_getElem? (i := 23) rfl)) (hw _ (List.mem_of_getElem? (i := 24) rfl)) (hw _ (List.mem_of_getElem? (i := 25) rfl)) (hw _ (List.mem_of_getElem? (i := 26) rfl)) (by decide) (rm1 l Z a0 hw [] (2 : Int32) (5 : Int32)  h10 ) at_82 rfl (lenOf own_pd1 rfl) rfl rfl rfl (by decide) (by decide) rfl rfl (by decide) (by decide) (own_kv fun v151 h151 q151 => ?_)
      obtain ⟨rfl, e151⟩ := q151
      rw [e151]
      rw [show (if (2 : Int32) < (5 : Int32) then (5 : Int32) else (2 : Int32)) = (5 : Int32) from by decide]
      refine own_istore 87 rfl #[.val (.int p1), .val (.int p2), .val (.ref b1), .val (.int (2 : Int32)), .val (.int (2 : Int32)), .val (.int (5 : Int32)), .unset, .unset] at_85 rfl ?_
      refine own_iload 89 rfl at_87 rfl ?_
      refine own_iconst 90 rfl (5 : Int32) at_89 rfl ?_
      refine own_callS 93 rfl 1 9 0 [(.int (2 : Int32)), (.int (5 : Int32))] [] (y := (⟨"java/lang/Math", "max", "(II)I"⟩ : MethodName)) (hw _ (List.mem_of_getElem? (i := 23) rfl)) (hw _ (List.mem_of_getElem? (i := 24) rfl)) (hw _ (List.mem_of_getElem? (i := 25) rfl)) (hw _ (List.mem_of_getElem? (i := 26) rfl)) (by decide) (rm1 l Z a0 hw [] (2 : Int32) (5 : Int32)  h10 ) at_90 rfl (lenOf own_pd1 rfl) rfl rfl rfl (by decide) (by decide) rfl rfl (by decide) (by decide) (own_kv fun v152 h152 q152 => ?_)
      obtain ⟨rfl, e152⟩ := q152
      rw [e152]
      rw [show (if (2 : Int32) < (5 : Int32) then (5 : Int32) else (2 : Int32)) = (5 : Int32) from by decide]
      refine own_istore 95 rfl #[.val (.int p1), .val (.int p2), .val (.ref b1), .val (.int (2 : Int32)), .val (.int (2 : Int32)), .val (.int (5 : Int32)), .val (.int (5 : Int32)), .unset] at_93 rfl ?_
      refine own_aloadN 96 rfl at_95 rfl rfl ?_
      refine own_iload 98 rfl at_96 rfl ?_
      refine own_iload 100 rfl at_98 rfl ?_
      refine own_callS 103 rfl 1 9 1 [(.int (5 : Int32)), (.int (5 : Int32))] [(.ref b1)] (y := (⟨"java/lang/Math", "max", "(II)I"⟩ : MethodName)) (hw _ (List.mem_of_getElem? (i := 23) rfl)) (hw _ (List.mem_of_getElem? (i := 24) rfl)) (hw _ (List.mem_of_getElem? (i := 25) rfl)) (hw _ (List.mem_of_getElem? (i := 26) rfl)) (by decide) (rm1 l Z a0 hw [] (5 : Int32) (5 : Int32)  h10 ) at_100 rfl (lenOf own_pd1 rfl) rfl rfl rfl (by decide) (by decide) rfl rfl (by decide) (by decide) (own_kv fun v153 h153 q153 => ?_)
      obtain ⟨rfl, e153⟩ := q153
      rw [e153]
      rw [show (if (5 : Int32) < (5 : Int32) then (5 : Int32) else (5 : Int32)) = (5 : Int32) from by decide]
      obtain ⟨c154, A154, q154, S154, N154, H154, G154⟩ := id V10
      refine own_aaload 104 rfl A154 rfl (inb_of S154 ⟨by decide, by decide⟩) (Has.at H154 (inb_of S154 ⟨by decide, by decide⟩) rfl) at_103 ?_
      refine own_astore 106 rfl #[.val (.int p1), .val (.int p2), .val (.ref b1), .val (.int (2 : Int32)), .val (.int (2 : Int32)), .val (.int (5 : Int32)), .val (.int (5 : Int32)), .val (.ref w_INT)] at_104 rfl rfl ?_
      refine own_aloadN 107 rfl at_106 rfl rfl ?_
      refine own_iloadN 108 rfl at_107 rfl ?_
      obtain ⟨c155, A155, q155, S155, N155, H155, G155⟩ := id V10
      refine own_aaload 109 rfl A155 rfl (inb_of S155 ⟨by decide, by decide⟩) (Has.at H155 (inb_of S155 ⟨by decide, by decide⟩) rfl) at_108 ?_
      refine own_aloadN 110 rfl at_109 rfl rfl ?_
      refine own_iload 112 rfl at_110 rfl ?_
      obtain ⟨c156, A156, q156, S156, N156, H156, G156⟩ := id V10
      refine own_aaload 113 rfl A156 rfl (inb_of S156 ⟨by decide, by decide⟩) (Has.at H156 (inb_of S156 ⟨by decide, by decide⟩) rfl) at_112 ?_
      refine own_callS 116 rfl 1 9 0 [(.ref w_UNSIGNED_CHAR), (.ref w_UNSIGNED_CHAR)] [] (y := (⟨"com/example/counterpath/counterpath/cfa/Type", "common", "(Lcom/example/counterpath/counterpath/cfa/Type;Lcom/example/counterpath/counterpath/cfa/Type;)Lcom/example/counterpath/counterpath/cfa/Type;"⟩ : MethodName)) (hw _ (List.mem_of_getElem? (i := 27) rfl)) (hw _ (List.mem_of_getElem? (i := 28) rfl)) (hw _ (List.mem_of_getElem? (i := 3) rfl)) (hw _ (List.mem_of_getElem? (i := 29) rfl)) (by decide) (rm2 l Z a0 hw [] w_UNSIGNED_CHAR w_UNSIGNED_CHAR (8 : Int32) (0 : Int32) (8 : Int32) (0 : Int32) w_BOOL w_SIGNED_CHAR w_UNSIGNED_CHAR w_SHORT w_UNSIGNED_SHORT w_INT w_UNSIGNED_INT w_LONG_LONG w_UNSIGNED_LONG_LONG h10 I (((((((((((E_w_UNSIGNED_CHAR.ext O0.2).ext E1).wr W2).wr W3).wr W4).wr W5).wr W6).wr W7).wr W8).wr W9).wr W10) (((((((((((F_w_UNSIGNED_CHAR_width.ext O0.2).ext E1).other W2 (Or.inl ne_w_UNSIGNED_CHAR_b1)).other W3 (Or.inl ne_w_UNSIGNED_CHAR_b1)).other W4 (Or.inl ne_w_UNSIGNED_CHAR_b1)).other W5 (Or.inl ne_w_UNSIGNED_CHAR_b1)).other W6 (Or.inl ne_w_UNSIGNED_CHAR_b1)).other W7 (Or.inl ne_w_UNSIGNED_CHAR_b1)).other W8 (Or.inl ne_w_UNSIGNED_CHAR_b1)).other W9 (Or.inl ne_w_UNSIGNED_CHAR_b1)).other W10 (Or.inl ne_w_UNSIGNED_CHAR_b1)) (((((((((((F_w_UNSIGNED_CHAR_signed.ext O0.2).ext E1).other W2 (Or.inl ne_w_UNSIGNED_CHAR_b1)).other W3 (Or.inl ne_w_UNSIGNED_CHAR_b1)).other W4 (Or.inl ne_w_UNSIGNED_CHAR_b1)).other W5 (Or.inl ne_w_UNSIGNED_CHAR_b1)).other W6 (Or.inl ne_w_UNSIGNED_CHAR_b1)).other W7 (Or.inl ne_w_UNSIGNED_CHAR_b1)).other W8 (Or.inl ne_w_UNSIGNED_CHAR_b1)).other W9 (Or.inl ne_w_UNSIGNED_CHAR_b1)).other W10 (Or.inl ne_w_UNSIGNED_CHAR_b1)) (((((((((((E_w_UNSIGNED_CHAR.ext O0.2).ext E1).wr W2).wr W3).wr W4).wr W5).wr W6).wr W7).wr W8).wr W9).wr W10) (((((((((((F_w_UNSIGNED_CHAR_width.ext O0.2).ext E1).other W2 (Or.inl ne_w_UNSIGNED_CHAR_b1)).other W3 (Or.inl ne_w_UNSIGNED_CHAR_b1)).other W4 (Or.inl ne_w_UNSIGNED_CHAR_b1)).other W5 (Or.inl ne_w_UNSIGNED_CHAR_b1)).other W6 (Or.inl ne_w_UNSIGNED_CHAR_b1)).other W7 (Or.inl ne_w_UNSIGNED_CHAR_b1)).other W8 (Or.inl ne_w_UNSIGNED_CHAR_b1)).other W9 (Or.inl ne_w_UNSIGNED_CHAR_b1)).other W10 (Or.inl ne_w_UNSIGNED_CHAR_b1)) (((((((((((F_w_UNSIGNED_CHAR_signed.ext O0.2).ext E1).other W2 (Or.inl ne_w_UNSIGNED_CHAR_b1)).other W3 (Or.inl ne_w_UNSIGNED_CHAR_b1)).other W4 (Or.inl ne_w_UNSIGNED_CHAR_b1)).other W5 (Or.inl ne_w_UNSIGNED_CHAR_b1)).other W6 (Or.inl ne_w_UNSIGNED_CHAR_b1)).other W7 (Or.inl ne_w_UNSIGNED_CHAR_b1)).other W8 (Or.inl ne_w_UNSIGNED_CHAR_b1)).other W9 (Or.inl ne_w_UNSIGNED_CHAR_b1)).other W10 (Or.inl ne_w_UNSIGNED_CHAR_b1)) (by decide) (by decide)) at_113 rfl (lenOf own_pd2 rfl) rfl rfl rfl (by decide) (by decide) rfl rfl (by decide) (by decide) (own_kv fun v157 h157 q157 => ?_)
      obtain ⟨rfl, e157⟩ := q157
      rw [e157]
      rw [show own_com w_INT w_UNSIGNED_CHAR (8 : Int32) (0 : Int32) w_UNSIGNED_CHAR (8 : Int32) (0 : Int32) = w_INT from by simp [own_com]]
      refine own_aload 118 rfl at_116 rfl rfl ?_
      refine own_acmpNo 121 rfl at_118 rfl rfl (own_teq (rfl : ((.ref w_INT) : Value) = (.ref w_INT))).2 ?_
      refine own_iconst 122 rfl (1 : Int32) at_121 rfl ?_
      refine own_goto 126 at_122 (by decide) (by decide) ?_
      refine own_retN rfl (by simp) at_126 (by decide) (by decide) ?_
      exact ⟨_, rfl, rfl⟩
    · have hin_j := (rfl : (3 : Int) = 3)
      refine own_iloadN 81 rfl at_80 rfl ?_
      refine own_iconst 82 rfl (5 : Int32) at_81 rfl ?_
      refine own_callS 85 rfl 1 9 0 [(.int (2 : Int32)), (.int (5 : Int32))] [] (y := (⟨"java/lang/Math", "max", "(II)I"⟩ : MethodName)) (hw _ (List.mem_of_getElem? (i := 23) rfl)) (hw _ (List.mem_of_getElem? (i := 24) rfl)) (hw _ (List.mem_of_getElem? (i := 25) rfl)) (hw _ (List.mem_of_getElem? (i := 26) rfl)) (by decide) (rm1 l Z a0 hw [] (2 : Int32) (5 : Int32)  h10 ) at_82 rfl (lenOf own_pd1 rfl) rfl rfl rfl (by decide) (by decide) rfl rfl (by decide) (by decide) (own_kv fun v158 h158 q158 => ?_)
      obtain ⟨rfl, e158⟩ := q158
      rw [e158]
      rw [show (if (2 : Int32) < (5 : Int32) then (5 : Int32) else (2 : Int32)) = (5 : Int32) from by decide]
      refine own_istore 87 rfl #[.val (.int p1), .val (.int p2), .val (.ref b1), .val (.int (2 : Int32)), .val (.int (3 : Int32)), .val (.int (5 : Int32)), .unset, .unset] at_85 rfl ?_
      refine own_iload 89 rfl at_87 rfl ?_
      refine own_iconst 90 rfl (5 : Int32) at_89 rfl ?_
      refine own_callS 93 rfl 1 9 0 [(.int (3 : Int32)), (.int (5 : Int32))] [] (y := (⟨"java/lang/Math", "max", "(II)I"⟩ : MethodName)) (hw _ (List.mem_of_getElem? (i := 23) rfl)) (hw _ (List.mem_of_getElem? (i := 24) rfl)) (hw _ (List.mem_of_getElem? (i := 25) rfl)) (hw _ (List.mem_of_getElem? (i := 26) rfl)) (by decide) (rm1 l Z a0 hw [] (3 : Int32) (5 : Int32)  h10 ) at_90 rfl (lenOf own_pd1 rfl) rfl rfl rfl (by decide) (by decide) rfl rfl (by decide) (by decide) (own_kv fun v159 h159 q159 => ?_)
      obtain ⟨rfl, e159⟩ := q159
      rw [e159]
      rw [show (if (3 : Int32) < (5 : Int32) then (5 : Int32) else (3 : Int32)) = (5 : Int32) from by decide]
      refine own_istore 95 rfl #[.val (.int p1), .val (.int p2), .val (.ref b1), .val (.int (2 : Int32)), .val (.int (3 : Int32)), .val (.int (5 : Int32)), .val (.int (5 : Int32)), .unset] at_93 rfl ?_
      refine own_aloadN 96 rfl at_95 rfl rfl ?_
      refine own_iload 98 rfl at_96 rfl ?_
      refine own_iload 100 rfl at_98 rfl ?_
      refine own_callS 103 rfl 1 9 1 [(.int (5 : Int32)), (.int (5 : Int32))] [(.ref b1)] (y := (⟨"java/lang/Math", "max", "(II)I"⟩ : MethodName)) (hw _ (List.mem_of_getElem? (i := 23) rfl)) (hw _ (List.mem_of_getElem? (i := 24) rfl)) (hw _ (List.mem_of_getElem? (i := 25) rfl)) (hw _ (List.mem_of_getElem? (i := 26) rfl)) (by decide) (rm1 l Z a0 hw [] (5 : Int32) (5 : Int32)  h10 ) at_100 rfl (lenOf own_pd1 rfl) rfl rfl rfl (by decide) (by decide) rfl rfl (by decide) (by decide) (own_kv fun v160 h160 q160 => ?_)
      obtain ⟨rfl, e160⟩ := q160
      rw [e160]
      rw [show (if (5 : Int32) < (5 : Int32) then (5 : Int32) else (5 : Int32)) = (5 : Int32) from by decide]
      obtain ⟨c161, A161, q161, S161, N161, H161, G161⟩ := id V10
      refine own_aaload 104 rfl A161 rfl (inb_of S161 ⟨by decide, by decide⟩) (Has.at H161 (inb_of S161 ⟨by decide, by decide⟩) rfl) at_103 ?_
      refine own_astore 106 rfl #[.val (.int p1), .val (.int p2), .val (.ref b1), .val (.int (2 : Int32)), .val (.int (3 : Int32)), .val (.int (5 : Int32)), .val (.int (5 : Int32)), .val (.ref w_INT)] at_104 rfl rfl ?_
      refine own_aloadN 107 rfl at_106 rfl rfl ?_
      refine own_iloadN 108 rfl at_107 rfl ?_
      obtain ⟨c162, A162, q162, S162, N162, H162, G162⟩ := id V10
      refine own_aaload 109 rfl A162 rfl (inb_of S162 ⟨by decide, by decide⟩) (Has.at H162 (inb_of S162 ⟨by decide, by decide⟩) rfl) at_108 ?_
      refine own_aloadN 110 rfl at_109 rfl rfl ?_
      refine own_iload 112 rfl at_110 rfl ?_
      obtain ⟨c163, A163, q163, S163, N163, H163, G163⟩ := id V10
      refine own_aaload 113 rfl A163 rfl (inb_of S163 ⟨by decide, by decide⟩) (Has.at H163 (inb_of S163 ⟨by decide, by decide⟩) rfl) at_112 ?_
      refine own_callS 116 rfl 1 9 0 [(.ref w_UNSIGNED_CHAR), (.ref w_SHORT)] [] (y := (⟨"com/example/counterpath/counterpath/cfa/Type", "common", "(Lcom/example/counterpath/counterpath/cfa/Type;Lcom/example/counterpath/counterpath/cfa/Type;)Lcom/example/counterpath/counterpath/cfa/Type;"⟩ : MethodName)) (hw _ (List.mem_of_getElem? (i := 27) rfl)) (hw _ (List.mem_of_getElem? (i := 28) rfl)) (hw _ (List.mem_of_getElem? (i := 3) rfl)) (hw _ (List.mem_of_getElem? (i := 29) rfl)) (by decide) (rm2 l Z a0 hw [] w_UNSIGNED_CHAR w_SHORT (8 : Int32) (0 : Int32) (16 : Int32) (1 : Int32) w_BOOL w_SIGNED_CHAR w_UNSIGNED_CHAR w_SHORT w_UNSIGNED_SHORT w_INT w_UNSIGNED_INT w_LONG_LONG w_UNSIGNED_LONG_LONG h10 I (((((((((((E_w_UNSIGNED_CHAR.ext O0.2).ext E1).wr W2).wr W3).wr W4).wr W5).wr W6).wr W7).wr W8).wr W9).wr W10) (((((((((((F_w_UNSIGNED_CHAR_width.ext O0.2).ext E1).other W2 (Or.inl ne_w_UNSIGNED_CHAR_b1)).other W3 (Or.inl ne_w_UNSIGNED_CHAR_b1)).other W4 (Or.inl ne_w_UNSIGNED_CHAR_b1)).other W5 (Or.inl ne_w_UNSIGNED_CHAR_b1)).other W6 (Or.inl ne_w_UNSIGNED_CHAR_b1)).other W7 (Or.inl ne_w_UNSIGNED_CHAR_b1)).other W8 (Or.inl ne_w_UNSIGNED_CHAR_b1)).other W9 (Or.inl ne_w_UNSIGNED_CHAR_b1)).other W10 (Or.inl ne_w_UNSIGNED_CHAR_b1)) (((((((((((F_w_UNSIGNED_CHAR_signed.ext O0.2).ext E1).other W2 (Or.inl ne_w_UNSIGNED_CHAR_b1)).other W3 (Or.inl ne_w_UNSIGNED_CHAR_b1)).other W4 (Or.inl ne_w_UNSIGNED_CHAR_b1)).other W5 (Or.inl ne_w_UNSIGNED_CHAR_b1)).other W6 (Or.inl ne_w_UNSIGNED_CHAR_b1)).other W7 (Or.inl ne_w_UNSIGNED_CHAR_b1)).other W8 (Or.inl ne_w_UNSIGNED_CHAR_b1)).other W9 (Or.inl ne_w_UNSIGNED_CHAR_b1)).other W10 (Or.inl ne_w_UNSIGNED_CHAR_b1)) (((((((((((E_w_SHORT.ext O0.2).ext E1).wr W2).wr W3).wr W4).wr W5).wr W6).wr W7).wr W8).wr W9).wr W10) (((((((((((F_w_SHORT_width.ext O0.2).ext E1).other W2 (Or.inl ne_w_SHORT_b1)).other W3 (Or.inl ne_w_SHORT_b1)).other W4 (Or.inl ne_w_SHORT_b1)).other W5 (Or.inl ne_w_SHORT_b1)).other W6 (Or.inl ne_w_SHORT_b1)).other W7 (Or.inl ne_w_SHORT_b1)).other W8 (Or.inl ne_w_SHORT_b1)).other W9 (Or.inl ne_w_SHORT_b1)).other W10 (Or.inl ne_w_SHORT_b1)) (((((((((((F_w_SHORT_signed.ext O0.2).ext E1).other W2 (Or.inl ne_w_SHORT_b1)).other W3 (Or.inl ne_w_SHORT_b1)).other W4 (Or.inl ne_w_SHORT_b1)).other W5 (Or.inl ne_w_SHORT_b1)).other W6 (Or.inl ne_w_SHORT_b1)).other W7 (Or.inl ne_w_SHORT_b1)).other W8 (Or.inl ne_w_SHORT_b1)).other W9 (Or.inl ne_w_SHORT_b1)).other W10 (Or.inl ne_w_SHORT_b1)) (by decide) (by decide)) at_113 rfl (lenOf own_pd2 rfl) rfl rfl rfl (by decide) (by decide) rfl rfl (by decide) (by decide) (own_kv fun v164 h164 q164 => ?_)
      obtain ⟨rfl, e164⟩ := q164
      rw [e164]
      rw [show own_com w_INT w_UNSIGNED_CHAR (8 : Int32) (0 : Int32) w_SHORT (16 : Int32) (1 : Int32) = w_INT from by simp [own_com]]
      refine own_aload 118 rfl at_116 rfl rfl ?_
      refine own_acmpNo 121 rfl at_118 rfl rfl (own_teq (rfl : ((.ref w_INT) : Value) = (.ref w_INT))).2 ?_
      refine own_iconst 122 rfl (1 : Int32) at_121 rfl ?_
      refine own_goto 126 at_122 (by decide) (by decide) ?_
      refine own_retN rfl (by simp) at_126 (by decide) (by decide) ?_
      exact ⟨_, rfl, rfl⟩
    · have hin_j := (rfl : (4 : Int) = 4)
      refine own_iloadN 81 rfl at_80 rfl ?_
      refine own_iconst 82 rfl (5 : Int32) at_81 rfl ?_
      refine own_callS 85 rfl 1 9 0 [(.int (2 : Int32)), (.int (5 : Int32))] [] (y := (⟨"java/lang/Math", "max", "(II)I"⟩ : MethodName)) (hw _ (List.mem_of_getElem? (i := 23) rfl)) (hw _ (List.mem_of_getElem? (i := 24) rfl)) (hw _ (List.mem_of_getElem? (i := 25) rfl)) (hw _ (List.mem_of_getElem? (i := 26) rfl)) (by decide) (rm1 l Z a0 hw [] (2 : Int32) (5 : Int32)  h10 ) at_82 rfl (lenOf own_pd1 rfl) rfl rfl rfl (by decide) (by decide) rfl rfl (by decide) (by decide) (own_kv fun v165 h165 q165 => ?_)
      obtain ⟨rfl, e165⟩ := q165
      rw [e165]
      rw [show (if (2 : Int32) < (5 : Int32) then (5 : Int32) else (2 : Int32)) = (5 : Int32) from by decide]
      refine own_istore 87 rfl #[.val (.int p1), .val (.int p2), .val (.ref b1), .val (.int (2 : Int32)), .val (.int (4 : Int32)), .val (.int (5 : Int32)), .unset, .unset] at_85 rfl ?_
      refine own_iload 89 rfl at_87 rfl ?_
      refine own_iconst 90 rfl (5 : Int32) at_89 rfl ?_
      refine own_callS 93 rfl 1 9 0 [(.int (4 : Int32)), (.int (5 : Int32))] [] (y := (⟨"java/lang/Math", "max", "(II)I"⟩ : MethodName)) (hw _ (List.mem_of_getElem? (i := 23) rfl)) (hw _ (List.mem_of_getElem? (i := 24) rfl)) (hw _ (List.mem_of_getElem? (i := 25) rfl)) (hw _ (List.mem_of_getElem? (i := 26) rfl)) (by decide) (rm1 l Z a0 hw [] (4 : Int32) (5 : Int32)  h10 ) at_90 rfl (lenOf own_pd1 rfl) rfl rfl rfl (by decide) (by decide) rfl rfl (by decide) (by decide) (own_kv fun v166 h166 q166 => ?_)
      obtain ⟨rfl, e166⟩ := q166
      rw [e166]
      rw [show (if (4 : Int32) < (5 : Int32) then (5 : Int32) else (4 : Int32)) = (5 : Int32) from by decide]
      refine own_istore 95 rfl #[.val (.int p1), .val (.int p2), .val (.ref b1), .val (.int (2 : Int32)), .val (.int (4 : Int32)), .val (.int (5 : Int32)), .val (.int (5 : Int32)), .unset] at_93 rfl ?_
      refine own_aloadN 96 rfl at_95 rfl rfl ?_
      refine own_iload 98 rfl at_96 rfl ?_
      refine own_iload 100 rfl at_98 rfl ?_
      refine own_callS 103 rfl 1 9 1 [(.int (5 : Int32)), (.int (5 : Int32))] [(.ref b1)] (y := (⟨"java/lang/Math", "max", "(II)I"⟩ : MethodName)) (hw _ (List.mem_of_getElem? (i := 23) rfl)) (hw _ (List.mem_of_getElem? (i := 24) rfl)) (hw _ (List.mem_of_getElem? (i := 25) rfl)) (hw _ (List.mem_of_getElem? (i := 26) rfl)) (by decide) (rm1 l Z a0 hw [] (5 : Int32) (5 : Int32)  h10 ) at_100 rfl (lenOf own_pd1 rfl) rfl rfl rfl (by decide) (by decide) rfl rfl (by decide) (by decide) (own_kv fun v167 h167 q167 => ?_)
      obtain ⟨rfl, e167⟩ := q167
      rw [e167]
      rw [show (if (5 : Int32) < (5 : Int32) then (5 : Int32) else (5 : Int32)) = (5 : Int32) from by decide]
      obtain ⟨c168, A168, q168, S168, N168, H168, G168⟩ := id V10
      refine own_aaload 104 rfl A168 rfl (inb_of S168 ⟨by decide, by decide⟩) (Has.at H168 (inb_of S168 ⟨by decide, by decide⟩) rfl) at_103 ?_
      refine own_astore 106 rfl #[.val (.int p1), .val (.int p2), .val (.ref b1), .val (.int (2 : Int32)), .val (.int (4 : Int32)), .val (.int (5 : Int32)), .val (.int (5 : Int32)), .val (.ref w_INT)] at_104 rfl rfl ?_
      refine own_aloadN 107 rfl at_106 rfl rfl ?_
      refine own_iloadN 108 rfl at_107 rfl ?_
      obtain ⟨c169, A169, q169, S169, N169, H169, G169⟩ := id V10
      refine own_aaload 109 rfl A169 rfl (inb_of S169 ⟨by decide, by decide⟩) (Has.at H169 (inb_of S169 ⟨by decide, by decide⟩) rfl) at_108 ?_
      refine own_aloadN 110 rfl at_109 rfl rfl ?_
      refine own_iload 112 rfl at_110 rfl ?_
      obtain ⟨c170, A170, q170, S170, N170, H170, G170⟩ := id V10
      refine own_aaload 113 rfl A170 rfl (inb_of S170 ⟨by decide, by decide⟩) (Has.at H170 (inb_of S170 ⟨by decide, by decide⟩) rfl) at_112 ?_
      refine own_callS 116 rfl 1 9 0 [(.ref w_UNSIGNED_CHAR), (.ref w_UNSIGNED_SHORT)] [] (y := (⟨"com/example/counterpath/counterpath/cfa/Type", "common", "(Lcom/example/counterpath/counterpath/cfa/Type;Lcom/example/counterpath/counterpath/cfa/Type;)Lcom/example/counterpath/counterpath/cfa/Type;"⟩ : MethodName)) (hw _ (List.mem_of_getElem? (i := 27) rfl)) (hw _ (List.mem_of_getElem? (i := 28) rfl)) (hw _ (List.mem_of_getElem? (i := 3) rfl)) (hw _ (List.mem_of_getElem? (i := 29) rfl)) (by decide) (rm2 l Z a0 hw [] w_UNSIGNED_CHAR w_UNSIGNED_SHORT (8 : Int32) (0 : Int32) (16 : Int32) (0 : Int32) w_BOOL w_SIGNED_CHAR w_UNSIGNED_CHAR w_SHORT w_UNSIGNED_SHORT w_INT w_UNSIGNED_INT w_LONG_LONG w_UNSIGNED_LONG_LONG h10 I (((((((((((E_w_UNSIGNED_CHAR.ext O0.2).ext E1).wr W2).wr W3).wr W4).wr W5).wr W6).wr W7).wr W8).wr W9).wr W10) (((((((((((F_w_UNSIGNED_CHAR_width.ext O0.2).ext E1).other W2 (Or.inl ne_w_UNSIGNED_CHAR_b1)).other W3 (Or.inl ne_w_UNSIGNED_CHAR_b1)).other W4 (Or.inl ne_w_UNSIGNED_CHAR_b1)).other W5 (Or.inl ne_w_UNSIGNED_CHAR_b1)).other W6 (Or.inl ne_w_UNSIGNED_CHAR_b1)).other W7 (Or.inl ne_w_UNSIGNED_CHAR_b1)).other W8 (Or.inl ne_w_UNSIGNED_CHAR_b1)).other W9 (Or.inl ne_w_UNSIGNED_CHAR_b1)).other W10 (Or.inl ne_w_UNSIGNED_CHAR_b1)) (((((((((((F_w_UNSIGNED_CHAR_signed.ext O0.2).ext E1).other W2 (Or.inl ne_w_UNSIGNED_CHAR_b1)).other W3 (Or.inl ne_w_UNSIGNED_CHAR_b1)).other W4 (Or.inl ne_w_UNSIGNED_CHAR_b1)).other W5 (Or.inl ne_w_UNSIGNED_CHAR_b1)).other W6 (Or.inl ne_w_UNSIGNED_CHAR_b1)).other W7 (Or.inl ne_w_UNSIGNED_CHAR_b1)).other W8 (Or.inl ne_w_UNSIGNED_CHAR_b1)).other W9 (Or.inl ne_w_UNSIGNED_CHAR_b1)).other W10 (Or.inl ne_w_UNSIGNED_CHAR_b1)) (((((((((((E_w_UNSIGNED_SHORT.ext O0.2).ext E1).wr W2).wr W3).wr W4).wr W5).wr W6).wr W7).wr W8).wr W9).wr W10) (((((((((((F_w_UNSIGNED_SHORT_width.ext O0.2).ext E1).other W2 (Or.inl ne_w_UNSIGNED_SHORT_b1)).other W3 (Or.inl ne_w_UNSIGNED_SHORT_b1)).other W4 (Or.inl ne_w_UNSIGNED_SHORT_b1)).other W5 (Or.inl ne_w_UNSIGNED_SHORT_b1)).other W6 (Or.inl ne_w_UNSIGNED_SHORT_b1)).other W7 (Or.inl ne_w_UNSIGNED_SHORT_b1)).other W8 (Or.inl ne_w_UNSIGNED_SHORT_b1)).other W9 (Or.inl ne_w_UNSIGNED_SHORT_b1)).other W10 (Or.inl ne_w_UNSIGNED_SHORT_b1)) (((((((((((F_w_UNSIGNED_SHORT_signed.ext O0.2).ext E1).other W2 (Or.inl ne_w_UNSIGNED_SHORT_b1)).other W3 (Or.inl ne_w_UNSIGNED_SHORT_b1)).other W4 (Or.inl ne_w_UNSIGNED_SHORT_b1)).other W5 (Or.inl ne_w_UNSIGNED_SHORT_b1)).other W6 (Or.inl ne_w_UNSIGNED_SHORT_b1)).other W7 (Or.inl ne_w_UNSIGNED_SHORT_b1)).other W8 (Or.inl ne_w_UNSIGNED_SHORT_b1)).other W9 (Or.inl ne_w_UNSIGNED_SHORT_b1)).other W10 (Or.inl ne_w_UNSIGNED_SHORT_b1)) (by decide) (by decide)) at_113 rfl (lenOf own_pd2 rfl) rfl rfl rfl (by decide) (by decide) rfl rfl (by decide) (by decide) (own_kv fun v171 h171 q171 => ?_)
      obtain ⟨rfl, e171⟩ := q171
      rw [e171]
      rw [show own_com w_INT w_UNSIGNED_CHAR (8 : Int32) (0 : Int32) w_UNSIGNED_SHORT (16 : Int32) (0 : Int32) = w_INT from by simp [own_com]]
      refine own_aload 118 rfl at_116 rfl rfl ?_
      refine own_acmpNo 121 rfl at_118 rfl rfl (own_teq (rfl : ((.ref w_INT) : Value) = (.ref w_INT))).2 ?_
      refine own_iconst 122 rfl (1 : Int32) at_121 rfl ?_
      refine own_goto 126 at_122 (by decide) (by decide) ?_
      refine own_retN rfl (by simp) at_126 (by decide) (by decide) ?_
      exact ⟨_, rfl, rfl⟩
    · have hin_j := (rfl : (5 : Int) = 5)
      refine own_iloadN 81 rfl at_80 rfl ?_
      refine own_iconst 82 rfl (5 : Int32) at_81 rfl ?_
      refine own_callS 85 rfl 1 9 0 [(.int (2 : Int32)), (.int (5 : Int32))] [] (y := (⟨"java/lang/Math", "max", "(II)I"⟩ : MethodName)) (hw _ (List.mem_of_getElem? (i := 23) rfl)) (hw _ (List.mem_of_getElem? (i := 24) rfl)) (hw _ (List.mem_of_getElem? (i := 25) rfl)) (hw _ (List.mem_of_getElem? (i := 26) rfl)) (by decide) (rm1 l Z a0 hw [] (2 : Int32) (5 : Int32)  h10 ) at_82 rfl (lenOf own_pd1 rfl) rfl rfl rfl (by decide) (by decide) rfl rfl (by decide) (by decide) (own_kv fun v172 h172 q172 => ?_)
      obtain ⟨rfl, e172⟩ := q172
      rw [e172]
      rw [show (if (2 : Int32) < (5 : Int32) then (5 : Int32) else (2 : Int32)) = (5 : Int32) from by decide]
      refine own_istore 87 rfl #[.val (.int p1), .val (.int p2), .val (.ref b1), .val (.int (2 : Int32)), .val (.int (5 : Int32)), .val (.int (5 : Int32)), .unset, .unset] at_85 rfl ?_
      refine own_iload 89 rfl at_87 rfl ?_
      refine own_iconst 90 rfl (5 : Int32) at_89 rfl ?_
      refine own_callS 93 rfl 1 9 0 [(.int (5 : Int32)), (.int (5 : Int32))] [] (y := (⟨"java/lang/Math", "max", "(II)I"⟩ : MethodName)) (hw _ (List.mem_of_getElem? (i := 23) rfl)) (hw _ (List.mem_of_getElem? (i := 24) rfl)) (hw _ (List.mem_of_getElem? (i := 25) rfl)) (hw _ (List.mem_of_getElem? (i := 26) rfl)) (by decide) (rm1 l Z a0 hw [] (5 : Int32) (5 : Int32)  h10 ) at_90 rfl (lenOf own_pd1 rfl) rfl rfl rfl (by decide) (by decide) rfl rfl (by decide) (by decide) (own_kv fun v173 h173 q173 => ?_)
      obtain ⟨rfl, e173⟩ := q173
      rw [e173]
      rw [show (if (5 : Int32) < (5 : Int32) then (5 : Int32) else (5 : Int32)) = (5 : Int32) from by decide]
      refine own_istore 95 rfl #[.val (.int p1), .val (.int p2), .val (.ref b1), .val (.int (2 : Int32)), .val (.int (5 : Int32)), .val (.int (5 : Int32)), .val (.int (5 : Int32)), .unset] at_93 rfl ?_
      refine own_aloadN 96 rfl at_95 rfl rfl ?_
      refine own_iload 98 rfl at_96 rfl ?_
      refine own_iload 100 rfl at_98 rfl ?_
      refine own_callS 103 rfl 1 9 1 [(.int (5 : Int32)), (.int (5 : Int32))] [(.ref b1)] (y := (⟨"java/lang/Math", "max", "(II)I"⟩ : MethodName)) (hw _ (List.mem_of_getElem? (i := 23) rfl)) (hw _ (List.mem_of_getElem? (i := 24) rfl)) (hw _ (List.mem_of_getElem? (i := 25) rfl)) (hw _ (List.mem_of_getElem? (i := 26) rfl)) (by decide) (rm1 l Z a0 hw [] (5 : Int32) (5 : Int32)  h10 ) at_100 rfl (lenOf own_pd1 rfl) rfl rfl rfl (by decide) (by decide) rfl rfl (by decide) (by decide) (own_kv fun v174 h174 q174 => ?_)
      obtain ⟨rfl, e174⟩ := q174
      rw [e174]
      rw [show (if (5 : Int32) < (5 : Int32) then (5 : Int32) else (5 : Int32)) = (5 : Int32) from by decide]
      obtain ⟨c175, A175, q175, S175, N175, H175, G175⟩ := id V10
      refine own_aaload 104 rfl A175 rfl (inb_of S175 ⟨by decide, by decide⟩) (Has.at H175 (inb_of S175 ⟨by decide, by decide⟩) rfl) at_103 ?_
      refine own_astore 106 rfl #[.val (.int p1), .val (.int p2), .val (.ref b1), .val (.int (2 : Int32)), .val (.int (5 : Int32)), .val (.int (5 : Int32)), .val (.int (5 : Int32)), .val (.ref w_INT)] at_104 rfl rfl ?_
      refine own_aloadN 107 rfl at_106 rfl rfl ?_
      refine own_iloadN 108 rfl at_107 rfl ?_
      obtain ⟨c176, A176, q176, S176, N176, H176, G176⟩ := id V10
      refine own_aaload 109 rfl A176 rfl (inb_of S176 ⟨by decide, by decide⟩) (Has.at H176 (inb_of S176 ⟨by decide, by decide⟩) rfl) at_108 ?_
      refine own_aloadN 110 rfl at_109 rfl rfl ?_
      refine own_iload 112 rfl at_110 rfl ?_
      obtain ⟨c177, A177, q177, S177, N177, H177, G177⟩ := id V10
      refine own_aaload 113 rfl A177 rfl (inb_of S177 ⟨by decide, by decide⟩) (Has.at H177 (inb_of S177 ⟨by decide, by decide⟩) rfl) at_112 ?_
      refine own_callS 116 rfl 1 9 0 [(.ref w_UNSIGNED_CHAR), (.ref w_INT)] [] (y := (⟨"com/example/counterpath/counterpath/cfa/Type", "common", "(Lcom/example/counterpath/counterpath/cfa/Type;Lcom/example/counterpath/counterpath/cfa/Type;)Lcom/example/counterpath/counterpath/cfa/Type;"⟩ : MethodName)) (hw _ (List.mem_of_getElem? (i := 27) rfl)) (hw _ (List.mem_of_getElem? (i := 28) rfl)) (hw _ (List.mem_of_getElem? (i := 3) rfl)) (hw _ (List.mem_of_getElem? (i := 29) rfl)) (by decide) (rm2 l Z a0 hw [] w_UNSIGNED_CHAR w_INT (8 : Int32) (0 : Int32) (32 : Int32) (1 : Int32) w_BOOL w_SIGNED_CHAR w_UNSIGNED_CHAR w_SHORT w_UNSIGNED_SHORT w_INT w_UNSIGNED_INT w_LONG_LONG w_UNSIGNED_LONG_LONG h10 I (((((((((((E_w_UNSIGNED_CHAR.ext O0.2).ext E1).wr W2).wr W3).wr W4).wr W5).wr W6).wr W7).wr W8).wr W9).wr W10) (((((((((((F_w_UNSIGNED_CHAR_width.ext O0.2).ext E1).other W2 (Or.inl ne_w_UNSIGNED_CHAR_b1)).other W3 (Or.inl ne_w_UNSIGNED_CHAR_b1)).other W4 (Or.inl ne_w_UNSIGNED_CHAR_b1)).other W5 (Or.inl ne_w_UNSIGNED_CHAR_b1)).other W6 (Or.inl ne_w_UNSIGNED_CHAR_b1)).other W7 (Or.inl ne_w_UNSIGNED_CHAR_b1)).other W8 (Or.inl ne_w_UNSIGNED_CHAR_b1)).other W9 (Or.inl ne_w_UNSIGNED_CHAR_b1)).other W10 (Or.inl ne_w_UNSIGNED_CHAR_b1)) (((((((((((F_w_UNSIGNED_CHAR_signed.ext O0.2).ext E1).other W2 (Or.inl ne_w_UNSIGNED_CHAR_b1)).other W3 (Or.inl ne_w_UNSIGNED_CHAR_b1)).other W4 (Or.inl ne_w_UNSIGNED_CHAR_b1)).other W5 (Or.inl ne_w_UNSIGNED_CHAR_b1)).other W6 (Or.inl ne_w_UNSIGNED_CHAR_b1)).other W7 (Or.inl ne_w_UNSIGNED_CHAR_b1)).other W8 (Or.inl ne_w_UNSIGNED_CHAR_b1)).other W9 (Or.inl ne_w_UNSIGNED_CHAR_b1)).other W10 (Or.inl ne_w_UNSIGNED_CHAR_b1)) (((((((((((E_w_INT.ext O0.2).ext E1).wr W2).wr W3).wr W4).wr W5).wr W6).wr W7).wr W8).wr W9).wr W10) (((((((((((F_w_INT_width.ext O0.2).ext E1).other W2 (Or.inl ne_w_INT_b1)).other W3 (Or.inl ne_w_INT_b1)).other W4 (Or.inl ne_w_INT_b1)).other W5 (Or.inl ne_w_INT_b1)).other W6 (Or.inl ne_w_INT_b1)).other W7 (Or.inl ne_w_INT_b1)).other W8 (Or.inl ne_w_INT_b1)).other W9 (Or.inl ne_w_INT_b1)).other W10 (Or.inl ne_w_INT_b1)) (((((((((((F_w_INT_signed.ext O0.2).ext E1).other W2 (Or.inl ne_w_INT_b1)).other W3 (Or.inl ne_w_INT_b1)).other W4 (Or.inl ne_w_INT_b1)).other W5 (Or.inl ne_w_INT_b1)).other W6 (Or.inl ne_w_INT_b1)).other W7 (Or.inl ne_w_INT_b1)).other W8 (Or.inl ne_w_INT_b1)).other W9 (Or.inl ne_w_INT_b1)).other W10 (Or.inl ne_w_INT_b1)) (by decide) (by decide)) at_113 rfl (lenOf own_pd2 rfl) rfl rfl rfl (by decide) (by decide) rfl rfl (by decide) (by decide) (own_kv fun v178 h178 q178 => ?_)
      obtain ⟨rfl, e178⟩ := q178
      rw [e178]
      rw [show own_com w_INT w_UNSIGNED_CHAR (8 : Int32) (0 : Int32) w_INT (32 : Int32) (1 : Int32) = w_INT from by simp [own_com]]
      refine own_aload 118 rfl at_116 rfl rfl ?_
      refine own_acmpNo 121 rfl at_118 rfl rfl (own_teq (rfl : ((.ref w_INT) : Value) = (.ref w_INT))).2 ?_
      refine own_iconst 122 rfl (1 : Int32) at_121 rfl ?_
      refine own_goto 126 at_122 (by decide) (by decide) ?_
      refine own_retN rfl (by simp) at_126 (by decide) (by decide) ?_
      exact ⟨_, rfl, rfl⟩
    · have hin_j := (rfl : (6 : Int) = 6)
      refine own_iloadN 81 rfl at_80 rfl ?_
      refine own_iconst 82 rfl (5 : Int32) at_81 rfl ?_
      refine own_callS 85 rfl 1 9 0 [(.int (2 : Int32)), (.int (5 : Int32))] [] (y := (⟨"java/lang/Math", "max", "(II)I"⟩ : MethodName)) (hw _ (List.mem_of_getElem? (i := 23) rfl)) (hw _ (List.mem_of_getElem? (i := 24) rfl)) (hw _ (List.mem_of_getElem? (i := 25) rfl)) (hw _ (List.mem_of_getElem? (i := 26) rfl)) (by decide) (rm1 l Z a0 hw [] (2 : Int32) (5 : Int32)  h10 ) at_82 rfl (lenOf own_pd1 rfl) rfl rfl rfl (by decide) (by decide) rfl rfl (by decide) (by decide) (own_kv fun v179 h179 q179 => ?_)
      obtain ⟨rfl, e179⟩ := q179
      rw [e179]
      rw [show (if (2 : Int32) < (5 : Int32) then (5 : Int32) else (2 : Int32)) = (5 : Int32) from by decide]
      refine own_istore 87 rfl #[.val (.int p1), .val (.int p2), .val (.ref b1), .val (.int (2 : Int32)), .val (.int (6 : Int32)), .val (.int (5 : Int32)), .unset, .unset] at_85 rfl ?_
      refine own_iload 89 rfl at_87 rfl ?_
      refine own_iconst 90 rfl (5 : Int32) at_89 rfl ?_
      refine own_callS 93 rfl 1 9 0 [(.int (6 : Int32)), (.int (5 : Int32))] [] (y := (⟨"java/lang/Math", "max", "(II)I"⟩ : MethodName)) (hw _ (List.mem_of_getElem? (i := 23) rfl)) (hw _ (List.mem_of_getElem? (i := 24) rfl)) (hw _ (List.mem_of_getElem? (i := 25) rfl)) (hw _ (List.mem_of_getElem? (i := 26) rfl)) (by decide) (rm1 l Z a0 hw [] (6 : Int32) (5 : Int32)  h10 ) at_90 rfl (lenOf own_pd1 rfl) rfl rfl rfl (by decide) (by decide) rfl rfl (by decide) (by decide) (own_kv fun v180 h180 q180 => ?_)
      obtain ⟨rfl, e180⟩ := q180
      rw [e180]
      rw [show (if (6 : Int32) < (5 : Int32) then (5 : Int32) else (6 : Int32)) = (6 : Int32) from by decide]
      refine own_istore 95 rfl #[.val (.int p1), .val (.int p2), .val (.ref b1), .val (.int (2 : Int32)), .val (.int (6 : Int32)), .val (.int (5 : Int32)), .val (.int (6 : Int32)), .unset] at_93 rfl ?_
      refine own_aloadN 96 rfl at_95 rfl rfl ?_
      refine own_iload 98 rfl at_96 rfl ?_
      refine own_iload 100 rfl at_98 rfl ?_
      refine own_callS 103 rfl 1 9 1 [(.int (5 : Int32)), (.int (6 : Int32))] [(.ref b1)] (y := (⟨"java/lang/Math", "max", "(II)I"⟩ : MethodName)) (hw _ (List.mem_of_getElem? (i := 23) rfl)) (hw _ (List.mem_of_getElem? (i := 24) rfl)) (hw _ (List.mem_of_getElem? (i := 25) rfl)) (hw _ (List.mem_of_getElem? (i := 26) rfl)) (by decide) (rm1 l Z a0 hw [] (5 : Int32) (6 : Int32)  h10 ) at_100 rfl (lenOf own_pd1 rfl) rfl rfl rfl (by decide) (by decide) rfl rfl (by decide) (by decide) (own_kv fun v181 h181 q181 => ?_)
      obtain ⟨rfl, e181⟩ := q181
      rw [e181]
      rw [show (if (5 : Int32) < (6 : Int32) then (6 : Int32) else (5 : Int32)) = (6 : Int32) from by decide]
      obtain ⟨c182, A182, q182, S182, N182, H182, G182⟩ := id V10
      refine own_aaload 104 rfl A182 rfl (inb_of S182 ⟨by decide, by decide⟩) (Has.at H182 (inb_of S182 ⟨by decide, by decide⟩) rfl) at_103 ?_
      refine own_astore 106 rfl #[.val (.int p1), .val (.int p2), .val (.ref b1), .val (.int (2 : Int32)), .val (.int (6 : Int32)), .val (.int (5 : Int32)), .val (.int (6 : Int32)), .val (.ref w_UNSIGNED_INT)] at_104 rfl rfl ?_
      refine own_aloadN 107 rfl at_106 rfl rfl ?_
      refine own_iloadN 108 rfl at_107 rfl ?_
      obtain ⟨c183, A183, q183, S183, N183, H183, G183⟩ := id V10
      refine own_aaload 109 rfl A183 rfl (inb_of S183 ⟨by decide, by decide⟩) (Has.at H183 (inb_of S183 ⟨by decide, by decide⟩) rfl) at_108 ?_
      refine own_aloadN 110 rfl at_109 rfl rfl ?_
      refine own_iload 112 rfl at_110 rfl ?_
      obtain ⟨c184, A184, q184, S184, N184, H184, G184⟩ := id V10
      refine own_aaload 113 rfl A184 rfl (inb_of S184 ⟨by decide, by decide⟩) (Has.at H184 (inb_of S184 ⟨by decide, by decide⟩) rfl) at_112 ?_
      refine own_callS 116 rfl 1 9 0 [(.ref w_UNSIGNED_CHAR), (.ref w_UNSIGNED_INT)] [] (y := (⟨"com/example/counterpath/counterpath/cfa/Type", "common", "(Lcom/example/counterpath/counterpath/cfa/Type;Lcom/example/counterpath/counterpath/cfa/Type;)Lcom/example/counterpath/counterpath/cfa/Type;"⟩ : MethodName)) (hw _ (List.mem_of_getElem? (i := 27) rfl)) (hw _ (List.mem_of_getElem? (i := 28) rfl)) (hw _ (List.mem_of_getElem? (i := 3) rfl)) (hw _ (List.mem_of_getElem? (i := 29) rfl)) (by decide) (rm2 l Z a0 hw [] w_UNSIGNED_CHAR w_UNSIGNED_INT (8 : Int32) (0 : Int32) (32 : Int32) (0 : Int32) w_BOOL w_SIGNED_CHAR w_UNSIGNED_CHAR w_SHORT w_UNSIGNED_SHORT w_INT w_UNSIGNED_INT w_LONG_LONG w_UNSIGNED_LONG_LONG h10 I (((((((((((E_w_UNSIGNED_CHAR.ext O0.2).ext E1).wr W2).wr W3).wr W4).wr W5).wr W6).wr W7).wr W8).wr W9).wr W10) (((((((((((F_w_UNSIGNED_CHAR_width.ext O0.2).ext E1).other W2 (Or.inl ne_w_UNSIGNED_CHAR_b1)).other W3 (Or.inl ne_w_UNSIGNED_CHAR_b1)).other W4 (Or.inl ne_w_UNSIGNED_CHAR_b1)).other W5 (Or.inl ne_w_UNSIGNED_CHAR_b1)).other W6 (Or.inl ne_w_UNSIGNED_CHAR_b1)).other W7 (Or.inl ne_w_UNSIGNED_CHAR_b1)).other W8 (Or.inl ne_w_UNSIGNED_CHAR_b1)).other W9 (Or.inl ne_w_UNSIGNED_CHAR_b1)).other W10 (Or.inl ne_w_UNSIGNED_CHAR_b1)) (((((((((((F_w_UNSIGNED_CHAR_signed.ext O0.2).ext E1).other W2 (Or.inl ne_w_UNSIGNED_CHAR_b1)).other W3 (Or.inl ne_w_UNSIGNED_CHAR_b1)).other W4 (Or.inl ne_w_UNSIGNED_CHAR_b1)).other W5 (Or.inl ne_w_UNSIGNED_CHAR_b1)).other W6 (Or.inl ne_w_UNSIGNED_CHAR_b1)).other W7 (Or.inl ne_w_UNSIGNED_CHAR_b1)).other W8 (Or.inl ne_w_UNSIGNED_CHAR_b1)).other W9 (Or.inl ne_w_UNSIGNED_CHAR_b1)).other W10 (Or.inl ne_w_UNSIGNED_CHAR_b1)) (((((((((((E_w_UNSIGNED_INT.ext O0.2).ext E1).wr W2).wr W3).wr W4).wr W5).wr W6).wr W7).wr W8).wr W9).wr W10) (((((((((((F_w_UNSIGNED_INT_width.ext O0.2).ext E1).other W2 (Or.inl ne_w_UNSIGNED_INT_b1)).other W3 (Or.inl ne_w_UNSIGNED_INT_b1)).other W4 (Or.inl ne_w_UNSIGNED_INT_b1)).other W5 (Or.inl ne_w_UNSIGNED_INT_b1)).other W6 (Or.inl ne_w_UNSIGNED_INT_b1)).other W7 (Or.inl ne_w_UNSIGNED_INT_b1)).other W8 (Or.inl ne_w_UNSIGNED_INT_b1)).other W9 (Or.inl ne_w_UNSIGNED_INT_b1)).other W10 (Or.inl ne_w_UNSIGNED_INT_b1)) (((((((((((F_w_UNSIGNED_INT_signed.ext O0.2).ext E1).other W2 (Or.inl ne_w_UNSIGNED_INT_b1)).other W3 (Or.inl ne_w_UNSIGNED_INT_b1)).other W4 (Or.inl ne_w_UNSIGNED_INT_b1)).other W5 (Or.inl ne_w_UNSIGNED_INT_b1)).other W6 (Or.inl ne_w_UNSIGNED_INT_b1)).other W7 (Or.inl ne_w_UNSIGNED_INT_b1)).other W8 (Or.inl ne_w_UNSIGNED_INT_b1)).other W9 (Or.inl ne_w_UNSIGNED_INT_b1)).other W10 (Or.inl ne_w_UNSIGNED_INT_b1)) (by decide) (by decide)) at_113 rfl (lenOf own_pd2 rfl) rfl rfl rfl (by decide) (by decide) rfl rfl (by decide) (by decide) (own_kv fun v185 h185 q185 => ?_)
      obtain ⟨rfl, e185⟩ := q185
      rw [e185]
      rw [show own_com w_INT w_UNSIGNED_CHAR (8 : Int32) (0 : Int32) w_UNSIGNED_INT (32 : Int32) (0 : Int32) = w_UNSIGNED_INT from by simp [own_com]]
      refine own_aload 118 rfl at_116 rfl rfl ?_
      refine own_acmpNo 121 rfl at_118 rfl rfl (own_teq (rfl : ((.ref w_UNSIGNED_INT) : Value) = (.ref w_UNSIGNED_INT))).2 ?_
      refine own_iconst 122 rfl (1 : Int32) at_121 rfl ?_
      refine own_goto 126 at_122 (by decide) (by decide) ?_
      refine own_retN rfl (by simp) at_126 (by decide) (by decide) ?_
      exact ⟨_, rfl, rfl⟩
    · have hin_j := (rfl : (7 : Int) = 7)
      refine own_iloadN 81 rfl at_80 rfl ?_
      refine own_iconst 82 rfl (5 : Int32) at_81 rfl ?_
      refine own_callS 85 rfl 1 9 0 [(.int (2 : Int32)), (.int (5 : Int32))] [] (y := (⟨"java/lang/Math", "max", "(II)I"⟩ : MethodName)) (hw _ (List.mem_of_getElem? (i := 23) rfl)) (hw _ (List.mem_of_getElem? (i := 24) rfl)) (hw _ (List.mem_of_getElem? (i := 25) rfl)) (hw _ (List.mem_of_getElem? (i := 26) rfl)) (by decide) (rm1 l Z a0 hw [] (2 : Int32) (5 : Int32)  h10 ) at_82 rfl (lenOf own_pd1 rfl) rfl rfl rfl (by decide) (by decide) rfl rfl (by decide) (by decide) (own_kv fun v186 h186 q186 => ?_)
      obtain ⟨rfl, e186⟩ := q186
      rw [e186]
      rw [show (if (2 : Int32) < (5 : Int32) then (5 : Int32) else (2 : Int32)) = (5 : Int32) from by decide]
      refine own_istore 87 rfl #[.val (.int p1), .val (.int p2), .val (.ref b1), .val (.int (2 : Int32)), .val (.int (7 : Int32)), .val (.int (5 : Int32)), .unset, .unset] at_85 rfl ?_
      refine own_iload 89 rfl at_87 rfl ?_
      refine own_iconst 90 rfl (5 : Int32) at_89 rfl ?_
      refine own_callS 93 rfl 1 9 0 [(.int (7 : Int32)), (.int (5 : Int32))] [] (y := (⟨"java/lang/Math", "max", "(II)I"⟩ : MethodName)) (hw _ (List.mem_of_getElem? (i := 23) rfl)) (hw _ (List.mem_of_getElem? (i := 24) rfl)) (hw _ (List.mem_of_getElem? (i := 25) rfl)) (hw _ (List.mem_of_getElem? (i := 26) rfl)) (by decide) (rm1 l Z a0 hw [] (7 : Int32) (5 : Int32)  h10 ) at_90 rfl (lenOf own_pd1 rfl) rfl rfl rfl (by decide) (by decide) rfl rfl (by decide) (by decide) (own_kv fun v187 h187 q187 => ?_)
      obtain ⟨rfl, e187⟩ := q187
      rw [e187]
      rw [show (if (7 : Int32) < (5 : Int32) then (5 : Int32) else (7 : Int32)) = (7 : Int32) from by decide]
      refine own_istore 95 rfl #[.val (.int p1), .val (.int p2), .val (.ref b1), .val (.int (2 : Int32)), .val (.int (7 : Int32)), .val (.int (5 : Int32)), .val (.int (7 : Int32)), .unset] at_93 rfl ?_
      refine own_aloadN 96 rfl at_95 rfl rfl ?_
      refine own_iload 98 rfl at_96 rfl ?_
      refine own_iload 100 rfl at_98 rfl ?_
      refine own_callS 103 rfl 1 9 1 [(.int (5 : Int32)), (.int (7 : Int32))] [(.ref b1)] (y := (⟨"java/lang/Math", "max", "(II)I"⟩ : MethodName)) (hw _ (List.mem_of_getElem? (i := 23) rfl)) (hw _ (List.mem_of_getElem? (i := 24) rfl)) (hw _ (List.mem_of_getElem? (i := 25) rfl)) (hw _ (List.mem_of_getElem? (i := 26) rfl)) (by decide) (rm1 l Z a0 hw [] (5 : Int32) (7 : Int32)  h10 ) at_100 rfl (lenOf own_pd1 rfl) rfl rfl rfl (by decide) (by decide) rfl rfl (by decide) (by decide) (own_kv fun v188 h188 q188 => ?_)
      obtain ⟨rfl, e188⟩ := q188
      rw [e188]
      rw [show (if (5 : Int32) < (7 : Int32) then (7 : Int32) else (5 : Int32)) = (7 : Int32) from by decide]
      obtain ⟨c189, A189, q189, S189, N189, H189, G189⟩ := id V10
      refine own_aaload 104 rfl A189 rfl (inb_of S189 ⟨by decide, by decide⟩) (Has.at H189 (inb_of S189 ⟨by decide, by decide⟩) rfl) at_103 ?_
      refine own_astore 106 rfl #[.val (.int p1), .val (.int p2), .val (.ref b1), .val (.int (2 : Int32)), .val (.int (7 : Int32)), .val (.int (5 : Int32)), .val (.int (7 : Int32)), .val (.ref w_LONG_LONG)] at_104 rfl rfl ?_
      refine own_aloadN 107 rfl at_106 rfl rfl ?_
      refine own_iloadN 108 rfl at_107 rfl ?_
      obtain ⟨c190, A190, q190, S190, N190, H190, G190⟩ := id V10
      refine own_aaload 109 rfl A190 rfl (inb_of S190 ⟨by decide, by decide⟩) (Has.at H190 (inb_of S190 ⟨by decide, by decide⟩) rfl) at_108 ?_
      refine own_aloadN 110 rfl at_109 rfl rfl ?_
      refine own_iload 112 rfl at_110 rfl ?_
      obtain ⟨c191, A191, q191, S191, N191, H191, G191⟩ := id V10
      refine own_aaload 113 rfl A191 rfl (inb_of S191 ⟨by decide, by decide⟩) (Has.at H191 (inb_of S191 ⟨by decide, by decide⟩) rfl) at_112 ?_
      refine own_callS 116 rfl 1 9 0 [(.ref w_UNSIGNED_CHAR), (.ref w_LONG_LONG)] [] (y := (⟨"com/example/counterpath/counterpath/cfa/Type", "common", "(Lcom/example/counterpath/counterpath/cfa/Type;Lcom/example/counterpath/counterpath/cfa/Type;)Lcom/example/counterpath/counterpath/cfa/Type;"⟩ : MethodName)) (hw _ (List.mem_of_getElem? (i := 27) rfl)) (hw _ (List.mem_of_getElem? (i := 28) rfl)) (hw _ (List.mem_of_getElem? (i := 3) rfl)) (hw _ (List.mem_of_getElem? (i := 29) rfl)) (by decide) (rm2 l Z a0 hw [] w_UNSIGNED_CHAR w_LONG_LONG (8 : Int32) (0 : Int32) (64 : Int32) (1 : Int32) w_BOOL w_SIGNED_CHAR w_UNSIGNED_CHAR w_SHORT w_UNSIGNED_SHORT w_INT w_UNSIGNED_INT w_LONG_LONG w_UNSIGNED_LONG_LONG h10 I (((((((((((E_w_UNSIGNED_CHAR.ext O0.2).ext E1).wr W2).wr W3).wr W4).wr W5).wr W6).wr W7).wr W8).wr W9).wr W10) (((((((((((F_w_UNSIGNED_CHAR_width.ext O0.2).ext E1).other W2 (Or.inl ne_w_UNSIGNED_CHAR_b1)).other W3 (Or.inl ne_w_UNSIGNED_CHAR_b1)).other W4 (Or.inl ne_w_UNSIGNED_CHAR_b1)).other W5 (Or.inl ne_w_UNSIGNED_CHAR_b1)).other W6 (Or.inl ne_w_UNSIGNED_CHAR_b1)).other W7 (Or.inl ne_w_UNSIGNED_CHAR_b1)).other W8 (Or.inl ne_w_UNSIGNED_CHAR_b1)).other W9 (Or.inl ne_w_UNSIGNED_CHAR_b1)).other W10 (Or.inl ne_w_UNSIGNED_CHAR_b1)) (((((((((((F_w_UNSIGNED_CHAR_signed.ext O0.2).ext E1).other W2 (Or.inl ne_w_UNSIGNED_CHAR_b1)).other W3 (Or.inl ne_w_UNSIGNED_CHAR_b1)).other W4 (Or.inl ne_w_UNSIGNED_CHAR_b1)).other W5 (Or.inl ne_w_UNSIGNED_CHAR_b1)).other W6 (Or.inl ne_w_UNSIGNED_CHAR_b1)).other W7 (Or.inl ne_w_UNSIGNED_CHAR_b1)).other W8 (Or.inl ne_w_UNSIGNED_CHAR_b1)).other W9 (Or.inl ne_w_UNSIGNED_CHAR_b1)).other W10 (Or.inl ne_w_UNSIGNED_CHAR_b1)) (((((((((((E_w_LONG_LONG.ext O0.2).ext E1).wr W2).wr W3).wr W4).wr W5).wr W6).wr W7).wr W8).wr W9).wr W10) (((((((((((F_w_LONG_LONG_width.ext O0.2).ext E1).other W2 (Or.inl ne_w_LONG_LONG_b1)).other W3 (Or.inl ne_w_LONG_LONG_b1)).other W4 (Or.inl ne_w_LONG_LONG_b1)).other W5 (Or.inl ne_w_LONG_LONG_b1)).other W6 (Or.inl ne_w_LONG_LONG_b1)).other W7 (Or.inl ne_w_LONG_LONG_b1)).other W8 (Or.inl ne_w_LONG_LONG_b1)).other W9 (Or.inl ne_w_LONG_LONG_b1)).other W10 (Or.inl ne_w_LONG_LONG_b1)) (((((((((((F_w_LONG_LONG_signed.ext O0.2).ext E1).other W2 (Or.inl ne_w_LONG_LONG_b1)).other W3 (Or.inl ne_w_LONG_LONG_b1)).other W4 (Or.inl ne_w_LONG_LONG_b1)).other W5 (Or.inl ne_w_LONG_LONG_b1)).other W6 (Or.inl ne_w_LONG_LONG_b1)).other W7 (Or.inl ne_w_LONG_LONG_b1)).other W8 (Or.inl ne_w_LONG_LONG_b1)).other W9 (Or.inl ne_w_LONG_LONG_b1)).other W10 (Or.inl ne_w_LONG_LONG_b1)) (by decide) (by decide)) at_113 rfl (lenOf own_pd2 rfl) rfl rfl rfl (by decide) (by decide) rfl rfl (by decide) (by decide) (own_kv fun v192 h192 q192 => ?_)
      obtain ⟨rfl, e192⟩ := q192
      rw [e192]
      rw [show own_com w_INT w_UNSIGNED_CHAR (8 : Int32) (0 : Int32) w_LONG_LONG (64 : Int32) (1 : Int32) = w_LONG_LONG from by simp [own_com]]
      refine own_aload 118 rfl at_116 rfl rfl ?_
      refine own_acmpNo 121 rfl at_118 rfl rfl (own_teq (rfl : ((.ref w_LONG_LONG) : Value) = (.ref w_LONG_LONG))).2 ?_
      refine own_iconst 122 rfl (1 : Int32) at_121 rfl ?_
      refine own_goto 126 at_122 (by decide) (by decide) ?_
      refine own_retN rfl (by simp) at_126 (by decide) (by decide) ?_
      exact ⟨_, rfl, rfl⟩
    · have hin_j := (rfl : (8 : Int) = 8)
      refine own_iloadN 81 rfl at_80 rfl ?_
      refine own_iconst 82 rfl (5 : Int32) at_81 rfl ?_
      refine own_callS 85 rfl 1 9 0 [(.int (2 : Int32)), (.int (5 : Int32))] [] (y := (⟨"java/lang/Math", "max", "(II)I"⟩ : MethodName)) (hw _ (List.mem_of_getElem? (i := 23) rfl)) (hw _ (List.mem_of_getElem? (i := 24) rfl)) (hw _ (List.mem_of_getElem? (i := 25) rfl)) (hw _ (List.mem_of_getElem? (i := 26) rfl)) (by decide) (rm1 l Z a0 hw [] (2 : Int32) (5 : Int32)  h10 ) at_82 rfl (lenOf own_pd1 rfl) rfl rfl rfl (by decide) (by decide) rfl rfl (by decide) (by decide) (own_kv fun v193 h193 q193 => ?_)
      obtain ⟨rfl, e193⟩ := q193
      rw [e193]
      rw [show (if (2 : Int32) < (5 : Int32) then (5 : Int32) else (2 : Int32)) = (5 : Int32) from by decide]
      refine own_istore 87 rfl #[.val (.int p1), .val (.int p2), .val (.ref b1), .val (.int (2 : Int32)), .val (.int (8 : Int32)), .val (.int (5 : Int32)), .unset, .unset] at_85 rfl ?_
      refine own_iload 89 rfl at_87 rfl ?_
      refine own_iconst 90 rfl (5 : Int32) at_89 rfl ?_
      refine own_callS 93 rfl 1 9 0 [(.int (8 : Int32)), (.int (5 : Int32))] [] (y := (⟨"java/lang/Math", "max", "(II)I"⟩ : MethodName)) (hw _ (List.mem_of_getElem? (i := 23) rfl)) (hw _ (List.mem_of_getElem? (i := 24) rfl)) (hw _ (List.mem_of_getElem? (i := 25) rfl)) (hw _ (List.mem_of_getElem? (i := 26) rfl)) (by decide) (rm1 l Z a0 hw [] (8 : Int32) (5 : Int32)  h10 ) at_90 rfl (lenOf own_pd1 rfl) rfl rfl rfl (by decide) (by decide) rfl rfl (by decide) (by decide) (own_kv fun v194 h194 q194 => ?_)
      obtain ⟨rfl, e194⟩ := q194
      rw [e194]
      rw [show (if (8 : Int32) < (5 : Int32) then (5 : Int32) else (8 : Int32)) = (8 : Int32) from by decide]
      refine own_istore 95 rfl #[.val (.int p1), .val (.int p2), .val (.ref b1), .val (.int (2 : Int32)), .val (.int (8 : Int32)), .val (.int (5 : Int32)), .val (.int (8 : Int32)), .unset] at_93 rfl ?_
      refine own_aloadN 96 rfl at_95 rfl rfl ?_
      refine own_iload 98 rfl at_96 rfl ?_
      refine own_iload 100 rfl at_98 rfl ?_
      refine own_callS 103 rfl 1 9 1 [(.int (5 : Int32)), (.int (8 : Int32))] [(.ref b1)] (y := (⟨"java/lang/Math", "max", "(II)I"⟩ : MethodName)) (hw _ (List.mem_of_getElem? (i := 23) rfl)) (hw _ (List.mem_of_getElem? (i := 24) rfl)) (hw _ (List.mem_of_getElem? (i := 25) rfl)) (hw _ (List.mem_of_getElem? (i := 26) rfl)) (by decide) (rm1 l Z a0 hw [] (5 : Int32) (8 : Int32)  h10 ) at_100 rfl (lenOf own_pd1 rfl) rfl rfl rfl (by decide) (by decide) rfl rfl (by decide) (by decide) (own_kv fun v195 h195 q195 => ?_)
      obtain ⟨rfl, e195⟩ := q195
      rw [e195]
      rw [show (if (5 : Int32) < (8 : Int32) then (8 : Int32) else (5 : Int32)) = (8 : Int32) from by decide]
      obtain ⟨c196, A196, q196, S196, N196, H196, G196⟩ := id V10
      refine own_aaload 104 rfl A196 rfl (inb_of S196 ⟨by decide, by decide⟩) (Has.at H196 (inb_of S196 ⟨by decide, by decide⟩) rfl) at_103 ?_
      refine own_astore 106 rfl #[.val (.int p1), .val (.int p2), .val (.ref b1), .val (.int (2 : Int32)), .val (.int (8 : Int32)), .val (.int (5 : Int32)), .val (.int (8 : Int32)), .val (.ref w_UNSIGNED_LONG_LONG)] at_104 rfl rfl ?_
      refine own_aloadN 107 rfl at_106 rfl rfl ?_
      refine own_iloadN 108 rfl at_107 rfl ?_
      obtain ⟨c197, A197, q197, S197, N197, H197, G197⟩ := id V10
      refine own_aaload 109 rfl A197 rfl (inb_of S197 ⟨by decide, by decide⟩) (Has.at H197 (inb_of S197 ⟨by decide, by decide⟩) rfl) at_108 ?_
      refine own_aloadN 110 rfl at_109 rfl rfl ?_
      refine own_iload 112 rfl at_110 rfl ?_
      obtain ⟨c198, A198, q198, S198, N198, H198, G198⟩ := id V10
      refine own_aaload 113 rfl A198 rfl (inb_of S198 ⟨by decide, by decide⟩) (Has.at H198 (inb_of S198 ⟨by decide, by decide⟩) rfl) at_112 ?_
      refine own_callS 116 rfl 1 9 0 [(.ref w_UNSIGNED_CHAR), (.ref w_UNSIGNED_LONG_LONG)] [] (y := (⟨"com/example/counterpath/counterpath/cfa/Type", "common", "(Lcom/example/counterpath/counterpath/cfa/Type;Lcom/example/counterpath/counterpath/cfa/Type;)Lcom/example/counterpath/counterpath/cfa/Type;"⟩ : MethodName)) (hw _ (List.mem_of_getElem? (i := 27) rfl)) (hw _ (List.mem_of_getElem? (i := 28) rfl)) (hw _ (List.mem_of_getElem? (i := 3) rfl)) (hw _ (List.mem_of_getElem? (i := 29) rfl)) (by decide) (rm2 l Z a0 hw [] w_UNSIGNED_CHAR w_UNSIGNED_LONG_LONG (8 : Int32) (0 : Int32) (64 : Int32) (0 : Int32) w_BOOL w_SIGNED_CHAR w_UNSIGNED_CHAR w_SHORT w_UNSIGNED_SHORT w_INT w_UNSIGNED_INT w_LONG_LONG w_UNSIGNED_LONG_LONG h10 I (((((((((((E_w_UNSIGNED_CHAR.ext O0.2).ext E1).wr W2).wr W3).wr W4).wr W5).wr W6).wr W7).wr W8).wr W9).wr W10) (((((((((((F_w_UNSIGNED_CHAR_width.ext O0.2).ext E1).other W2 (Or.inl ne_w_UNSIGNED_CHAR_b1)).other W3 (Or.inl ne_w_UNSIGNED_CHAR_b1)).other W4 (Or.inl ne_w_UNSIGNED_CHAR_b1)).other W5 (Or.inl ne_w_UNSIGNED_CHAR_b1)).other W6 (Or.inl ne_w_UNSIGNED_CHAR_b1)).other W7 (Or.inl ne_w_UNSIGNED_CHAR_b1)).other W8 (Or.inl ne_w_UNSIGNED_CHAR_b1)).other W9 (Or.inl ne_w_UNSIGNED_CHAR_b1)).other W10 (Or.inl ne_w_UNSIGNED_CHAR_b1)) (((((((((((F_w_UNSIGNED_CHAR_signed.ext O0.2).ext E1).other W2 (Or.inl ne_w_UNSIGNED_CHAR_b1)).other W3 (Or.inl ne_w_UNSIGNED_CHAR_b1)).other W4 (Or.inl ne_w_UNSIGNED_CHAR_b1)).other W5 (Or.inl ne_w_UNSIGNED_CHAR_b1)).other W6 (Or.inl ne_w_UNSIGNED_CHAR_b1)).other W7 (Or.inl ne_w_UNSIGNED_CHAR_b1)).other W8 (Or.inl ne_w_UNSIGNED_CHAR_b1)).other W9 (Or.inl ne_w_UNSIGNED_CHAR_b1)).other W10 (Or.inl ne_w_UNSIGNED_CHAR_b1)) (((((((((((E_w_UNSIGNED_LONG_LONG.ext O0.2).ext E1).wr W2).wr W3).wr W4).wr W5).wr W6).wr W7).wr W8).wr W9).wr W10) (((((((((((F_w_UNSIGNED_LONG_LONG_width.ext O0.2).ext E1).other W2 (Or.inl ne_w_UNSIGNED_LONG_LONG_b1)).other W3 (Or.inl ne_w_UNSIGNED_LONG_LONG_b1)).other W4 (Or.inl ne_w_UNSIGNED_LONG_LONG_b1)).other W5 (Or.inl ne_w_UNSIGNED_LONG_LONG_b1)).other W6 (Or.inl ne_w_UNSIGNED_LONG_LONG_b1)).other W7 (Or.inl ne_w_UNSIGNED_LONG_LONG_b1)).other W8 (Or.inl ne_w_UNSIGNED_LONG_LONG_b1)).other W9 (Or.inl ne_w_UNSIGNED_LONG_LONG_b1)).other W10 (Or.inl ne_w_UNSIGNED_LONG_LONG_b1)) (((((((((((F_w_UNSIGNED_LONG_LONG_signed.ext O0.2).ext E1).other W2 (Or.inl ne_w_UNSIGNED_LONG_LONG_b1)).other W3 (Or.inl ne_w_UNSIGNED_LONG_LONG_b1)).other W4 (Or.inl ne_w_UNSIGNED_LONG_LONG_b1)).other W5 (Or.inl ne_w_UNSIGNED_LONG_LONG_b1)).other W6 (Or.inl ne_w_UNSIGNED_LONG_LONG_b1)).other W7 (Or.inl ne_w_UNSIGNED_LONG_LONG_b1)).other W8 (Or.inl ne_w_UNSIGNED_LONG_LONG_b1)).other W9 (Or.inl ne_w_UNSIGNED_LONG_LONG_b1)).other W10 (Or.inl ne_w_UNSIGNED_LONG_LONG_b1)) (by decide) (by decide)) at_113 rfl (lenOf own_pd2 rfl) rfl rfl rfl (by decide) (by decide) rfl rfl (by decide) (by decide) (own_kv fun v199 h199 q199 => ?_)
      obtain ⟨rfl, e199⟩ := q199
      rw [e199]
      rw [show own_com w_INT w_UNSIGNED_CHAR (8 : Int32) (0 : Int32) w_UNSIGNED_LONG_LONG (64 : Int32) (0 : Int32) = w_UNSIGNED_LONG_LONG from by simp [own_com]]
      refine own_aload 118 rfl at_116 rfl rfl ?_
      refine own_acmpNo 121 rfl at_118 rfl rfl (own_teq (rfl : ((.ref w_UNSIGNED_LONG_LONG) : Value) = (.ref w_UNSIGNED_LONG_LONG))).2 ?_
      refine own_iconst 122 rfl (1 : Int32) at_121 rfl ?_
      refine own_goto 126 at_122 (by decide) (by decide) ?_
      refine own_retN rfl (by simp) at_126 (by decide) (by decide) ?_
      exact ⟨_, rfl, rfl⟩
  · have hin_k := (rfl : (3 : Int) = 3)
    have hr_j : j = (0 : Int32) ∨ j = (1 : Int32) ∨ j = (2 : Int32) ∨ j = (3 : Int32) ∨ j = (4 : Int32) ∨ j = (5 : Int32) ∨ j = (6 : Int32) ∨ j = (7 : Int32) ∨ j = (8 : Int32) := by
      have hrz : j.toInt = 0 ∨ j.toInt = 1 ∨ j.toInt = 2 ∨ j.toInt = 3 ∨ j.toInt = 4 ∨ j.toInt = 5 ∨ j.toInt = 6 ∨ j.toInt = 7 ∨ j.toInt = 8 := by omega
      rcases hrz with q | q | q | q | q | q | q | q | q
      · exact Or.inl (own_eq' q)
      · exact Or.inr (Or.inl (own_eq' q))
      · exact Or.inr (Or.inr (Or.inl (own_eq' q)))
      · exact Or.inr (Or.inr (Or.inr (Or.inl (own_eq' q))))
      · exact Or.inr (Or.inr (Or.inr (Or.inr (Or.inl (own_eq' q)))))
      · exact Or.inr (Or.inr (Or.inr (Or.inr (Or.inr (Or.inl (own_eq' q))))))
      · exact Or.inr (Or.inr (Or.inr (Or.inr (Or.inr (Or.inr (Or.inl (own_eq' q)))))))
      · exact Or.inr (Or.inr (Or.inr (Or.inr (Or.inr (Or.inr (Or.inr (Or.inl (own_eq' q))))))))
      · exact Or.inr (Or.inr (Or.inr (Or.inr (Or.inr (Or.inr (Or.inr (Or.inr (own_eq' q))))))))
    rcases hr_j with rfl | rfl | rfl | rfl | rfl | rfl | rfl | rfl | rfl
    · have hin_j := (rfl : (0 : Int) = 0)
      refine own_iloadN 81 rfl at_80 rfl ?_
      refine own_iconst 82 rfl (5 : Int32) at_81 rfl ?_
      refine own_callS 85 rfl 1 9 0 [(.int (3 : Int32)), (.int (5 : Int32))] [] (y := (⟨"java/lang/Math", "max", "(II)I"⟩ : MethodName)) (hw _ (List.mem_of_getElem? (i := 23) rfl)) (hw _ (List.mem_of_getElem? (i := 24) rfl)) (hw _ (List.mem_of_getElem? (i := 25) rfl)) (hw _ (List.mem_of_getElem? (i := 26) rfl)) (by decide) (rm1 l Z a0 hw [] (3 : Int32) (5 : Int32)  h10 ) at_82 rfl (lenOf own_pd1 rfl) rfl rfl rfl (by decide) (by decide) rfl rfl (by decide) (by decide) (own_kv fun v200 h200 q200 => ?_)
      obtain ⟨rfl, e200⟩ := q200
      rw [e200]
      rw [show (if (3 : Int32) < (5 : Int32) then (5 : Int32) else (3 : Int32)) = (5 : Int32) from by decide]
      refine own_istore 87 rfl #[.val (.int p1), .val (.int p2), .val (.ref b1), .val (.int (3 : Int32)), .val (.int (0 : Int32)), .val (.int (5 : Int32)), .unset, .unset] at_85 rfl ?_
      refine own_iload 89 rfl at_87 rfl ?_
      refine own_iconst 90 rfl (5 : Int32) at_89 rfl ?_
      refine own_callS 93 rfl 1 9 0 [(.int (0 : Int32)), (.int (5 : Int32))] [] (y := (⟨"java/lang/Math", "max", "(II)I"⟩ : MethodName)) (hw _ (List.mem_of_getElem? (i := 23) rfl)) (hw _ (List.mem_of_getElem? (i := 24) rfl)) (hw _ (List.mem_of_getElem? (i := 25) rfl)) (hw _ (List.mem_of_getElem? (i := 26) rfl)) (by decide) (rm1 l Z a0 hw [] (0 : Int32) (5 : Int32)  h10 ) at_90 rfl (lenOf own_pd1 rfl) rfl rfl rfl (by decide) (by decide) rfl rfl (by decide) (by decide) (own_kv fun v201 h201 q201 => ?_)
      obtain ⟨rfl, e201⟩ := q201
      rw [e201]
      rw [show (if (0 : Int32) < (5 : Int32) then (5 : Int32) else (0 : Int32)) = (5 : Int32) from by decide]
      refine own_istore 95 rfl #[.val (.int p1), .val (.int p2), .val (.ref b1), .val (.int (3 : Int32)), .val (.int (0 : Int32)), .val (.int (5 : Int32)), .val (.int (5 : Int32)), .unset] at_93 rfl ?_
      refine own_aloadN 96 rfl at_95 rfl rfl ?_
      refine own_iload 98 rfl at_96 rfl ?_
      refine own_iload 100 rfl at_98 rfl ?_
      refine own_callS 103 rfl 1 9 1 [(.int (5 : Int32)), (.int (5 : Int32))] [(.ref b1)] (y := (⟨"java/lang/Math", "max", "(II)I"⟩ : MethodName)) (hw _ (List.mem_of_getElem? (i := 23) rfl)) (hw _ (List.mem_of_getElem? (i := 24) rfl)) (hw _ (List.mem_of_getElem? (i := 25) rfl)) (hw _ (List.mem_of_getElem? (i := 26) rfl)) (by decide) (rm1 l Z a0 hw [] (5 : Int32) (5 : Int32)  h10 ) at_100 rfl (lenOf own_pd1 rfl) rfl rfl rfl (by decide) (by decide) rfl rfl (by decide) (by decide) (own_kv fun v202 h202 q202 => ?_)
      obtain ⟨rfl, e202⟩ := q202
      rw [e202]
      rw [show (if (5 : Int32) < (5 : Int32) then (5 : Int32) else (5 : Int32)) = (5 : Int32) from by decide]
      obtain ⟨c203, A203, q203, S203, N203, H203, G203⟩ := id V10
      refine own_aaload 104 rfl A203 rfl (inb_of S203 ⟨by decide, by decide⟩) (Has.at H203 (inb_of S203 ⟨by decide, by decide⟩) rfl) at_103 ?_
      refine own_astore 106 rfl #[.val (.int p1), .val (.int p2), .val (.ref b1), .val (.int (3 : Int32)), .val (.int (0 : Int32)), .val (.int (5 : Int32)), .val (.int (5 : Int32)), .val (.ref w_INT)] at_104 rfl rfl ?_
      refine own_aloadN 107 rfl at_106 rfl rfl ?_
      refine own_iloadN 108 rfl at_107 rfl ?_
      obtain ⟨c204, A204, q204, S204, N204, H204, G204⟩ := id V10
      refine own_aaload 109 rfl A204 rfl (inb_of S204 ⟨by decide, by decide⟩) (Has.at H204 (inb_of S204 ⟨by decide, by decide⟩) rfl) at_108 ?_
      refine own_aloadN 110 rfl at_109 rfl rfl ?_
      refine own_iload 112 rfl at_110 rfl ?_
      obtain ⟨c205, A205, q205, S205, N205, H205, G205⟩ := id V10
      refine own_aaload 113 rfl A205 rfl (inb_of S205 ⟨by decide, by decide⟩) (Has.at H205 (inb_of S205 ⟨by decide, by decide⟩) rfl) at_112 ?_
      refine own_callS 116 rfl 1 9 0 [(.ref w_SHORT), (.ref w_BOOL)] [] (y := (⟨"com/example/counterpath/counterpath/cfa/Type", "common", "(Lcom/example/counterpath/counterpath/cfa/Type;Lcom/example/counterpath/counterpath/cfa/Type;)Lcom/example/counterpath/counterpath/cfa/Type;"⟩ : MethodName)) (hw _ (List.mem_of_getElem? (i := 27) rfl)) (hw _ (List.mem_of_getElem? (i := 28) rfl)) (hw _ (List.mem_of_getElem? (i := 3) rfl)) (hw _ (List.mem_of_getElem? (i := 29) rfl)) (by decide) (rm2 l Z a0 hw [] w_SHORT w_BOOL (16 : Int32) (1 : Int32) (1 : Int32) (0 : Int32) w_BOOL w_SIGNED_CHAR w_UNSIGNED_CHAR w_SHORT w_UNSIGNED_SHORT w_INT w_UNSIGNED_INT w_LONG_LONG w_UNSIGNED_LONG_LONG h10 I (((((((((((E_w_SHORT.ext O0.2).ext E1).wr W2).wr W3).wr W4).wr W5).wr W6).wr W7).wr W8).wr W9).wr W10) (((((((((((F_w_SHORT_width.ext O0.2).ext E1).other W2 (Or.inl ne_w_SHORT_b1)).other W3 (Or.inl ne_w_SHORT_b1)).other W4 (Or.inl ne_w_SHORT_b1)).other W5 (Or.inl ne_w_SHORT_b1)).other W6 (Or.inl ne_w_SHORT_b1)).other W7 (Or.inl ne_w_SHORT_b1)).other W8 (Or.inl ne_w_SHORT_b1)).other W9 (Or.inl ne_w_SHORT_b1)).other W10 (Or.inl ne_w_SHORT_b1)) (((((((((((F_w_SHORT_signed.ext O0.2).ext E1).other W2 (Or.inl ne_w_SHORT_b1)).other W3 (Or.inl ne_w_SHORT_b1)).other W4 (Or.inl ne_w_SHORT_b1)).other W5 (Or.inl ne_w_SHORT_b1)).other W6 (Or.inl ne_w_SHORT_b1)).other W7 (Or.inl ne_w_SHORT_b1)).other W8 (Or.inl ne_w_SHORT_b1)).other W9 (Or.inl ne_w_SHORT_b1)).other W10 (Or.inl ne_w_SHORT_b1)) (((((((((((E_w_BOOL.ext O0.2).ext E1).wr W2).wr W3).wr W4).wr W5).wr W6).wr W7).wr W8).wr W9).wr W10) (((((((((((F_w_BOOL_width.ext O0.2).ext E1).other W2 (Or.inl ne_w_BOOL_b1)).other W3 (Or.inl ne_w_BOOL_b1)).other W4 (Or.inl ne_w_BOOL_b1)).other W5 (Or.inl ne_w_BOOL_b1)).other W6 (Or.inl ne_w_BOOL_b1)).other W7 (Or.inl ne_w_BOOL_b1)).other W8 (Or.inl ne_w_BOOL_b1)).other W9 (Or.inl ne_w_BOOL_b1)).other W10 (Or.inl ne_w_BOOL_b1)) (((((((((((F_w_BOOL_signed.ext O0.2).ext E1).other W2 (Or.inl ne_w_BOOL_b1)).other W3 (Or.inl ne_w_BOOL_b1)).other W4 (Or.inl ne_w_BOOL_b1)).other W5 (Or.inl ne_w_BOOL_b1)).other W6 (Or.inl ne_w_BOOL_b1)).other W7 (Or.inl ne_w_BOOL_b1)).other W8 (Or.inl ne_w_BOOL_b1)).other W9 (Or.inl ne_w_BOOL_b1)).other W10 (Or.inl ne_w_BOOL_b1)) (by decide) (by decide)) at_113 rfl (lenOf own_pd2 rfl) rfl rfl rfl (by decide) (by decide) rfl rfl (by decide) (by decide) (own_kv fun v206 h206 q206 => ?_)
      obtain ⟨rfl, e206⟩ := q206
      rw [e206]
      rw [show own_com w_INT w_SHORT (16 : Int32) (1 : Int32) w_BOOL (1 : Int32) (0 : Int32) = w_INT from by simp [own_com]]
      refine own_aload 118 rfl at_116 rfl rfl ?_
      refine own_acmpNo 121 rfl at_118 rfl rfl (own_teq (rfl : ((.ref w_INT) : Value) = (.ref w_INT))).2 ?_
      refine own_iconst 122 rfl (1 : Int32) at_121 rfl ?_
      refine own_goto 126 at_122 (by decide) (by decide) ?_
      refine own_retN rfl (by simp) at_126 (by decide) (by decide) ?_
      exact ⟨_, rfl, rfl⟩
    · have hin_j := (rfl : (1 : Int) = 1)
      refine own_iloadN 81 rfl at_80 rfl ?_
      refine own_iconst 82 rfl (5 : Int32) at_81 rfl ?_
      refine own_callS 85 rfl 1 9 0 [(.int (3 : Int32)), (.int (5 : Int32))] [] (y := (⟨"java/lang/Math", "max", "(II)I"⟩ : MethodName)) (hw _ (List.mem_of_getElem? (i := 23) rfl)) (hw _ (List.mem_of_getElem? (i := 24) rfl)) (hw _ (List.mem_of_getElem? (i := 25) rfl)) (hw _ (List.mem_of_getElem? (i := 26) rfl)) (by decide) (rm1 l Z a0 hw [] (3 : Int32) (5 : Int32)  h10 ) at_82 rfl (lenOf own_pd1 rfl) rfl rfl rfl (by decide) (by decide) rfl rfl (by decide) (by decide) (own_kv fun v207 h207 q207 => ?_)
      obtain ⟨rfl, e207⟩ := q207
      rw [e207]
      rw [show (if (3 : Int32) < (5 : Int32) then (5 : Int32) else (3 : Int32)) = (5 : Int32) from by decide]
      refine own_istore 87 rfl #[.val (.int p1), .val (.int p2), .val (.ref b1), .val (.int (3 : Int32)), .val (.int (1 : Int32)), .val (.int (5 : Int32)), .unset, .unset] at_85 rfl ?_
      refine own_iload 89 rfl at_87 rfl ?_
      refine own_iconst 90 rfl (5 : Int32) at_89 rfl ?_
      refine own_callS 93 rfl 1 9 0 [(.int (1 : Int32)), (.int (5 : Int32))] [] (y := (⟨"java/lang/Math", "max", "(II)I"⟩ : MethodName)) (hw _ (List.mem_of_getElem? (i := 23) rfl)) (hw _ (List.mem_of_getElem? (i := 24) rfl)) (hw _ (List.mem_of_getElem? (i := 25) rfl)) (hw _ (List.mem_of_getElem? (i := 26) rfl)) (by decide) (rm1 l Z a0 hw [] (1 : Int32) (5 : Int32)  h10 ) at_90 rfl (lenOf own_pd1 rfl) rfl rfl rfl (by decide) (by decide) rfl rfl (by decide) (by decide) (own_kv fun v208 h208 q208 => ?_)
      obtain ⟨rfl, e208⟩ := q208
      rw [e208]
      rw [show (if (1 : Int32) < (5 : Int32) then (5 : Int32) else (1 : Int32)) = (5 : Int32) from by decide]
      refine own_istore 95 rfl #[.val (.int p1), .val (.int p2), .val (.ref b1), .val (.int (3 : Int32)), .val (.int (1 : Int32)), .val (.int (5 : Int32)), .val (.int (5 : Int32)), .unset] at_93 rfl ?_
      refine own_aloadN 96 rfl at_95 rfl rfl ?_
      refine own_iload 98 rfl at_96 rfl ?_
      refine own_iload 100 rfl at_98 rfl ?_
      refine own_callS 103 rfl 1 9 1 [(.int (5 : Int32)), (.int (5 : Int32))] [(.ref b1)] (y := (⟨"java/lang/Math", "max", "(II)I"⟩ : MethodName)) (hw _ (List.mem_of_getElem? (i := 23) rfl)) (hw _ (List.mem_of_getElem? (i := 24) rfl)) (hw _ (List.mem_of_getElem? (i := 25) rfl)) (hw _ (List.mem_of_getElem? (i := 26) rfl)) (by decide) (rm1 l Z a0 hw [] (5 : Int32) (5 : Int32)  h10 ) at_100 rfl (lenOf own_pd1 rfl) rfl rfl rfl (by decide) (by decide) rfl rfl (by decide) (by decide) (own_kv fun v209 h209 q209 => ?_)
      obtain ⟨rfl, e209⟩ := q209
      rw [e209]
      rw [show (if (5 : Int32) < (5 : Int32) then (5 : Int32) else (5 : Int32)) = (5 : Int32) from by decide]
      obtain ⟨c210, A210, q210, S210, N210, H210, G210⟩ := id V10
      refine own_aaload 104 rfl A210 rfl (inb_of S210 ⟨by decide, by decide⟩) (Has.at H210 (inb_of S210 ⟨by decide, by decide⟩) rfl) at_103 ?_
      refine own_astore 106 rfl #[.val (.int p1), .val (.int p2), .val (.ref b1), .val (.int (3 : Int32)), .val (.int (1 : Int32)), .val (.int (5 : Int32)), .val (.int (5 : Int32)), .val (.ref w_INT)] at_104 rfl rfl ?_
      refine own_aloadN 107 rfl at_106 rfl rfl ?_
      refine own_iloadN 108 rfl at_107 rfl ?_
      obtain ⟨c211, A211, q211, S211, N211, H211, G211⟩ := id V10
      refine own_aaload 109 rfl A211 rfl (inb_of S211 ⟨by decide, by decide⟩) (Has.at H211 (inb_of S211 ⟨by decide, by decide⟩) rfl) at_108 ?_
      refine own_aloadN 110 rfl at_109 rfl rfl ?_
      refine own_iload 112 rfl at_110 rfl ?_
      obtain ⟨c212, A212, q212, S212, N212, H212, G212⟩ := id V10
      refine own_aaload 113 rfl A212 rfl (inb_of S212 ⟨by decide, by decide⟩) (Has.at H212 (inb_of S212 ⟨by decide, by decide⟩) rfl) at_112 ?_
      refine own_callS 116 rfl 1 9 0 [(.ref w_SHORT), (.ref w_SIGNED_CHAR)] [] (y := (⟨"com/example/counterpath/counterpath/cfa/Type", "common", "(Lcom/example/counterpath/counterpath/cfa/Type;Lcom/example/counterpath/counterpath/cfa/Type;)Lcom/example/counterpath/counterpath/cfa/Type;"⟩ : MethodName)) (hw _ (List.mem_of_getElem? (i := 27) rfl)) (hw _ (List.mem_of_getElem? (i := 28) rfl)) (hw _ (List.mem_of_getElem? (i := 3) rfl)) (hw _ (List.mem_of_getElem? (i := 29) rfl)) (by decide) (rm2 l Z a0 hw [] w_SHORT w_SIGNED_CHAR (16 : Int32) (1 : Int32) (8 : Int32) (1 : Int32) w_BOOL w_SIGNED_CHAR w_UNSIGNED_CHAR w_SHORT w_UNSIGNED_SHORT w_INT w_UNSIGNED_INT w_LONG_LONG w_UNSIGNED_LONG_LONG h10 I (((((((((((E_w_SHORT.ext O0.2).ext E1).wr W2).wr W3).wr W4).wr W5).wr W6).wr W7).wr W8).wr W9).wr W10) (((((((((((F_w_SHORT_width.ext O0.2).ext E1).other W2 (Or.inl ne_w_SHORT_b1)).other W3 (Or.inl ne_w_SHORT_b1)).other W4 (Or.inl ne_w_SHORT_b1)).other W5 (Or.inl ne_w_SHORT_b1)).other W6 (Or.inl ne_w_SHORT_b1)).other W7 (Or.inl ne_w_SHORT_b1)).other W8 (Or.inl ne_w_SHORT_b1)).other W9 (Or.inl ne_w_SHORT_b1)).other W10 (Or.inl ne_w_SHORT_b1)) (((((((((((F_w_SHORT_signed.ext O0.2).ext E1).other W2 (Or.inl ne_w_SHORT_b1)).other W3 (Or.inl ne_w_SHORT_b1)).other W4 (Or.inl ne_w_SHORT_b1)).other W5 (Or.inl ne_w_SHORT_b1)).other W6 (Or.inl ne_w_SHORT_b1)).other W7 (Or.inl ne_w_SHORT_b1)).other W8 (Or.inl ne_w_SHORT_b1)).other W9 (Or.inl ne_w_SHORT_b1)).other W10 (Or.inl ne_w_SHORT_b1)) (((((((((((E_w_SIGNED_CHAR.ext O0.2).ext E1).wr W2).wr W3).wr W4).wr W5).wr W6).wr W7).wr W8).wr W9).wr W10) (((((((((((F_w_SIGNED_CHAR_width.ext O0.2).ext E1).other W2 (Or.inl ne_w_SIGNED_CHAR_b1)).other W3 (Or.inl ne_w_SIGNED_CHAR_b1)).other W4 (Or.inl ne_w_SIGNED_CHAR_b1)).other W5 (Or.inl ne_w_SIGNED_CHAR_b1)).other W6 (Or.inl ne_w_SIGNED_CHAR_b1)).other W7 (Or.inl ne_w_SIGNED_CHAR_b1)).other W8 (Or.inl ne_w_SIGNED_CHAR_b1)).other W9 (Or.inl ne_w_SIGNED_CHAR_b1)).other W10 (Or.inl ne_w_SIGNED_CHAR_b1)) (((((((((((F_w_SIGNED_CHAR_signed.ext O0.2).ext E1).other W2 (Or.inl ne_w_SIGNED_CHAR_b1)).other W3 (Or.inl ne_w_SIGNED_CHAR_b1)).other W4 (Or.inl ne_w_SIGNED_CHAR_b1)).other W5 (Or.inl ne_w_SIGNED_CHAR_b1)).other W6 (Or.inl ne_w_SIGNED_CHAR_b1)).other W7 (Or.inl ne_w_SIGNED_CHAR_b1)).other W8 (Or.inl ne_w_SIGNED_CHAR_b1)).other W9 (Or.inl ne_w_SIGNED_CHAR_b1)).other W10 (Or.inl ne_w_SIGNED_CHAR_b1)) (by decide) (by decide)) at_113 rfl (lenOf own_pd2 rfl) rfl rfl rfl (by decide) (by decide) rfl rfl (by decide) (by decide) (own_kv fun v213 h213 q213 => ?_)
      obtain ⟨rfl, e213⟩ := q213
      rw [e213]
      rw [show own_com w_INT w_SHORT (16 : Int32) (1 : Int32) w_SIGNED_CHAR (8 : Int32) (1 : Int32) = w_INT from by simp [own_com]]
      refine own_aload 118 rfl at_116 rfl rfl ?_
      refine own_acmpNo 121 rfl at_118 rfl rfl (own_teq (rfl : ((.ref w_INT) : Value) = (.ref w_INT))).2 ?_
      refine own_iconst 122 rfl (1 : Int32) at_121 rfl ?_
      refine own_goto 126 at_122 (by decide) (by decide) ?_
      refine own_retN rfl (by simp) at_126 (by decide) (by decide) ?_
      exact ⟨_, rfl, rfl⟩
    · have hin_j := (rfl : (2 : Int) = 2)
      refine own_iloadN 81 rfl at_80 rfl ?_
      refine own_iconst 82 rfl (5 : Int32) at_81 rfl ?_
      refine own_callS 85 rfl 1 9 0 [(.int (3 : Int32)), (.int (5 : Int32))] [] (y := (⟨"java/lang/Math", "max", "(II)I"⟩ : MethodName)) (hw _ (List.mem_of_getElem? (i := 23) rfl)) (hw _ (List.mem_of_getElem? (i := 24) rfl)) (hw _ (List.mem_of_getElem? (i := 25) rfl)) (hw _ (List.mem_of_getElem? (i := 26) rfl)) (by decide) (rm1 l Z a0 hw [] (3 : Int32) (5 : Int32)  h10 ) at_82 rfl (lenOf own_pd1 rfl) rfl rfl rfl (by decide) (by decide) rfl rfl (by decide) (by decide) (own_kv fun v214 h214 q214 => ?_)
      obtain ⟨rfl, e214⟩ := q214
      rw [e214]
      rw [show (if (3 : Int32) < (5 : Int32) then (5 : Int32) else (3 : Int32)) = (5 : Int32) from by decide]
      refine own_istore 87 rfl #[.val (.int p1), .val (.int p2), .val (.ref b1), .val (.int (3 : Int32)), .val (.int (2 : Int32)), .val (.int (5 : Int32)), .unset, .unset] at_85 rfl ?_
      refine own_iload 89 rfl at_87 rfl ?_
      refine own_iconst 90 rfl (5 : Int32) at_89 rfl ?_
      refine own_callS 93 rfl 1 9 0 [(.int (2 : Int32)), (.int (5 : Int32))] [] (y := (⟨"java/lang/Math", "max", "(II)I"⟩ : MethodName)) (hw _ (List.mem_of_getElem? (i := 23) rfl)) (hw _ (List.mem_of_getElem? (i := 24) rfl)) (hw _ (List.mem_of_getElem? (i := 25) rfl)) (hw _ (List.mem_of_getElem? (i := 26) rfl)) (by decide) (rm1 l Z a0 hw [] (2 : Int32) (5 : Int32)  h10 ) at_90 rfl (lenOf own_pd1 rfl) rfl rfl rfl (by decide) (by decide) rfl rfl (by decide) (by decide) (own_kv fun v215 h215 q215 => ?_)
      obtain ⟨rfl, e215⟩ := q215
      rw [e215]
      rw [show (if (2 : Int32) < (5 : Int32) then (5 : Int32) else (2 : Int32)) = (5 : Int32) from by decide]
      refine own_istore 95 rfl #[.val (.int p1), .val (.int p2), .val (.ref b1), .val (.int (3 : Int32)), .val (.int (2 : Int32)), .val (.int (5 : Int32)), .val (.int (5 : Int32)), .unset] at_93 rfl ?_
      refine own_aloadN 96 rfl at_95 rfl rfl ?_
      refine own_iload 98 rfl at_96 rfl ?_
      refine own_iload 100 rfl at_98 rfl ?_
      refine own_callS 103 rfl 1 9 1 [(.int (5 : Int32)), (.int (5 : Int32))] [(.ref b1)] (y := (⟨"java/lang/Math", "max", "(II)I"⟩ : MethodName)) (hw _ (List.mem_of_getElem? (i := 23) rfl)) (hw _ (List.mem_of_getElem? (i := 24) rfl)) (hw _ (List.mem_of_getElem? (i := 25) rfl)) (hw _ (List.mem_of_getElem? (i := 26) rfl)) (by decide) (rm1 l Z a0 hw [] (5 : Int32) (5 : Int32)  h10 ) at_100 rfl (lenOf own_pd1 rfl) rfl rfl rfl (by decide) (by decide) rfl rfl (by decide) (by decide) (own_kv fun v216 h216 q216 => ?_)
      obtain ⟨rfl, e216⟩ := q216
      rw [e216]
      rw [show (if (5 : Int32) < (5 : Int32) then (5 : Int32) else (5 : Int32)) = (5 : Int32) from by decide]
      obtain ⟨c217, A217, q217, S217, N217, H217, G217⟩ := id V10
      refine own_aaload 104 rfl A217 rfl (inb_of S217 ⟨by decide, by decide⟩) (Has.at H217 (inb_of S217 ⟨by decide, by decide⟩) rfl) at_103 ?_
      refine own_astore 106 rfl #[.val (.int p1), .val (.int p2), .val (.ref b1), .val (.int (3 : Int32)), .val (.int (2 : Int32)), .val (.int (5 : Int32)), .val (.int (5 : Int32)), .val (.ref w_INT)] at_104 rfl rfl ?_
      refine own_aloadN 107 rfl at_106 rfl rfl ?_
      refine own_iloadN 108 rfl at_107 rfl ?_
      obtain ⟨c218, A218, q218, S218, N218, H218, G218⟩ := id V10
      refine own_aaload 109 rfl A218 rfl (inb_of S218 ⟨by decide, by decide⟩) (Has.at H218 (inb_of S218 ⟨by decide, by decide⟩) rfl) at_108 ?_
      refine own_aloadN 110 rfl at_109 rfl rfl ?_
      refine own_iload 112 rfl at_110 rfl ?_
      obtain ⟨c219, A219, q219, S219, N219, H219, G219⟩ := id V10
      refine own_aaload 113 rfl A219 rfl (inb_of S219 ⟨by decide, by decide⟩) (Has.at H219 (inb_of S219 ⟨by decide, by decide⟩) rfl) at_112 ?_
      refine own_callS 116 rfl 1 9 0 [(.ref w_SHORT), (.ref w_UNSIGNED_CHAR)] [] (y := (⟨"com/example/counterpath/counterpath/cfa/Type", "common", "(Lcom/example/counterpath/counterpath/cfa/Type;Lcom/example/counterpath/counterpath/cfa/Type;)Lcom/example/counterpath/counterpath/cfa/Type;"⟩ : MethodName)) (hw _ (List.mem_of_getElem? (i := 27) rfl)) (hw _ (List.mem_of_getElem? (i := 28) rfl)) (hw _ (List.mem_of_getElem? (i := 3) rfl)) (hw _ (List.mem_of_getElem? (i := 29) rfl)) (by decide) (rm2 l Z a0 hw [] w_SHORT w_UNSIGNED_CHAR (16 : Int32) (1 : Int32) (8 : Int32) (0 : Int32) w_BOOL w_SIGNED_CHAR w_UNSIGNED_CHAR w_SHORT w_UNSIGNED_SHORT w_INT w_UNSIGNED_INT w_LONG_LONG w_UNSIGNED_LONG_LONG h10 I (((((((((((E_w_SHORT.ext O0.2).ext E1).wr W2).wr W3).wr W4).wr W5).wr W6).wr W7).wr W8).wr W9).wr W10) (((((((((((F_w_SHORT_width.ext O0.2).ext E1).other W2 (Or.inl ne_w_SHORT_b1)).other W3 (Or.inl ne_w_SHORT_b1)).other W4 (Or.inl ne_w_SHORT_b1)).other W5 (Or.inl ne_w_SHORT_b1)).other W6 (Or.inl ne_w_SHORT_b1)).other W7 (Or.inl ne_w_SHORT_b1)).other W8 (Or.inl ne_w_SHORT_b1)).other W9 (Or.inl ne_w_SHORT_b1)).other W10 (Or.inl ne_w_SHORT_b1)) (((((((((((F_w_SHORT_signed.ext O0.2).ext E1).other W2 (Or.inl ne_w_SHORT_b1)).other W3 (Or.inl ne_w_SHORT_b1)).other W4 (Or.inl ne_w_SHORT_b1)).other W5 (Or.inl ne_w_SHORT_b1)).other W6 (Or.inl ne_w_SHORT_b1)).other W7 (Or.inl ne_w_SHORT_b1)).other W8 (Or.inl ne_w_SHORT_b1)).other W9 (Or.inl ne_w_SHORT_b1)).other W10 (Or.inl ne_w_SHORT_b1)) (((((((((((E_w_UNSIGNED_CHAR.ext O0.2).ext E1).wr W2).wr W3).wr W4).wr W5).wr W6).wr W7).wr W8).wr W9).wr W10) (((((((((((F_w_UNSIGNED_CHAR_width.ext O0.2).ext E1).other W2 (Or.inl ne_w_UNSIGNED_CHAR_b1)).other W3 (Or.inl ne_w_UNSIGNED_CHAR_b1)).other W4 (Or.inl ne_w_UNSIGNED_CHAR_b1)).other W5 (Or.inl ne_w_UNSIGNED_CHAR_b1)).other W6 (Or.inl ne_w_UNSIGNED_CHAR_b1)).other W7 (Or.inl ne_w_UNSIGNED_CHAR_b1)).other W8 (Or.inl ne_w_UNSIGNED_CHAR_b1)).other W9 (Or.inl ne_w_UNSIGNED_CHAR_b1)).other W10 (Or.inl ne_w_UNSIGNED_CHAR_b1)) (((((((((((F_w_UNSIGNED_CHAR_signed.ext O0.2).ext E1).other W2 (Or.inl ne_w_UNSIGNED_CHAR_b1)).other W3 (Or.inl ne_w_UNSIGNED_CHAR_b1)).other W4 (Or.inl ne_w_UNSIGNED_CHAR_b1)).other W5 (Or.inl ne_w_UNSIGNED_CHAR_b1)).other W6 (Or.inl ne_w_UNSIGNED_CHAR_b1)).other W7 (Or.inl ne_w_UNSIGNED_CHAR_b1)).other W8 (Or.inl ne_w_UNSIGNED_CHAR_b1)).other W9 (Or.inl ne_w_UNSIGNED_CHAR_b1)).other W10 (Or.inl ne_w_UNSIGNED_CHAR_b1)) (by decide) (by decide)) at_113 rfl (lenOf own_pd2 rfl) rfl rfl rfl (by decide) (by decide) rfl rfl (by decide) (by decide) (own_kv fun v220 h220 q220 => ?_)
      obtain ⟨rfl, e220⟩ := q220
      rw [e220]
      rw [show own_com w_INT w_SHORT (16 : Int32) (1 : Int32) w_UNSIGNED_CHAR (8 : Int32) (0 : Int32) = w_INT from by simp [own_com]]
      refine own_aload 118 rfl at_116 rfl rfl ?_
      refine own_acmpNo 121 rfl at_118 rfl rfl (own_teq (rfl : ((.ref w_INT) : Value) = (.ref w_INT))).2 ?_
      refine own_iconst 122 rfl (1 : Int32) at_121 rfl ?_
      refine own_goto 126 at_122 (by decide) (by decide) ?_
      refine own_retN rfl (by simp) at_126 (by decide) (by decide) ?_
      exact ⟨_, rfl, rfl⟩
    · have hin_j := (rfl : (3 : Int) = 3)
      refine own_iloadN 81 rfl at_80 rfl ?_
      refine own_iconst 82 rfl (5 : Int32) at_81 rfl ?_
      refine own_callS 85 rfl 1 9 0 [(.int (3 : Int32)), (.int (5 : Int32))] [] (y := (⟨"java/lang/Math", "max", "(II)I"⟩ : MethodName)) (hw _ (List.mem_of_getElem? (i := 23) rfl)) (hw _ (List.mem_of_getElem? (i := 24) rfl)) (hw _ (List.mem_of_getElem? (i := 25) rfl)) (hw _ (List.mem_of_getElem? (i := 26) rfl)) (by decide) (rm1 l Z a0 hw [] (3 : Int32) (5 : Int32)  h10 ) at_82 rfl (lenOf own_pd1 rfl) rfl rfl rfl (by decide) (by decide) rfl rfl (by decide) (by decide) (own_kv fun v221 h221 q221 => ?_)
      obtain ⟨rfl, e221⟩ := q221
      rw [e221]
      rw [show (if (3 : Int32) < (5 : Int32) then (5 : Int32) else (3 : Int32)) = (5 : Int32) from by decide]
      refine own_istore 87 rfl #[.val (.int p1), .val (.int p2), .val (.ref b1), .val (.int (3 : Int32)), .val (.int (3 : Int32)), .val (.int (5 : Int32)), .unset, .unset] at_85 rfl ?_
      refine own_iload 89 rfl at_87 rfl ?_
      refine own_iconst 90 rfl (5 : Int32) at_89 rfl ?_
      refine own_callS 93 rfl 1 9 0 [(.int (3 : Int32)), (.int (5 : Int32))] [] (y := (⟨"java/lang/Math", "max", "(II)I"⟩ : MethodName)) (hw _ (List.mem_of_getElem? (i := 23) rfl)) (hw _ (List.mem_of_getElem? (i := 24) rfl)) (hw _ (List.mem_of_getElem? (i := 25) rfl)) (hw _ (List.mem_of_getElem? (i := 26) rfl)) (by decide) (rm1 l Z a0 hw [] (3 : Int32) (5 : Int32)  h10 ) at_90 rfl (lenOf own_pd1 rfl) rfl rfl rfl (by decide) (by decide) rfl rfl (by decide) (by decide) (own_kv fun v222 h222 q222 => ?_)
      obtain ⟨rfl, e222⟩ := q222
      rw [e222]
      rw [show (if (3 : Int32) < (5 : Int32) then (5 : Int32) else (3 : Int32)) = (5 : Int32) from by decide]
      refine own_istore 95 rfl #[.val (.int p1), .val (.int p2), .val (.ref b1), .val (.int (3 : Int32)), .val (.int (3 : Int32)), .val (.int (5 : Int32)), .val (.int (5 : Int32)), .unset] at_93 rfl ?_
      refine own_aloadN 96 rfl at_95 rfl rfl ?_
      refine own_iload 98 rfl at_96 rfl ?_
      refine own_iload 100 rfl at_98 rfl ?_
      refine own_callS 103 rfl 1 9 1 [(.int (5 : Int32)), (.int (5 : Int32))] [(.ref b1)] (y := (⟨"java/lang/Math", "max", "(II)I"⟩ : MethodName)) (hw _ (List.mem_of_getElem? (i := 23) rfl)) (hw _ (List.mem_of_getElem? (i := 24) rfl)) (hw _ (List.mem_of_getElem? (i := 25) rfl)) (hw _ (List.mem_of_getElem? (i := 26) rfl)) (by decide) (rm1 l Z a0 hw [] (5 : Int32) (5 : Int32)  h10 ) at_100 rfl (lenOf own_pd1 rfl) rfl rfl rfl (by decide) (by decide) rfl rfl (by decide) (by decide) (own_kv fun v223 h223 q223 => ?_)
      obtain ⟨rfl, e223⟩ := q223
      rw [e223]
      rw [show (if (5 : Int32) < (5 : Int32) then (5 : Int32) else (5 : Int32)) = (5 : Int32) from by decide]
      obtain ⟨c224, A224, q224, S224, N224, H224, G224⟩ := id V10
      refine own_aaload 104 rfl A224 rfl (inb_of S224 ⟨by decide, by decide⟩) (Has.at H224 (inb_of S224 ⟨by decide, by decide⟩) rfl) at_103 ?_
      refine own_astore 106 rfl #[.val (.int p1), .val (.int p2), .val (.ref b1), .val (.int (3 : Int32)), .val (.int (3 : Int32)), .val (.int (5 : Int32)), .val (.int (5 : Int32)), .val (.ref w_INT)] at_104 rfl rfl ?_
      refine own_aloadN 107 rfl at_106 rfl rfl ?_
      refine own_iloadN 108 rfl at_107 rfl ?_
      obtain ⟨c225, A225, q225, S225, N225, H225, G225⟩ := id V10
      refine own_aaload 109 rfl A225 rfl (inb_of S225 ⟨by decide, by decide⟩) (Has.at H225 (inb_of S225 ⟨by decide, by decide⟩) rfl) at_108 ?_
      refine own_aloadN 110 rfl at_109 rfl rfl ?_
      refine own_iload 112 rfl at_110 rfl ?_
      obtain ⟨c226, A226, q226, S226, N226, H226, G226⟩ := id V10
      refine own_aaload 113 rfl A226 rfl (inb_of S226 ⟨by decide, by decide⟩) (Has.at H226 (inb_of S226 ⟨by decide, by decide⟩) rfl) at_112 ?_
      refine own_callS 116 rfl 1 9 0 [(.ref w_SHORT), (.ref w_SHORT)] [] (y := (⟨"com/example/counterpath/counterpath/cfa/Type", "common", "(Lcom/example/counterpath/counterpath/cfa/Type;Lcom/example/counterpath/counterpath/cfa/Type;)Lcom/example/counterpath/counterpath/cfa/Type;"⟩ : MethodName)) (hw _ (List.mem_of_getElem? (i := 27) rfl)) (hw _ (List.mem_of_getElem? (i := 28) rfl)) (hw _ (List.mem_of_getElem? (i := 3) rfl)) (hw _ (List.mem_of_getElem? (i := 29) rfl)) (by decide) (rm2 l Z a0 hw [] w_SHORT w_SHORT (16 : Int32) (1 : Int32) (16 : Int32) (1 : Int32) w_BOOL w_SIGNED_CHAR w_UNSIGNED_CHAR w_SHORT w_UNSIGNED_SHORT w_INT w_UNSIGNED_INT w_LONG_LONG w_UNSIGNED_LONG_LONG h10 I (((((((((((E_w_SHORT.ext O0.2).ext E1).wr W2).wr W3).wr W4).wr W5).wr W6).wr W7).wr W8).wr W9).wr W10) (((((((((((F_w_SHORT_width.ext O0.2).ext E1).other W2 (Or.inl ne_w_SHORT_b1)).other W3 (Or.inl ne_w_SHORT_b1)).other W4 (Or.inl ne_w_SHORT_b1)).other W5 (Or.inl ne_w_SHORT_b1)).other W6 (Or.inl ne_w_SHORT_b1)).other W7 (Or.inl ne_w_SHORT_b1)).other W8 (Or.inl ne_w_SHORT_b1)).other W9 (Or.inl ne_w_SHORT_b1)).other W10 (Or.inl ne_w_SHORT_b1)) (((((((((((F_w_SHORT_signed.ext O0.2).ext E1).other W2 (Or.inl ne_w_SHORT_b1)).other W3 (Or.inl ne_w_SHORT_b1)).other W4 (Or.inl ne_w_SHORT_b1)).other W5 (Or.inl ne_w_SHORT_b1)).other W6 (Or.inl ne_w_SHORT_b1)).other W7 (Or.inl ne_w_SHORT_b1)).other W8 (Or.inl ne_w_SHORT_b1)).other W9 (Or.inl ne_w_SHORT_b1)).other W10 (Or.inl ne_w_SHORT_b1)) (((((((((((E_w_SHORT.ext O0.2).ext E1).wr W2).wr W3).wr W4).wr W5).wr W6).wr W7).wr W8).wr W9).wr W10) (((((((((((F_w_SHORT_width.ext O0.2).ext E1).other W2 (Or.inl ne_w_SHORT_b1)).other W3 (Or.inl ne_w_SHORT_b1)).other W4 (Or.inl ne_w_SHORT_b1)).other W5 (Or.inl ne_w_SHORT_b1)).other W6 (Or.inl ne_w_SHORT_b1)).other W7 (Or.inl ne_w_SHORT_b1)).other W8 (Or.inl ne_w_SHORT_b1)).other W9 (Or.inl ne_w_SHORT_b1)).other W10 (Or.inl ne_w_SHORT_b1)) (((((((((((F_w_SHORT_signed.ext O0.2).ext E1).other W2 (Or.inl ne_w_SHORT_b1)).other W3 (Or.inl ne_w_SHORT_b1)).other W4 (Or.inl ne_w_SHORT_b1)).other W5 (Or.inl ne_w_SHORT_b1)).other W6 (Or.inl ne_w_SHORT_b1)).other W7 (Or.inl ne_w_SHORT_b1)).other W8 (Or.inl ne_w_SHORT_b1)).other W9 (Or.inl ne_w_SHORT_b1)).other W10 (Or.inl ne_w_SHORT_b1)) (by decide) (by decide)) at_113 rfl (lenOf own_pd2 rfl) rfl rfl rfl (by decide) (by decide) rfl rfl (by decide) (by decide) (own_kv fun v227 h227 q227 => ?_)
      obtain ⟨rfl, e227⟩ := q227
      rw [e227]
      rw [show own_com w_INT w_SHORT (16 : Int32) (1 : Int32) w_SHORT (16 : Int32) (1 : Int32) = w_INT from by simp [own_com]]
      refine own_aload 118 rfl at_116 rfl rfl ?_
      refine own_acmpNo 121 rfl at_118 rfl rfl (own_teq (rfl : ((.ref w_INT) : Value) = (.ref w_INT))).2 ?_
      refine own_iconst 122 rfl (1 : Int32) at_121 rfl ?_
      refine own_goto 126 at_122 (by decide) (by decide) ?_
      refine own_retN rfl (by simp) at_126 (by decide) (by decide) ?_
      exact ⟨_, rfl, rfl⟩
    · have hin_j := (rfl : (4 : Int) = 4)
      refine own_iloadN 81 rfl at_80 rfl ?_
      refine own_iconst 82 rfl (5 : Int32) at_81 rfl ?_
      refine own_callS 85 rfl 1 9 0 [(.int (3 : Int32)), (.int (5 : Int32))] [] (y := (⟨"java/lang/Math", "max", "(II)I"⟩ : MethodName)) (hw _ (List.mem_of_getElem? (i := 23) rfl)) (hw _ (List.mem_of_getElem? (i := 24) rfl)) (hw _ (List.mem_of_getElem? (i := 25) rfl)) (hw _ (List.mem_of_getElem? (i := 26) rfl)) (by decide) (rm1 l Z a0 hw [] (3 : Int32) (5 : Int32)  h10 ) at_82 rfl (lenOf own_pd1 rfl) rfl rfl rfl (by decide) (by decide) rfl rfl (by decide) (by decide) (own_kv fun v228 h228 q228 => ?_)
      obtain ⟨rfl, e228⟩ := q228
      rw [e228]
      rw [show (if (3 : Int32) < (5 : Int32) then (5 : Int32) else (3 : Int32)) = (5 : Int32) from by decide]
      refine own_istore 87 rfl #[.val (.int p1), .val (.int p2), .val (.ref b1), .val (.int (3 : Int32)), .val (.int (4 : Int32)), .val (.int (5 : Int32)), .unset, .unset] at_85 rfl ?_
      refine own_iload 89 rfl at_87 rfl ?_
      refine own_iconst 90 rfl (5 : Int32) at_89 rfl ?_
      refine own_callS 93 rfl 1 9 0 [(.int (4 : Int32)), (.int (5 : Int32))] [] (y := (⟨"java/lang/Math", "max", "(II)I"⟩ : MethodName)) (hw _ (List.mem_of_getElem? (i := 23) rfl)) (hw _ (List.mem_of_getElem? (i := 24) rfl)) (hw _ (List.mem_of_getElem? (i := 25) rfl)) (hw _ (List.mem_of_getElem? (i := 26) rfl)) (by decide) (rm1 l Z a0 hw [] (4 : Int32) (5 : Int32)  h10 ) at_90 rfl (lenOf own_pd1 rfl) rfl rfl rfl (by decide) (by decide) rfl rfl (by decide) (by decide) (own_kv fun v229 h229 q229 => ?_)
      obtain ⟨rfl, e229⟩ := q229
      rw [e229]
      rw [show (if (4 : Int32) < (5 : Int32) then (5 : Int32) else (4 : Int32)) = (5 : Int32) from by decide]
      refine own_istore 95 rfl #[.val (.int p1), .val (.int p2), .val (.ref b1), .val (.int (3 : Int32)), .val (.int (4 : Int32)), .val (.int (5 : Int32)), .val (.int (5 : Int32)), .unset] at_93 rfl ?_
      refine own_aloadN 96 rfl at_95 rfl rfl ?_
      refine own_iload 98 rfl at_96 rfl ?_
      refine own_iload 100 rfl at_98 rfl ?_
      refine own_callS 103 rfl 1 9 1 [(.int (5 : Int32)), (.int (5 : Int32))] [(.ref b1)] (y := (⟨"java/lang/Math", "max", "(II)I"⟩ : MethodName)) (hw _ (List.mem_of_getElem? (i := 23) rfl)) (hw _ (List.mem_of_getElem? (i := 24) rfl)) (hw _ (List.mem_of_getElem? (i := 25) rfl)) (hw _ (List.mem_of_getElem? (i := 26) rfl)) (by decide) (rm1 l Z a0 hw [] (5 : Int32) (5 : Int32)  h10 ) at_100 rfl (lenOf own_pd1 rfl) rfl rfl rfl (by decide) (by decide) rfl rfl (by decide) (by decide) (own_kv fun v230 h230 q230 => ?_)
      obtain ⟨rfl, e230⟩ := q230
      rw [e230]
      rw [show (if (5 : Int32) < (5 : Int32) then (5 : Int32) else (5 : Int32)) = (5 : Int32) from by decide]
      obtain ⟨c231, A231, q231, S231, N231, H231, G231⟩ := id V10
      refine own_aaload 104 rfl A231 rfl (inb_of S231 ⟨by decide, by decide⟩) (Has.at H231 (inb_of S231 ⟨by decide, by decide⟩) rfl) at_103 ?_
      refine own_astore 106 rfl #[.val (.int p1), .val (.int p2), .val (.ref b1), .val (.int (3 : Int32)), .val (.int (4 : Int32)), .val (.int (5 : Int32)), .val (.int (5 : Int32)), .val (.ref w_INT)] at_104 rfl rfl ?_
      refine own_aloadN 107 rfl at_106 rfl rfl ?_
      refine own_iloadN 108 rfl at_107 rfl ?_
      obtain ⟨c232, A232, q232, S232, N232, H232, G232⟩ := id V10
      refine own_aaload 109 rfl A232 rfl (inb_of S232 ⟨by decide, by decide⟩) (Has.at H232 (inb_of S232 ⟨by decide, by decide⟩) rfl) at_108 ?_
      refine own_aloadN 110 rfl at_109 rfl rfl ?_
      refine own_iload 112 rfl at_110 rfl ?_
      obtain ⟨c233, A233, q233, S233, N233, H233, G233⟩ := id V10
      refine own_aaload 113 rfl A233 rfl (inb_of S233 ⟨by decide, by decide⟩) (Has.at H233 (inb_of S233 ⟨by decide, by decide⟩) rfl) at_112 ?_
      refine own_callS 116 rfl 1 9 0 [(.ref w_SHORT), (.ref w_UNSIGNED_SHORT)] [] (y := (⟨"com/example/counterpath/counterpath/cfa/Type", "common", "(Lcom/example/counterpath/counterpath/cfa/Type;Lcom/example/counterpath/counterpath/cfa/Type;)Lcom/example/counterpath/counterpath/cfa/Type;"⟩ : MethodName)) (hw _ (List.mem_of_getElem? (i := 27) rfl)) (hw _ (List.mem_of_getElem? (i := 28) rfl)) (hw _ (List.mem_of_getElem? (i := 3) rfl)) (hw _ (List.mem_of_getElem? (i := 29) rfl)) (by decide) (rm2 l Z a0 hw [] w_SHORT w_UNSIGNED_SHORT (16 : Int32) (1 : Int32) (16 : Int32) (0 : Int32) w_BOOL w_SIGNED_CHAR w_UNSIGNED_CHAR w_SHORT w_UNSIGNED_SHORT w_INT w_UNSIGNED_INT w_LONG_LONG w_UNSIGNED_LONG_LONG h10 I (((((((((((E_w_SHORT.ext O0.2).ext E1).wr W2).wr W3).wr W4).wr W5).wr W6).wr W7).wr W8).wr W9).wr W10) (((((((((((F_w_SHORT_width.ext O0.2).ext E1).other W2 (Or.inl ne_w_SHORT_b1)).other W3 (Or.inl ne_w_SHORT_b1)).other W4 (Or.inl ne_w_SHORT_b1)).other W5 (Or.inl ne_w_SHORT_b1)).other W6 (Or.inl ne_w_SHORT_b1)).other W7 (Or.inl ne_w_SHORT_b1)).other W8 (Or.inl ne_w_SHORT_b1)).other W9 (Or.inl ne_w_SHORT_b1)).other W10 (Or.inl ne_w_SHORT_b1)) (((((((((((F_w_SHORT_signed.ext O0.2).ext E1).other W2 (Or.inl ne_w_SHORT_b1)).other W3 (Or.inl ne_w_SHORT_b1)).other W4 (Or.inl ne_w_SHORT_b1)).other W5 (Or.inl ne_w_SHORT_b1)).other W6 (Or.inl ne_w_SHORT_b1)).other W7 (Or.inl ne_w_SHORT_b1)).other W8 (Or.inl ne_w_SHORT_b1)).other W9 (Or.inl ne_w_SHORT_b1)).other W10 (Or.inl ne_w_SHORT_b1)) (((((((((((E_w_UNSIGNED_SHORT.ext O0.2).ext E1).wr W2).wr W3).wr W4).wr W5).wr W6).wr W7).wr W8).wr W9).wr W10) (((((((((((F_w_UNSIGNED_SHORT_width.ext O0.2).ext E1).other W2 (Or.inl ne_w_UNSIGNED_SHORT_b1)).other W3 (Or.inl ne_w_UNSIGNED_SHORT_b1)).other W4 (Or.inl ne_w_UNSIGNED_SHORT_b1)).other W5 (Or.inl ne_w_UNSIGNED_SHORT_b1)).other W6 (Or.inl ne_w_UNSIGNED_SHORT_b1)).other W7 (Or.inl ne_w_UNSIGNED_SHORT_b1)).other W8 (Or.inl ne_w_UNSIGNED_SHORT_b1)).other W9 (Or.inl ne_w_UNSIGNED_SHORT_b1)).other W10 (Or.inl ne_w_UNSIGNED_SHORT_b1)) (((((((((((F_w_UNSIGNED_SHORT_signed.ext O0.2).ext E1).other W2 (Or.inl ne_w_UNSIGNED_SHORT_b1)).other W3 (Or.inl ne_w_UNSIGNED_SHORT_b1)).other W4 (Or.inl ne_w_UNSIGNED_SHORT_b1)).other W5 (Or.inl ne_w_UNSIGNED_SHORT_b1)).other W6 (Or.inl ne_w_UNSIGNED_SHORT_b1)).other W7 (Or.inl ne_w_UNSIGNED_SHORT_b1)).other W8 (Or.inl ne_w_UNSIGNED_SHORT_b1)).other W9 (Or.inl ne_w_UNSIGNED_SHORT_b1)).other W10 (Or.inl ne_w_UNSIGNED_SHORT_b1)) (by decide) (by decide)) at_113 rfl (lenOf own_pd2 rfl) rfl rfl rfl (by decide) (by decide) rfl rfl (by decide) (by decide) (own_kv fun v234 h234 q234 => ?_)
      obtain ⟨rfl, e234⟩ := q234
      rw [e234]
      rw [show own_com w_INT w_SHORT (16 : Int32) (1 : Int32) w_UNSIGNED_SHORT (16 : Int32) (0 : Int32) = w_INT from by simp [own_com]]
      refine own_aload 118 rfl at_116 rfl rfl ?_
      refine own_acmpNo 121 rfl at_118 rfl rfl (own_teq (rfl : ((.ref w_INT) : Value) = (.ref w_INT))).2 ?_
      refine own_iconst 122 rfl (1 : Int32) at_121 rfl ?_
      refine own_goto 126 at_122 (by decide) (by decide) ?_
      refine own_retN rfl (by simp) at_126 (by decide) (by decide) ?_
      exact ⟨_, rfl, rfl⟩
    · have hin_j := (rfl : (5 : Int) = 5)
      refine own_iloadN 81 rfl at_80 rfl ?_
      refine own_iconst 82 rfl (5 : Int32) at_81 rfl ?_
      refine own_callS 85 rfl 1 9 0 [(.int (3 : Int32)), (.int (5 : Int32))] [] (y := (⟨"java/lang/Math", "max", "(II)I"⟩ : MethodName)) (hw _ (List.mem_of_getElem? (i := 23) rfl)) (hw _ (List.mem_of_getElem? (i := 24) rfl)) (hw _ (List.mem_of_getElem? (i := 25) rfl)) (hw _ (List.mem_of_getElem? (i := 26) rfl)) (by decide) (rm1 l Z a0 hw [] (3 : Int32) (5 : Int32)  h10 ) at_82 rfl (lenOf own_pd1 rfl) rfl rfl rfl (by decide) (by decide) rfl rfl (by decide) (by decide) (own_kv fun v235 h235 q235 => ?_)
      obtain ⟨rfl, e235⟩ := q235
      rw [e235]
      rw [show (if (3 : Int32) < (5 : Int32) then (5 : Int32) else (3 : Int32)) = (5 : Int32) from by decide]
      refine own_istore 87 rfl #[.val (.int p1), .val (.int p2), .val (.ref b1), .val (.int (3 : Int32)), .val (.int (5 : Int32)), .val (.int (5 : Int32)), .unset, .unset] at_85 rfl ?_
      refine own_iload 89 rfl at_87 rfl ?_
      refine own_iconst 90 rfl (5 : Int32) at_89 rfl ?_
      refine own_callS 93 rfl 1 9 0 [(.int (5 : Int32)), (.int (5 : Int32))] [] (y := (⟨"java/lang/Math", "max", "(II)I"⟩ : MethodName)) (hw _ (List.mem_of_getElem? (i := 23) rfl)) (hw _ (List.mem_of_getElem? (i := 24) rfl)) (hw _ (List.mem_of_getElem? (i := 25) rfl)) (hw _ (List.mem_of_getElem? (i := 26) rfl)) (by decide) (rm1 l Z a0 hw [] (5 : Int32) (5 : Int32)  h10 ) at_90 rfl (lenOf own_pd1 rfl) rfl rfl rfl (by decide) (by decide) rfl rfl (by decide) (by decide) (own_kv fun v236 h236 q236 => ?_)
      obtain ⟨rfl, e236⟩ := q236
      rw [e236]
      rw [show (if (5 : Int32) < (5 : Int32) then (5 : Int32) else (5 : Int32)) = (5 : Int32) from by decide]
      refine own_istore 95 rfl #[.val (.int p1), .val (.int p2), .val (.ref b1), .val (.int (3 : Int32)), .val (.int (5 : Int32)), .val (.int (5 : Int32)), .val (.int (5 : Int32)), .unset] at_93 rfl ?_
      refine own_aloadN 96 rfl at_95 rfl rfl ?_
      refine own_iload 98 rfl at_96 rfl ?_
      refine own_iload 100 rfl at_98 rfl ?_
      refine own_callS 103 rfl 1 9 1 [(.int (5 : Int32)), (.int (5 : Int32))] [(.ref b1)] (y := (⟨"java/lang/Math", "max", "(II)I"⟩ : MethodName)) (hw _ (List.mem_of_getElem? (i := 23) rfl)) (hw _ (List.mem_of_getElem? (i := 24) rfl)) (hw _ (List.mem_of_getElem? (i := 25) rfl)) (hw _ (List.mem_of_getElem? (i := 26) rfl)) (by decide) (rm1 l Z a0 hw [] (5 : Int32) (5 : Int32)  h10 ) at_100 rfl (lenOf own_pd1 rfl) rfl rfl rfl (by decide) (by decide) rfl rfl (by decide) (by decide) (own_kv fun v237 h237 q237 => ?_)
      obtain ⟨rfl, e237⟩ := q237
      rw [e237]
      rw [show (if (5 : Int32) < (5 : Int32) then (5 : Int32) else (5 : Int32)) = (5 : Int32) from by decide]
      obtain ⟨c238, A238, q238, S238, N238, H238, G238⟩ := id V10
      refine own_aaload 104 rfl A238 rfl (inb_of S238 ⟨by decide, by decide⟩) (Has.at H238 (inb_of S238 ⟨by decide, by decide⟩) rfl) at_103 ?_
      refine own_astore 106 rfl #[.val (.int p1), .val (.int p2), .val (.ref b1), .val (.int (3 : Int32)), .val (.int (5 : Int32)), .val (.int (5 : Int32)), .val (.int (5 : Int32)), .val (.ref w_INT)] at_104 rfl rfl ?_
      refine own_aloadN 107 rfl at_106 rfl rfl ?_
      refine own_iloadN 108 rfl at_107 rfl ?_
      obtain ⟨c239, A239, q239, S239, N239, H239, G239⟩ := id V10
      refine own_aaload 109 rfl A239 rfl (inb_of S239 ⟨by decide, by decide⟩) (Has.at H239 (inb_of S239 ⟨by decide, by decide⟩) rfl) at_108 ?_
      refine own_aloadN 110 rfl at_109 rfl rfl ?_
      refine own_iload 112 rfl at_110 rfl ?_
      obtain ⟨c240, A240, q240, S240, N240, H240, G240⟩ := id V10
      refine own_aaload 113 rfl A240 rfl (inb_of S240 ⟨by decide, by decide⟩) (Has.at H240 (inb_of S240 ⟨by decide, by decide⟩) rfl) at_112 ?_
      refine own_callS 116 rfl 1 9 0 [(.ref w_SHORT), (.ref w_INT)] [] (y := (⟨"com/example/counterpath/counterpath/cfa/Type", "common", "(Lcom/example/counterpath/counterpath/cfa/Type;Lcom/example/counterpath/counterpath/cfa/Type;)Lcom/example/counterpath/counterpath/cfa/Type;"⟩ : MethodName)) (hw _ (List.mem_of_getElem? (i := 27) rfl)) (hw _ (List.mem_of_getElem? (i := 28) rfl)) (hw _ (List.mem_of_getElem? (i := 3) rfl)) (hw _ (List.mem_of_getElem? (i := 29) rfl)) (by decide) (rm2 l Z a0 hw [] w_SHORT w_INT (16 : Int32) (1 : Int32) (32 : Int32) (1 : Int32) w_BOOL w_SIGNED_CHAR w_UNSIGNED_CHAR w_SHORT w_UNSIGNED_SHORT w_INT w_UNSIGNED_INT w_LONG_LONG w_UNSIGNED_LONG_LONG h10 I (((((((((((E_w_SHORT.ext O0.2).ext E1).wr W2).wr W3).wr W4).wr W5).wr W6).wr W7).wr W8).wr W9).wr W10) (((((((((((F_w_SHORT_width.ext O0.2).ext E1).other W2 (Or.inl ne_w_SHORT_b1)).other W3 (Or.inl ne_w_SHORT_b1)).other W4 (Or.inl ne_w_SHORT_b1)).other W5 (Or.inl ne_w_SHORT_b1)).other W6 (Or.inl ne_w_SHORT_b1)).other W7 (Or.inl ne_w_SHORT_b1)).other W8 (Or.inl ne_w_SHORT_b1)).other W9 (Or.inl ne_w_SHORT_b1)).other W10 (Or.inl ne_w_SHORT_b1)) (((((((((((F_w_SHORT_signed.ext O0.2).ext E1).other W2 (Or.inl ne_w_SHORT_b1)).other W3 (Or.inl ne_w_SHORT_b1)).other W4 (Or.inl ne_w_SHORT_b1)).other W5 (Or.inl ne_w_SHORT_b1)).other W6 (Or.inl ne_w_SHORT_b1)).other W7 (Or.inl ne_w_SHORT_b1)).other W8 (Or.inl ne_w_SHORT_b1)).other W9 (Or.inl ne_w_SHORT_b1)).other W10 (Or.inl ne_w_SHORT_b1)) (((((((((((E_w_INT.ext O0.2).ext E1).wr W2).wr W3).wr W4).wr W5).wr W6).wr W7).wr W8).wr W9).wr W10) (((((((((((F_w_INT_width.ext O0.2).ext E1).other W2 (Or.inl ne_w_INT_b1)).other W3 (Or.inl ne_w_INT_b1)).other W4 (Or.inl ne_w_INT_b1)).other W5 (Or.inl ne_w_INT_b1)).other W6 (Or.inl ne_w_INT_b1)).other W7 (Or.inl ne_w_INT_b1)).other W8 (Or.inl ne_w_INT_b1)).other W9 (Or.inl ne_w_INT_b1)).other W10 (Or.inl ne_w_INT_b1)) (((((((((((F_w_INT_signed.ext O0.2).ext E1).other W2 (Or.inl ne_w_INT_b1)).other W3 (Or.inl ne_w_INT_b1)).other W4 (Or.inl ne_w_INT_b1)).other W5 (Or.inl ne_w_INT_b1)).other W6 (Or.inl ne_w_INT_b1)).other W7 (Or.inl ne_w_INT_b1)).other W8 (Or.inl ne_w_INT_b1)).other W9 (Or.inl ne_w_INT_b1)).other W10 (Or.inl ne_w_INT_b1)) (by decide) (by decide)) at_113 rfl (lenOf own_pd2 rfl) rfl rfl rfl (by decide) (by decide) rfl rfl (by decide) (by decide) (own_kv fun v241 h241 q241 => ?_)
      obtain ⟨rfl, e241⟩ := q241
      rw [e241]
      rw [show own_com w_INT w_SHORT (16 : Int32) (1 : Int32) w_INT (32 : Int32) (1 : Int32) = w_INT from by simp [own_com]]
      refine own_aload 118 rfl at_116 rfl rfl ?_
      refine own_acmpNo 121 rfl at_118 rfl rfl (own_teq (rfl : ((.ref w_INT) : Value) = (.ref w_INT))).2 ?_
      refine own_iconst 122 rfl (1 : Int32) at_121 rfl ?_
      refine own_goto 126 at_122 (by decide) (by decide) ?_
      refine own_retN rfl (by simp) at_126 (by decide) (by decide) ?_
      exact ⟨_, rfl, rfl⟩
    · have hin_j := (rfl : (6 : Int) = 6)
      refine own_iloadN 81 rfl at_80 rfl ?_
      refine own_iconst 82 rfl (5 : Int32) at_81 rfl ?_
      refine own_callS 85 rfl 1 9 0 [(.int (3 : Int32)), (.int (5 : Int32))] [] (y := (⟨"java/lang/Math", "max", "(II)I"⟩ : MethodName)) (hw _ (List.mem_of_getElem? (i := 23) rfl)) (hw _ (List.mem_of_getElem? (i := 24) rfl)) (hw _ (List.mem_of_getElem? (i := 25) rfl)) (hw _ (List.mem_of_getElem? (i := 26) rfl)) (by decide) (rm1 l Z a0 hw [] (3 : Int32) (5 : Int32)  h10 ) at_82 rfl (lenOf own_pd1 rfl) rfl rfl rfl (by decide) (by decide) rfl rfl (by decide) (by decide) (own_kv fun v242 h242 q242 => ?_)
      obtain ⟨rfl, e242⟩ := q242
      rw [e242]
      rw [show (if (3 : Int32) < (5 : Int32) then (5 : Int32) else (3 : Int32)) = (5 : Int32) from by decide]
      refine own_istore 87 rfl #[.val (.int p1), .val (.int p2), .val (.ref b1), .val (.int (3 : Int32)), .val (.int (6 : Int32)), .val (.int (5 : Int32)), .unset, .unset] at_85 rfl ?_
      refine own_iload 89 rfl at_87 rfl ?_
      refine own_iconst 90 rfl (5 : Int32) at_89 rfl ?_
      refine own_callS 93 rfl 1 9 0 [(.int (6 : Int32)), (.int (5 : Int32))] [] (y := (⟨"java/lang/Math", "max", "(II)I"⟩ : MethodName)) (hw _ (List.mem_of_getElem? (i := 23) rfl)) (hw _ (List.mem_of_getElem? (i := 24) rfl)) (hw _ (List.mem_of_getElem? (i := 25) rfl)) (hw _ (List.mem_of_getElem? (i := 26) rfl)) (by decide) (rm1 l Z a0 hw [] (6 : Int32) (5 : Int32)  h10 ) at_90 rfl (lenOf own_pd1 rfl) rfl rfl rfl (by decide) (by decide) rfl rfl (by decide) (by decide) (own_kv fun v243 h243 q243 => ?_)
      obtain ⟨rfl, e243⟩ := q243
      rw [e243]
      rw [show (if (6 : Int32) < (5 : Int32) then (5 : Int32) else (6 : Int32)) = (6 : Int32) from by decide]
      refine own_istore 95 rfl #[.val (.int p1), .val (.int p2), .val (.ref b1), .val (.int (3 : Int32)), .val (.int (6 : Int32)), .val (.int (5 : Int32)), .val (.int (6 : Int32)), .unset] at_93 rfl ?_
      refine own_aloadN 96 rfl at_95 rfl rfl ?_
      refine own_iload 98 rfl at_96 rfl ?_
      refine own_iload 100 rfl at_98 rfl ?_
      refine own_callS 103 rfl 1 9 1 [(.int (5 : Int32)), (.int (6 : Int32))] [(.ref b1)] (y := (⟨"java/lang/Math", "max", "(II)I"⟩ : MethodName)) (hw _ (List.mem_of_getElem? (i := 23) rfl)) (hw _ (List.mem_of_getElem? (i := 24) rfl)) (hw _ (List.mem_of_getElem? (i := 25) rfl)) (hw _ (List.mem_of_getElem? (i := 26) rfl)) (by decide) (rm1 l Z a0 hw [] (5 : Int32) (6 : Int32)  h10 ) at_100 rfl (lenOf own_pd1 rfl) rfl rfl rfl (by decide) (by decide) rfl rfl (by decide) (by decide) (own_kv fun v244 h244 q244 => ?_)
      obtain ⟨rfl, e244⟩ := q244
      rw [e244]
      rw [show (if (5 : Int32) < (6 : Int32) then (6 : Int32) else (5 : Int32)) = (6 : Int32) from by decide]
      obtain ⟨c245, A245, q245, S245, N245, H245, G245⟩ := id V10
      refine own_aaload 104 rfl A245 rfl (inb_of S245 ⟨by decide, by decide⟩) (Has.at H245 (inb_of S245 ⟨by decide, by decide⟩) rfl) at_103 ?_
      refine own_astore 106 rfl #[.val (.int p1), .val (.int p2), .val (.ref b1), .val (.int (3 : Int32)), .val (.int (6 : Int32)), .val (.int (5 : Int32)), .val (.int (6 : Int32)), .val (.ref w_UNSIGNED_INT)] at_104 rfl rfl ?_
      refine own_aloadN 107 rfl at_106 rfl rfl ?_
      refine own_iloadN 108 rfl at_107 rfl ?_
      obtain ⟨c246, A246, q246, S246, N246, H246, G246⟩ := id V10
      refine own_aaload 109 rfl A246 rfl (inb_of S246 ⟨by decide, by decide⟩) (Has.at H246 (inb_of S246 ⟨by decide, by decide⟩) rfl) at_108 ?_
      refine own_aloadN 110 rfl at_109 rfl rfl ?_
      refine own_iload 112 rfl at_110 rfl ?_
      obtain ⟨c247, A247, q247, S247, N247, H247, G247⟩ := id V10
      refine own_aaload 113 rfl A247 rfl (inb_of S247 ⟨by decide, by decide⟩) (Has.at H247 (inb_of S247 ⟨by decide, by decide⟩) rfl) at_112 ?_
      refine own_callS 116 rfl 1 9 0 [(.ref w_SHORT), (.ref w_UNSIGNED_INT)] [] (y := (⟨"com/example/counterpath/counterpath/cfa/Type", "common", "(Lcom/example/counterpath/counterpath/cfa/Type;Lcom/example/counterpath/counterpath/cfa/Type;)Lcom/example/counterpath/counterpath/cfa/Type;"⟩ : MethodName)) (hw _ (List.mem_of_getElem? (i := 27) rfl)) (hw _ (List.mem_of_getElem? (i := 28) rfl)) (hw _ (List.mem_of_getElem? (i := 3) rfl)) (hw _ (List.mem_of_getElem? (i := 29) rfl)) (by decide) (rm2 l Z a0 hw [] w_SHORT w_UNSIGNED_INT (16 : Int32) (1 : Int32) (32 : Int32) (0 : Int32) w_BOOL w_SIGNED_CHAR w_UNSIGNED_CHAR w_SHORT w_UNSIGNED_SHORT w_INT w_UNSIGNED_INT w_LONG_LONG w_UNSIGNED_LONG_LONG h10 I (((((((((((E_w_SHORT.ext O0.2).ext E1).wr W2).wr W3).wr W4).wr W5).wr W6).wr W7).wr W8).wr W9).wr W10) (((((((((((F_w_SHORT_width.ext O0.2).ext E1).other W2 (Or.inl ne_w_SHORT_b1)).other W3 (Or.inl ne_w_SHORT_b1)).other W4 (Or.inl ne_w_SHORT_b1)).other W5 (Or.inl ne_w_SHORT_b1)).other W6 (Or.inl ne_w_SHORT_b1)).other W7 (Or.inl ne_w_SHORT_b1)).other W8 (Or.inl ne_w_SHORT_b1)).other W9 (Or.inl ne_w_SHORT_b1)).other W10 (Or.inl ne_w_SHORT_b1)) (((((((((((F_w_SHORT_signed.ext O0.2).ext E1).other W2 (Or.inl ne_w_SHORT_b1)).other W3 (Or.inl ne_w_SHORT_b1)).other W4 (Or.inl ne_w_SHORT_b1)).other W5 (Or.inl ne_w_SHORT_b1)).other W6 (Or.inl ne_w_SHORT_b1)).other W7 (Or.inl ne_w_SHORT_b1)).other W8 (Or.inl ne_w_SHORT_b1)).other W9 (Or.inl ne_w_SHORT_b1)).other W10 (Or.inl ne_w_SHORT_b1)) (((((((((((E_w_UNSIGNED_INT.ext O0.2).ext E1).wr W2).wr W3).wr W4).wr W5).wr W6).wr W7).wr W8).wr W9).wr W10) (((((((((((F_w_UNSIGNED_INT_width.ext O0.2).ext E1).other W2 (Or.inl ne_w_UNSIGNED_INT_b1)).other W3 (Or.inl ne_w_UNSIGNED_INT_b1)).other W4 (Or.inl ne_w_UNSIGNED_INT_b1)).other W5 (Or.inl ne_w_UNSIGNED_INT_b1)).other W6 (Or.inl ne_w_UNSIGNED_INT_b1)).other W7 (Or.inl ne_w_UNSIGNED_INT_b1)).other W8 (Or.inl ne_w_UNSIGNED_INT_b1)).other W9 (Or.inl ne_w_UNSIGNED_INT_b1)).other W10 (Or.inl ne_w_UNSIGNED_INT_b1)) (((((((((((F_w_UNSIGNED_INT_signed.ext O0.2).ext E1).other W2 (Or.inl ne_w_UNSIGNED_INT_b1)).other W3 (Or.inl ne_w_UNSIGNED_INT_b1)).other W4 (Or.inl ne_w_UNSIGNED_INT_b1)).other W5 (Or.inl ne_w_UNSIGNED_INT_b1)).other W6 (Or.inl ne_w_UNSIGNED_INT_b1)).other W7 (Or.inl ne_w_UNSIGNED_INT_b1)).other W8 (Or.inl ne_w_UNSIGNED_INT_b1)).other W9 (Or.inl ne_w_UNSIGNED_INT_b1)).other W10 (Or.inl ne_w_UNSIGNED_INT_b1)) (by decide) (by decide)) at_113 rfl (lenOf own_pd2 rfl) rfl rfl rfl (by decide) (by decide) rfl rfl (by decide) (by decide) (own_kv fun v248 h248 q248 => ?_)
      obtain ⟨rfl, e248⟩ := q248
      rw [e248]
      rw [show own_com w_INT w_SHORT (16 : Int32) (1 : Int32) w_UNSIGNED_INT (32 : Int32) (0 : Int32) = w_UNSIGNED_INT from by simp [own_com]]
      refine own_aload 118 rfl at_116 rfl rfl ?_
      refine own_acmpNo 121 rfl at_118 rfl rfl (own_teq (rfl : ((.ref w_UNSIGNED_INT) : Value) = (.ref w_UNSIGNED_INT))).2 ?_
      refine own_iconst 122 rfl (1 : Int32) at_121 rfl ?_
      refine own_goto 126 at_122 (by decide) (by decide) ?_
      refine own_retN rfl (by simp) at_126 (by decide) (by decide) ?_
      exact ⟨_, rfl, rfl⟩
    · have hin_j := (rfl : (7 : Int) = 7)
      refine own_iloadN 81 rfl at_80 rfl ?_
      refine own_iconst 82 rfl (5 : Int32) at_81 rfl ?_
      refine own_callS 85 rfl 1 9 0 [(.int (3 : Int32)), (.int (5 : Int32))] [] (y := (⟨"java/lang/Math", "max", "(II)I"⟩ : MethodName)) (hw _ (List.mem_of_getElem? (i := 23) rfl)) (hw _ (List.mem_of_getElem? (i := 24) rfl)) (hw _ (List.mem_of_getElem? (i := 25) rfl)) (hw _ (List.mem_of_getElem? (i := 26) rfl)) (by decide) (rm1 l Z a0 hw [] (3 : Int32) (5 : Int32)  h10 ) at_82 rfl (lenOf own_pd1 rfl) rfl rfl rfl (by decide) (by decide) rfl rfl (by decide) (by decide) (own_kv fun v249 h249 q249 => ?_)
      obtain ⟨rfl, e249⟩ := q249
      rw [e249]
      rw [show (if (3 : Int32) < (5 : Int32) then (5 : Int32) else (3 : Int32)) = (5 : Int32) from by decide]
      refine own_istore 87 rfl #[.val (.int p1), .val (.int p2), .val (.ref b1), .val (.int (3 : Int32)), .val (.int (7 : Int32)), .val (.int (5 : Int32)), .unset, .unset] at_85 rfl ?_
      refine own_iload 89 rfl at_87 rfl ?_
      refine own_iconst 90 rfl (5 : Int32) at_89 rfl ?_
      refine own_callS 93 rfl 1 9 0 [(.int (7 : Int32)), (.int (5 : Int32))] [] (y := (⟨"java/lang/Math", "max", "(II)I"⟩ : MethodName)) (hw _ (List.mem_of_getElem? (i := 23) rfl)) (hw _ (List.mem_of_getElem? (i := 24) rfl)) (hw _ (List.mem_of_getElem? (i := 25) rfl)) (hw _ (List.mem_of_getElem? (i := 26) rfl)) (by decide) (rm1 l Z a0 hw [] (7 : Int32) (5 : Int32)  h10 ) at_90 rfl (lenOf own_pd1 rfl) rfl rfl rfl (by decide) (by decide) rfl rfl (by decide) (by decide) (own_kv fun v250 h250 q250 => ?_)
      obtain ⟨rfl, e250⟩ := q250
      rw [e250]
      rw [show (if (7 : Int32) < (5 : Int32) then (5 : Int32) else (7 : Int32)) = (7 : Int32) from by decide]
      refine own_istore 95 rfl #[.val (.int p1), .val (.int p2), .val (.ref b1), .val (.int (3 : Int32)), .val (.int (7 : Int32)), .val (.int (5 : Int32)), .val (.int (7 : Int32)), .unset] at_93 rfl ?_
      refine own_aloadN 96 rfl at_95 rfl rfl ?_
      refine own_iload 98 rfl at_96 rfl ?_
      refine own_iload 100 rfl at_98 rfl ?_
      refine own_callS 103 rfl 1 9 1 [(.int (5 : Int32)), (.int (7 : Int32))] [(.ref b1)] (y := (⟨"java/lang/Math", "max", "(II)I"⟩ : MethodName)) (hw _ (List.mem_of_getElem? (i := 23) rfl)) (hw _ (List.mem_of_getElem? (i := 24) rfl)) (hw _ (List.mem_of_getElem? (i := 25) rfl)) (hw _ (List.mem_of_getElem? (i := 26) rfl)) (by decide) (rm1 l Z a0 hw [] (5 : Int32) (7 : Int32)  h10 ) at_100 rfl (lenOf own_pd1 rfl) rfl rfl rfl (by decide) (by decide) rfl rfl (by decide) (by decide) (own_kv fun v251 h251 q251 => ?_)
      obtain ⟨rfl, e251⟩ := q251
      rw [e251]
      rw [show (if (5 : Int32) < (7 : Int32) then (7 : Int32) else (5 : Int32)) = (7 : Int32) from by decide]
      obtain ⟨c252, A252, q252, S252, N252, H252, G252⟩ := id V10
      refine own_aaload 104 rfl A252 rfl (inb_of S252 ⟨by decide, by decide⟩) (Has.at H252 (inb_of S252 ⟨by decide, by decide⟩) rfl) at_103 ?_
      refine own_astore 106 rfl #[.val (.int p1), .val (.int p2), .val (.ref b1), .val (.int (3 : Int32)), .val (.int (7 : Int32)), .val (.int (5 : Int32)), .val (.int (7 : Int32)), .val (.ref w_LONG_LONG)] at_104 rfl rfl ?_
      refine own_aloadN 107 rfl at_106 rfl rfl ?_
      refine own_iloadN 108 rfl at_107 rfl ?_
      obtain ⟨c253, A253, q253, S253, N253, H253, G253⟩ := id V10
      refine own_aaload 109 rfl A253 rfl (inb_of S253 ⟨by decide, by decide⟩) (Has.at H253 (inb_of S253 ⟨by decide, by decide⟩) rfl) at_108 ?_
      refine own_aloadN 110 rfl at_109 rfl rfl ?_
      refine own_iload 112 rfl at_110 rfl ?_
      obtain ⟨c254, A254, q254, S254, N254, H254, G254⟩ := id V10
      refine own_aaload 113 rfl A254 rfl (inb_of S254 ⟨by decide, by decide⟩) (Has.at H254 (inb_of S254 ⟨by decide, by decide⟩) rfl) at_112 ?_
      refine own_callS 116 rfl 1 9 0 [(.ref w_SHORT), (.ref w_LONG_LONG)] [] (y := (⟨"com/example/counterpath/counterpath/cfa/Type", "common", "(Lcom/example/counterpath/counterpath/cfa/Type;Lcom/example/counterpath/counterpath/cfa/Type;)Lcom/example/counterpath/counterpath/cfa/Type;"⟩ : MethodName)) (hw _ (List.mem_of_getElem? (i := 27) rfl)) (hw _ (List.mem_of_getElem? (i := 28) rfl)) (hw _ (List.mem_of_getElem? (i := 3) rfl)) (hw _ (List.mem_of_getElem? (i := 29) rfl)) (by decide) (rm2 l Z a0 hw [] w_SHORT w_LONG_LONG (16 : Int32) (1 : Int32) (64 : Int32) (1 : Int32) w_BOOL w_SIGNED_CHAR w_UNSIGNED_CHAR w_SHORT w_UNSIGNED_SHORT w_INT w_UNSIGNED_INT w_LONG_LONG w_UNSIGNED_LONG_LONG h10 I (((((((((((E_w_SHORT.ext O0.2).ext E1).wr W2).wr W3).wr W4).wr W5).wr W6).wr W7).wr W8).wr W9).wr W10) (((((((((((F_w_SHORT_width.ext O0.2).ext E1).other W2 (Or.inl ne_w_SHORT_b1)).other W3 (Or.inl ne_w_SHORT_b1)).other W4 (Or.inl ne_w_SHORT_b1)).other W5 (Or.inl ne_w_SHORT_b1)).other W6 (Or.inl ne_w_SHORT_b1)).other W7 (Or.inl ne_w_SHORT_b1)).other W8 (Or.inl ne_w_SHORT_b1)).other W9 (Or.inl ne_w_SHORT_b1)).other W10 (Or.inl ne_w_SHORT_b1)) (((((((((((F_w_SHORT_signed.ext O0.2).ext E1).other W2 (Or.inl ne_w_SHORT_b1)).other W3 (Or.inl ne_w_SHORT_b1)).other W4 (Or.inl ne_w_SHORT_b1)).other W5 (Or.inl ne_w_SHORT_b1)).other W6 (Or.inl ne_w_SHORT_b1)).other W7 (Or.inl ne_w_SHORT_b1)).other W8 (Or.inl ne_w_SHORT_b1)).other W9 (Or.inl ne_w_SHORT_b1)).other W10 (Or.inl ne_w_SHORT_b1)) (((((((((((E_w_LONG_LONG.ext O0.2).ext E1).wr W2).wr W3).wr W4).wr W5).wr W6).wr W7).wr W8).wr W9).wr W10) (((((((((((F_w_LONG_LONG_width.ext O0.2).ext E1).other W2 (Or.inl ne_w_LONG_LONG_b1)).other W3 (Or.inl ne_w_LONG_LONG_b1)).other W4 (Or.inl ne_w_LONG_LONG_b1)).other W5 (Or.inl ne_w_LONG_LONG_b1)).other W6 (Or.inl ne_w_LONG_LONG_b1)).other W7 (Or.inl ne_w_LONG_LONG_b1)).other W8 (Or.inl ne_w_LONG_LONG_b1)).other W9 (Or.inl ne_w_LONG_LONG_b1)).other W10 (Or.inl ne_w_LONG_LONG_b1)) (((((((((((F_w_LONG_LONG_signed.ext O0.2).ext E1).other W2 (Or.inl ne_w_LONG_LONG_b1)).other W3 (Or.inl ne_w_LONG_LONG_b1)).other W4 (Or.inl ne_w_LONG_LONG_b1)).other W5 (Or.inl ne_w_LONG_LONG_b1)).other W6 (Or.inl ne_w_LONG_LONG_b1)).other W7 (Or.inl ne_w_LONG_LONG_b1)).other W8 (Or.inl ne_w_LONG_LONG_b1)).other W9 (Or.inl ne_w_LONG_LONG_b1)).other W10 (Or.inl ne_w_LONG_LONG_b1)) (by decide) (by decide)) at_113 rfl (lenOf own_pd2 rfl) rfl rfl rfl (by decide) (by decide) rfl rfl (by decide) (by decide) (own_kv fun v255 h255 q255 => ?_)
      obtain ⟨rfl, e255⟩ := q255
      rw [e255]
      rw [show own_com w_INT w_SHORT (16 : Int32) (1 : Int32) w_LONG_LONG (64 : Int32) (1 : Int32) = w_LONG_LONG from by simp [own_com]]
      refine own_aload 118 rfl at_116 rfl rfl ?_
      refine own_acmpNo 121 rfl at_118 rfl rfl (own_teq (rfl : ((.ref w_LONG_LONG) : Value) = (.ref w_LONG_LONG))).2 ?_
      refine own_iconst 122 rfl (1 : Int32) at_121 rfl ?_
      refine own_goto 126 at_122 (by decide) (by decide) ?_
      refine own_retN rfl (by simp) at_126 (by decide) (by decide) ?_
      exact ⟨_, rfl, rfl⟩
    · have hin_j := (rfl : (8 : Int) = 8)
      refine own_iloadN 81 rfl at_80 rfl ?_
      refine own_iconst 82 rfl (5 : Int32) at_81 rfl ?_
      refine own_callS 85 rfl 1 9 0 [(.int (3 : Int32)), (.int (5 : Int32))] [] (y := (⟨"java/lang/Math", "max", "(II)I"⟩ : MethodName)) (hw _ (List.mem_of_getElem? (i := 23) rfl)) (hw _ (List.mem_of_getElem? (i := 24) rfl)) (hw _ (List.mem_of_getElem? (i := 25) rfl)) (hw _ (List.mem_of_getElem? (i := 26) rfl)) (by decide) (rm1 l Z a0 hw [] (3 : Int32) (5 : Int32)  h10 ) at_82 rfl (lenOf own_pd1 rfl) rfl rfl rfl (by decide) (by decide) rfl rfl (by decide) (by decide) (own_kv fun v256 h256 q256 => ?_)
      obtain ⟨rfl, e256⟩ := q256
      rw [e256]
      rw [show (if (3 : Int32) < (5 : Int32) then (5 : Int32) else (3 : Int32)) = (5 : Int32) from by decide]
      refine own_istore 87 rfl #[.val (.int p1), .val (.int p2), .val (.ref b1), .val (.int (3 : Int32)), .val (.int (8 : Int32)), .val (.int (5 : Int32)), .unset, .unset] at_85 rfl ?_
      refine own_iload 89 rfl at_87 rfl ?_
      refine own_iconst 90 rfl (5 : Int32) at_89 rfl ?_
      refine own_callS 93 rfl 1 9 0 [(.int (8 : Int32)), (.int (5 : Int32))] [] (y := (⟨"java/lang/Math", "max", "(II)I"⟩ : MethodName)) (hw _ (List.mem_of_getElem? (i := 23) rfl)) (hw _ (List.mem_of_getElem? (i := 24) rfl)) (hw _ (List.mem_of_getElem? (i := 25) rfl)) (hw _ (List.mem_of_getElem? (i := 26) rfl)) (by decide) (rm1 l Z a0 hw [] (8 : Int32) (5 : Int32)  h10 ) at_90 rfl (lenOf own_pd1 rfl) rfl rfl rfl (by decide) (by decide) rfl rfl (by decide) (by decide) (own_kv fun v257 h257 q257 => ?_)
      obtain ⟨rfl, e257⟩ := q257
      rw [e257]
      rw [show (if (8 : Int32) < (5 : Int32) then (5 : Int32) else (8 : Int32)) = (8 : Int32) from by decide]
      refine own_istore 95 rfl #[.val (.int p1), .val (.int p2), .val (.ref b1), .val (.int (3 : Int32)), .val (.int (8 : Int32)), .val (.int (5 : Int32)), .val (.int (8 : Int32)), .unset] at_93 rfl ?_
      refine own_aloadN 96 rfl at_95 rfl rfl ?_
      refine own_iload 98 rfl at_96 rfl ?_
      refine own_iload 100 rfl at_98 rfl ?_
      refine own_callS 103 rfl 1 9 1 [(.int (5 : Int32)), (.int (8 : Int32))] [(.ref b1)] (y := (⟨"java/lang/Math", "max", "(II)I"⟩ : MethodName)) (hw _ (List.mem_of_getElem? (i := 23) rfl)) (hw _ (List.mem_of_getElem? (i := 24) rfl)) (hw _ (List.mem_of_getElem? (i := 25) rfl)) (hw _ (List.mem_of_getElem? (i := 26) rfl)) (by decide) (rm1 l Z a0 hw [] (5 : Int32) (8 : Int32)  h10 ) at_100 rfl (lenOf own_pd1 rfl) rfl rfl rfl (by decide) (by decide) rfl rfl (by decide) (by decide) (own_kv fun v258 h258 q258 => ?_)
      obtain ⟨rfl, e258⟩ := q258
      rw [e258]
      rw [show (if (5 : Int32) < (8 : Int32) then (8 : Int32) else (5 : Int32)) = (8 : Int32) from by decide]
      obtain ⟨c259, A259, q259, S259, N259, H259, G259⟩ := id V10
      refine own_aaload 104 rfl A259 rfl (inb_of S259 ⟨by decide, by decide⟩) (Has.at H259 (inb_of S259 ⟨by decide, by decide⟩) rfl) at_103 ?_
      refine own_astore 106 rfl #[.val (.int p1), .val (.int p2), .val (.ref b1), .val (.int (3 : Int32)), .val (.int (8 : Int32)), .val (.int (5 : Int32)), .val (.int (8 : Int32)), .val (.ref w_UNSIGNED_LONG_LONG)] at_104 rfl rfl ?_
      refine own_aloadN 107 rfl at_106 rfl rfl ?_
      refine own_iloadN 108 rfl at_107 rfl ?_
      obtain ⟨c260, A260, q260, S260, N260, H260, G260⟩ := id V10
      refine own_aaload 109 rfl A260 rfl (inb_of S260 ⟨by decide, by decide⟩) (Has.at H260 (inb_of S260 ⟨by decide, by decide⟩) rfl) at_108 ?_
      refine own_aloadN 110 rfl at_109 rfl rfl ?_
      refine own_iload 112 rfl at_110 rfl ?_
      obtain ⟨c261, A261, q261, S261, N261, H261, G261⟩ := id V10
      refine own_aaload 113 rfl A261 rfl (inb_of S261 ⟨by decide, by decide⟩) (Has.at H261 (inb_of S261 ⟨by decide, by decide⟩) rfl) at_112 ?_
      refine own_callS 116 rfl 1 9 0 [(.ref w_SHORT), (.ref w_UNSIGNED_LONG_LONG)] [] (y := (⟨"com/example/counterpath/counterpath/cfa/Type", "common", "(Lcom/example/counterpath/counterpath/cfa/Type;Lcom/example/counterpath/counterpath/cfa/Type;)Lcom/example/counterpath/counterpath/cfa/Type;"⟩ : MethodName)) (hw _ (List.mem_of_getElem? (i := 27) rfl)) (hw _ (List.mem_of_getElem? (i := 28) rfl)) (hw _ (List.mem_of_getElem? (i := 3) rfl)) (hw _ (List.mem_of_getElem? (i := 29) rfl)) (by decide) (rm2 l Z a0 hw [] w_SHORT w_UNSIGNED_LONG_LONG (16 : Int32) (1 : Int32) (64 : Int32) (0 : Int32) w_BOOL w_SIGNED_CHAR w_UNSIGNED_CHAR w_SHORT w_UNSIGNED_SHORT w_INT w_UNSIGNED_INT w_LONG_LONG w_UNSIGNED_LONG_LONG h10 I (((((((((((E_w_SHORT.ext O0.2).ext E1).wr W2).wr W3).wr W4).wr W5).wr W6).wr W7).wr W8).wr W9).wr W10) (((((((((((F_w_SHORT_width.ext O0.2).ext E1).other W2 (Or.inl ne_w_SHORT_b1)).other W3 (Or.inl ne_w_SHORT_b1)).other W4 (Or.inl ne_w_SHORT_b1)).other W5 (Or.inl ne_w_SHORT_b1)).other W6 (Or.inl ne_w_SHORT_b1)).other W7 (Or.inl ne_w_SHORT_b1)).other W8 (Or.inl ne_w_SHORT_b1)).other W9 (Or.inl ne_w_SHORT_b1)).other W10 (Or.inl ne_w_SHORT_b1)) (((((((((((F_w_SHORT_signed.ext O0.2).ext E1).other W2 (Or.inl ne_w_SHORT_b1)).other W3 (Or.inl ne_w_SHORT_b1)).other W4 (Or.inl ne_w_SHORT_b1)).other W5 (Or.inl ne_w_SHORT_b1)).other W6 (Or.inl ne_w_SHORT_b1)).other W7 (Or.inl ne_w_SHORT_b1)).other W8 (Or.inl ne_w_SHORT_b1)).other W9 (Or.inl ne_w_SHORT_b1)).other W10 (Or.inl ne_w_SHORT_b1)) (((((((((((E_w_UNSIGNED_LONG_LONG.ext O0.2).ext E1).wr W2).wr W3).wr W4).wr W5).wr W6).wr W7).wr W8).wr W9).wr W10) (((((((((((F_w_UNSIGNED_LONG_LONG_width.ext O0.2).ext E1).other W2 (Or.inl ne_w_UNSIGNED_LONG_LONG_b1)).other W3 (Or.inl ne_w_UNSIGNED_LONG_LONG_b1)).other W4 (Or.inl ne_w_UNSIGNED_LONG_LONG_b1)).other W5 (Or.inl ne_w_UNSIGNED_LONG_LONG_b1)).other W6 (Or.inl ne_w_UNSIGNED_LONG_LONG_b1)).other W7 (Or.inl ne_w_UNSIGNED_LONG_LONG_b1)).other W8 (Or.inl ne_w_UNSIGNED_LONG_LONG_b1)).other W9 (Or.inl ne_w_UNSIGNED_LONG_LONG_b1)).other W10 (Or.inl ne_w_UNSIGNED_LONG_LONG_b1)) (((((((((((F_w_UNSIGNED_LONG_LONG_signed.ext O0.2).ext E1).other W2 (Or.inl ne_w_UNSIGNED_LONG_LONG_b1)).other W3 (Or.inl ne_w_UNSIGNED_LONG_LONG_b1)).other W4 (Or.inl ne_w_UNSIGNED_LONG_LONG_b1)).other W5 (Or.inl ne_w_UNSIGNED_LONG_LONG_b1)).other W6 (Or.inl ne_w_UNSIGNED_LONG_LONG_b1)).other W7 (Or.inl ne_w_UNSIGNED_LONG_LONG_b1)).other W8 (Or.inl ne_w_UNSIGNED_LONG_LONG_b1)).other W9 (Or.inl ne_w_UNSIGNED_LONG_LONG_b1)).other W10 (Or.inl ne_w_UNSIGNED_LONG_LONG_b1)) (by decide) (by decide)) at_113 rfl (lenOf own_pd2 rfl) rfl rfl rfl (by decide) (by decide) rfl rfl (by decide) (by decide) (own_kv fun v262 h262 q262 => ?_)
      obtain ⟨rfl, e262⟩ := q262
      rw [e262]
      rw [show own_com w_INT w_SHORT (16 : Int32) (1 : Int32) w_UNSIGNED_LONG_LONG (64 : Int32) (0 : Int32) = w_UNSIGNED_LONG_LONG from by simp [own_com]]
      refine own_aload 118 rfl at_116 rfl rfl ?_
      refine own_acmpNo 121 rfl at_118 rfl rfl (own_teq (rfl : ((.ref w_UNSIGNED_LONG_LONG) : Value) = (.ref w_UNSIGNED_LONG_LONG))).2 ?_
      refine own_iconst 122 rfl (1 : Int32) at_121 rfl ?_
      refine own_goto 126 at_122 (by decide) (by decide) ?_
      refine own_retN rfl (by simp) at_126 (by decide) (by decide) ?_
      exact ⟨_, rfl, rfl⟩
  · have hin_k := (rfl : (4 : Int) = 4)
    have hr_j : j = (0 : Int32) ∨ j = (1 : Int32) ∨ j = (2 : Int32) ∨ j = (3 : Int32) ∨ j = (4 : Int32) ∨ j = (5 : Int32) ∨ j = (6 : Int32) ∨ j = (7 : Int32) ∨ j = (8 : Int32) := by
      have hrz : j.toInt = 0 ∨ j.toInt = 1 ∨ j.toInt = 2 ∨ j.toInt = 3 ∨ j.toInt = 4 ∨ j.toInt = 5 ∨ j.toInt = 6 ∨ j.toInt = 7 ∨ j.toInt = 8 := by omega
      rcases hrz with q | q | q | q | q | q | q | q | q
      · exact Or.inl (own_eq' q)
      · exact Or.inr (Or.inl (own_eq' q))
      · exact Or.inr (Or.inr (Or.inl (own_eq' q)))
      · exact Or.inr (Or.inr (Or.inr (Or.inl (own_eq' q))))
      · exact Or.inr (Or.inr (Or.inr (Or.inr (Or.inl (own_eq' q)))))
      · exact Or.inr (Or.inr (Or.inr (Or.inr (Or.inr (Or.inl (own_eq' q))))))
      · exact Or.inr (Or.inr (Or.inr (Or.inr (Or.inr (Or.inr (Or.inl (own_eq' q)))))))
      · exact Or.inr (Or.inr (Or.inr (Or.inr (Or.inr (Or.inr (Or.inr (Or.inl (own_eq' q))))))))
      · exact Or.inr (Or.inr (Or.inr (Or.inr (Or.inr (Or.inr (Or.inr (Or.inr (own_eq' q))))))))
    rcases hr_j with rfl | rfl | rfl | rfl | rfl | rfl | rfl | rfl | rfl
    · have hin_j := (rfl : (0 : Int) = 0)
      refine own_iloadN 81 rfl at_80 rfl ?_
      refine own_iconst 82 rfl (5 : Int32) at_81 rfl ?_
      refine own_callS 85 rfl 1 9 0 [(.int (4 : Int32)), (.int (5 : Int32))] [] (y := (⟨"java/lang/Math", "max", "(II)I"⟩ : MethodName)) (hw _ (List.mem_of_getElem? (i := 23) rfl)) (hw _ (List.mem_of_getElem? (i := 24) rfl)) (hw _ (List.mem_of_getElem? (i := 25) rfl)) (hw _ (List.mem_of_getElem? (i := 26) rfl)) (by decide) (rm1 l Z a0 hw [] (4 : Int32) (5 : Int32)  h10 ) at_82 rfl (lenOf own_pd1 rfl) rfl rfl rfl (by decide) (by decide) rfl rfl (by decide) (by decide) (own_kv fun v263 h263 q263 => ?_)
      obtain ⟨rfl, e263⟩ := q263
      rw [e263]
      rw [show (if (4 : Int32) < (5 : Int32) then (5 : Int32) else (4 : Int32)) = (5 : Int32) from by decide]
      refine own_istore 87 rfl #[.val (.int p1), .val (.int p2), .val (.ref b1), .val (.int (4 : Int32)), .val (.int (0 : Int32)), .val (.int (5 : Int32)), .unset, .unset] at_85 rfl ?_
      refine own_iload 89 rfl at_87 rfl ?_
      refine own_iconst 90 rfl (5 : Int32) at_89 rfl ?_
      refine own_callS 93 rfl 1 9 0 [(.int (0 : Int32)), (.int (5 : Int32))] [] (y := (⟨"java/lang/Math", "max", "(II)I"⟩ : MethodName)) (hw _ (List.mem_of_getElem? (i := 23) rfl)) (hw _ (List.mem_of_getElem? (i := 24) rfl)) (hw _ (List.mem_of_getElem? (i := 25) rfl)) (hw _ (List.mem_of_getElem? (i := 26) rfl)) (by decide) (rm1 l Z a0 hw [] (0 : Int32) (5 : Int32)  h10 ) at_90 rfl (lenOf own_pd1 rfl) rfl rfl rfl (by decide) (by decide) rfl rfl (by decide) (by decide) (own_kv fun v264 h264 q264 => ?_)
      obtain ⟨rfl, e264⟩ := q264
      rw [e264]
      rw [show (if (0 : Int32) < (5 : Int32) then (5 : Int32) else (0 : Int32)) = (5 : Int32) from by decide]
      refine own_istore 95 rfl #[.val (.int p1), .val (.int p2), .val (.ref b1), .val (.int (4 : Int32)), .val (.int (0 : Int32)), .val (.int (5 : Int32)), .val (.int (5 : Int32)), .unset] at_93 rfl ?_
      refine own_aloadN 96 rfl at_95 rfl rfl ?_
      refine own_iload 98 rfl at_96 rfl ?_
      refine own_iload 100 rfl at_98 rfl ?_
      refine own_callS 103 rfl 1 9 1 [(.int (5 : Int32)), (.int (5 : Int32))] [(.ref b1)] (y := (⟨"java/lang/Math", "max", "(II)I"⟩ : MethodName)) (hw _ (List.mem_of_getElem? (i := 23) rfl)) (hw _ (List.mem_of_getElem? (i := 24) rfl)) (hw _ (List.mem_of_getElem? (i := 25) rfl)) (hw _ (List.mem_of_getElem? (i := 26) rfl)) (by decide) (rm1 l Z a0 hw [] (5 : Int32) (5 : Int32)  h10 ) at_100 rfl (lenOf own_pd1 rfl) rfl rfl rfl (by decide) (by decide) rfl rfl (by decide) (by decide) (own_kv fun v265 h265 q265 => ?_)
      obtain ⟨rfl, e265⟩ := q265
      rw [e265]
      rw [show (if (5 : Int32) < (5 : Int32) then (5 : Int32) else (5 : Int32)) = (5 : Int32) from by decide]
      obtain ⟨c266, A266, q266, S266, N266, H266, G266⟩ := id V10
      refine own_aaload 104 rfl A266 rfl (inb_of S266 ⟨by decide, by decide⟩) (Has.at H266 (inb_of S266 ⟨by decide, by decide⟩) rfl) at_103 ?_
      refine own_astore 106 rfl #[.val (.int p1), .val (.int p2), .val (.ref b1), .val (.int (4 : Int32)), .val (.int (0 : Int32)), .val (.int (5 : Int32)), .val (.int (5 : Int32)), .val (.ref w_INT)] at_104 rfl rfl ?_
      refine own_aloadN 107 rfl at_106 rfl rfl ?_
      refine own_iloadN 108 rfl at_107 rfl ?_
      obtain ⟨c267, A267, q267, S267, N267, H267, G267⟩ := id V10
      refine own_aaload 109 rfl A267 rfl (inb_of S267 ⟨by decide, by decide⟩) (Has.at H267 (inb_of S267 ⟨by decide, by decide⟩) rfl) at_108 ?_
      refine own_aloadN 110 rfl at_109 rfl rfl ?_
      refine own_iload 112 rfl at_110 rfl ?_
      obtain ⟨c268, A268, q268, S268, N268, H268, G268⟩ := id V10
      refine own_aaload 113 rfl A268 rfl (inb_of S268 ⟨by decide, by decide⟩) (Has.at H268 (inb_of S268 ⟨by decide, by decide⟩) rfl) at_112 ?_
      refine own_callS 116 rfl 1 9 0 [(.ref w_UNSIGNED_SHORT), (.ref w_BOOL)] [] (y := (⟨"com/example/counterpath/counterpath/cfa/Type", "common", "(Lcom/example/counterpath/counterpath/cfa/Type;Lcom/example/counterpath/counterpath/cfa/Type;)Lcom/example/counterpath/counterpath/cfa/Type;"⟩ : MethodName)) (hw _ (List.mem_of_getElem? (i := 27) rfl)) (hw _ (List.mem_of_getElem? (i := 28) rfl)) (hw _ (List.mem_of_getElem? (i := 3) rfl)) (hw _ (List.mem_of_getElem? (i := 29) rfl)) (by decide) (rm2 l Z a0 hw [] w_UNSIGNED_SHORT w_BOOL (16 : Int32) (0 : Int32) (1 : Int32) (0 : Int32) w_BOOL w_SIGNED_CHAR w_UNSIGNED_CHAR w_SHORT w_UNSIGNED_SHORT w_INT w_UNSIGNED_INT w_LONG_LONG w_UNSIGNED_LONG_LONG h10 I (((((((((((E_w_UNSIGNED_SHORT.ext O0.2).ext E1).wr W2).wr W3).wr W4).wr W5).wr W6).wr W7).wr W8).wr W9).wr W10) (((((((((((F_w_UNSIGNED_SHORT_width.ext O0.2).ext E1).other W2 (Or.inl ne_w_UNSIGNED_SHORT_b1)).other W3 (Or.inl ne_w_UNSIGNED_SHORT_b1)).other W4 (Or.inl ne_w_UNSIGNED_SHORT_b1)).other W5 (Or.inl ne_w_UNSIGNED_SHORT_b1)).other W6 (Or.inl ne_w_UNSIGNED_SHORT_b1)).other W7 (Or.inl ne_w_UNSIGNED_SHORT_b1)).other W8 (Or.inl ne_w_UNSIGNED_SHORT_b1)).other W9 (Or.inl ne_w_UNSIGNED_SHORT_b1)).other W10 (Or.inl ne_w_UNSIGNED_SHORT_b1)) (((((((((((F_w_UNSIGNED_SHORT_signed.ext O0.2).ext E1).other W2 (Or.inl ne_w_UNSIGNED_SHORT_b1)).other W3 (Or.inl ne_w_UNSIGNED_SHORT_b1)).other W4 (Or.inl ne_w_UNSIGNED_SHORT_b1)).other W5 (Or.inl ne_w_UNSIGNED_SHORT_b1)).other W6 (Or.inl ne_w_UNSIGNED_SHORT_b1)).other W7 (Or.inl ne_w_UNSIGNED_SHORT_b1)).other W8 (Or.inl ne_w_UNSIGNED_SHORT_b1)).other W9 (Or.inl ne_w_UNSIGNED_SHORT_b1)).other W10 (Or.inl ne_w_UNSIGNED_SHORT_b1)) (((((((((((E_w_BOOL.ext O0.2).ext E1).wr W2).wr W3).wr W4).wr W5).wr W6).wr W7).wr W8).wr W9).wr W10) (((((((((((F_w_BOOL_width.ext O0.2).ext E1).other W2 (Or.inl ne_w_BOOL_b1)).other W3 (Or.inl ne_w_BOOL_b1)).other W4 (Or.inl ne_w_BOOL_b1)).other W5 (Or.inl ne_w_BOOL_b1)).other W6 (Or.inl ne_w_BOOL_b1)).other W7 (Or.inl ne_w_BOOL_b1)).other W8 (Or.inl ne_w_BOOL_b1)).other W9 (Or.inl ne_w_BOOL_b1)).other W10 (Or.inl ne_w_BOOL_b1)) (((((((((((F_w_BOOL_signed.ext O0.2).ext E1).other W2 (Or.inl ne_w_BOOL_b1)).other W3 (Or.inl ne_w_BOOL_b1)).other W4 (Or.inl ne_w_BOOL_b1)).other W5 (Or.inl ne_w_BOOL_b1)).other W6 (Or.inl ne_w_BOOL_b1)).other W7 (Or.inl ne_w_BOOL_b1)).other W8 (Or.inl ne_w_BOOL_b1)).other W9 (Or.inl ne_w_BOOL_b1)).other W10 (Or.inl ne_w_BOOL_b1)) (by decide) (by decide)) at_113 rfl (lenOf own_pd2 rfl) rfl rfl rfl (by decide) (by decide) rfl rfl (by decide) (by decide) (own_kv fun v269 h269 q269 => ?_)
      obtain ⟨rfl, e269⟩ := q269
      rw [e269]
      rw [show own_com w_INT w_UNSIGNED_SHORT (16 : Int32) (0 : Int32) w_BOOL (1 : Int32) (0 : Int32) = w_INT from by simp [own_com]]
      refine own_aload 118 rfl at_116 rfl rfl ?_
      refine own_acmpNo 121 rfl at_118 rfl rfl (own_teq (rfl : ((.ref w_INT) : Value) = (.ref w_INT))).2 ?_
      refine own_iconst 122 rfl (1 : Int32) at_121 rfl ?_
      refine own_goto 126 at_122 (by decide) (by decide) ?_
      refine own_retN rfl (by simp) at_126 (by decide) (by decide) ?_
      exact ⟨_, rfl, rfl⟩
    · have hin_j := (rfl : (1 : Int) = 1)
      refine own_iloadN 81 rfl at_80 rfl ?_
      refine own_iconst 82 rfl (5 : Int32) at_81 rfl ?_
      refine own_callS 85 rfl 1 9 0 [(.int (4 : Int32)), (.int (5 : Int32))] [] (y := (⟨"java/lang/Math", "max", "(II)I"⟩ : MethodName)) (hw _ (List.mem_of_getElem? (i := 23) rfl)) (hw _ (List.mem_of_getElem? (i := 24) rfl)) (hw _ (List.mem_of_getElem? (i := 25) rfl)) (hw _ (List.mem_of_getElem? (i := 26) rfl)) (by decide) (rm1 l Z a0 hw [] (4 : Int32) (5 : Int32)  h10 ) at_82 rfl (lenOf own_pd1 rfl) rfl rfl rfl (by decide) (by decide) rfl rfl (by decide) (by decide) (own_kv fun v270 h270 q270 => ?_)
      obtain ⟨rfl, e270⟩ := q270
      rw [e270]
      rw [show (if (4 : Int32) < (5 : Int32) then (5 : Int32) else (4 : Int32)) = (5 : Int32) from by decide]
      refine own_istore 87 rfl #[.val (.int p1), .val (.int p2), .val (.ref b1), .val (.int (4 : Int32)), .val (.int (1 : Int32)), .val (.int (5 : Int32)), .unset, .unset] at_85 rfl ?_
      refine own_iload 89 rfl at_87 rfl ?_
      refine own_iconst 90 rfl (5 : Int32) at_89 rfl ?_
      refine own_callS 93 rfl 1 9 0 [(.int (1 : Int32)), (.int (5 : Int32))] [] (y := (⟨"java/lang/Math", "max", "(II)I"⟩ : MethodName)) (hw _ (List.mem_of_getElem? (i := 23) rfl)) (hw _ (List.mem_of_getElem? (i := 24) rfl)) (hw _ (List.mem_of_getElem? (i := 25) rfl)) (hw _ (List.mem_of_getElem? (i := 26) rfl)) (by decide) (rm1 l Z a0 hw [] (1 : Int32) (5 : Int32)  h10 ) at_90 rfl (lenOf own_pd1 rfl) rfl rfl rfl (by decide) (by decide) rfl rfl (by decide) (by decide) (own_kv fun v271 h271 q271 => ?_)
      obtain ⟨rfl, e271⟩ := q271
      rw [e271]
      rw [show (if (1 : Int32) < (5 : Int32) then (5 : Int32) else (1 : Int32)) = (5 : Int32) from by decide]
      refine own_istore 95 rfl #[.val (.int p1), .val (.int p2), .val (.ref b1), .val (.int (4 : Int32)), .val (.int (1 : Int32)), .val (.int (5 : Int32)), .val (.int (5 : Int32)), .unset] at_93 rfl ?_
      refine own_aloadN 96 rfl at_95 rfl rfl ?_
      refine own_iload 98 rfl at_96 rfl ?_
      refine own_iload 100 rfl at_98 rfl ?_
      refine own_callS 103 rfl 1 9 1 [(.int (5 : Int32)), (.int (5 : Int32))] [(.ref b1)] (y := (⟨"java/lang/Math", "max", "(II)I"⟩ : MethodName)) (hw _ (List.mem_of_getElem? (i := 23) rfl)) (hw _ (List.mem_of_getElem? (i := 24) rfl)) (hw _ (List.mem_of_getElem? (i := 25) rfl)) (hw _ (List.mem_of_getElem? (i := 26) rfl)) (by decide) (rm1 l Z a0 hw [] (5 : Int32) (5 : Int32)  h10 ) at_100 rfl (lenOf own_pd1 rfl) rfl rfl rfl (by decide) (by decide) rfl rfl (by decide) (by decide) (own_kv fun v272 h272 q272 => ?_)
      obtain ⟨rfl, e272⟩ := q272
      rw [e272]
      rw [show (if (5 : Int32) < (5 : Int32) then (5 : Int32) else (5 : Int32)) = (5 : Int32) from by decide]
      obtain ⟨c273, A273, q273, S273, N273, H273, G273⟩ := id V10
      refine own_aaload 104 rfl A273 rfl (inb_of S273 ⟨by decide, by decide⟩) (Has.at H273 (inb_of S273 ⟨by decide, by decide⟩) rfl) at_103 ?_
      refine own_astore 106 rfl #[.val (.int p1), .val (.int p2), .val (.ref b1), .val (.int (4 : Int32)), .val (.int (1 : Int32)), .val (.int (5 : Int32)), .val (.int (5 : Int32)), .val (.ref w_INT)] at_104 rfl rfl ?_
      refine own_aloadN 107 rfl at_106 rfl rfl ?_
      refine own_iloadN 108 rfl at_107 rfl ?_
      obtain ⟨c274, A274, q274, S274, N274, H274, G274⟩ := id V10
      refine own_aaload 109 rfl A274 rfl (inb_of S274 ⟨by decide, by decide⟩) (Has.at H274 (inb_of S274 ⟨by decide, by decide⟩) rfl) at_108 ?_
      refine own_aloadN 110 rfl at_109 rfl rfl ?_
      refine own_iload 112 rfl at_110 rfl ?_
      obtain ⟨c275, A275, q275, S275, N275, H275, G275⟩ := id V10
      refine own_aaload 113 rfl A275 rfl (inb_of S275 ⟨by decide, by decide⟩) (Has.at H275 (inb_of S275 ⟨by decide, by decide⟩) rfl) at_112 ?_
      refine own_callS 116 rfl 1 9 0 [(.ref w_UNSIGNED_SHORT), (.ref w_SIGNED_CHAR)] [] (y := (⟨"com/example/counterpath/counterpath/cfa/Type", "common", "(Lcom/example/counterpath/counterpath/cfa/Type;Lcom/example/counterpath/counterpath/cfa/Type;)Lcom/example/counterpath/counterpath/cfa/Type;"⟩ : MethodName)) (hw _ (List.mem_of_getElem? (i := 27) rfl)) (hw _ (List.mem_of_getElem? (i := 28) rfl)) (hw _ (List.mem_of_getElem? (i := 3) rfl)) (hw _ (List.mem_of_getElem? (i := 29) rfl)) (by decide) (rm2 l Z a0 hw [] w_UNSIGNED_SHORT w_SIGNED_CHAR (16 : Int32) (0 : Int32) (8 : Int32) (1 : Int32) w_BOOL w_SIGNED_CHAR w_UNSIGNED_CHAR w_SHORT w_UNSIGNED_SHORT w_INT w_UNSIGNED_INT w_LONG_LONG w_UNSIGNED_LONG_LONG h10 I (((((((((((E_w_UNSIGNED_SHORT.ext O0.2).ext E1).wr W2).wr W3).wr W4).wr W5).wr W6).wr W7).wr W8).wr W9).wr W10) (((((((((((F_w_UNSIGNED_SHORT_width.ext O0.2).ext E1).other W2 (Or.inl ne_w_UNSIGNED_SHORT_b1)).other W3 (Or.inl ne_w_UNSIGNED_SHORT_b1)).other W4 (Or.inl ne_w_UNSIGNED_SHORT_b1)).other W5 (Or.inl ne_w_UNSIGNED_SHORT_b1)).other W6 (Or.inl ne_w_UNSIGNED_SHORT_b1)).other W7 (Or.inl ne_w_UNSIGNED_SHORT_b1)).other W8 (Or.inl ne_w_UNSIGNED_SHORT_b1)).other W9 (Or.inl ne_w_UNSIGNED_SHORT_b1)).other W10 (Or.inl ne_w_UNSIGNED_SHORT_b1)) (((((((((((F_w_UNSIGNED_SHORT_signed.ext O0.2).ext E1).other W2 (Or.inl ne_w_UNSIGNED_SHORT_b1)).other W3 (Or.inl ne_w_UNSIGNED_SHORT_b1)).other W4 (Or.inl ne_w_UNSIGNED_SHORT_b1)).other W5 (Or.inl ne_w_UNSIGNED_SHORT_b1)).other W6 (Or.inl ne_w_UNSIGNED_SHORT_b1)).other W7 (Or.inl ne_w_UNSIGNED_SHORT_b1)).other W8 (Or.inl ne_w_UNSIGNED_SHORT_b1)).other W9 (Or.inl ne_w_UNSIGNED_SHORT_b1)).other W10 (Or.inl ne_w_UNSIGNED_SHORT_b1)) (((((((((((E_w_SIGNED_CHAR.ext O0.2).ext E1).wr W2).wr W3).wr W4).wr W5).wr W6).wr W7).wr W8).wr W9).wr W10) (((((((((((F_w_SIGNED_CHAR_width.ext O0.2).ext E1).other W2 (Or.inl ne_w_SIGNED_CHAR_b1)).other W3 (Or.inl ne_w_SIGNED_CHAR_b1)).other W4 (Or.inl ne_w_SIGNED_CHAR_b1)).other W5 (Or.inl ne_w_SIGNED_CHAR_b1)).other W6 (Or.inl ne_w_SIGNED_CHAR_b1)).other W7 (Or.inl ne_w_SIGNED_CHAR_b1)).other W8 (Or.inl ne_w_SIGNED_CHAR_b1)).other W9 (Or.inl ne_w_SIGNED_CHAR_b1)).other W10 (Or.inl ne_w_SIGNED_CHAR_b1)) (((((((((((F_w_SIGNED_CHAR_signed.ext O0.2).ext E1).other W2 (Or.inl ne_w_SIGNED_CHAR_b1)).other W3 (Or.inl ne_w_SIGNED_CHAR_b1)).other W4 (Or.inl ne_w_SIGNED_CHAR_b1)).other W5 (Or.inl ne_w_SIGNED_CHAR_b1)).other W6 (Or.inl ne_w_SIGNED_CHAR_b1)).other W7 (Or.inl ne_w_SIGNED_CHAR_b1)).other W8 (Or.inl ne_w_SIGNED_CHAR_b1)).other W9 (Or.inl ne_w_SIGNED_CHAR_b1)).other W10 (Or.inl ne_w_SIGNED_CHAR_b1)) (by decide) (by decide)) at_113 rfl (lenOf own_pd2 rfl) rfl rfl rfl (by decide) (by decide) rfl rfl (by decide) (by decide) (own_kv fun v276 h276 q276 => ?_)
      obtain ⟨rfl, e276⟩ := q276
      rw [e276]
      rw [show own_com w_INT w_UNSIGNED_SHORT (16 : Int32) (0 : Int32) w_SIGNED_CHAR (8 : Int32) (1 : Int32) = w_INT from by simp [own_com]]
      refine own_aload 118 rfl at_116 rfl rfl ?_
      refine own_acmpNo 121 rfl at_118 rfl rfl (own_teq (rfl : ((.ref w_INT) : Value) = (.ref w_INT))).2 ?_
      refine own_iconst 122 rfl (1 : Int32) at_121 rfl ?_
      refine own_goto 126 at_122 (by decide) (by decide) ?_
      refine own_retN rfl (by simp) at_126 (by decide) (by decide) ?_
      exact ⟨_, rfl, rfl⟩
    · have hin_j := (rfl : (2 : Int) = 2)
      refine own_iloadN 81 rfl at_80 rfl ?_
      refine own_iconst 82 rfl (5 : Int32) at_81 rfl ?_
      refine own_callS 85 rfl 1 9 0 [(.int (4 : Int32)), (.int (5 : Int32))] [] (y := (⟨"java/lang/Math", "max", "(II)I"⟩ : MethodName)) (hw _ (List.mem_of_getElem? (i := 23) rfl)) (hw _ (List.mem_of_getElem? (i := 24) rfl)) (hw _ (List.mem_of_getElem? (i := 25) rfl)) (hw _ (List.mem_of_getElem? (i := 26) rfl)) (by decide) (rm1 l Z a0 hw [] (4 : Int32) (5 : Int32)  h10 ) at_82 rfl (lenOf own_pd1 rfl) rfl rfl rfl (by decide) (by decide) rfl rfl (by decide) (by decide) (own_kv fun v277 h277 q277 => ?_)
      obtain ⟨rfl, e277⟩ := q277
      rw [e277]
      rw [show (if (4 : Int32) < (5 : Int32) then (5 : Int32) else (4 : Int32)) = (5 : Int32) from by decide]
      refine own_istore 87 rfl #[.val (.int p1), .val (.int p2), .val (.ref b1), .val (.int (4 : Int32)), .val (.int (2 : Int32)), .val (.int (5 : Int32)), .unset, .unset] at_85 rfl ?_
      refine own_iload 89 rfl at_87 rfl ?_
      refine own_iconst 90 rfl (5 : Int32) at_89 rfl ?_
      refine own_callS 93 rfl 1 9 0 [(.int (2 : Int32)), (.int (5 : Int32))] [] (y := (⟨"java/lang/Math", "max", "(II)I"⟩ : MethodName)) (hw _ (List.mem_of_getElem? (i := 23) rfl)) (hw _ (List.mem_of_getElem? (i := 24) rfl)) (hw _ (List.mem_of_getElem? (i := 25) rfl)) (hw _ (List.mem_of_getElem? (i := 26) rfl)) (by decide) (rm1 l Z a0 hw [] (2 : Int32) (5 : Int32)  h10 ) at_90 rfl (lenOf own_pd1 rfl) rfl rfl rfl (by decide) (by decide) rfl rfl (by decide) (by decide) (own_kv fun v278 h278 q278 => ?_)
      obtain ⟨rfl, e278⟩ := q278
      rw [e278]
      rw [show (if (2 : Int32) < (5 : Int32) then (5 : Int32) else (2 : Int32)) = (5 : Int32) from by decide]
      refine own_istore 95 rfl #[.val (.int p1), .val (.int p2), .val (.ref b1), .val (.int (4 : Int32)), .val (.int (2 : Int32)), .val (.int (5 : Int32)), .val (.int (5 : Int32)), .unset] at_93 rfl ?_
      refine own_aloadN 96 rfl at_95 rfl rfl ?_
      refine own_iload 98 rfl at_96 rfl ?_
      refine own_iload 100 rfl at_98 rfl ?_
      refine own_callS 103 rfl 1 9 1 [(.int (5 : Int32)), (.int (5 : Int32))] [(.ref b1)] (y := (⟨"java/lang/Math", "max", "(II)I"⟩ : MethodName)) (hw _ (List.mem_of_getElem? (i := 23) rfl)) (hw _ (List.mem_of_getElem? (i := 24) rfl)) (hw _ (List.mem_of_getElem? (i := 25) rfl)) (hw _ (List.mem_of_getElem? (i := 26) rfl)) (by decide) (rm1 l Z a0 hw [] (5 : Int32) (5 : Int32)  h10 ) at_100 rfl (lenOf own_pd1 rfl) rfl rfl rfl (by decide) (by decide) rfl rfl (by decide) (by decide) (own_kv fun v279 h279 q279 => ?_)
      obtain ⟨rfl, e279⟩ := q279
      rw [e279]
      rw [show (if (5 : Int32) < (5 : Int32) then (5 : Int32) else (5 : Int32)) = (5 : Int32) from by decide]
      obtain ⟨c280, A280, q280, S280, N280, H280, G280⟩ := id V10
      refine own_aaload 104 rfl A280 rfl (inb_of S280 ⟨by decide, by decide⟩) (Has.at H280 (inb_of S280 ⟨by decide, by decide⟩) rfl) at_103 ?_
      refine own_astore 106 rfl #[.val (.int p1), .val (.int p2), .val (.ref b1), .val (.int (4 : Int32)), .val (.int (2 : Int32)), .val (.int (5 : Int32)), .val (.int (5 : Int32)), .val (.ref w_INT)] at_104 rfl rfl ?_
      refine own_aloadN 107 rfl at_106 rfl rfl ?_
      refine own_iloadN 108 rfl at_107 rfl ?_
      obtain ⟨c281, A281, q281, S281, N281, H281, G281⟩ := id V10
      refine own_aaload 109 rfl A281 rfl (inb_of S281 ⟨by decide, by decide⟩) (Has.at H281 (inb_of S281 ⟨by decide, by decide⟩) rfl) at_108 ?_
      refine own_aloadN 110 rfl at_109 rfl rfl ?_
      refine own_iload 112 rfl at_110 rfl ?_
      obtain ⟨c282, A282, q282, S282, N282, H282, G282⟩ := id V10
      refine own_aaload 113 rfl A282 rfl (inb_of S282 ⟨by decide, by decide⟩) (Has.at H282 (inb_of S282 ⟨by decide, by decide⟩) rfl) at_112 ?_
      refine own_callS 116 rfl 1 9 0 [(.ref w_UNSIGNED_SHORT), (.ref w_UNSIGNED_CHAR)] [] (y := (⟨"com/example/counterpath/counterpath/cfa/Type", "common", "(Lcom/example/counterpath/counterpath/cfa/Type;Lcom/example/counterpath/counterpath/cfa/Type;)Lcom/example/counterpath/counterpath/cfa/Type;"⟩ : MethodName)) (hw _ (List.mem_of_getElem? (i := 27) rfl)) (hw _ (List.mem_of_getElem? (i := 28) rfl)) (hw _ (List.mem_of_getElem? (i := 3) rfl)) (hw _ (List.mem_of_getElem? (i := 29) rfl)) (by decide) (rm2 l Z a0 hw [] w_UNSIGNED_SHORT w_UNSIGNED_CHAR (16 : Int32) (0 : Int32) (8 : Int32) (0 : Int32) w_BOOL w_SIGNED_CHAR w_UNSIGNED_CHAR w_SHORT w_UNSIGNED_SHORT w_INT w_UNSIGNED_INT w_LONG_LONG w_UNSIGNED_LONG_LONG h10 I (((((((((((E_w_UNSIGNED_SHORT.ext O0.2).ext E1).wr W2).wr W3).wr W4).wr W5).wr W6).wr W7).wr W8).wr W9).wr W10) (((((((((((F_w_UNSIGNED_SHORT_width.ext O0.2).ext E1).other W2 (Or.inl ne_w_UNSIGNED_SHORT_b1)).other W3 (Or.inl ne_w_UNSIGNED_SHORT_b1)).other W4 (Or.inl ne_w_UNSIGNED_SHORT_b1)).other W5 (Or.inl ne_w_UNSIGNED_SHORT_b1)).other W6 (Or.inl ne_w_UNSIGNED_SHORT_b1)).other W7 (Or.inl ne_w_UNSIGNED_SHORT_b1)).other W8 (Or.inl ne_w_UNSIGNED_SHORT_b1)).other W9 (Or.inl ne_w_UNSIGNED_SHORT_b1)).other W10 (Or.inl ne_w_UNSIGNED_SHORT_b1)) (((((((((((F_w_UNSIGNED_SHORT_signed.ext O0.2).ext E1).other W2 (Or.inl ne_w_UNSIGNED_SHORT_b1)).other W3 (Or.inl ne_w_UNSIGNED_SHORT_b1)).other W4 (Or.inl ne_w_UNSIGNED_SHORT_b1)).other W5 (Or.inl ne_w_UNSIGNED_SHORT_b1)).other W6 (Or.inl ne_w_UNSIGNED_SHORT_b1)).other W7 (Or.inl ne_w_UNSIGNED_SHORT_b1)).other W8 (Or.inl ne_w_UNSIGNED_SHORT_b1)).other W9 (Or.inl ne_w_UNSIGNED_SHORT_b1)).other W10 (Or.inl ne_w_UNSIGNED_SHORT_b1)) (((((((((((E_w_UNSIGNED_CHAR.ext O0.2).ext E1).wr W2).wr W3).wr W4).wr W5).wr W6).wr W7).wr W8).wr W9).wr W10) (((((((((((F_w_UNSIGNED_CHAR_width.ext O0.2).ext E1).other W2 (Or.inl ne_w_UNSIGNED_CHAR_b1)).other W3 (Or.inl ne_w_UNSIGNED_CHAR_b1)).other W4 (Or.inl ne_w_UNSIGNED_CHAR_b1)).other W5 (Or.inl ne_w_UNSIGNED_CHAR_b1)).other W6 (Or.inl ne_w_UNSIGNED_CHAR_b1)).other W7 (Or.inl ne_w_UNSIGNED_CHAR_b1)).other W8 (Or.inl ne_w_UNSIGNED_CHAR_b1)).other W9 (Or.inl ne_w_UNSIGNED_CHAR_b1)).other W10 (Or.inl ne_w_UNSIGNED_CHAR_b1)) (((((((((((F_w_UNSIGNED_CHAR_signed.ext O0.2).ext E1).other W2 (Or.inl ne_w_UNSIGNED_CHAR_b1)).other W3 (Or.inl ne_w_UNSIGNED_CHAR_b1)).other W4 (Or.inl ne_w_UNSIGNED_CHAR_b1)).other W5 (Or.inl ne_w_UNSIGNED_CHAR_b1)).other W6 (Or.inl ne_w_UNSIGNED_CHAR_b1)).other W7 (Or.inl ne_w_UNSIGNED_CHAR_b1)).other W8 (Or.inl ne_w_UNSIGNED_CHAR_b1)).other W9 (Or.inl ne_w_UNSIGNED_CHAR_b1)).other W10 (Or.inl ne_w_UNSIGNED_CHAR_b1)) (by decide) (by decide)) at_113 rfl (lenOf own_pd2 rfl) rfl rfl rfl (by decide) (by decide) rfl rfl (by decide) (by decide) (own_kv fun v283 h283 q283 => ?_)
      obtain ⟨rfl, e283⟩ := q283
      rw [e283]
      rw [show own_com w_INT w_UNSIGNED_SHORT (16 : Int32) (0 : Int32) w_UNSIGNED_CHAR (8 : Int32) (0 : Int32) = w_INT from by simp [own_com]]
      refine own_aload 118 rfl at_116 rfl rfl ?_
      refine own_acmpNo 121 rfl at_118 rfl rfl (own_teq (rfl : ((.ref w_INT) : Value) = (.ref w_INT))).2 ?_
      refine own_iconst 122 rfl (1 : Int32) at_121 rfl ?_
      refine own_goto 126 at_122 (by decide) (by decide) ?_
      refine own_retN rfl (by simp) at_126 (by decide) (by decide) ?_
      exact ⟨_, rfl, rfl⟩
    · have hin_j := (rfl : (3 : Int) = 3)
      refine own_iloadN 81 rfl at_80 rfl ?_
      refine own_iconst 82 rfl (5 : Int32) at_81 rfl ?_
      refine own_callS 85 rfl 1 9 0 [(.int (4 : Int32)), (.int (5 : Int32))] [] (y := (⟨"java/lang/Math", "max", "(II)I"⟩ : MethodName)) (hw _ (List.mem_of_getElem? (i := 23) rfl)) (hw _ (List.mem_of_getElem? (i := 24) rfl)) (hw _ (List.mem_of_getElem? (i := 25) rfl)) (hw _ (List.mem_of_getElem? (i := 26) rfl)) (by decide) (rm1 l Z a0 hw [] (4 : Int32) (5 : Int32)  h10 ) at_82 rfl (lenOf own_pd1 rfl) rfl rfl rfl (by decide) (by decide) rfl rfl (by decide) (by decide) (own_kv fun v284 h284 q284 => ?_)
      obtain ⟨rfl, e284⟩ := q284
      rw [e284]
      rw [show (if (4 : Int32) < (5 : Int32) then (5 : Int32) else (4 : Int32)) = (5 : Int32) from by decide]
      refine own_istore 87 rfl #[.val (.int p1), .val (.int p2), .val (.ref b1), .val (.int (4 : Int32)), .val (.int (3 : Int32)), .val (.int (5 : Int32)), .unset, .unset] at_85 rfl ?_
      refine own_iload 89 rfl at_87 rfl ?_
      refine own_iconst 90 rfl (5 : Int32) at_89 rfl ?_
      refine own_callS 93 rfl 1 9 0 [(.int (3 : Int32)), (.int (5 : Int32))] [] (y := (⟨"java/lang/Math", "max", "(II)I"⟩ : MethodName)) (hw _ (List.mem_of_getElem? (i := 23) rfl)) (hw _ (List.mem_of_getElem? (i := 24) rfl)) (hw _ (List.mem_of_getElem? (i := 25) rfl)) (hw _ (List.mem_of_getElem? (i := 26) rfl)) (by decide) (rm1 l Z a0 hw [] (3 : Int32) (5 : Int32)  h10 ) at_90 rfl (lenOf own_pd1 rfl) rfl rfl rfl (by decide) (by decide) rfl rfl (by decide) (by decide) (own_kv fun v285 h285 q285 => ?_)
      obtain ⟨rfl, e285⟩ := q285
      rw [e285]
      rw [show (if (3 : Int32) < (5 : Int32) then (5 : Int32) else (3 : Int32)) = (5 : Int32) from by decide]
      refine own_istore 95 rfl #[.val (.int p1), .val (.int p2), .val (.ref b1), .val (.int (4 : Int32)), .val (.int (3 : Int32)), .val (.int (5 : Int32)), .val (.int (5 : Int32)), .unset] at_93 rfl ?_
      refine own_aloadN 96 rfl at_95 rfl rfl ?_
      refine own_iload 98 rfl at_96 rfl ?_
      refine own_iload 100 rfl at_98 rfl ?_
      refine own_callS 103 rfl 1 9 1 [(.int (5 : Int32)), (.int (5 : Int32))] [(.ref b1)] (y := (⟨"java/lang/Math", "max", "(II)I"⟩ : MethodName)) (hw _ (List.mem_of_getElem? (i := 23) rfl)) (hw _ (List.mem_of_getElem? (i := 24) rfl)) (hw _ (List.mem_of_getElem? (i := 25) rfl)) (hw _ (List.mem_of_getElem? (i := 26) rfl)) (by decide) (rm1 l Z a0 hw [] (5 : Int32) (5 : Int32)  h10 ) at_100 rfl (lenOf own_pd1 rfl) rfl rfl rfl (by decide) (by decide) rfl rfl (by decide) (by decide) (own_kv fun v286 h286 q286 => ?_)
      obtain ⟨rfl, e286⟩ := q286
      rw [e286]
      rw [show (if (5 : Int32) < (5 : Int32) then (5 : Int32) else (5 : Int32)) = (5 : Int32) from by decide]
      obtain ⟨c287, A287, q287, S287, N287, H287, G287⟩ := id V10
      refine own_aaload 104 rfl A287 rfl (inb_of S287 ⟨by decide, by decide⟩) (Has.at H287 (inb_of S287 ⟨by decide, by decide⟩) rfl) at_103 ?_
      refine own_astore 106 rfl #[.val (.int p1), .val (.int p2), .val (.ref b1), .val (.int (4 : Int32)), .val (.int (3 : Int32)), .val (.int (5 : Int32)), .val (.int (5 : Int32)), .val (.ref w_INT)] at_104 rfl rfl ?_
      refine own_aloadN 107 rfl at_106 rfl rfl ?_
      refine own_iloadN 108 rfl at_107 rfl ?_
      obtain ⟨c288, A288, q288, S288, N288, H288, G288⟩ := id V10
      refine own_aaload 109 rfl A288 rfl (inb_of S288 ⟨by decide, by decide⟩) (Has.at H288 (inb_of S288 ⟨by decide, by decide⟩) rfl) at_108 ?_
      refine own_aloadN 110 rfl at_109 rfl rfl ?_
      refine own_iload 112 rfl at_110 rfl ?_
      obtain ⟨c289, A289, q289, S289, N289, H289, G289⟩ := id V10
      refine own_aaload 113 rfl A289 rfl (inb_of S289 ⟨by decide, by decide⟩) (Has.at H289 (inb_of S289 ⟨by decide, by decide⟩) rfl) at_112 ?_
      refine own_callS 116 rfl 1 9 0 [(.ref w_UNSIGNED_SHORT), (.ref w_SHORT)] [] (y := (⟨"com/example/counterpath/counterpath/cfa/Type", "common", "(Lcom/example/counterpath/counterpath/cfa/Type;Lcom/example/counterpath/counterpath/cfa/Type;)Lcom/example/counterpath/counterpath/cfa/Type;"⟩ : MethodName)) (hw _ (List.mem_of_getElem? (i := 27) rfl)) (hw _ (List.mem_of_getElem? (i := 28) rfl)) (hw _ (List.mem_of_getElem? (i := 3) rfl)) (hw _ (List.mem_of_getElem? (i := 29) rfl)) (by decide) (rm2 l Z a0 hw [] w_UNSIGNED_SHORT w_SHORT (16 : Int32) (0 : Int32) (16 : Int32) (1 : Int32) w_BOOL w_SIGNED_CHAR w_UNSIGNED_CHAR w_SHORT w_UNSIGNED_SHORT w_INT w_UNSIGNED_INT w_LONG_LONG w_UNSIGNED_LONG_LONG h10 I (((((((((((E_w_UNSIGNED_SHORT.ext O0.2).ext E1).wr W2).wr W3).wr W4).wr W5).wr W6).wr W7).wr W8).wr W9).wr W10) (((((((((((F_w_UNSIGNED_SHORT_width.ext O0.2).ext E1).other W2 (Or.inl ne_w_UNSIGNED_SHORT_b1)).other W3 (Or.inl ne_w_UNSIGNED_SHORT_b1)).other W4 (Or.inl ne_w_UNSIGNED_SHORT_b1)).other W5 (Or.inl ne_w_UNSIGNED_SHORT_b1)).other W6 (Or.inl ne_w_UNSIGNED_SHORT_b1)).other W7 (Or.inl ne_w_UNSIGNED_SHORT_b1)).other W8 (Or.inl ne_w_UNSIGNED_SHORT_b1)).other W9 (Or.inl ne_w_UNSIGNED_SHORT_b1)).other W10 (Or.inl ne_w_UNSIGNED_SHORT_b1)) (((((((((((F_w_UNSIGNED_SHORT_signed.ext O0.2).ext E1).other W2 (Or.inl ne_w_UNSIGNED_SHORT_b1)).other W3 (Or.inl ne_w_UNSIGNED_SHORT_b1)).other W4 (Or.inl ne_w_UNSIGNED_SHORT_b1)).other W5 (Or.inl ne_w_UNSIGNED_SHORT_b1)).other W6 (Or.inl ne_w_UNSIGNED_SHORT_b1)).other W7 (Or.inl ne_w_UNSIGNED_SHORT_b1)).other W8 (Or.inl ne_w_UNSIGNED_SHORT_b1)).other W9 (Or.inl ne_w_UNSIGNED_SHORT_b1)).other W10 (Or.inl ne_w_UNSIGNED_SHORT_b1)) (((((((((((E_w_SHORT.ext O0.2).ext E1).wr W2).wr W3).wr W4).wr W5).wr W6).wr W7).wr W8).wr W9).wr W10) (((((((((((F_w_SHORT_width.ext O0.2).ext E1).other W2 (Or.inl ne_w_SHORT_b1)).other W3 (Or.inl ne_w_SHORT_b1)).other W4 (Or.inl ne_w_SHORT_b1)).other W5 (Or.inl ne_w_SHORT_b1)).other W6 (Or.inl ne_w_SHORT_b1)).other W7 (Or.inl ne_w_SHORT_b1)).other W8 (Or.inl ne_w_SHORT_b1)).other W9 (Or.inl ne_w_SHORT_b1)).other W10 (Or.inl ne_w_SHORT_b1)) (((((((((((F_w_SHORT_signed.ext O0.2).ext E1).other W2 (Or.inl ne_w_SHORT_b1)).other W3 (Or.inl ne_w_SHORT_b1)).other W4 (Or.inl ne_w_SHORT_b1)).other W5 (Or.inl ne_w_SHORT_b1)).other W6 (Or.inl ne_w_SHORT_b1)).other W7 (Or.inl ne_w_SHORT_b1)).other W8 (Or.inl ne_w_SHORT_b1)).other W9 (Or.inl ne_w_SHORT_b1)).other W10 (Or.inl ne_w_SHORT_b1)) (by decide) (by decide)) at_113 rfl (lenOf own_pd2 rfl) rfl rfl rfl (by decide) (by decide) rfl rfl (by decide) (by decide) (own_kv fun v290 h290 q290 => ?_)
      obtain ⟨rfl, e290⟩ := q290
      rw [e290]
      rw [show own_com w_INT w_UNSIGNED_SHORT (16 : Int32) (0 : Int32) w_SHORT (16 : Int32) (1 : Int32) = w_INT from by simp [own_com]]
      refine own_aload 118 rfl at_116 rfl rfl ?_
      refine own_acmpNo 121 rfl at_118 rfl rfl (own_teq (rfl : ((.ref w_INT) : Value) = (.ref w_INT))).2 ?_
      refine own_iconst 122 rfl (1 : Int32) at_121 rfl ?_
      refine own_goto 126 at_122 (by decide) (by decide) ?_
      refine own_retN rfl (by simp) at_126 (by decide) (by decide) ?_
      exact ⟨_, rfl, rfl⟩
    · have hin_j := (rfl : (4 : Int) = 4)
      refine own_iloadN 81 rfl at_80 rfl ?_
      refine own_iconst 82 rfl (5 : Int32) at_81 rfl ?_
      refine own_callS 85 rfl 1 9 0 [(.int (4 : Int32)), (.int (5 : Int32))] [] (y := (⟨"java/lang/Math", "max", "(II)I"⟩ : MethodName)) (hw _ (List.mem_of_getElem? (i := 23) rfl)) (hw _ (List.mem_of_getElem? (i := 24) rfl)) (hw _ (List.mem_of_getElem? (i := 25) rfl)) (hw _ (List.mem_of_getElem? (i := 26) rfl)) (by decide) (rm1 l Z a0 hw [] (4 : Int32) (5 : Int32)  h10 ) at_82 rfl (lenOf own_pd1 rfl) rfl rfl rfl (by decide) (by decide) rfl rfl (by decide) (by decide) (own_kv fun v291 h291 q291 => ?_)
      obtain ⟨rfl, e291⟩ := q291
      rw [e291]
      rw [show (if (4 : Int32) < (5 : Int32) then (5 : Int32) else (4 : Int32)) = (5 : Int32) from by decide]
      refine own_istore 87 rfl #[.val (.int p1), .val (.int p2), .val (.ref b1), .val (.int (4 : Int32)), .val (.int (4 : Int32)), .val (.int (5 : Int32)), .unset, .unset] at_85 rfl ?_
      refine own_iload 89 rfl at_87 rfl ?_
      refine own_iconst 90 rfl (5 : Int32) at_89 rfl ?_
      refine own_callS 93 rfl 1 9 0 [(.int (4 : Int32)), (.int (5 : Int32))] [] (y := (⟨"java/lang/Math", "max", "(II)I"⟩ : MethodName)) (hw _ (List.mem_of_getElem? (i := 23) rfl)) (hw _ (List.mem_of_getElem? (i := 24) rfl)) (hw _ (List.mem_of_getElem? (i := 25) rfl)) (hw _ (List.mem_of_getElem? (i := 26) rfl)) (by decide) (rm1 l Z a0 hw [] (4 : Int32) (5 : Int32)  h10 ) at_90 rfl (lenOf own_pd1 rfl) rfl rfl rfl (by decide) (by decide) rfl rfl (by decide) (by decide) (own_kv fun v292 h292 q292 => ?_)
      obtain ⟨rfl, e292⟩ := q292
      rw [e292]
      rw [show (if (4 : Int32) < (5 : Int32) then (5 : Int32) else (4 : Int32)) = (5 : Int32) from by decide]
      refine own_istore 95 rfl #[.val (.int p1), .val (.int p2), .val (.ref b1), .val (.int (4 : Int32)), .val (.int (4 : Int32)), .val (.int (5 : Int32)), .val (.int (5 : Int32)), .unset] at_93 rfl ?_
      refine own_aloadN 96 rfl at_95 rfl rfl ?_
      refine own_iload 98 rfl at_96 rfl ?_
      refine own_iload 100 rfl at_98 rfl ?_
      refine own_callS 103 rfl 1 9 1 [(.int (5 : Int32)), (.int (5 : Int32))] [(.ref b1)] (y := (⟨"java/lang/Math", "max", "(II)I"⟩ : MethodName)) (hw _ (List.mem_of_getElem? (i := 23) rfl)) (hw _ (List.mem_of_getElem? (i := 24) rfl)) (hw _ (List.mem_of_getElem? (i := 25) rfl)) (hw _ (List.mem_of_getElem? (i := 26) rfl)) (by decide) (rm1 l Z a0 hw [] (5 : Int32) (5 : Int32)  h10 ) at_100 rfl (lenOf own_pd1 rfl) rfl rfl rfl (by decide) (by decide) rfl rfl (by decide) (by decide) (own_kv fun v293 h293 q293 => ?_)
      obtain ⟨rfl, e293⟩ := q293
      rw [e293]
      rw [show (if (5 : Int32) < (5 : Int32) then (5 : Int32) else (5 : Int32)) = (5 : Int32) from by decide]
      obtain ⟨c294, A294, q294, S294, N294, H294, G294⟩ := id V10
      refine own_aaload 104 rfl A294 rfl (inb_of S294 ⟨by decide, by decide⟩) (Has.at H294 (inb_of S294 ⟨by decide, by decide⟩) rfl) at_103 ?_
      refine own_astore 106 rfl #[.val (.int p1), .val (.int p2), .val (.ref b1), .val (.int (4 : Int32)), .val (.int (4 : Int32)), .val (.int (5 : Int32)), .val (.int (5 : Int32)), .val (.ref w_INT)] at_104 rfl rfl ?_
      refine own_aloadN 107 rfl at_106 rfl rfl ?_
      refine own_iloadN 108 rfl at_107 rfl ?_
      obtain ⟨c295, A295, q295, S295, N295, H295, G295⟩ := id V10
      refine own_aaload 109 rfl A295 rfl (inb_of S295 ⟨by decide, by decide⟩) (Has.at H295 (inb_of S295 ⟨by decide, by decide⟩) rfl) at_108 ?_
      refine own_aloadN 110 rfl at_109 rfl rfl ?_
      refine own_iload 112 rfl at_110 rfl ?_
      obtain ⟨c296, A296, q296, S296, N296, H296, G296⟩ := id V10
      refine own_aaload 113 rfl A296 rfl (inb_of S296 ⟨by decide, by decide⟩) (Has.at H296 (inb_of S296 ⟨by decide, by decide⟩) rfl) at_112 ?_
      refine own_callS 116 rfl 1 9 0 [(.ref w_UNSIGNED_SHORT), (.ref w_UNSIGNED_SHORT)] [] (y := (⟨"com/example/counterpath/counterpath/cfa/Type", "common", "(Lcom/example/counterpath/counterpath/cfa/Type;Lcom/example/counterpath/counterpath/cfa/Type;)Lcom/example/counterpath/counterpath/cfa/Type;"⟩ : MethodName)) (hw _ (List.mem_of_getElem? (i := 27) rfl)) (hw _ (List.mem_of_getElem? (i := 28) rfl)) (hw _ (List.mem_of_getElem? (i := 3) rfl)) (hw _ (List.mem_of_getElem? (i := 29) rfl)) (by decide) (rm2 l Z a0 hw [] w_UNSIGNED_SHORT w_UNSIGNED_SHORT (16 : Int32) (0 : Int32) (16 : Int32) (0 : Int32) w_BOOL w_SIGNED_CHAR w_UNSIGNED_CHAR w_SHORT w_UNSIGNED_SHORT w_INT w_UNSIGNED_INT w_LONG_LONG w_UNSIGNED_LONG_LONG h10 I (((((((((((E_w_UNSIGNED_SHORT.ext O0.2).ext E1).wr W2).wr W3).wr W4).wr W5).wr W6).wr W7).wr W8).wr W9).wr W10) (((((((((((F_w_UNSIGNED_SHORT_width.ext O0.2).ext E1).other W2 (Or.inl ne_w_UNSIGNED_SHORT_b1)).other W3 (Or.inl ne_w_UNSIGNED_SHORT_b1)).other W4 (Or.inl ne_w_UNSIGNED_SHORT_b1)).other W5 (Or.inl ne_w_UNSIGNED_SHORT_b1)).other W6 (Or.inl ne_w_UNSIGNED_SHORT_b1)).other W7 (Or.inl ne_w_UNSIGNED_SHORT_b1)).other W8 (Or.inl ne_w_UNSIGNED_SHORT_b1)).other W9 (Or.inl ne_w_UNSIGNED_SHORT_b1)).other W10 (Or.inl ne_w_UNSIGNED_SHORT_b1)) (((((((((((F_w_UNSIGNED_SHORT_signed.ext O0.2).ext E1).other W2 (Or.inl ne_w_UNSIGNED_SHORT_b1)).other W3 (Or.inl ne_w_UNSIGNED_SHORT_b1)).other W4 (Or.inl ne_w_UNSIGNED_SHORT_b1)).other W5 (Or.inl ne_w_UNSIGNED_SHORT_b1)).other W6 (Or.inl ne_w_UNSIGNED_SHORT_b1)).other W7 (Or.inl ne_w_UNSIGNED_SHORT_b1)).other W8 (Or.inl ne_w_UNSIGNED_SHORT_b1)).other W9 (Or.inl ne_w_UNSIGNED_SHORT_b1)).other W10 (Or.inl ne_w_UNSIGNED_SHORT_b1)) (((((((((((E_w_UNSIGNED_SHORT.ext O0.2).ext E1).wr W2).wr W3).wr W4).wr W5).wr W6).wr W7).wr W8).wr W9).wr W10) (((((((((((F_w_UNSIGNED_SHORT_width.ext O0.2).ext E1).other W2 (Or.inl ne_w_UNSIGNED_SHORT_b1)).other W3 (Or.inl ne_w_UNSIGNED_SHORT_b1)).other W4 (Or.inl ne_w_UNSIGNED_SHORT_b1)).other W5 (Or.inl ne_w_UNSIGNED_SHORT_b1)).other W6 (Or.inl ne_w_UNSIGNED_SHORT_b1)).other W7 (Or.inl ne_w_UNSIGNED_SHORT_b1)).other W8 (Or.inl ne_w_UNSIGNED_SHORT_b1)).other W9 (Or.inl ne_w_UNSIGNED_SHORT_b1)).other W10 (Or.inl ne_w_UNSIGNED_SHORT_b1)) (((((((((((F_w_UNSIGNED_SHORT_signed.ext O0.2).ext E1).other W2 (Or.inl ne_w_UNSIGNED_SHORT_b1)).other W3 (Or.inl ne_w_UNSIGNED_SHORT_b1)).other W4 (Or.inl ne_w_UNSIGNED_SHORT_b1)).other W5 (Or.inl ne_w_UNSIGNED_SHORT_b1)).other W6 (Or.inl ne_w_UNSIGNED_SHORT_b1)).other W7 (Or.inl ne_w_UNSIGNED_SHORT_b1)).other W8 (Or.inl ne_w_UNSIGNED_SHORT_b1)).other W9 (Or.inl ne_w_UNSIGNED_SHORT_b1)).other W10 (Or.inl ne_w_UNSIGNED_SHORT_b1)) (by decide) (by decide)) at_113 rfl (lenOf own_pd2 rfl) rfl rfl rfl (by decide) (by decide) rfl rfl (by decide) (by decide) (own_kv fun v297 h297 q297 => ?_)
      obtain ⟨rfl, e297⟩ := q297
      rw [e297]
      rw [show own_com w_INT w_UNSIGNED_SHORT (16 : Int32) (0 : Int32) w_UNSIGNED_SHORT (16 : Int32) (0 : Int32) = w_INT from by simp [own_com]]
      refine own_aload 118 rfl at_116 rfl rfl ?_
      refine own_acmpNo 121 rfl at_118 rfl rfl (own_teq (rfl : ((.ref w_INT) : Value) = (.ref w_INT))).2 ?_
      refine own_iconst 122 rfl (1 : Int32) at_121 rfl ?_
      refine own_goto 126 at_122 (by decide) (by decide) ?_
      refine own_retN rfl (by simp) at_126 (by decide) (by decide) ?_
      exact ⟨_, rfl, rfl⟩
    · have hin_j := (rfl : (5 : Int) = 5)
      refine own_iloadN 81 rfl at_80 rfl ?_
      refine own_iconst 82 rfl (5 : Int32) at_81 rfl ?_
      refine own_callS 85 rfl 1 9 0 [(.int (4 : Int32)), (.int (5 : Int32))] [] (y := (⟨"java/lang/Math", "max", "(II)I"⟩ : MethodName)) (hw _ (List.mem_of_getElem? (i := 23) rfl)) (hw _ (List.mem_of_getElem? (i := 24) rfl)) (hw _ (List.mem_of_getElem? (i := 25) rfl)) (hw _ (List.mem_of_getElem? (i := 26) rfl)) (by decide) (rm1 l Z a0 hw [] (4 : Int32) (5 : Int32)  h10 ) at_82 rfl (lenOf own_pd1 rfl) rfl rfl rfl (by decide) (by decide) rfl rfl (by decide) (by decide) (own_kv fun v298 h298 q298 => ?_)
      obtain ⟨rfl, e298⟩ := q298
      rw [e298]
      rw [show (if (4 : Int32) < (5 : Int32) then (5 : Int32) else (4 : Int32)) = (5 : Int32) from by decide]
      refine own_istore 87 rfl #[.val (.int p1), .val (.int p2), .val (.ref b1), .val (.int (4 : Int32)), .val (.int (5 : Int32)), .val (.int (5 : Int32)), .unset, .unset] at_85 rfl ?_
      refine own_iload 89 rfl at_87 rfl ?_
      refine own_iconst 90 rfl (5 : Int32) at_89 rfl ?_
      refine own_callS 93 rfl 1 9 0 [(.int (5 : Int32)), (.int (5 : Int32))] [] (y := (⟨"java/lang/Math", "max", "(II)I"⟩ : MethodName)) (hw _ (List.mem_of_getElem? (i := 23) rfl)) (hw _ (List.mem_of_getElem? (i := 24) rfl)) (hw _ (List.mem_of_getElem? (i := 25) rfl)) (hw _ (List.mem_of_getElem? (i := 26) rfl)) (by decide) (rm1 l Z a0 hw [] (5 : Int32) (5 : Int32)  h10 ) at_90 rfl (lenOf own_pd1 rfl) rfl rfl rfl (by decide) (by decide) rfl rfl (by decide) (by decide) (own_kv fun v299 h299 q299 => ?_)
      obtain ⟨rfl, e299⟩ := q299
      rw [e299]
      rw [show (if (5 : Int32) < (5 : Int32) then (5 : Int32) else (5 : Int32)) = (5 : Int32) from by decide]
      refine own_istore 95 rfl #[.val (.int p1), .val (.int p2), .val (.ref b1), .val (.int (4 : Int32)), .val (.int (5 : Int32)), .val (.int (5 : Int32)), .val (.int (5 : Int32)), .unset] at_93 rfl ?_
      refine own_aloadN 96 rfl at_95 rfl rfl ?_
      refine own_iload 98 rfl at_96 rfl ?_
      refine own_iload 100 rfl at_98 rfl ?_
      refine own_callS 103 rfl 1 9 1 [(.int (5 : Int32)), (.int (5 : Int32))] [(.ref b1)] (y := (⟨"java/lang/Math", "max", "(II)I"⟩ : MethodName)) (hw _ (List.mem_of_getElem? (i := 23) rfl)) (hw _ (List.mem_of_getElem? (i := 24) rfl)) (hw _ (List.mem_of_getElem? (i := 25) rfl)) (hw _ (List.mem_of_getElem? (i := 26) rfl)) (by decide) (rm1 l Z a0 hw [] (5 : Int32) (5 : Int32)  h10 ) at_100 rfl (lenOf own_pd1 rfl) rfl rfl rfl (by decide) (by decide) rfl rfl (by decide) (by decide) (own_kv fun v300 h300 q300 => ?_)
      obtain ⟨rfl, e300⟩ := q300
      rw [e300]
      rw [show (if (5 : Int32) < (5 : Int32) then (5 : Int32) else (5 : Int32)) = (5 : Int32) from by decide]
      obtain ⟨c301, A301, q301, S301, N301, H301, G301⟩ := id V10
      refine own_aaload 104 rfl A301 rfl (inb_of S301 ⟨by decide, by decide⟩) (Has.at H301 (inb_of S301 ⟨by decide, by decide⟩) rfl) at_103 ?_
      refine own_astore 106 rfl #[.val (.int p1), .val (.int p2), .val (.ref b1), .val (.int (4 : Int32)), .val (.int (5 : Int32)), .val (.int (5 : Int32)), .val (.int (5 : Int32)), .val (.ref w_INT)] at_104 rfl rfl ?_
      refine own_aloadN 107 rfl at_106 rfl rfl ?_
      refine own_iloadN 108 rfl at_107 rfl ?_
      obtain ⟨c302, A302, q302, S302, N302, H302, G302⟩ := id V10
      refine own_aaload 109 rfl A302 rfl (inb_of S302 ⟨by decide, by decide⟩) (Has.at H302 (inb_of S302 ⟨by decide, by decide⟩) rfl) at_108 ?_
      refine own_aloadN 110 rfl at_109 rfl rfl ?_
      refine own_iload 112 rfl at_110 rfl ?_
      obtain ⟨c303, A303, q303, S303, N303, H303, G303⟩ := id V10
      refine own_aaload 113 rfl A303 rfl (inb_of S303 ⟨by decide, by decide⟩) (Has.at H303 (inb_of S303 ⟨by decide, by decide⟩) rfl) at_112 ?_
      refine own_callS 116 rfl 1 9 0 [(.ref w_UNSIGNED_SHORT), (.ref w_INT)] [] (y := (⟨"com/example/counterpath/counterpath/cfa/Type", "common", "(Lcom/example/counterpath/counterpath/cfa/Type;Lcom/example/counterpath/counterpath/cfa/Type;)Lcom/example/counterpath/counterpath/cfa/Type;"⟩ : MethodName)) (hw _ (List.mem_of_getElem? (i := 27) rfl)) (hw _ (List.mem_of_getElem? (i := 28) rfl)) (hw _ (List.mem_of_getElem? (i := 3) rfl)) (hw _ (List.mem_of_getElem? (i := 29) rfl)) (by decide) (rm2 l Z a0 hw [] w_UNSIGNED_SHORT w_INT (16 : Int32) (0 : Int32) (32 : Int32) (1 : Int32) w_BOOL w_SIGNED_CHAR w_UNSIGNED_CHAR w_SHORT w_UNSIGNED_SHORT w_INT w_UNSIGNED_INT w_LONG_LONG w_UNSIGNED_LONG_LONG h10 I (((((((((((E_w_UNSIGNED_SHORT.ext O0.2).ext E1).wr W2).wr W3).wr W4).wr W5).wr W6).wr W7).wr W8).wr W9).wr W10) (((((((((((F_w_UNSIGNED_SHORT_width.ext O0.2).ext E1).other W2 (Or.inl ne_w_UNSIGNED_SHORT_b1)).other W3 (Or.inl ne_w_UNSIGNED_SHORT_b1)).other W4 (Or.inl ne_w_UNSIGNED_SHORT_b1)).other W5 (Or.inl ne_w_UNSIGNED_SHORT_b1)).other W6 (Or.inl ne_w_UNSIGNED_SHORT_b1)).other W7 (Or.inl ne_w_UNSIGNED_SHORT_b1)).other W8 (Or.inl ne_w_UNSIGNED_SHORT_b1)).other W9 (Or.inl ne_w_UNSIGNED_SHORT_b1)).other W10 (Or.inl ne_w_UNSIGNED_SHORT_b1)) (((((((((((F_w_UNSIGNED_SHORT_signed.ext O0.2).ext E1).other W2 (Or.inl ne_w_UNSIGNED_SHORT_b1)).other W3 (Or.inl ne_w_UNSIGNED_SHORT_b1)).other W4 (Or.inl ne_w_UNSIGNED_SHORT_b1)).other W5 (Or.inl ne_w_UNSIGNED_SHORT_b1)).other W6 (Or.inl ne_w_UNSIGNED_SHORT_b1)).other W7 (Or.inl ne_w_UNSIGNED_SHORT_b1)).other W8 (Or.inl ne_w_UNSIGNED_SHORT_b1)).other W9 (Or.inl ne_w_UNSIGNED_SHORT_b1)).other W10 (Or.inl ne_w_UNSIGNED_SHORT_b1)) (((((((((((E_w_INT.ext O0.2).ext E1).wr W2).wr W3).wr W4).wr W5).wr W6).wr W7).wr W8).wr W9).wr W10) (((((((((((F_w_INT_width.ext O0.2).ext E1).other W2 (Or.inl ne_w_INT_b1)).other W3 (Or.inl ne_w_INT_b1)).other W4 (Or.inl ne_w_INT_b1)).other W5 (Or.inl ne_w_INT_b1)).other W6 (Or.inl ne_w_INT_b1)).other W7 (Or.inl ne_w_INT_b1)).other W8 (Or.inl ne_w_INT_b1)).other W9 (Or.inl ne_w_INT_b1)).other W10 (Or.inl ne_w_INT_b1)) (((((((((((F_w_INT_signed.ext O0.2).ext E1).other W2 (Or.inl ne_w_INT_b1)).other W3 (Or.inl ne_w_INT_b1)).other W4 (Or.inl ne_w_INT_b1)).other W5 (Or.inl ne_w_INT_b1)).other W6 (Or.inl ne_w_INT_b1)).other W7 (Or.inl ne_w_INT_b1)).other W8 (Or.inl ne_w_INT_b1)).other W9 (Or.inl ne_w_INT_b1)).other W10 (Or.inl ne_w_INT_b1)) (by decide) (by decide)) at_113 rfl (lenOf own_pd2 rfl) rfl rfl rfl (by decide) (by decide) rfl rfl (by decide) (by decide) (own_kv fun v304 h304 q304 => ?_)
      obtain ⟨rfl, e304⟩ := q304
      rw [e304]
      rw [show own_com w_INT w_UNSIGNED_SHORT (16 : Int32) (0 : Int32) w_INT (32 : Int32) (1 : Int32) = w_INT from by simp [own_com]]
      refine own_aload 118 rfl at_116 rfl rfl ?_
      refine own_acmpNo 121 rfl at_118 rfl rfl (own_teq (rfl : ((.ref w_INT) : Value) = (.ref w_INT))).2 ?_
      refine own_iconst 122 rfl (1 : Int32) at_121 rfl ?_
      refine own_goto 126 at_122 (by decide) (by decide) ?_
      refine own_retN rfl (by simp) at_126 (by decide) (by decide) ?_
      exact ⟨_, rfl, rfl⟩
    · have hin_j := (rfl : (6 : Int) = 6)
      refine own_iloadN 81 rfl at_80 rfl ?_
      refine own_iconst 82 rfl (5 : Int32) at_81 rfl ?_
      refine own_callS 85 rfl 1 9 0 [(.int (4 : Int32)), (.int (5 : Int32))] [] (y := (⟨"java/lang/Math", "max", "(II)I"⟩ : MethodName)) (hw _ (List.mem_of_getElem? (i := 23) rfl)) (hw _ (List.mem_of_getElem? (i := 24) rfl)) (hw _ (List.mem_of_getElem? (i := 25) rfl)) (hw _ (List.mem_of_getElem? (i := 26) rfl)) (by decide) (rm1 l Z a0 hw [] (4 : Int32) (5 : Int32)  h10 ) at_82 rfl (lenOf own_pd1 rfl) rfl rfl rfl (by decide) (by decide) rfl rfl (by decide) (by decide) (own_kv fun v305 h305 q305 => ?_)
      obtain ⟨rfl, e305⟩ := q305
      rw [e305]
      rw [show (if (4 : Int32) < (5 : Int32) then (5 : Int32) else (4 : Int32)) = (5 : Int32) from by decide]
      refine own_istore 87 rfl #[.val (.int p1), .val (.int p2), .val (.ref b1), .val (.int (4 : Int32)), .val (.int (6 : Int32)), .val (.int (5 : Int32)), .unset, .unset] at_85 rfl ?_
      refine own_iload 89 rfl at_87 rfl ?_
      refine own_iconst 90 rfl (5 : Int32) at_89 rfl ?_
      refine own_callS 93 rfl 1 9 0 [(.int (6 : Int32)), (.int (5 : Int32))] [] (y := (⟨"java/lang/Math", "max", "(II)I"⟩ : MethodName)) (hw _ (List.mem_of_getElem? (i := 23) rfl)) (hw _ (List.mem_of_getElem? (i := 24) rfl)) (hw _ (List.mem_of_getElem? (i := 25) rfl)) (hw _ (List.mem_of_getElem? (i := 26) rfl)) (by decide) (rm1 l Z a0 hw [] (6 : Int32) (5 : Int32)  h10 ) at_90 rfl (lenOf own_pd1 rfl) rfl rfl rfl (by decide) (by decide) rfl rfl (by decide) (by decide) (own_kv fun v306 h306 q306 => ?_)
      obtain ⟨rfl, e306⟩ := q306
      rw [e306]
      rw [show (if (6 : Int32) < (5 : Int32) then (5 : Int32) else (6 : Int32)) = (6 : Int32) from by decide]
      refine own_istore 95 rfl #[.val (.int p1), .val (.int p2), .val (.ref b1), .val (.int (4 : Int32)), .val (.int (6 : Int32)), .val (.int (5 : Int32)), .val (.int (6 : Int32)), .unset] at_93 rfl ?_
      refine own_aloadN 96 rfl at_95 rfl rfl ?_
      refine own_iload 98 rfl at_96 rfl ?_
      refine own_iload 100 rfl at_98 rfl ?_
      refine own_callS 103 rfl 1 9 1 [(.int (5 : Int32)), (.int (6 : Int32))] [(.ref b1)] (y := (⟨"java/lang/Math", "max", "(II)I"⟩ : MethodName)) (hw _ (List.mem_of_getElem? (i := 23) rfl)) (hw _ (List.mem_of_getElem? (i := 24) rfl)) (hw _ (List.mem_of_getElem? (i := 25) rfl)) (hw _ (List.mem_of_getElem? (i := 26) rfl)) (by decide) (rm1 l Z a0 hw [] (5 : Int32) (6 : Int32)  h10 ) at_100 rfl (lenOf own_pd1 rfl) rfl rfl rfl (by decide) (by decide) rfl rfl (by decide) (by decide) (own_kv fun v307 h307 q307 => ?_)
      obtain ⟨rfl, e307⟩ := q307
      rw [e307]
      rw [show (if (5 : Int32) < (6 : Int32) then (6 : Int32) else (5 : Int32)) = (6 : Int32) from by decide]
      obtain ⟨c308, A308, q308, S308, N308, H308, G308⟩ := id V10
      refine own_aaload 104 rfl A308 rfl (inb_of S308 ⟨by decide, by decide⟩) (Has.at H308 (inb_of S308 ⟨by decide, by decide⟩) rfl) at_103 ?_
      refine own_astore 106 rfl #[.val (.int p1), .val (.int p2), .val (.ref b1), .val (.int (4 : Int32)), .val (.int (6 : Int32)), .val (.int (5 : Int32)), .val (.int (6 : Int32)), .val (.ref w_UNSIGNED_INT)] at_104 rfl rfl ?_
      refine own_aloadN 107 rfl at_106 rfl rfl ?_
      refine own_iloadN 108 rfl at_107 rfl ?_
      obtain ⟨c309, A309, q309, S309, N309, H309, G309⟩ := id V10
      refine own_aaload 109 rfl A309 rfl (inb_of S309 ⟨by decide, by decide⟩) (Has.at H309 (inb_of S309 ⟨by decide, by decide⟩) rfl) at_108 ?_
      refine own_aloadN 110 rfl at_109 rfl rfl ?_
      refine own_iload 112 rfl at_110 rfl ?_
      obtain ⟨c310, A310, q310, S310, N310, H310, G310⟩ := id V10
      refine own_aaload 113 rfl A310 rfl (inb_of S310 ⟨by decide, by decide⟩) (Has.at H310 (inb_of S310 ⟨by decide, by decide⟩) rfl) at_112 ?_
      refine own_callS 116 rfl 1 9 0 [(.ref w_UNSIGNED_SHORT), (.ref w_UNSIGNED_INT)] [] (y := (⟨"com/example/counterpath/counterpath/cfa/Type", "common", "(Lcom/example/counterpath/counterpath/cfa/Type;Lcom/example/counterpath/counterpath/cfa/Type;)Lcom/example/counterpath/counterpath/cfa/Type;"⟩ : MethodName)) (hw _ (List.mem_of_getElem? (i := 27) rfl)) (hw _ (List.mem_of_getElem? (i := 28) rfl)) (hw _ (List.mem_of_getElem? (i := 3) rfl)) (hw _ (List.mem_of_getElem? (i := 29) rfl)) (by decide) (rm2 l Z a0 hw [] w_UNSIGNED_SHORT w_UNSIGNED_INT (16 : Int32) (0 : Int32) (32 : Int32) (0 : Int32) w_BOOL w_SIGNED_CHAR w_UNSIGNED_CHAR w_SHORT w_UNSIGNED_SHORT w_INT w_UNSIGNED_INT w_LONG_LONG w_UNSIGNED_LONG_LONG h10 I (((((((((((E_w_UNSIGNED_SHORT.ext O0.2).ext E1).wr W2).wr W3).wr W4).wr W5).wr W6).wr W7).wr W8).wr W9).wr W10) (((((((((((F_w_UNSIGNED_SHORT_width.ext O0.2).ext E1).other W2 (Or.inl ne_w_UNSIGNED_SHORT_b1)).other W3 (Or.inl ne_w_UNSIGNED_SHORT_b1)).other W4 (Or.inl ne_w_UNSIGNED_SHORT_b1)).other W5 (Or.inl ne_w_UNSIGNED_SHORT_b1)).other W6 (Or.inl ne_w_UNSIGNED_SHORT_b1)).other W7 (Or.inl ne_w_UNSIGNED_SHORT_b1)).other W8 (Or.inl ne_w_UNSIGNED_SHORT_b1)).other W9 (Or.inl ne_w_UNSIGNED_SHORT_b1)).other W10 (Or.inl ne_w_UNSIGNED_SHORT_b1)) (((((((((((F_w_UNSIGNED_SHORT_signed.ext O0.2).ext E1).other W2 (Or.inl ne_w_UNSIGNED_SHORT_b1)).other W3 (Or.inl ne_w_UNSIGNED_SHORT_b1)).other W4 (Or.inl ne_w_UNSIGNED_SHORT_b1)).other W5 (Or.inl ne_w_UNSIGNED_SHORT_b1)).other W6 (Or.inl ne_w_UNSIGNED_SHORT_b1)).other W7 (Or.inl ne_w_UNSIGNED_SHORT_b1)).other W8 (Or.inl ne_w_UNSIGNED_SHORT_b1)).other W9 (Or.inl ne_w_UNSIGNED_SHORT_b1)).other W10 (Or.inl ne_w_UNSIGNED_SHORT_b1)) (((((((((((E_w_UNSIGNED_INT.ext O0.2).ext E1).wr W2).wr W3).wr W4).wr W5).wr W6).wr W7).wr W8).wr W9).wr W10) (((((((((((F_w_UNSIGNED_INT_width.ext O0.2).ext E1).other W2 (Or.inl ne_w_UNSIGNED_INT_b1)).other W3 (Or.inl ne_w_UNSIGNED_INT_b1)).other W4 (Or.inl ne_w_UNSIGNED_INT_b1)).other W5 (Or.inl ne_w_UNSIGNED_INT_b1)).other W6 (Or.inl ne_w_UNSIGNED_INT_b1)).other W7 (Or.inl ne_w_UNSIGNED_INT_b1)).other W8 (Or.inl ne_w_UNSIGNED_INT_b1)).other W9 (Or.inl ne_w_UNSIGNED_INT_b1)).other W10 (Or.inl ne_w_UNSIGNED_INT_b1)) (((((((((((F_w_UNSIGNED_INT_signed.ext O0.2).ext E1).other W2 (Or.inl ne_w_UNSIGNED_INT_b1)).other W3 (Or.inl ne_w_UNSIGNED_INT_b1)).other W4 (Or.inl ne_w_UNSIGNED_INT_b1)).other W5 (Or.inl ne_w_UNSIGNED_INT_b1)).other W6 (Or.inl ne_w_UNSIGNED_INT_b1)).other W7 (Or.inl ne_w_UNSIGNED_INT_b1)).other W8 (Or.inl ne_w_UNSIGNED_INT_b1)).other W9 (Or.inl ne_w_UNSIGNED_INT_b1)).other W10 (Or.inl ne_w_UNSIGNED_INT_b1)) (by decide) (by decide)) at_113 rfl (lenOf own_pd2 rfl) rfl rfl rfl (by decide) (by decide) rfl rfl (by decide) (by decide) (own_kv fun v311 h311 q311 => ?_)
      obtain ⟨rfl, e311⟩ := q311
      rw [e311]
      rw [show own_com w_INT w_UNSIGNED_SHORT (16 : Int32) (0 : Int32) w_UNSIGNED_INT (32 : Int32) (0 : Int32) = w_UNSIGNED_INT from by simp [own_com]]
      refine own_aload 118 rfl at_116 rfl rfl ?_
      refine own_acmpNo 121 rfl at_118 rfl rfl (own_teq (rfl : ((.ref w_UNSIGNED_INT) : Value) = (.ref w_UNSIGNED_INT))).2 ?_
      refine own_iconst 122 rfl (1 : Int32) at_121 rfl ?_
      refine own_goto 126 at_122 (by decide) (by decide) ?_
      refine own_retN rfl (by simp) at_126 (by decide) (by decide) ?_
      exact ⟨_, rfl, rfl⟩
    · have hin_j := (rfl : (7 : Int) = 7)
      refine own_iloadN 81 rfl at_80 rfl ?_
      refine own_iconst 82 rfl (5 : Int32) at_81 rfl ?_
      refine own_callS 85 rfl 1 9 0 [(.int (4 : Int32)), (.int (5 : Int32))] [] (y := (⟨"java/lang/Math", "max", "(II)I"⟩ : MethodName)) (hw _ (List.mem_of_getElem? (i := 23) rfl)) (hw _ (List.mem_of_getElem? (i := 24) rfl)) (hw _ (List.mem_of_getElem? (i := 25) rfl)) (hw _ (List.mem_of_getElem? (i := 26) rfl)) (by decide) (rm1 l Z a0 hw [] (4 : Int32) (5 : Int32)  h10 ) at_82 rfl (lenOf own_pd1 rfl) rfl rfl rfl (by decide) (by decide) rfl rfl (by decide) (by decide) (own_kv fun v312 h312 q312 => ?_)
      obtain ⟨rfl, e312⟩ := q312
      rw [e312]
      rw [show (if (4 : Int32) < (5 : Int32) then (5 : Int32) else (4 : Int32)) = (5 : Int32) from by decide]
      refine own_istore 87 rfl #[.val (.int p1), .val (.int p2), .val (.ref b1), .val (.int (4 : Int32)), .val (.int (7 : Int32)), .val (.int (5 : Int32)), .unset, .unset] at_85 rfl ?_
      refine own_iload 89 rfl at_87 rfl ?_
      refine own_iconst 90 rfl (5 : Int32) at_89 rfl ?_
      refine own_callS 93 rfl 1 9 0 [(.int (7 : Int32)), (.int (5 : Int32))] [] (y := (⟨"java/lang/Math", "max", "(II)I"⟩ : MethodName)) (hw _ (List.mem_of_getElem? (i := 23) rfl)) (hw _ (List.mem_of_getElem? (i := 24) rfl)) (hw _ (List.mem_of_getElem? (i := 25) rfl)) (hw _ (List.mem_of_getElem? (i := 26) rfl)) (by decide) (rm1 l Z a0 hw [] (7 : Int32) (5 : Int32)  h10 ) at_90 rfl (lenOf own_pd1 rfl) rfl rfl rfl (by decide) (by decide) rfl rfl (by decide) (by decide) (own_kv fun v313 h313 q313 => ?_)
      obtain ⟨rfl, e313⟩ := q313
      rw [e313]
      rw [show (if (7 : Int32) < (5 : Int32) then (5 : Int32) else (7 : Int32)) = (7 : Int32) from by decide]
      refine own_istore 95 rfl #[.val (.int p1), .val (.int p2), .val (.ref b1), .val (.int (4 : Int32)), .val (.int (7 : Int32)), .val (.int (5 : Int32)), .val (.int (7 : Int32)), .unset] at_93 rfl ?_
      refine own_aloadN 96 rfl at_95 rfl rfl ?_
      refine own_iload 98 rfl at_96 rfl ?_
      refine own_iload 100 rfl at_98 rfl ?_
      refine own_callS 103 rfl 1 9 1 [(.int (5 : Int32)), (.int (7 : Int32))] [(.ref b1)] (y := (⟨"java/lang/Math", "max", "(II)I"⟩ : MethodName)) (hw _ (List.mem_of_getElem? (i := 23) rfl)) (hw _ (List.mem_of_getElem? (i := 24) rfl)) (hw _ (List.mem_of_getElem? (i := 25) rfl)) (hw _ (List.mem_of_getElem? (i := 26) rfl)) (by decide) (rm1 l Z a0 hw [] (5 : Int32) (7 : Int32)  h10 ) at_100 rfl (lenOf own_pd1 rfl) rfl rfl rfl (by decide) (by decide) rfl rfl (by decide) (by decide) (own_kv fun v314 h314 q314 => ?_)
      obtain ⟨rfl, e314⟩ := q314
      rw [e314]
      rw [show (if (5 : Int32) < (7 : Int32) then (7 : Int32) else (5 : Int32)) = (7 : Int32) from by decide]
      obtain ⟨c315, A315, q315, S315, N315, H315, G315⟩ := id V10
      refine own_aaload 104 rfl A315 rfl (inb_of S315 ⟨by decide, by decide⟩) (Has.at H315 (inb_of S315 ⟨by decide, by decide⟩) rfl) at_103 ?_
      refine own_astore 106 rfl #[.val (.int p1), .val (.int p2), .val (.ref b1), .val (.int (4 : Int32)), .val (.int (7 : Int32)), .val (.int (5 : Int32)), .val (.int (7 : Int32)), .val (.ref w_LONG_LONG)] at_104 rfl rfl ?_
      refine own_aloadN 107 rfl at_106 rfl rfl ?_
      refine own_iloadN 108 rfl at_107 rfl ?_
      obtain ⟨c316, A316, q316, S316, N316, H316, G316⟩ := id V10
      refine own_aaload 109 rfl A316 rfl (inb_of S316 ⟨by decide, by decide⟩) (Has.at H316 (inb_of S316 ⟨by decide, by decide⟩) rfl) at_108 ?_
      refine own_aloadN 110 rfl at_109 rfl rfl ?_
      refine own_iload 112 rfl at_110 rfl ?_
      obtain ⟨c317, A317, q317, S317, N317, H317, G317⟩ := id V10
      refine own_aaload 113 rfl A317 rfl (inb_of S317 ⟨by decide, by decide⟩) (Has.at H317 (inb_of S317 ⟨by decide, by decide⟩) rfl) at_112 ?_
      refine own_callS 116 rfl 1 9 0 [(.ref w_UNSIGNED_SHORT), (.ref w_LONG_LONG)] [] (y := (⟨"com/example/counterpath/counterpath/cfa/Type", "common", "(Lcom/example/counterpath/counterpath/cfa/Type;Lcom/example/counterpath/counterpath/cfa/Type;)Lcom/example/counterpath/counterpath/cfa/Type;"⟩ : MethodName)) (hw _ (List.mem_of_getElem? (i := 27) rfl)) (hw _ (List.mem_of_getElem? (i := 28) rfl)) (hw _ (List.mem_of_getElem? (i := 3) rfl)) (hw _ (List.mem_of_getElem? (i := 29) rfl)) (by decide) (rm2 l Z a0 hw [] w_UNSIGNED_SHORT w_LONG_LONG (16 : Int32) (0 : Int32) (64 : Int32) (1 : Int32) w_BOOL w_SIGNED_CHAR w_UNSIGNED_CHAR w_SHORT w_UNSIGNED_SHORT w_INT w_UNSIGNED_INT w_LONG_LONG w_UNSIGNED_LONG_LONG h10 I (((((((((((E_w_UNSIGNED_SHORT.ext O0.2).ext E1).wr W2).wr W3).wr W4).wr W5).wr W6).wr W7).wr W8).wr W9).wr W10) (((((((((((F_w_UNSIGNED_SHORT_width.ext O0.2).ext E1).other W2 (Or.inl ne_w_UNSIGNED_SHORT_b1)).other W3 (Or.inl ne_w_UNSIGNED_SHORT_b1)).other W4 (Or.inl ne_w_UNSIGNED_SHORT_b1)).other W5 (Or.inl ne_w_UNSIGNED_SHORT_b1)).other W6 (Or.inl ne_w_UNSIGNED_SHORT_b1)).other W7 (Or.inl ne_w_UNSIGNED_SHORT_b1)).other W8 (Or.inl ne_w_UNSIGNED_SHORT_b1)).other W9 (Or.inl ne_w_UNSIGNED_SHORT_b1)).other W10 (Or.inl ne_w_UNSIGNED_SHORT_b1)) (((((((((((F_w_UNSIGNED_SHORT_signed.ext O0.2).ext E1).other W2 (Or.inl ne_w_UNSIGNED_SHORT_b1)).other W3 (Or.inl ne_w_UNSIGNED_SHORT_b1)).other W4 (Or.inl ne_w_UNSIGNED_SHORT_b1)).other W5 (Or.inl ne_w_UNSIGNED_SHORT_b1)).other W6 (Or.inl ne_w_UNSIGNED_SHORT_b1)).other W7 (Or.inl ne_w_UNSIGNED_SHORT_b1)).other W8 (Or.inl ne_w_UNSIGNED_SHORT_b1)).other W9 (Or.inl ne_w_UNSIGNED_SHORT_b1)).other W10 (Or.inl ne_w_UNSIGNED_SHORT_b1)) (((((((((((E_w_LONG_LONG.ext O0.2).ext E1).wr W2).wr W3).wr W4).wr W5).wr W6).wr W7).wr W8).wr W9).wr W10) (((((((((((F_w_LONG_LONG_width.ext O0.2).ext E1).other W2 (Or.inl ne_w_LONG_LONG_b1)).other W3 (Or.inl ne_w_LONG_LONG_b1)).other W4 (Or.inl ne_w_LONG_LONG_b1)).other W5 (Or.inl ne_w_LONG_LONG_b1)).other W6 (Or.inl ne_w_LONG_LONG_b1)).other W7 (Or.inl ne_w_LONG_LONG_b1)).other W8 (Or.inl ne_w_LONG_LONG_b1)).other W9 (Or.inl ne_w_LONG_LONG_b1)).other W10 (Or.inl ne_w_LONG_LONG_b1)) (((((((((((F_w_LONG_LONG_signed.ext O0.2).ext E1).other W2 (Or.inl ne_w_LONG_LONG_b1)).other W3 (Or.inl ne_w_LONG_LONG_b1)).other W4 (Or.inl ne_w_LONG_LONG_b1)).other W5 (Or.inl ne_w_LONG_LONG_b1)).other W6 (Or.inl ne_w_LONG_LONG_b1)).other W7 (Or.inl ne_w_LONG_LONG_b1)).other W8 (Or.inl ne_w_LONG_LONG_b1)).other W9 (Or.inl ne_w_LONG_LONG_b1)).other W10 (Or.inl ne_w_LONG_LONG_b1)) (by decide) (by decide)) at_113 rfl (lenOf own_pd2 rfl) rfl rfl rfl (by decide) (by decide) rfl rfl (by decide) (by decide) (own_kv fun v318 h318 q318 => ?_)
      obtain ⟨rfl, e318⟩ := q318
      rw [e318]
      rw [show own_com w_INT w_UNSIGNED_SHORT (16 : Int32) (0 : Int32) w_LONG_LONG (64 : Int32) (1 : Int32) = w_LONG_LONG from by simp [own_com]]
      refine own_aload 118 rfl at_116 rfl rfl ?_
      refine own_acmpNo 121 rfl at_118 rfl rfl (own_teq (rfl : ((.ref w_LONG_LONG) : Value) = (.ref w_LONG_LONG))).2 ?_
      refine own_iconst 122 rfl (1 : Int32) at_121 rfl ?_
      refine own_goto 126 at_122 (by decide) (by decide) ?_
      refine own_retN rfl (by simp) at_126 (by decide) (by decide) ?_
      exact ⟨_, rfl, rfl⟩
    · have hin_j := (rfl : (8 : Int) = 8)
      refine own_iloadN 81 rfl at_80 rfl ?_
      refine own_iconst 82 rfl (5 : Int32) at_81 rfl ?_
      refine own_callS 85 rfl 1 9 0 [(.int (4 : Int32)), (.int (5 : Int32))] [] (y := (⟨"java/lang/Math", "max", "(II)I"⟩ : MethodName)) (hw _ (List.mem_of_getElem? (i := 23) rfl)) (hw _ (List.mem_of_getElem? (i := 24) rfl)) (hw _ (List.mem_of_getElem? (i := 25) rfl)) (hw _ (List.mem_of_getElem? (i := 26) rfl)) (by decide) (rm1 l Z a0 hw [] (4 : Int32) (5 : Int32)  h10 ) at_82 rfl (lenOf own_pd1 rfl) rfl rfl rfl (by decide) (by decide) rfl rfl (by decide) (by decide) (own_kv fun v319 h319 q319 => ?_)
      obtain ⟨rfl, e319⟩ := q319
      rw [e319]
      rw [show (if (4 : Int32) < (5 : Int32) then (5 : Int32) else (4 : Int32)) = (5 : Int32) from by decide]
      refine own_istore 87 rfl #[.val (.int p1), .val (.int p2), .val (.ref b1), .val (.int (4 : Int32)), .val (.int (8 : Int32)), .val (.int (5 : Int32)), .unset, .unset] at_85 rfl ?_
      refine own_iload 89 rfl at_87 rfl ?_
      refine own_iconst 90 rfl (5 : Int32) at_89 rfl ?_
      refine own_callS 93 rfl 1 9 0 [(.int (8 : Int32)), (.int (5 : Int32))] [] (y := (⟨"java/lang/Math", "max", "(II)I"⟩ : MethodName)) (hw _ (List.mem_of_getElem? (i := 23) rfl)) (hw _ (List.mem_of_getElem? (i := 24) rfl)) (hw _ (List.mem_of_getElem? (i := 25) rfl)) (hw _ (List.mem_of_getElem? (i := 26) rfl)) (by decide) (rm1 l Z a0 hw [] (8 : Int32) (5 : Int32)  h10 ) at_90 rfl (lenOf own_pd1 rfl) rfl rfl rfl (by decide) (by decide) rfl rfl (by decide) (by decide) (own_kv fun v320 h320 q320 => ?_)
      obtain ⟨rfl, e320⟩ := q320
      rw [e320]
      rw [show (if (8 : Int32) < (5 : Int32) then (5 : Int32) else (8 : Int32)) = (8 : Int32) from by decide]
      refine own_istore 95 rfl #[.val (.int p1), .val (.int p2), .val (.ref b1), .val (.int (4 : Int32)), .val (.int (8 : Int32)), .val (.int (5 : Int32)), .val (.int (8 : Int32)), .unset] at_93 rfl ?_
      refine own_aloadN 96 rfl at_95 rfl rfl ?_
      refine own_iload 98 rfl at_96 rfl ?_
      refine own_iload 100 rfl at_98 rfl ?_
      refine own_callS 103 rfl 1 9 1 [(.int (5 : Int32)), (.int (8 : Int32))] [(.ref b1)] (y := (⟨"java/lang/Math", "max", "(II)I"⟩ : MethodName)) (hw _ (List.mem_of_getElem? (i := 23) rfl)) (hw _ (List.mem_of_getElem? (i := 24) rfl)) (hw _ (List.mem_of_getElem? (i := 25) rfl)) (hw _ (List.mem_of_getElem? (i := 26) rfl)) (by decide) (rm1 l Z a0 hw [] (5 : Int32) (8 : Int32)  h10 ) at_100 rfl (lenOf own_pd1 rfl) rfl rfl rfl (by decide) (by decide) rfl rfl (by decide) (by decide) (own_kv fun v321 h321 q321 => ?_)
      obtain ⟨rfl, e321⟩ := q321
      rw [e321]
      rw [show (if (5 : Int32) < (8 : Int32) then (8 : Int32) else (5 : Int32)) = (8 : Int32) from by decide]
      obtain ⟨c322, A322, q322, S322, N322, H322, G322⟩ := id V10
      refine own_aaload 104 rfl A322 rfl (inb_of S322 ⟨by decide, by decide⟩) (Has.at H322 (inb_of S322 ⟨by decide, by decide⟩) rfl) at_103 ?_
      refine own_astore 106 rfl #[.val (.int p1), .val (.int p2), .val (.ref b1), .val (.int (4 : Int32)), .val (.int (8 : Int32)), .val (.int (5 : Int32)), .val (.int (8 : Int32)), .val (.ref w_UNSIGNED_LONG_LONG)] at_104 rfl rfl ?_
      refine own_aloadN 107 rfl at_106 rfl rfl ?_
      refine own_iloadN 108 rfl at_107 rfl ?_
      obtain ⟨c323, A323, q323, S323, N323, H323, G323⟩ := id V10
      refine own_aaload 109 rfl A323 rfl (inb_of S323 ⟨by decide, by decide⟩) (Has.at H323 (inb_of S323 ⟨by decide, by decide⟩) rfl) at_108 ?_
      refine own_aloadN 110 rfl at_109 rfl rfl ?_
      refine own_iload 112 rfl at_110 rfl ?_
      obtain ⟨c324, A324, q324, S324, N324, H324, G324⟩ := id V10
      refine own_aaload 113 rfl A324 rfl (inb_of S324 ⟨by decide, by decide⟩) (Has.at H324 (inb_of S324 ⟨by decide, by decide⟩) rfl) at_112 ?_
      refine own_callS 116 rfl 1 9 0 [(.ref w_UNSIGNED_SHORT), (.ref w_UNSIGNED_LONG_LONG)] [] (y := (⟨"com/example/counterpath/counterpath/cfa/Type", "common", "(Lcom/example/counterpath/counterpath/cfa/Type;Lcom/example/counterpath/counterpath/cfa/Type;)Lcom/example/counterpath/counterpath/cfa/Type;"⟩ : MethodName)) (hw _ (List.mem_of_getElem? (i := 27) rfl)) (hw _ (List.mem_of_getElem? (i := 28) rfl)) (hw _ (List.mem_of_getElem? (i := 3) rfl)) (hw _ (List.mem_of_getElem? (i := 29) rfl)) (by decide) (rm2 l Z a0 hw [] w_UNSIGNED_SHORT w_UNSIGNED_LONG_LONG (16 : Int32) (0 : Int32) (64 : Int32) (0 : Int32) w_BOOL w_SIGNED_CHAR w_UNSIGNED_CHAR w_SHORT w_UNSIGNED_SHORT w_INT w_UNSIGNED_INT w_LONG_LONG w_UNSIGNED_LONG_LONG h10 I (((((((((((E_w_UNSIGNED_SHORT.ext O0.2).ext E1).wr W2).wr W3).wr W4).wr W5).wr W6).wr W7).wr W8).wr W9).wr W10) (((((((((((F_w_UNSIGNED_SHORT_width.ext O0.2).ext E1).other W2 (Or.inl ne_w_UNSIGNED_SHORT_b1)).other W3 (Or.inl ne_w_UNSIGNED_SHORT_b1)).other W4 (Or.inl ne_w_UNSIGNED_SHORT_b1)).other W5 (Or.inl ne_w_UNSIGNED_SHORT_b1)).other W6 (Or.inl ne_w_UNSIGNED_SHORT_b1)).other W7 (Or.inl ne_w_UNSIGNED_SHORT_b1)).other W8 (Or.inl ne_w_UNSIGNED_SHORT_b1)).other W9 (Or.inl ne_w_UNSIGNED_SHORT_b1)).other W10 (Or.inl ne_w_UNSIGNED_SHORT_b1)) (((((((((((F_w_UNSIGNED_SHORT_signed.ext O0.2).ext E1).other W2 (Or.inl ne_w_UNSIGNED_SHORT_b1)).other W3 (Or.inl ne_w_UNSIGNED_SHORT_b1)).other W4 (Or.inl ne_w_UNSIGNED_SHORT_b1)).other W5 (Or.inl ne_w_UNSIGNED_SHORT_b1)).other W6 (Or.inl ne_w_UNSIGNED_SHORT_b1)).other W7 (Or.inl ne_w_UNSIGNED_SHORT_b1)).other W8 (Or.inl ne_w_UNSIGNED_SHORT_b1)).other W9 (Or.inl ne_w_UNSIGNED_SHORT_b1)).other W10 (Or.inl ne_w_UNSIGNED_SHORT_b1)) (((((((((((E_w_UNSIGNED_LONG_LONG.ext O0.2).ext E1).wr W2).wr W3).wr W4).wr W5).wr W6).wr W7).wr W8).wr W9).wr W10) (((((((((((F_w_UNSIGNED_LONG_LONG_width.ext O0.2).ext E1).other W2 (Or.inl ne_w_UNSIGNED_LONG_LONG_b1)).other W3 (Or.inl ne_w_UNSIGNED_LONG_LONG_b1)).other W4 (Or.inl ne_w_UNSIGNED_LONG_LONG_b1)).other W5 (Or.inl ne_w_UNSIGNED_LONG_LONG_b1)).other W6 (Or.inl ne_w_UNSIGNED_LONG_LONG_b1)).other W7 (Or.inl ne_w_UNSIGNED_LONG_LONG_b1)).other W8 (Or.inl ne_w_UNSIGNED_LONG_LONG_b1)).other W9 (Or.inl ne_w_UNSIGNED_LONG_LONG_b1)).other W10 (Or.inl ne_w_UNSIGNED_LONG_LONG_b1)) (((((((((((F_w_UNSIGNED_LONG_LONG_signed.ext O0.2).ext E1).other W2 (Or.inl ne_w_UNSIGNED_LONG_LONG_b1)).other W3 (Or.inl ne_w_UNSIGNED_LONG_LONG_b1)).other W4 (Or.inl ne_w_UNSIGNED_LONG_LONG_b1)).other W5 (Or.inl ne_w_UNSIGNED_LONG_LONG_b1)).other W6 (Or.inl ne_w_UNSIGNED_LONG_LONG_b1)).other W7 (Or.inl ne_w_UNSIGNED_LONG_LONG_b1)).other W8 (Or.inl ne_w_UNSIGNED_LONG_LONG_b1)).other W9 (Or.inl ne_w_UNSIGNED_LONG_LONG_b1)).other W10 (Or.inl ne_w_UNSIGNED_LONG_LONG_b1)) (by decide) (by decide)) at_113 rfl (lenOf own_pd2 rfl) rfl rfl rfl (by decide) (by decide) rfl rfl (by decide) (by decide) (own_kv fun v325 h325 q325 => ?_)
      obtain ⟨rfl, e325⟩ := q325
      rw [e325]
      rw [show own_com w_INT w_UNSIGNED_SHORT (16 : Int32) (0 : Int32) w_UNSIGNED_LONG_LONG (64 : Int32) (0 : Int32) = w_UNSIGNED_LONG_LONG from by simp [own_com]]
      refine own_aload 118 rfl at_116 rfl rfl ?_
      refine own_acmpNo 121 rfl at_118 rfl rfl (own_teq (rfl : ((.ref w_UNSIGNED_LONG_LONG) : Value) = (.ref w_UNSIGNED_LONG_LONG))).2 ?_
      refine own_iconst 122 rfl (1 : Int32) at_121 rfl ?_
      refine own_goto 126 at_122 (by decide) (by decide) ?_
      refine own_retN rfl (by simp) at_126 (by decide) (by decide) ?_
      exact ⟨_, rfl, rfl⟩
  · have hin_k := (rfl : (5 : Int) = 5)
    have hr_j : j = (0 : Int32) ∨ j = (1 : Int32) ∨ j = (2 : Int32) ∨ j = (3 : Int32) ∨ j = (4 : Int32) ∨ j = (5 : Int32) ∨ j = (6 : Int32) ∨ j = (7 : Int32) ∨ j = (8 : Int32) := by
      have hrz : j.toInt = 0 ∨ j.toInt = 1 ∨ j.toInt = 2 ∨ j.toInt = 3 ∨ j.toInt = 4 ∨ j.toInt = 5 ∨ j.toInt = 6 ∨ j.toInt = 7 ∨ j.toInt = 8 := by omega
      rcases hrz with q | q | q | q | q | q | q | q | q
      · exact Or.inl (own_eq' q)
      · exact Or.inr (Or.inl (own_eq' q))
      · exact Or.inr (Or.inr (Or.inl (own_eq' q)))
      · exact Or.inr (Or.inr (Or.inr (Or.inl (own_eq' q))))
      · exact Or.inr (Or.inr (Or.inr (Or.inr (Or.inl (own_eq' q)))))
      · exact Or.inr (Or.inr (Or.inr (Or.inr (Or.inr (Or.inl (own_eq' q))))))
      · exact Or.inr (Or.inr (Or.inr (Or.inr (Or.inr (Or.inr (Or.inl (own_eq' q)))))))
      · exact Or.inr (Or.inr (Or.inr (Or.inr (Or.inr (Or.inr (Or.inr (Or.inl (own_eq' q))))))))
      · exact Or.inr (Or.inr (Or.inr (Or.inr (Or.inr (Or.inr (Or.inr (Or.inr (own_eq' q))))))))
    rcases hr_j with rfl | rfl | rfl | rfl | rfl | rfl | rfl | rfl | rfl
    · have hin_j := (rfl : (0 : Int) = 0)
      refine own_iloadN 81 rfl at_80 rfl ?_
      refine own_iconst 82 rfl (5 : Int32) at_81 rfl ?_
      refine own_callS 85 rfl 1 9 0 [(.int (5 : Int32)), (.int (5 : Int32))] [] (y := (⟨"java/lang/Math", "max", "(II)I"⟩ : MethodName)) (hw _ (List.mem_of_getElem? (i := 23) rfl)) (hw _ (List.mem_of_getElem? (i := 24) rfl)) (hw _ (List.mem_of_getElem? (i := 25) rfl)) (hw _ (List.mem_of_getElem? (i := 26) rfl)) (by decide) (rm1 l Z a0 hw [] (5 : Int32) (5 : Int32)  h10 ) at_82 rfl (lenOf own_pd1 rfl) rfl rfl rfl (by decide) (by decide) rfl rfl (by decide) (by decide) (own_kv fun v326 h326 q326 => ?_)
      obtain ⟨rfl, e326⟩ := q326
      rw [e326]
      rw [show (if (5 : Int32) < (5 : Int32) then (5 : Int32) else (5 : Int32)) = (5 : Int32) from by decide]
      refine own_istore 87 rfl #[.val (.int p1), .val (.int p2), .val (.ref b1), .val (.int (5 : Int32)), .val (.int (0 : Int32)), .val (.int (5 : Int32)), .unset, .unset] at_85 rfl ?_
      refine own_iload 89 rfl at_87 rfl ?_
      refine own_iconst 90 rfl (5 : Int32) at_89 rfl ?_
      refine own_callS 93 rfl 1 9 0 [(.int (0 : Int32)), (.int (5 : Int32))] [] (y := (⟨"java/lang/Math", "max", "(II)I"⟩ : MethodName)) (hw _ (List.mem_of_getElem? (i := 23) rfl)) (hw _ (List.mem_of_getElem? (i := 24) rfl)) (hw _ (List.mem_of_getElem? (i := 25) rfl)) (hw _ (List.mem_of_getElem? (i := 26) rfl)) (by decide) (rm1 l Z a0 hw [] (0 : Int32) (5 : Int32)  h10 ) at_90 rfl (lenOf own_pd1 rfl) rfl rfl rfl (by decide) (by decide) rfl rfl (by decide) (by decide) (own_kv fun v327 h327 q327 => ?_)
      obtain ⟨rfl, e327⟩ := q327
      rw [e327]
      rw [show (if (0 : Int32) < (5 : Int32) then (5 : Int32) else (0 : Int32)) = (5 : Int32) from by decide]
      refine own_istore 95 rfl #[.val (.int p1), .val (.int p2), .val (.ref b1), .val (.int (5 : Int32)), .val (.int (0 : Int32)), .val (.int (5 : Int32)), .val (.int (5 : Int32)), .unset] at_93 rfl ?_
      refine own_aloadN 96 rfl at_95 rfl rfl ?_
      refine own_iload 98 rfl at_96 rfl ?_
      refine own_iload 100 rfl at_98 rfl ?_
      refine own_callS 103 rfl 1 9 1 [(.int (5 : Int32)), (.int (5 : Int32))] [(.ref b1)] (y := (⟨"java/lang/Math", "max", "(II)I"⟩ : MethodName)) (hw _ (List.mem_of_getElem? (i := 23) rfl)) (hw _ (List.mem_of_getElem? (i := 24) rfl)) (hw _ (List.mem_of_getElem? (i := 25) rfl)) (hw _ (List.mem_of_getElem? (i := 26) rfl)) (by decide) (rm1 l Z a0 hw [] (5 : Int32) (5 : Int32)  h10 ) at_100 rfl (lenOf own_pd1 rfl) rfl rfl rfl (by decide) (by decide) rfl rfl (by decide) (by decide) (own_kv fun v328 h328 q328 => ?_)
      obtain ⟨rfl, e328⟩ := q328
      rw [e328]
      rw [show (if (5 : Int32) < (5 : Int32) then (5 : Int32) else (5 : Int32)) = (5 : Int32) from by decide]
      obtain ⟨c329, A329, q329, S329, N329, H329, G329⟩ := id V10
      refine own_aaload 104 rfl A329 rfl (inb_of S329 ⟨by decide, by decide⟩) (Has.at H329 (inb_of S329 ⟨by decide, by decide⟩) rfl) at_103 ?_
      refine own_astore 106 rfl #[.val (.int p1), .val (.int p2), .val (.ref b1), .val (.int (5 : Int32)), .val (.int (0 : Int32)), .val (.int (5 : Int32)), .val (.int (5 : Int32)), .val (.ref w_INT)] at_104 rfl rfl ?_
      refine own_aloadN 107 rfl at_106 rfl rfl ?_
      refine own_iloadN 108 rfl at_107 rfl ?_
      obtain ⟨c330, A330, q330, S330, N330, H330, G330⟩ := id V10
      refine own_aaload 109 rfl A330 rfl (inb_of S330 ⟨by decide, by decide⟩) (Has.at H330 (inb_of S330 ⟨by decide, by decide⟩) rfl) at_108 ?_
      refine own_aloadN 110 rfl at_109 rfl rfl ?_
      refine own_iload 112 rfl at_110 rfl ?_
      obtain ⟨c331, A331, q331, S331, N331, H331, G331⟩ := id V10
      refine own_aaload 113 rfl A331 rfl (inb_of S331 ⟨by decide, by decide⟩) (Has.at H331 (inb_of S331 ⟨by decide, by decide⟩) rfl) at_112 ?_
      refine own_callS 116 rfl 1 9 0 [(.ref w_INT), (.ref w_BOOL)] [] (y := (⟨"com/example/counterpath/counterpath/cfa/Type", "common", "(Lcom/example/counterpath/counterpath/cfa/Type;Lcom/example/counterpath/counterpath/cfa/Type;)Lcom/example/counterpath/counterpath/cfa/Type;"⟩ : MethodName)) (hw _ (List.mem_of_getElem? (i := 27) rfl)) (hw _ (List.mem_of_getElem? (i := 28) rfl)) (hw _ (List.mem_of_getElem? (i := 3) rfl)) (hw _ (List.mem_of_getElem? (i := 29) rfl)) (by decide) (rm2 l Z a0 hw [] w_INT w_BOOL (32 : Int32) (1 : Int32) (1 : Int32) (0 : Int32) w_BOOL w_SIGNED_CHAR w_UNSIGNED_CHAR w_SHORT w_UNSIGNED_SHORT w_INT w_UNSIGNED_INT w_LONG_LONG w_UNSIGNED_LONG_LONG h10 I (((((((((((E_w_INT.ext O0.2).ext E1).wr W2).wr W3).wr W4).wr W5).wr W6).wr W7).wr W8).wr W9).wr W10) (((((((((((F_w_INT_width.ext O0.2).ext E1).other W2 (Or.inl ne_w_INT_b1)).other W3 (Or.inl ne_w_INT_b1)).other W4 (Or.inl ne_w_INT_b1)).other W5 (Or.inl ne_w_INT_b1)).other W6 (Or.inl ne_w_INT_b1)).other W7 (Or.inl ne_w_INT_b1)).other W8 (Or.inl ne_w_INT_b1)).other W9 (Or.inl ne_w_INT_b1)).other W10 (Or.inl ne_w_INT_b1)) (((((((((((F_w_INT_signed.ext O0.2).ext E1).other W2 (Or.inl ne_w_INT_b1)).other W3 (Or.inl ne_w_INT_b1)).other W4 (Or.inl ne_w_INT_b1)).other W5 (Or.inl ne_w_INT_b1)).other W6 (Or.inl ne_w_INT_b1)).other W7 (Or.inl ne_w_INT_b1)).other W8 (Or.inl ne_w_INT_b1)).other W9 (Or.inl ne_w_INT_b1)).other W10 (Or.inl ne_w_INT_b1)) (((((((((((E_w_BOOL.ext O0.2).ext E1).wr W2).wr W3).wr W4).wr W5).wr W6).wr W7).wr W8).wr W9).wr W10) (((((((((((F_w_BOOL_width.ext O0.2).ext E1).other W2 (Or.inl ne_w_BOOL_b1)).other W3 (Or.inl ne_w_BOOL_b1)).other W4 (Or.inl ne_w_BOOL_b1)).other W5 (Or.inl ne_w_BOOL_b1)).other W6 (Or.inl ne_w_BOOL_b1)).other W7 (Or.inl ne_w_BOOL_b1)).other W8 (Or.inl ne_w_BOOL_b1)).other W9 (Or.inl ne_w_BOOL_b1)).other W10 (Or.inl ne_w_BOOL_b1)) (((((((((((F_w_BOOL_signed.ext O0.2).ext E1).other W2 (Or.inl ne_w_BOOL_b1)).other W3 (Or.inl ne_w_BOOL_b1)).other W4 (Or.inl ne_w_BOOL_b1)).other W5 (Or.inl ne_w_BOOL_b1)).other W6 (Or.inl ne_w_BOOL_b1)).other W7 (Or.inl ne_w_BOOL_b1)).other W8 (Or.inl ne_w_BOOL_b1)).other W9 (Or.inl ne_w_BOOL_b1)).other W10 (Or.inl ne_w_BOOL_b1)) (by decide) (by decide)) at_113 rfl (lenOf own_pd2 rfl) rfl rfl rfl (by decide) (by decide) rfl rfl (by decide) (by decide) (own_kv fun v332 h332 q332 => ?_)
      obtain ⟨rfl, e332⟩ := q332
      rw [e332]
      rw [show own_com w_INT w_INT (32 : Int32) (1 : Int32) w_BOOL (1 : Int32) (0 : Int32) = w_INT from by simp [own_com]]
      refine own_aload 118 rfl at_116 rfl rfl ?_
      refine own_acmpNo 121 rfl at_118 rfl rfl (own_teq (rfl : ((.ref w_INT) : Value) = (.ref w_INT))).2 ?_
      refine own_iconst 122 rfl (1 : Int32) at_121 rfl ?_
      refine own_goto 126 at_122 (by decide) (by decide) ?_
      refine own_retN rfl (by simp) at_126 (by decide) (by decide) ?_
      exact ⟨_, rfl, rfl⟩
    · have hin_j := (rfl : (1 : Int) = 1)
      refine own_iloadN 81 rfl at_80 rfl ?_
      refine own_iconst 82 rfl (5 : Int32) at_81 rfl ?_
      refine own_callS 85 rfl 1 9 0 [(.int (5 : Int32)), (.int (5 : Int32))] [] (y := (⟨"java/lang/Math", "max", "(II)I"⟩ : MethodName)) (hw _ (List.mem_of_getElem? (i := 23) rfl)) (hw _ (List.mem_of_getElem? (i := 24) rfl)) (hw _ (List.mem_of_getElem? (i := 25) rfl)) (hw _ (List.mem_of_getElem? (i := 26) rfl)) (by decide) (rm1 l Z a0 hw [] (5 : Int32) (5 : Int32)  h10 ) at_82 rfl (lenOf own_pd1 rfl) rfl rfl rfl (by decide) (by decide) rfl rfl (by decide) (by decide) (own_kv fun v333 h333 q333 => ?_)
      obtain ⟨rfl, e333⟩ := q333
      rw [e333]
      rw [show (if (5 : Int32) < (5 : Int32) then (5 : Int32) else (5 : Int32)) = (5 : Int32) from by decide]
      refine own_istore 87 rfl #[.val (.int p1), .val (.int p2), .val (.ref b1), .val (.int (5 : Int32)), .val (.int (1 : Int32)), .val (.int (5 : Int32)), .unset, .unset] at_85 rfl ?_
      refine own_iload 89 rfl at_87 rfl ?_
      refine own_iconst 90 rfl (5 : Int32) at_89 rfl ?_
      refine own_callS 93 rfl 1 9 0 [(.int (1 : Int32)), (.int (5 : Int32))] [] (y := (⟨"java/lang/Math", "max", "(II)I"⟩ : MethodName)) (hw _ (List.mem_of_getElem? (i := 23) rfl)) (hw _ (List.mem_of_getElem? (i := 24) rfl)) (hw _ (List.mem_of_getElem? (i := 25) rfl)) (hw _ (List.mem_of_getElem? (i := 26) rfl)) (by decide) (rm1 l Z a0 hw [] (1 : Int32) (5 : Int32)  h10 ) at_90 rfl (lenOf own_pd1 rfl) rfl rfl rfl (by decide) (by decide) rfl rfl (by decide) (by decide) (own_kv fun v334 h334 q334 => ?_)
      obtain ⟨rfl, e334⟩ := q334
      rw [e334]
      rw [show (if (1 : Int32) < (5 : Int32) then (5 : Int32) else (1 : Int32)) = (5 : Int32) from by decide]
      refine own_istore 95 rfl #[.val (.int p1), .val (.int p2), .val (.ref b1), .val (.int (5 : Int32)), .val (.int (1 : Int32)), .val (.int (5 : Int32)), .val (.int (5 : Int32)), .unset] at_93 rfl ?_
      refine own_aloadN 96 rfl at_95 rfl rfl ?_
      refine own_iload 98 rfl at_96 rfl ?_
      refine own_iload 100 rfl at_98 rfl ?_
      refine own_callS 103 rfl 1 9 1 [(.int (5 : Int32)), (.int (5 : Int32))] [(.ref b1)] (y := (⟨"java/lang/Math", "max", "(II)I"⟩ : MethodName)) (hw _ (List.mem_of_getElem? (i := 23) rfl)) (hw _ (List.mem_of_getElem? (i := 24) rfl)) (hw _ (List.mem_of_getElem? (i := 25) rfl)) (hw _ (List.mem_of_getElem? (i := 26) rfl)) (by decide) (rm1 l Z a0 hw [] (5 : Int32) (5 : Int32)  h10 ) at_100 rfl (lenOf own_pd1 rfl) rfl rfl rfl (by decide) (by decide) rfl rfl (by decide) (by decide) (own_kv fun v335 h335 q335 => ?_)
      obtain ⟨rfl, e335⟩ := q335
      rw [e335]
      rw [show (if (5 : Int32) < (5 : Int32) then (5 : Int32) else (5 : Int32)) = (5 : Int32) from by decide]
      obtain ⟨c336, A336, q336, S336, N336, H336, G336⟩ := id V10
      refine own_aaload 104 rfl A336 rfl (inb_of S336 ⟨by decide, by decide⟩) (Has.at H336 (inb_of S336 ⟨by decide, by decide⟩) rfl) at_103 ?_
      refine own_astore 106 rfl #[.val (.int p1), .val (.int p2), .val (.ref b1), .val (.int (5 : Int32)), .val (.int (1 : Int32)), .val (.int (5 : Int32)), .val (.int (5 : Int32)), .val (.ref w_INT)] at_104 rfl rfl ?_
      refine own_aloadN 107 rfl at_106 rfl rfl ?_
      refine own_iloadN 108 rfl at_107 rfl ?_
      obtain ⟨c337, A337, q337, S337, N337, H337, G337⟩ := id V10
      refine own_aaload 109 rfl A337 rfl (inb_of S337 ⟨by decide, by decide⟩) (Has.at H337 (inb_of S337 ⟨by decide, by decide⟩) rfl) at_108 ?_
      refine own_aloadN 110 rfl at_109 rfl rfl ?_
      refine own_iload 112 rfl at_110 rfl ?_
      obtain ⟨c338, A338, q338, S338, N338, H338, G338⟩ := id V10
      refine own_aaload 113 rfl A338 rfl (inb_of S338 ⟨by decide, by decide⟩) (Has.at H338 (inb_of S338 ⟨by decide, by decide⟩) rfl) at_112 ?_
      refine own_callS 116 rfl 1 9 0 [(.ref w_INT), (.ref w_SIGNED_CHAR)] [] (y := (⟨"com/example/counterpath/counterpath/cfa/Type", "common", "(Lcom/example/counterpath/counterpath/cfa/Type;Lcom/example/counterpath/counterpath/cfa/Type;)Lcom/example/counterpath/counterpath/cfa/Type;"⟩ : MethodName)) (hw _ (List.mem_of_getElem? (i := 27) rfl)) (hw _ (List.mem_of_getElem? (i := 28) rfl)) (hw _ (List.mem_of_getElem? (i := 3) rfl)) (hw _ (List.mem_of_getElem? (i := 29) rfl)) (by decide) (rm2 l Z a0 hw [] w_INT w_SIGNED_CHAR (32 : Int32) (1 : Int32) (8 : Int32) (1 : Int32) w_BOOL w_SIGNED_CHAR w_UNSIGNED_CHAR w_SHORT w_UNSIGNED_SHORT w_INT w_UNSIGNED_INT w_LONG_LONG w_UNSIGNED_LONG_LONG h10 I (((((((((((E_w_INT.ext O0.2).ext E1).wr W2).wr W3).wr W4).wr W5).wr W6).wr W7).wr W8).wr W9).wr W10) (((((((((((F_w_INT_width.ext O0.2).ext E1).other W2 (Or.inl ne_w_INT_b1)).other W3 (Or.inl ne_w_INT_b1)).other W4 (Or.inl ne_w_INT_b1)).other W5 (Or.inl ne_w_INT_b1)).other W6 (Or.inl ne_w_INT_b1)).other W7 (Or.inl ne_w_INT_b1)).other W8 (Or.inl ne_w_INT_b1)).other W9 (Or.inl ne_w_INT_b1)).other W10 (Or.inl ne_w_INT_b1)) (((((((((((F_w_INT_signed.ext O0.2).ext E1).other W2 (Or.inl ne_w_INT_b1)).other W3 (Or.inl ne_w_INT_b1)).other W4 (Or.inl ne_w_INT_b1)).other W5 (Or.inl ne_w_INT_b1)).other W6 (Or.inl ne_w_INT_b1)).other W7 (Or.inl ne_w_INT_b1)).other W8 (Or.inl ne_w_INT_b1)).other W9 (Or.inl ne_w_INT_b1)).other W10 (Or.inl ne_w_INT_b1)) (((((((((((E_w_SIGNED_CHAR.ext O0.2).ext E1).wr W2).wr W3).wr W4).wr W5).wr W6).wr W7).wr W8).wr W9).wr W10) (((((((((((F_w_SIGNED_CHAR_width.ext O0.2).ext E1).other W2 (Or.inl ne_w_SIGNED_CHAR_b1)).other W3 (Or.inl ne_w_SIGNED_CHAR_b1)).other W4 (Or.inl ne_w_SIGNED_CHAR_b1)).other W5 (Or.inl ne_w_SIGNED_CHAR_b1)).other W6 (Or.inl ne_w_SIGNED_CHAR_b1)).other W7 (Or.inl ne_w_SIGNED_CHAR_b1)).other W8 (Or.inl ne_w_SIGNED_CHAR_b1)).other W9 (Or.inl ne_w_SIGNED_CHAR_b1)).other W10 (Or.inl ne_w_SIGNED_CHAR_b1)) (((((((((((F_w_SIGNED_CHAR_signed.ext O0.2).ext E1).other W2 (Or.inl ne_w_SIGNED_CHAR_b1)).other W3 (Or.inl ne_w_SIGNED_CHAR_b1)).other W4 (Or.inl ne_w_SIGNED_CHAR_b1)).other W5 (Or.inl ne_w_SIGNED_CHAR_b1)).other W6 (Or.inl ne_w_SIGNED_CHAR_b1)).other W7 (Or.inl ne_w_SIGNED_CHAR_b1)).other W8 (Or.inl ne_w_SIGNED_CHAR_b1)).other W9 (Or.inl ne_w_SIGNED_CHAR_b1)).other W10 (Or.inl ne_w_SIGNED_CHAR_b1)) (by decide) (by decide)) at_113 rfl (lenOf own_pd2 rfl) rfl rfl rfl (by decide) (by decide) rfl rfl (by decide) (by decide) (own_kv fun v339 h339 q339 => ?_)
      obtain ⟨rfl, e339⟩ := q339
      rw [e339]
      rw [show own_com w_INT w_INT (32 : Int32) (1 : Int32) w_SIGNED_CHAR (8 : Int32) (1 : Int32) = w_INT from by simp [own_com]]
      refine own_aload 118 rfl at_116 rfl rfl ?_
      refine own_acmpNo 121 rfl at_118 rfl rfl (own_teq (rfl : ((.ref w_INT) : Value) = (.ref w_INT))).2 ?_
      refine own_iconst 122 rfl (1 : Int32) at_121 rfl ?_
      refine own_goto 126 at_122 (by decide) (by decide) ?_
      refine own_retN rfl (by simp) at_126 (by decide) (by decide) ?_
      exact ⟨_, rfl, rfl⟩
    · have hin_j := (rfl : (2 : Int) = 2)
      refine own_iloadN 81 rfl at_80 rfl ?_
      refine own_iconst 82 rfl (5 : Int32) at_81 rfl ?_
      refine own_callS 85 rfl 1 9 0 [(.int (5 : Int32)), (.int (5 : Int32))] [] (y := (⟨"java/lang/Math", "max", "(II)I"⟩ : MethodName)) (hw _ (List.mem_of_getElem? (i := 23) rfl)) (hw _ (List.mem_of_getElem? (i := 24) rfl)) (hw _ (List.mem_of_getElem? (i := 25) rfl)) (hw _ (List.mem_of_getElem? (i := 26) rfl)) (by decide) (rm1 l Z a0 hw [] (5 : Int32) (5 : Int32)  h10 ) at_82 rfl (lenOf own_pd1 rfl) rfl rfl rfl (by decide) (by decide) rfl rfl (by decide) (by decide) (own_kv fun v340 h340 q340 => ?_)
      obtain ⟨rfl, e340⟩ := q340
      rw [e340]
      rw [show (if (5 : Int32) < (5 : Int32) then (5 : Int32) else (5 : Int32)) = (5 : Int32) from by decide]
      refine own_istore 87 rfl #[.val (.int p1), .val (.int p2), .val (.ref b1), .val (.int (5 : Int32)), .val (.int (2 : Int32)), .val (.int (5 : Int32)), .unset, .unset] at_85 rfl ?_
      refine own_iload 89 rfl at_87 rfl ?_
      refine own_iconst 90 rfl (5 : Int32) at_89 rfl ?_
      refine own_callS 93 rfl 1 9 0 [(.int (2 : Int32)), (.int (5 : Int32))] [] (y := (⟨"java/lang/Math", "max", "(II)I"⟩ : MethodName)) (hw _ (List.mem_of_getElem? (i := 23) rfl)) (hw _ (List.mem_of_getElem? (i := 24) rfl)) (hw _ (List.mem_of_getElem? (i := 25) rfl)) (hw _ (List.mem_of_getElem? (i := 26) rfl)) (by decide) (rm1 l Z a0 hw [] (2 : Int32) (5 : Int32)  h10 ) at_90 rfl (lenOf own_pd1 rfl) rfl rfl rfl (by decide) (by decide) rfl rfl (by decide) (by decide) (own_kv fun v341 h341 q341 => ?_)
      obtain ⟨rfl, e341⟩ := q341
      rw [e341]
      rw [show (if (2 : Int32) < (5 : Int32) then (5 : Int32) else (2 : Int32)) = (5 : Int32) from by decide]
      refine own_istore 95 rfl #[.val (.int p1), .val (.int p2), .val (.ref b1), .val (.int (5 : Int32)), .val (.int (2 : Int32)), .val (.int (5 : Int32)), .val (.int (5 : Int32)), .unset] at_93 rfl ?_
      refine own_aloadN 96 rfl at_95 rfl rfl ?_
      refine own_iload 98 rfl at_96 rfl ?_
      refine own_iload 100 rfl at_98 rfl ?_
      refine own_callS 103 rfl 1 9 1 [(.int (5 : Int32)), (.int (5 : Int32))] [(.ref b1)] (y := (⟨"java/lang/Math", "max", "(II)I"⟩ : MethodName)) (hw _ (List.mem_of_getElem? (i := 23) rfl)) (hw _ (List.mem_of_getElem? (i := 24) rfl)) (hw _ (List.mem_of_getElem? (i := 25) rfl)) (hw _ (List.mem_of_getElem? (i := 26) rfl)) (by decide) (rm1 l Z a0 hw [] (5 : Int32) (5 : Int32)  h10 ) at_100 rfl (lenOf own_pd1 rfl) rfl rfl rfl (by decide) (by decide) rfl rfl (by decide) (by decide) (own_kv fun v342 h342 q342 => ?_)
      obtain ⟨rfl, e342⟩ := q342
      rw [e342]
      rw [show (if (5 : Int32) < (5 : Int32) then (5 : Int32) else (5 : Int32)) = (5 : Int32) from by decide]
      obtain ⟨c343, A343, q343, S343, N343, H343, G343⟩ := id V10
      refine own_aaload 104 rfl A343 rfl (inb_of S343 ⟨by decide, by decide⟩) (Has.at H343 (inb_of S343 ⟨by decide, by decide⟩) rfl) at_103 ?_
      refine own_astore 106 rfl #[.val (.int p1), .val (.int p2), .val (.ref b1), .val (.int (5 : Int32)), .val (.int (2 : Int32)), .val (.int (5 : Int32)), .val (.int (5 : Int32)), .val (.ref w_INT)] at_104 rfl rfl ?_
      refine own_aloadN 107 rfl at_106 rfl rfl ?_
      refine own_iloadN 108 rfl at_107 rfl ?_
      obtain ⟨c344, A344, q344, S344, N344, H344, G344⟩ := id V10
      refine own_aaload 109 rfl A344 rfl (inb_of S344 ⟨by decide, by decide⟩) (Has.at H344 (inb_of S344 ⟨by decide, by decide⟩) rfl) at_108 ?_
      refine own_aloadN 110 rfl at_109 rfl rfl ?_
      refine own_iload 112 rfl at_110 rfl ?_
      obtain ⟨c345, A345, q345, S345, N345, H345, G345⟩ := id V10
      refine own_aaload 113 rfl A345 rfl (inb_of S345 ⟨by decide, by decide⟩) (Has.at H345 (inb_of S345 ⟨by decide, by decide⟩) rfl) at_112 ?_
      refine own_callS 116 rfl 1 9 0 [(.ref w_INT), (.ref w_UNSIGNED_CHAR)] [] (y := (⟨"com/example/counterpath/counterpath/cfa/Type", "common", "(Lcom/example/counterpath/counterpath/cfa/Type;Lcom/example/counterpath/counterpath/cfa/Type;)Lcom/example/counterpath/counterpath/cfa/Type;"⟩ : MethodName)) (hw _ (List.mem_of_getElem? (i := 27) rfl)) (hw _ (List.mem_of_getElem? (i := 28) rfl)) (hw _ (List.mem_of_getElem? (i := 3) rfl)) (hw _ (List.mem_of_getElem? (i := 29) rfl)) (by decide) (rm2 l Z a0 hw [] w_INT w_UNSIGNED_CHAR (32 : Int32) (1 : Int32) (8 : Int32) (0 : Int32) w_BOOL w_SIGNED_CHAR w_UNSIGNED_CHAR w_SHORT w_UNSIGNED_SHORT w_INT w_UNSIGNED_INT w_LONG_LONG w_UNSIGNED_LONG_LONG h10 I (((((((((((E_w_INT.ext O0.2).ext E1).wr W2).wr W3).wr W4).wr W5).wr W6).wr W7).wr W8).wr W9).wr W10) (((((((((((F_w_INT_width.ext O0.2).ext E1).other W2 (Or.inl ne_w_INT_b1)).other W3 (Or.inl ne_w_INT_b1)).other W4 (Or.inl ne_w_INT_b1)).other W5 (Or.inl ne_w_INT_b1)).other W6 (Or.inl ne_w_INT_b1)).other W7 (Or.inl ne_w_INT_b1)).other W8 (Or.inl ne_w_INT_b1)).other W9 (Or.inl ne_w_INT_b1)).other W10 (Or.inl ne_w_INT_b1)) (((((((((((F_w_INT_signed.ext O0.2).ext E1).other W2 (Or.inl ne_w_INT_b1)).other W3 (Or.inl ne_w_INT_b1)).other W4 (Or.inl ne_w_INT_b1)).other W5 (Or.inl ne_w_INT_b1)).other W6 (Or.inl ne_w_INT_b1)).other W7 (Or.inl ne_w_INT_b1)).other W8 (Or.inl ne_w_INT_b1)).other W9 (Or.inl ne_w_INT_b1)).other W10 (Or.inl ne_w_INT_b1)) (((((((((((E_w_UNSIGNED_CHAR.ext O0.2).ext E1).wr W2).wr W3).wr W4).wr W5).wr W6).wr W7).wr W8).wr W9).wr W10) (((((((((((F_w_UNSIGNED_CHAR_width.ext O0.2).ext E1).other W2 (Or.inl ne_w_UNSIGNED_CHAR_b1)).other W3 (Or.inl ne_w_UNSIGNED_CHAR_b1)).other W4 (Or.inl ne_w_UNSIGNED_CHAR_b1)).other W5 (Or.inl ne_w_UNSIGNED_CHAR_b1)).other W6 (Or.inl ne_w_UNSIGNED_CHAR_b1)).other W7 (Or.inl ne_w_UNSIGNED_CHAR_b1)).other W8 (Or.inl ne_w_UNSIGNED_CHAR_b1)).other W9 (Or.inl ne_w_UNSIGNED_CHAR_b1)).other W10 (Or.inl ne_w_UNSIGNED_CHAR_b1)) (((((((((((F_w_UNSIGNED_CHAR_signed.ext O0.2).ext E1).other W2 (Or.inl ne_w_UNSIGNED_CHAR_b1)).other W3 (Or.inl ne_w_UNSIGNED_CHAR_b1)).other W4 (Or.inl ne_w_UNSIGNED_CHAR_b1)).other W5 (Or.inl ne_w_UNSIGNED_CHAR_b1)).other W6 (Or.inl ne_w_UNSIGNED_CHAR_b1)).other W7 (Or.inl ne_w_UNSIGNED_CHAR_b1)).other W8 (Or.inl ne_w_UNSIGNED_CHAR_b1)).other W9 (Or.inl ne_w_UNSIGNED_CHAR_b1)).other W10 (Or.inl ne_w_UNSIGNED_CHAR_b1)) (by decide) (by decide)) at_113 rfl (lenOf own_pd2 rfl) rfl rfl rfl (by decide) (by decide) rfl rfl (by decide) (by decide) (own_kv fun v346 h346 q346 => ?_)
      obtain ⟨rfl, e346⟩ := q346
      rw [e346]
      rw [show own_com w_INT w_INT (32 : Int32) (1 : Int32) w_UNSIGNED_CHAR (8 : Int32) (0 : Int32) = w_INT from by simp [own_com]]
      refine own_aload 118 rfl at_116 rfl rfl ?_
      refine own_acmpNo 121 rfl at_118 rfl rfl (own_teq (rfl : ((.ref w_INT) : Value) = (.ref w_INT))).2 ?_
      refine own_iconst 122 rfl (1 : Int32) at_121 rfl ?_
      refine own_goto 126 at_122 (by decide) (by decide) ?_
      refine own_retN rfl (by simp) at_126 (by decide) (by decide) ?_
      exact ⟨_, rfl, rfl⟩
    · have hin_j := (rfl : (3 : Int) = 3)
      refine own_iloadN 81 rfl at_80 rfl ?_
      refine own_iconst 82 rfl (5 : Int32) at_81 rfl ?_
      refine own_callS 85 rfl 1 9 0 [(.int (5 : Int32)), (.int (5 : Int32))] [] (y := (⟨"java/lang/Math", "max", "(II)I"⟩ : MethodName)) (hw _ (List.mem_of_getElem? (i := 23) rfl)) (hw _ (List.mem_of_getElem? (i := 24) rfl)) (hw _ (List.mem_of_getElem? (i := 25) rfl)) (hw _ (List.mem_of_getElem? (i := 26) rfl)) (by decide) (rm1 l Z a0 hw [] (5 : Int32) (5 : Int32)  h10 ) at_82 rfl (lenOf own_pd1 rfl) rfl rfl rfl (by decide) (by decide) rfl rfl (by decide) (by decide) (own_kv fun v347 h347 q347 => ?_)
      obtain ⟨rfl, e347⟩ := q347
      rw [e347]
      rw [show (if (5 : Int32) < (5 : Int32) then (5 : Int32) else (5 : Int32)) = (5 : Int32) from by decide]
      refine own_istore 87 rfl #[.val (.int p1), .val (.int p2), .val (.ref b1), .val (.int (5 : Int32)), .val (.int (3 : Int32)), .val (.int (5 : Int32)), .unset, .unset] at_85 rfl ?_
      refine own_iload 89 rfl at_87 rfl ?_
      refine own_iconst 90 rfl (5 : Int32) at_89 rfl ?_
      refine own_callS 93 rfl 1 9 0 [(.int (3 : Int32)), (.int (5 : Int32))] [] (y := (⟨"java/lang/Math", "max", "(II)I"⟩ : MethodName)) (hw _ (List.mem_of_getElem? (i := 23) rfl)) (hw _ (List.mem_of_getElem? (i := 24) rfl)) (hw _ (List.mem_of_getElem? (i := 25) rfl)) (hw _ (List.mem_of_getElem? (i := 26) rfl)) (by decide) (rm1 l Z a0 hw [] (3 : Int32) (5 : Int32)  h10 ) at_90 rfl (lenOf own_pd1 rfl) rfl rfl rfl (by decide) (by decide) rfl rfl (by decide) (by decide) (own_kv fun v348 h348 q348 => ?_)
      obtain ⟨rfl, e348⟩ := q348
      rw [e348]
      rw [show (if (3 : Int32) < (5 : Int32) then (5 : Int32) else (3 : Int32)) = (5 : Int32) from by decide]
      refine own_istore 95 rfl #[.val (.int p1), .val (.int p2), .val (.ref b1), .val (.int (5 : Int32)), .val (.int (3 : Int32)), .val (.int (5 : Int32)), .val (.int (5 : Int32)), .unset] at_93 rfl ?_
      refine own_aloadN 96 rfl at_95 rfl rfl ?_
      refine own_iload 98 rfl at_96 rfl ?_
      refine own_iload 100 rfl at_98 rfl ?_
      refine own_callS 103 rfl 1 9 1 [(.int (5 : Int32)), (.int (5 : Int32))] [(.ref b1)] (y := (⟨"java/lang/Math", "max", "(II)I"⟩ : MethodName)) (hw _ (List.mem_of_getElem? (i := 23) rfl)) (hw _ (List.mem_of_getElem? (i := 24) rfl)) (hw _ (List.mem_of_getElem? (i := 25) rfl)) (hw _ (List.mem_of_getElem? (i := 26) rfl)) (by decide) (rm1 l Z a0 hw [] (5 : Int32) (5 : Int32)  h10 ) at_100 rfl (lenOf own_pd1 rfl) rfl rfl rfl (by decide) (by decide) rfl rfl (by decide) (by decide) (own_kv fun v349 h349 q349 => ?_)
      obtain ⟨rfl, e349⟩ := q349
      rw [e349]
      rw [show (if (5 : Int32) < (5 : Int32) then (5 : Int32) else (5 : Int32)) = (5 : Int32) from by decide]
      obtain ⟨c350, A350, q350, S350, N350, H350, G350⟩ := id V10
      refine own_aaload 104 rfl A350 rfl (inb_of S350 ⟨by decide, by decide⟩) (Has.at H350 (inb_of S350 ⟨by decide, by decide⟩) rfl) at_103 ?_
      refine own_astore 106 rfl #[.val (.int p1), .val (.int p2), .val (.ref b1), .val (.int (5 : Int32)), .val (.int (3 : Int32)), .val (.int (5 : Int32)), .val (.int (5 : Int32)), .val (.ref w_INT)] at_104 rfl rfl ?_
      refine own_aloadN 107 rfl at_106 rfl rfl ?_
      refine own_iloadN 108 rfl at_107 rfl ?_
      obtain ⟨c351, A351, q351, S351, N351, H351, G351⟩ := id V10
      refine own_aaload 109 rfl A351 rfl (inb_of S351 ⟨by decide, by decide⟩) (Has.at H351 (inb_of S351 ⟨by decide, by decide⟩) rfl) at_108 ?_
      refine own_aloadN 110 rfl at_109 rfl rfl ?_
      refine own_iload 112 rfl at_110 rfl ?_
      obtain ⟨c352, A352, q352, S352, N352, H352, G352⟩ := id V10
      refine own_aaload 113 rfl A352 rfl (inb_of S352 ⟨by decide, by decide⟩) (Has.at H352 (inb_of S352 ⟨by decide, by decide⟩) rfl) at_112 ?_
      refine own_callS 116 rfl 1 9 0 [(.ref w_INT), (.ref w_SHORT)] [] (y := (⟨"com/example/counterpath/counterpath/cfa/Type", "common", "(Lcom/example/counterpath/counterpath/cfa/Type;Lcom/example/counterpath/counterpath/cfa/Type;)Lcom/example/counterpath/counterpath/cfa/Type;"⟩ : MethodName)) (hw _ (List.mem_of_getElem? (i := 27) rfl)) (hw _ (List.mem_of_getElem? (i := 28) rfl)) (hw _ (List.mem_of_getElem? (i := 3) rfl)) (hw _ (List.mem_of_getElem? (i := 29) rfl)) (by decide) (rm2 l Z a0 hw [] w_INT w_SHORT (32 : Int32) (1 : Int32) (16 : Int32) (1 : Int32) w_BOOL w_SIGNED_CHAR w_UNSIGNED_CHAR w_SHORT w_UNSIGNED_SHORT w_INT w_UNSIGNED_INT w_LONG_LONG w_UNSIGNED_LONG_LONG h10 I (((((((((((E_w_INT.ext O0.2).ext E1).wr W2).wr W3).wr W4).wr W5).wr W6).wr W7).wr W8).wr W9).wr W10) (((((((((((F_w_INT_width.ext O0.2).ext E1).other W2 (Or.inl ne_w_INT_b1)).other W3 (Or.inl ne_w_INT_b1)).other W4 (Or.inl ne_w_INT_b1)).other W5 (Or.inl ne_w_INT_b1)).other W6 (Or.inl ne_w_INT_b1)).other W7 (Or.inl ne_w_INT_b1)).other W8 (Or.inl ne_w_INT_b1)).other W9 (Or.inl ne_w_INT_b1)).other W10 (Or.inl ne_w_INT_b1)) (((((((((((F_w_INT_signed.ext O0.2).ext E1).other W2 (Or.inl ne_w_INT_b1)).other W3 (Or.inl ne_w_INT_b1)).other W4 (Or.inl ne_w_INT_b1)).other W5 (Or.inl ne_w_INT_b1)).other W6 (Or.inl ne_w_INT_b1)).other W7 (Or.inl ne_w_INT_b1)).other W8 (Or.inl ne_w_INT_b1)).other W9 (Or.inl ne_w_INT_b1)).other W10 (Or.inl ne_w_INT_b1)) (((((((((((E_w_SHORT.ext O0.2).ext E1).wr W2).wr W3).wr W4).wr W5).wr W6).wr W7).wr W8).wr W9).wr W10) (((((((((((F_w_SHORT_width.ext O0.2).ext E1).other W2 (Or.inl ne_w_SHORT_b1)).other W3 (Or.inl ne_w_SHORT_b1)).other W4 (Or.inl ne_w_SHORT_b1)).other W5 (Or.inl ne_w_SHORT_b1)).other W6 (Or.inl ne_w_SHORT_b1)).other W7 (Or.inl ne_w_SHORT_b1)).other W8 (Or.inl ne_w_SHORT_b1)).other W9 (Or.inl ne_w_SHORT_b1)).other W10 (Or.inl ne_w_SHORT_b1)) (((((((((((F_w_SHORT_signed.ext O0.2).ext E1).other W2 (Or.inl ne_w_SHORT_b1)).other W3 (Or.inl ne_w_SHORT_b1)).other W4 (Or.inl ne_w_SHORT_b1)).other W5 (Or.inl ne_w_SHORT_b1)).other W6 (Or.inl ne_w_SHORT_b1)).other W7 (Or.inl ne_w_SHORT_b1)).other W8 (Or.inl ne_w_SHORT_b1)).other W9 (Or.inl ne_w_SHORT_b1)).other W10 (Or.inl ne_w_SHORT_b1)) (by decide) (by decide)) at_113 rfl (lenOf own_pd2 rfl) rfl rfl rfl (by decide) (by decide) rfl rfl (by decide) (by decide) (own_kv fun v353 h353 q353 => ?_)
      obtain ⟨rfl, e353⟩ := q353
      rw [e353]
      rw [show own_com w_INT w_INT (32 : Int32) (1 : Int32) w_SHORT (16 : Int32) (1 : Int32) = w_INT from by simp [own_com]]
      refine own_aload 118 rfl at_116 rfl rfl ?_
      refine own_acmpNo 121 rfl at_118 rfl rfl (own_teq (rfl : ((.ref w_INT) : Value) = (.ref w_INT))).2 ?_
      refine own_iconst 122 rfl (1 : Int32) at_121 rfl ?_
      refine own_goto 126 at_122 (by decide) (by decide) ?_
      refine own_retN rfl (by simp) at_126 (by decide) (by decide) ?_
      exact ⟨_, rfl, rfl⟩
    · have hin_j := (rfl : (4 : Int) = 4)
      refine own_iloadN 81 rfl at_80 rfl ?_
      refine own_iconst 82 rfl (5 : Int32) at_81 rfl ?_
      refine own_callS 85 rfl 1 9 0 [(.int (5 : Int32)), (.int (5 : Int32))] [] (y := (⟨"java/lang/Math", "max", "(II)I"⟩ : MethodName)) (hw _ (List.mem_of_getElem? (i := 23) rfl)) (hw _ (List.mem_of_getElem? (i := 24) rfl)) (hw _ (List.mem_of_getElem? (i := 25) rfl)) (hw _ (List.mem_of_getElem? (i := 26) rfl)) (by decide) (rm1 l Z a0 hw [] (5 : Int32) (5 : Int32)  h10 ) at_82 rfl (lenOf own_pd1 rfl) rfl rfl rfl (by decide) (by decide) rfl rfl (by decide) (by decide) (own_kv fun v354 h354 q354 => ?_)
      obtain ⟨rfl, e354⟩ := q354
      rw [e354]
      rw [show (if (5 : Int32) < (5 : Int32) then (5 : Int32) else (5 : Int32)) = (5 : Int32) from by decide]
      refine own_istore 87 rfl #[.val (.int p1), .val (.int p2), .val (.ref b1), .val (.int (5 : Int32)), .val (.int (4 : Int32)), .val (.int (5 : Int32)), .unset, .unset] at_85 rfl ?_
      refine own_iload 89 rfl at_87 rfl ?_
      refine own_iconst 90 rfl (5 : Int32) at_89 rfl ?_
      refine own_callS 93 rfl 1 9 0 [(.int (4 : Int32)), (.int (5 : Int32))] [] (y := (⟨"java/lang/Math", "max", "(II)I"⟩ : MethodName)) (hw _ (List.mem_of_getElem? (i := 23) rfl)) (hw _ (List.mem_of_getElem? (i := 24) rfl)) (hw _ (List.mem_of_getElem? (i := 25) rfl)) (hw _ (List.mem_of_getElem? (i := 26) rfl)) (by decide) (rm1 l Z a0 hw [] (4 : Int32) (5 : Int32)  h10 ) at_90 rfl (lenOf own_pd1 rfl) rfl rfl rfl (by decide) (by decide) rfl rfl (by decide) (by decide) (own_kv fun v355 h355 q355 => ?_)
      obtain ⟨rfl, e355⟩ := q355
      rw [e355]
      rw [show (if (4 : Int32) < (5 : Int32) then (5 : Int32) else (4 : Int32)) = (5 : Int32) from by decide]
      refine own_istore 95 rfl #[.val (.int p1), .val (.int p2), .val (.ref b1), .val (.int (5 : Int32)), .val (.int (4 : Int32)), .val (.int (5 : Int32)), .val (.int (5 : Int32)), .unset] at_93 rfl ?_
      refine own_aloadN 96 rfl at_95 rfl rfl ?_
      refine own_iload 98 rfl at_96 rfl ?_
      refine own_iload 100 rfl at_98 rfl ?_
      refine own_callS 103 rfl 1 9 1 [(.int (5 : Int32)), (.int (5 : Int32))] [(.ref b1)] (y := (⟨"java/lang/Math", "max", "(II)I"⟩ : MethodName)) (hw _ (List.mem_of_getElem? (i := 23) rfl)) (hw _ (List.mem_of_getElem? (i := 24) rfl)) (hw _ (List.mem_of_getElem? (i := 25) rfl)) (hw _ (List.mem_of_getElem? (i := 26) rfl)) (by decide) (rm1 l Z a0 hw [] (5 : Int32) (5 : Int32)  h10 ) at_100 rfl (lenOf own_pd1 rfl) rfl rfl rfl (by decide) (by decide) rfl rfl (by decide) (by decide) (own_kv fun v356 h356 q356 => ?_)
      obtain ⟨rfl, e356⟩ := q356
      rw [e356]
      rw [show (if (5 : Int32) < (5 : Int32) then (5 : Int32) else (5 : Int32)) = (5 : Int32) from by decide]
      obtain ⟨c357, A357, q357, S357, N357, H357, G357⟩ := id V10
      refine own_aaload 104 rfl A357 rfl (inb_of S357 ⟨by decide, by decide⟩) (Has.at H357 (inb_of S357 ⟨by decide, by decide⟩) rfl) at_103 ?_
      refine own_astore 106 rfl #[.val (.int p1), .val (.int p2), .val (.ref b1), .val (.int (5 : Int32)), .val (.int (4 : Int32)), .val (.int (5 : Int32)), .val (.int (5 : Int32)), .val (.ref w_INT)] at_104 rfl rfl ?_
      refine own_aloadN 107 rfl at_106 rfl rfl ?_
      refine own_iloadN 108 rfl at_107 rfl ?_
      obtain ⟨c358, A358, q358, S358, N358, H358, G358⟩ := id V10
      refine own_aaload 109 rfl A358 rfl (inb_of S358 ⟨by decide, by decide⟩) (Has.at H358 (inb_of S358 ⟨by decide, by decide⟩) rfl) at_108 ?_
      refine own_aloadN 110 rfl at_109 rfl rfl ?_
      refine own_iload 112 rfl at_110 rfl ?_
      obtain ⟨c359, A359, q359, S359, N359, H359, G359⟩ := id V10
      refine own_aaload 113 rfl A359 rfl (inb_of S359 ⟨by decide, by decide⟩) (Has.at H359 (inb_of S359 ⟨by decide, by decide⟩) rfl) at_112 ?_
      refine own_callS 116 rfl 1 9 0 [(.ref w_INT), (.ref w_UNSIGNED_SHORT)] [] (y := (⟨"com/example/counterpath/counterpath/cfa/Type", "common", "(Lcom/example/counterpath/counterpath/cfa/Type;Lcom/example/counterpath/counterpath/cfa/Type;)Lcom/example/counterpath/counterpath/cfa/Type;"⟩ : MethodName)) (hw _ (List.mem_of_getElem? (i := 27) rfl)) (hw _ (List.mem_of_getElem? (i := 28) rfl)) (hw _ (List.mem_of_getElem? (i := 3) rfl)) (hw _ (List.mem_of_getElem? (i := 29) rfl)) (by decide) (rm2 l Z a0 hw [] w_INT w_UNSIGNED_SHORT (32 : Int32) (1 : Int32) (16 : Int32) (0 : Int32) w_BOOL w_SIGNED_CHAR w_UNSIGNED_CHAR w_SHORT w_UNSIGNED_SHORT w_INT w_UNSIGNED_INT w_LONG_LONG w_UNSIGNED_LONG_LONG h10 I (((((((((((E_w_INT.ext O0.2).ext E1).wr W2).wr W3).wr W4).wr W5).wr W6).wr W7).wr W8).wr W9).wr W10) (((((((((((F_w_INT_width.ext O0.2).ext E1).other W2 (Or.inl ne_w_INT_b1)).other W3 (Or.inl ne_w_INT_b1)).other W4 (Or.inl ne_w_INT_b1)).other W5 (Or.inl ne_w_INT_b1)).other W6 (Or.inl ne_w_INT_b1)).other W7 (Or.inl ne_w_INT_b1)).other W8 (Or.inl ne_w_INT_b1)).other W9 (Or.inl ne_w_INT_b1)).other W10 (Or.inl ne_w_INT_b1)) (((((((((((F_w_INT_signed.ext O0.2).ext E1).other W2 (Or.inl ne_w_INT_b1)).other W3 (Or.inl ne_w_INT_b1)).other W4 (Or.inl ne_w_INT_b1)).other W5 (Or.inl ne_w_INT_b1)).other W6 (Or.inl ne_w_INT_b1)).other W7 (Or.inl ne_w_INT_b1)).other W8 (Or.inl ne_w_INT_b1)).other W9 (Or.inl ne_w_INT_b1)).other W10 (Or.inl ne_w_INT_b1)) (((((((((((E_w_UNSIGNED_SHORT.ext O0.2).ext E1).wr W2).wr W3).wr W4).wr W5).wr W6).wr W7).wr W8).wr W9).wr W10) (((((((((((F_w_UNSIGNED_SHORT_width.ext O0.2).ext E1).other W2 (Or.inl ne_w_UNSIGNED_SHORT_b1)).other W3 (Or.inl ne_w_UNSIGNED_SHORT_b1)).other W4 (Or.inl ne_w_UNSIGNED_SHORT_b1)).other W5 (Or.inl ne_w_UNSIGNED_SHORT_b1)).other W6 (Or.inl ne_w_UNSIGNED_SHORT_b1)).other W7 (Or.inl ne_w_UNSIGNED_SHORT_b1)).other W8 (Or.inl ne_w_UNSIGNED_SHORT_b1)).other W9 (Or.inl ne_w_UNSIGNED_SHORT_b1)).other W10 (Or.inl ne_w_UNSIGNED_SHORT_b1)) (((((((((((F_w_UNSIGNED_SHORT_signed.ext O0.2).ext E1).other W2 (Or.inl ne_w_UNSIGNED_SHORT_b1)).other W3 (Or.inl ne_w_UNSIGNED_SHORT_b1)).other W4 (Or.inl ne_w_UNSIGNED_SHORT_b1)).other W5 (Or.inl ne_w_UNSIGNED_SHORT_b1)).other W6 (Or.inl ne_w_UNSIGNED_SHORT_b1)).other W7 (Or.inl ne_w_UNSIGNED_SHORT_b1)).other W8 (Or.inl ne_w_UNSIGNED_SHORT_b1)).other W9 (Or.inl ne_w_UNSIGNED_SHORT_b1)).other W10 (Or.inl ne_w_UNSIGNED_SHORT_b1)) (by decide) (by decide)) at_113 rfl (lenOf own_pd2 rfl) rfl rfl rfl (by decide) (by decide) rfl rfl (by decide) (by decide) (own_kv fun v360 h360 q360 => ?_)
      obtain ⟨rfl, e360⟩ := q360
      rw [e360]
      rw [show own_com w_INT w_INT (32 : Int32) (1 : Int32) w_UNSIGNED_SHORT (16 : Int32) (0 : Int32) = w_INT from by simp [own_com]]
      refine own_aload 118 rfl at_116 rfl rfl ?_
      refine own_acmpNo 121 rfl at_118 rfl rfl (own_teq (rfl : ((.ref w_INT) : Value) = (.ref w_INT))).2 ?_
      refine own_iconst 122 rfl (1 : Int32) at_121 rfl ?_
      refine own_goto 126 at_122 (by decide) (by decide) ?_
      refine own_retN rfl (by simp) at_126 (by decide) (by decide) ?_
      exact ⟨_, rfl, rfl⟩
    · have hin_j := (rfl : (5 : Int) = 5)
      refine own_iloadN 81 rfl at_80 rfl ?_
      refine own_iconst 82 rfl (5 : Int32) at_81 rfl ?_
      refine own_callS 85 rfl 1 9 0 [(.int (5 : Int32)), (.int (5 : Int32))] [] (y := (⟨"java/lang/Math", "max", "(II)I"⟩ : MethodName)) (hw _ (List.mem_of_getElem? (i := 23) rfl)) (hw _ (List.mem_of_getElem? (i := 24) rfl)) (hw _ (List.mem_of_getElem? (i := 25) rfl)) (hw _ (List.mem_of_getElem? (i := 26) rfl)) (by decide) (rm1 l Z a0 hw [] (5 : Int32) (5 : Int32)  h10 ) at_82 rfl (lenOf own_pd1 rfl) rfl rfl rfl (by decide) (by decide) rfl rfl (by decide) (by decide) (own_kv fun v361 h361 q361 => ?_)
      obtain ⟨rfl, e361⟩ := q361
      rw [e361]
      rw [show (if (5 : Int32) < (5 : Int32) then (5 : Int32) else (5 : Int32)) = (5 : Int32) from by decide]
      refine own_istore 87 rfl #[.val (.int p1), .val (.int p2), .val (.ref b1), .val (.int (5 : Int32)), .val (.int (5 : Int32)), .val (.int (5 : Int32)), .unset, .unset] at_85 rfl ?_
      refine own_iload 89 rfl at_87 rfl ?_
      refine own_iconst 90 rfl (5 : Int32) at_89 rfl ?_
      refine own_callS 93 rfl 1 9 0 [(.int (5 : Int32)), (.int (5 : Int32))] [] (y := (⟨"java/lang/Math", "max", "(II)I"⟩ : MethodName)) (hw _ (List.mem_of_getElem? (i := 23) rfl)) (hw _ (List.mem_of_getElem? (i := 24) rfl)) (hw _ (List.mem_of_getElem? (i := 25) rfl)) (hw _ (List.mem_of_getElem? (i := 26) rfl)) (by decide) (rm1 l Z a0 hw [] (5 : Int32) (5 : Int32)  h10 ) at_90 rfl (lenOf own_pd1 rfl) rfl rfl rfl (by decide) (by decide) rfl rfl (by decide) (by decide) (own_kv fun v362 h362 q362 => ?_)
      obtain ⟨rfl, e362⟩ := q362
      rw [e362]
      rw [show (if (5 : Int32) < (5 : Int32) then (5 : Int32) else (5 : Int32)) = (5 : Int32) from by decide]
      refine own_istore 95 rfl #[.val (.int p1), .val (.int p2), .val (.ref b1), .val (.int (5 : Int32)), .val (.int (5 : Int32)), .val (.int (5 : Int32)), .val (.int (5 : Int32)), .unset] at_93 rfl ?_
      refine own_aloadN 96 rfl at_95 rfl rfl ?_
      refine own_iload 98 rfl at_96 rfl ?_
      refine own_iload 100 rfl at_98 rfl ?_
      refine own_callS 103 rfl 1 9 1 [(.int (5 : Int32)), (.int (5 : Int32))] [(.ref b1)] (y := (⟨"java/lang/Math", "max", "(II)I"⟩ : MethodName)) (hw _ (List.mem_of_getElem? (i := 23) rfl)) (hw _ (List.mem_of_getElem? (i := 24) rfl)) (hw _ (List.mem_of_getElem? (i := 25) rfl)) (hw _ (List.mem_of_getElem? (i := 26) rfl)) (by decide) (rm1 l Z a0 hw [] (5 : Int32) (5 : Int32)  h10 ) at_100 rfl (lenOf own_pd1 rfl) rfl rfl rfl (by decide) (by decide) rfl rfl (by decide) (by decide) (own_kv fun v363 h363 q363 => ?_)
      obtain ⟨rfl, e363⟩ := q363
      rw [e363]
      rw [show (if (5 : Int32) < (5 : Int32) then (5 : Int32) else (5 : Int32)) = (5 : Int32) from by decide]
      obtain ⟨c364, A364, q364, S364, N364, H364, G364⟩ := id V10
      refine own_aaload 104 rfl A364 rfl (inb_of S364 ⟨by decide, by decide⟩) (Has.at H364 (inb_of S364 ⟨by decide, by decide⟩) rfl) at_103 ?_
      refine own_astore 106 rfl #[.val (.int p1), .val (.int p2), .val (.ref b1), .val (.int (5 : Int32)), .val (.int (5 : Int32)), .val (.int (5 : Int32)), .val (.int (5 : Int32)), .val (.ref w_INT)] at_104 rfl rfl ?_
      refine own_aloadN 107 rfl at_106 rfl rfl ?_
      refine own_iloadN 108 rfl at_107 rfl ?_
      obtain ⟨c365, A365, q365, S365, N365, H365, G365⟩ := id V10
      refine own_aaload 109 rfl A365 rfl (inb_of S365 ⟨by decide, by decide⟩) (Has.at H365 (inb_of S365 ⟨by decide, by decide⟩) rfl) at_108 ?_
      refine own_aloadN 110 rfl at_109 rfl rfl ?_
      refine own_iload 112 rfl at_110 rfl ?_
      obtain ⟨c366, A366, q366, S366, N366, H366, G366⟩ := id V10
      refine own_aaload 113 rfl A366 rfl (inb_of S366 ⟨by decide, by decide⟩) (Has.at H366 (inb_of S366 ⟨by decide, by decide⟩) rfl) at_112 ?_
      refine own_callS 116 rfl 1 9 0 [(.ref w_INT), (.ref w_INT)] [] (y := (⟨"com/example/counterpath/counterpath/cfa/Type", "common", "(Lcom/example/counterpath/counterpath/cfa/Type;Lcom/example/counterpath/counterpath/cfa/Type;)Lcom/example/counterpath/counterpath/cfa/Type;"⟩ : MethodName)) (hw _ (List.mem_of_getElem? (i := 27) rfl)) (hw _ (List.mem_of_getElem? (i := 28) rfl)) (hw _ (List.mem_of_getElem? (i := 3) rfl)) (hw _ (List.mem_of_getElem? (i := 29) rfl)) (by decide) (rm2 l Z a0 hw [] w_INT w_INT (32 : Int32) (1 : Int32) (32 : Int32) (1 : Int32) w_BOOL w_SIGNED_CHAR w_UNSIGNED_CHAR w_SHORT w_UNSIGNED_SHORT w_INT w_UNSIGNED_INT w_LONG_LONG w_UNSIGNED_LONG_LONG h10 I (((((((((((E_w_INT.ext O0.2).ext E1).wr W2).wr W3).wr W4).wr W5).wr W6).wr W7).wr W8).wr W9).wr W10) (((((((((((F_w_INT_width.ext O0.2).ext E1).other W2 (Or.inl ne_w_INT_b1)).other W3 (Or.inl ne_w_INT_b1)).other W4 (Or.inl ne_w_INT_b1)).other W5 (Or.inl ne_w_INT_b1)).other W6 (Or.inl ne_w_INT_b1)).other W7 (Or.inl ne_w_INT_b1)).other W8 (Or.inl ne_w_INT_b1)).other W9 (Or.inl ne_w_INT_b1)).other W10 (Or.inl ne_w_INT_b1)) (((((((((((F_w_INT_signed.ext O0.2).ext E1).other W2 (Or.inl ne_w_INT_b1)).other W3 (Or.inl ne_w_INT_b1)).other W4 (Or.inl ne_w_INT_b1)).other W5 (Or.inl ne_w_INT_b1)).other W6 (Or.inl ne_w_INT_b1)).other W7 (Or.inl ne_w_INT_b1)).other W8 (Or.inl ne_w_INT_b1)).other W9 (Or.inl ne_w_INT_b1)).other W10 (Or.inl ne_w_INT_b1)) (((((((((((E_w_INT.ext O0.2).ext E1).wr W2).wr W3).wr W4).wr W5).wr W6).wr W7).wr W8).wr W9).wr W10) (((((((((((F_w_INT_width.ext O0.2).ext E1).other W2 (Or.inl ne_w_INT_b1)).other W3 (Or.inl ne_w_INT_b1)).other W4 (Or.inl ne_w_INT_b1)).other W5 (Or.inl ne_w_INT_b1)).other W6 (Or.inl ne_w_INT_b1)).other W7 (Or.inl ne_w_INT_b1)).other W8 (Or.inl ne_w_INT_b1)).other W9 (Or.inl ne_w_INT_b1)).other W10 (Or.inl ne_w_INT_b1)) (((((((((((F_w_INT_signed.ext O0.2).ext E1).other W2 (Or.inl ne_w_INT_b1)).other W3 (Or.inl ne_w_INT_b1)).other W4 (Or.inl ne_w_INT_b1)).other W5 (Or.inl ne_w_INT_b1)).other W6 (Or.inl ne_w_INT_b1)).other W7 (Or.inl ne_w_INT_b1)).other W8 (Or.inl ne_w_INT_b1)).other W9 (Or.inl ne_w_INT_b1)).other W10 (Or.inl ne_w_INT_b1)) (by decide) (by decide)) at_113 rfl (lenOf own_pd2 rfl) rfl rfl rfl (by decide) (by decide) rfl rfl (by decide) (by decide) (own_kv fun v367 h367 q367 => ?_)
      obtain ⟨rfl, e367⟩ := q367
      rw [e367]
      rw [show own_com w_INT w_INT (32 : Int32) (1 : Int32) w_INT (32 : Int32) (1 : Int32) = w_INT from by simp [own_com]]
      refine own_aload 118 rfl at_116 rfl rfl ?_
      refine own_acmpNo 121 rfl at_118 rfl rfl (own_teq (rfl : ((.ref w_INT) : Value) = (.ref w_INT))).2 ?_
      refine own_iconst 122 rfl (1 : Int32) at_121 rfl ?_
      refine own_goto 126 at_122 (by decide) (by decide) ?_
      refine own_retN rfl (by simp) at_126 (by decide) (by decide) ?_
      exact ⟨_, rfl, rfl⟩
    · have hin_j := (rfl : (6 : Int) = 6)
      refine own_iloadN 81 rfl at_80 rfl ?_
      refine own_iconst 82 rfl (5 : Int32) at_81 rfl ?_
      refine own_callS 85 rfl 1 9 0 [(.int (5 : Int32)), (.int (5 : Int32))] [] (y := (⟨"java/lang/Math", "max", "(II)I"⟩ : MethodName)) (hw _ (List.mem_of_getElem? (i := 23) rfl)) (hw _ (List.mem_of_getElem? (i := 24) rfl)) (hw _ (List.mem_of_getElem? (i := 25) rfl)) (hw _ (List.mem_of_getElem? (i := 26) rfl)) (by decide) (rm1 l Z a0 hw [] (5 : Int32) (5 : Int32)  h10 ) at_82 rfl (lenOf own_pd1 rfl) rfl rfl rfl (by decide) (by decide) rfl rfl (by decide) (by decide) (own_kv fun v368 h368 q368 => ?_)
      obtain ⟨rfl, e368⟩ := q368
      rw [e368]
      rw [show (if (5 : Int32) < (5 : Int32) then (5 : Int32) else (5 : Int32)) = (5 : Int32) from by decide]
      refine own_istore 87 rfl #[.val (.int p1), .val (.int p2), .val (.ref b1), .val (.int (5 : Int32)), .val (.int (6 : Int32)), .val (.int (5 : Int32)), .unset, .unset] at_85 rfl ?_
      refine own_iload 89 rfl at_87 rfl ?_
      refine own_iconst 90 rfl (5 : Int32) at_89 rfl ?_
      refine own_callS 93 rfl 1 9 0 [(.int (6 : Int32)), (.int (5 : Int32))] [] (y := (⟨"java/lang/Math", "max", "(II)I"⟩ : MethodName)) (hw _ (List.mem_of_getElem? (i := 23) rfl)) (hw _ (List.mem_of_getElem? (i := 24) rfl)) (hw _ (List.mem_of_getElem? (i := 25) rfl)) (hw _ (List.mem_of_getElem? (i := 26) rfl)) (by decide) (rm1 l Z a0 hw [] (6 : Int32) (5 : Int32)  h10 ) at_90 rfl (lenOf own_pd1 rfl) rfl rfl rfl (by decide) (by decide) rfl rfl (by decide) (by decide) (own_kv fun v369 h369 q369 => ?_)
      obtain ⟨rfl, e369⟩ := q369
      rw [e369]
      rw [show (if (6 : Int32) < (5 : Int32) then (5 : Int32) else (6 : Int32)) = (6 : Int32) from by decide]
      refine own_istore 95 rfl #[.val (.int p1), .val (.int p2), .val (.ref b1), .val (.int (5 : Int32)), .val (.int (6 : Int32)), .val (.int (5 : Int32)), .val (.int (6 : Int32)), .unset] at_93 rfl ?_
      refine own_aloadN 96 rfl at_95 rfl rfl ?_
      refine own_iload 98 rfl at_96 rfl ?_
      refine own_iload 100 rfl at_98 rfl ?_
      refine own_callS 103 rfl 1 9 1 [(.int (5 : Int32)), (.int (6 : Int32))] [(.ref b1)] (y := (⟨"java/lang/Math", "max", "(II)I"⟩ : MethodName)) (hw _ (List.mem_of_getElem? (i := 23) rfl)) (hw _ (List.mem_of_getElem? (i := 24) rfl)) (hw _ (List.mem_of_getElem? (i := 25) rfl)) (hw _ (List.mem_of_getElem? (i := 26) rfl)) (by decide) (rm1 l Z a0 hw [] (5 : Int32) (6 : Int32)  h10 ) at_100 rfl (lenOf own_pd1 rfl) rfl rfl rfl (by decide) (by decide) rfl rfl (by decide) (by decide) (own_kv fun v370 h370 q370 => ?_)
      obtain ⟨rfl, e370⟩ := q370
      rw [e370]
      rw [show (if (5 : Int32) < (6 : Int32) then (6 : Int32) else (5 : Int32)) = (6 : Int32) from by decide]
      obtain ⟨c371, A371, q371, S371, N371, H371, G371⟩ := id V10
      refine own_aaload 104 rfl A371 rfl (inb_of S371 ⟨by decide, by decide⟩) (Has.at H371 (inb_of S371 ⟨by decide, by decide⟩) rfl) at_103 ?_
      refine own_astore 106 rfl #[.val (.int p1), .val (.int p2), .val (.ref b1), .val (.int (5 : Int32)), .val (.int (6 : Int32)), .val (.int (5 : Int32)), .val (.int (6 : Int32)), .val (.ref w_UNSIGNED_INT)] at_104 rfl rfl ?_
      refine own_aloadN 107 rfl at_106 rfl rfl ?_
      refine own_iloadN 108 rfl at_107 rfl ?_
      obtain ⟨c372, A372, q372, S372, N372, H372, G372⟩ := id V10
      refine own_aaload 109 rfl A372 rfl (inb_of S372 ⟨by decide, by decide⟩) (Has.at H372 (inb_of S372 ⟨by decide, by decide⟩) rfl) at_108 ?_
      refine own_aloadN 110 rfl at_109 rfl rfl ?_
      refine own_iload 112 rfl at_110 rfl ?_
      obtain ⟨c373, A373, q373, S373, N373, H373, G373⟩ := id V10
      refine own_aaload 113 rfl A373 rfl (inb_of S373 ⟨by decide, by decide⟩) (Has.at H373 (inb_of S373 ⟨by decide, by decide⟩) rfl) at_112 ?_
      refine own_callS 116 rfl 1 9 0 [(.ref w_INT), (.ref w_UNSIGNED_INT)] [] (y := (⟨"com/example/counterpath/counterpath/cfa/Type", "common", "(Lcom/example/counterpath/counterpath/cfa/Type;Lcom/example/counterpath/counterpath/cfa/Type;)Lcom/example/counterpath/counterpath/cfa/Type;"⟩ : MethodName)) (hw _ (List.mem_of_getElem? (i := 27) rfl)) (hw _ (List.mem_of_getElem? (i := 28) rfl)) (hw _ (List.mem_of_getElem? (i := 3) rfl)) (hw _ (List.mem_of_getElem? (i := 29) rfl)) (by decide) (rm2 l Z a0 hw [] w_INT w_UNSIGNED_INT (32 : Int32) (1 : Int32) (32 : Int32) (0 : Int32) w_BOOL w_SIGNED_CHAR w_UNSIGNED_CHAR w_SHORT w_UNSIGNED_SHORT w_INT w_UNSIGNED_INT w_LONG_LONG w_UNSIGNED_LONG_LONG h10 I (((((((((((E_w_INT.ext O0.2).ext E1).wr W2).wr W3).wr W4).wr W5).wr W6).wr W7).wr W8).wr W9).wr W10) (((((((((((F_w_INT_width.ext O0.2).ext E1).other W2 (Or.inl ne_w_INT_b1)).other W3 (Or.inl ne_w_INT_b1)).other W4 (Or.inl ne_w_INT_b1)).other W5 (Or.inl ne_w_INT_b1)).other W6 (Or.inl ne_w_INT_b1)).other W7 (Or.inl ne_w_INT_b1)).other W8 (Or.inl ne_w_INT_b1)).other W9 (Or.inl ne_w_INT_b1)).other W10 (Or.inl ne_w_INT_b1)) (((((((((((F_w_INT_signed.ext O0.2).ext E1).other W2 (Or.inl ne_w_INT_b1)).other W3 (Or.inl ne_w_INT_b1)).other W4 (Or.inl ne_w_INT_b1)).other W5 (Or.inl ne_w_INT_b1)).other W6 (Or.inl ne_w_INT_b1)).other W7 (Or.inl ne_w_INT_b1)).other W8 (Or.inl ne_w_INT_b1)).other W9 (Or.inl ne_w_INT_b1)).other W10 (Or.inl ne_w_INT_b1)) (((((((((((E_w_UNSIGNED_INT.ext O0.2).ext E1).wr W2).wr W3).wr W4).wr W5).wr W6).wr W7).wr W8).wr W9).wr W10) (((((((((((F_w_UNSIGNED_INT_width.ext O0.2).ext E1).other W2 (Or.inl ne_w_UNSIGNED_INT_b1)).other W3 (Or.inl ne_w_UNSIGNED_INT_b1)).other W4 (Or.inl ne_w_UNSIGNED_INT_b1)).other W5 (Or.inl ne_w_UNSIGNED_INT_b1)).other W6 (Or.inl ne_w_UNSIGNED_INT_b1)).other W7 (Or.inl ne_w_UNSIGNED_INT_b1)).other W8 (Or.inl ne_w_UNSIGNED_INT_b1)).other W9 (Or.inl ne_w_UNSIGNED_INT_b1)).other W10 (Or.inl ne_w_UNSIGNED_INT_b1)) (((((((((((F_w_UNSIGNED_INT_signed.ext O0.2).ext E1).other W2 (Or.inl ne_w_UNSIGNED_INT_b1)).other W3 (Or.inl ne_w_UNSIGNED_INT_b1)).other W4 (Or.inl ne_w_UNSIGNED_INT_b1)).other W5 (Or.inl ne_w_UNSIGNED_INT_b1)).other W6 (Or.inl ne_w_UNSIGNED_INT_b1)).other W7 (Or.inl ne_w_UNSIGNED_INT_b1)).other W8 (Or.inl ne_w_UNSIGNED_INT_b1)).other W9 (Or.inl ne_w_UNSIGNED_INT_b1)).other W10 (Or.inl ne_w_UNSIGNED_INT_b1)) (by decide) (by decide)) at_113 rfl (lenOf own_pd2 rfl) rfl rfl rfl (by decide) (by decide) rfl rfl (by decide) (by decide) (own_kv fun v374 h374 q374 => ?_)
      obtain ⟨rfl, e374⟩ := q374
      rw [e374]
      rw [show own_com w_INT w_INT (32 : Int32) (1 : Int32) w_UNSIGNED_INT (32 : Int32) (0 : Int32) = w_UNSIGNED_INT from by simp [own_com]]
      refine own_aload 118 rfl at_116 rfl rfl ?_
      refine own_acmpNo 121 rfl at_118 rfl rfl (own_teq (rfl : ((.ref w_UNSIGNED_INT) : Value) = (.ref w_UNSIGNED_INT))).2 ?_
      refine own_iconst 122 rfl (1 : Int32) at_121 rfl ?_
      refine own_goto 126 at_122 (by decide) (by decide) ?_
      refine own_retN rfl (by simp) at_126 (by decide) (by decide) ?_
      exact ⟨_, rfl, rfl⟩
    · have hin_j := (rfl : (7 : Int) = 7)
      refine own_iloadN 81 rfl at_80 rfl ?_
      refine own_iconst 82 rfl (5 : Int32) at_81 rfl ?_
      refine own_callS 85 rfl 1 9 0 [(.int (5 : Int32)), (.int (5 : Int32))] [] (y := (⟨"java/lang/Math", "max", "(II)I"⟩ : MethodName)) (hw _ (List.mem_of_getElem? (i := 23) rfl)) (hw _ (List.mem_of_getElem? (i := 24) rfl)) (hw _ (List.mem_of_getElem? (i := 25) rfl)) (hw _ (List.mem_of_getElem? (i := 26) rfl)) (by decide) (rm1 l Z a0 hw [] (5 : Int32) (5 : Int32)  h10 ) at_82 rfl (lenOf own_pd1 rfl) rfl rfl rfl (by decide) (by decide) rfl rfl (by decide) (by decide) (own_kv fun v375 h375 q375 => ?_)
      obtain ⟨rfl, e375⟩ := q375
      rw [e375]
      rw [show (if (5 : Int32) < (5 : Int32) then (5 : Int32) else (5 : Int32)) = (5 : Int32) from by decide]
      refine own_istore 87 rfl #[.val (.int p1), .val (.int p2), .val (.ref b1), .val (.int (5 : Int32)), .val (.int (7 : Int32)), .val (.int (5 : Int32)), .unset, .unset] at_85 rfl ?_
      refine own_iload 89 rfl at_87 rfl ?_
      refine own_iconst 90 rfl (5 : Int32) at_89 rfl ?_
      refine own_callS 93 rfl 1 9 0 [(.int (7 : Int32)), (.int (5 : Int32))] [] (y := (⟨"java/lang/Math", "max", "(II)I"⟩ : MethodName)) (hw _ (List.mem_of_getElem? (i := 23) rfl)) (hw _ (List.mem_of_getElem? (i := 24) rfl)) (hw _ (List.mem_of_getElem? (i := 25) rfl)) (hw _ (List.mem_of_getElem? (i := 26) rfl)) (by decide) (rm1 l Z a0 hw [] (7 : Int32) (5 : Int32)  h10 ) at_90 rfl (lenOf own_pd1 rfl) rfl rfl rfl (by decide) (by decide) rfl rfl (by decide) (by decide) (own_kv fun v376 h376 q376 => ?_)
      obtain ⟨rfl, e376⟩ := q376
      rw [e376]
      rw [show (if (7 : Int32) < (5 : Int32) then (5 : Int32) else (7 : Int32)) = (7 : Int32) from by decide]
      refine own_istore 95 rfl #[.val (.int p1), .val (.int p2), .val (.ref b1), .val (.int (5 : Int32)), .val (.int (7 : Int32)), .val (.int (5 : Int32)), .val (.int (7 : Int32)), .unset] at_93 rfl ?_
      refine own_aloadN 96 rfl at_95 rfl rfl ?_
      refine own_iload 98 rfl at_96 rfl ?_
      refine own_iload 100 rfl at_98 rfl ?_
      refine own_callS 103 rfl 1 9 1 [(.int (5 : Int32)), (.int (7 : Int32))] [(.ref b1)] (y := (⟨"java/lang/Math", "max", "(II)I"⟩ : MethodName)) (hw _ (List.mem_of_getElem? (i := 23) rfl)) (hw _ (List.mem_of_getElem? (i := 24) rfl)) (hw _ (List.mem_of_getElem? (i := 25) rfl)) (hw _ (List.mem_of_getElem? (i := 26) rfl)) (by decide) (rm1 l Z a0 hw [] (5 : Int32) (7 : Int32)  h10 ) at_100 rfl (lenOf own_pd1 rfl) rfl rfl rfl (by decide) (by decide) rfl rfl (by decide) (by decide) (own_kv fun v377 h377 q377 => ?_)
      obtain ⟨rfl, e377⟩ := q377
      rw [e377]
      rw [show (if (5 : Int32) < (7 : Int32) then (7 : Int32) else (5 : Int32)) = (7 : Int32) from by decide]
      obtain ⟨c378, A378, q378, S378, N378, H378, G378⟩ := id V10
      refine own_aaload 104 rfl A378 rfl (inb_of S378 ⟨by decide, by decide⟩) (Has.at H378 (inb_of S378 ⟨by decide, by decide⟩) rfl) at_103 ?_
      refine own_astore 106 rfl #[.val (.int p1), .val (.int p2), .val (.ref b1), .val (.int (5 : Int32)), .val (.int (7 : Int32)), .val (.int (5 : Int32)), .val (.int (7 : Int32)), .val (.ref w_LONG_LONG)] at_104 rfl rfl ?_
      refine own_aloadN 107 rfl at_106 rfl rfl ?_
      refine own_iloadN 108 rfl at_107 rfl ?_
      obtain ⟨c379, A379, q379, S379, N379, H379, G379⟩ := id V10
      refine own_aaload 109 rfl A379 rfl (inb_of S379 ⟨by decide, by decide⟩) (Has.at H379 (inb_of S379 ⟨by decide, by decide⟩) rfl) at_108 ?_
      refine own_aloadN 110 rfl at_109 rfl rfl ?_
      refine own_iload 112 rfl at_110 rfl ?_
      obtain ⟨c380, A380, q380, S380, N380, H380, G380⟩ := id V10
      refine own_aaload 113 rfl A380 rfl (inb_of S380 ⟨by decide, by decide⟩) (Has.at H380 (inb_of S380 ⟨by decide, by decide⟩) rfl) at_112 ?_
      refine own_callS 116 rfl 1 9 0 [(.ref w_INT), (.ref w_LONG_LONG)] [] (y := (⟨"com/example/counterpath/counterpath/cfa/Type", "common", "(Lcom/example/counterpath/counterpath/cfa/Type;Lcom/example/counterpath/counterpath/cfa/Type;)Lcom/example/counterpath/counterpath/cfa/Type;"⟩ : MethodName)) (hw _ (List.mem_of_getElem? (i := 27) rfl)) (hw _ (List.mem_of_getElem? (i := 28) rfl)) (hw _ (List.mem_of_getElem? (i := 3) rfl)) (hw _ (List.mem_of_getElem? (i := 29) rfl)) (by decide) (rm2 l Z a0 hw [] w_INT w_LONG_LONG (32 : Int32) (1 : Int32) (64 : Int32) (1 : Int32) w_BOOL w_SIGNED_CHAR w_UNSIGNED_CHAR w_SHORT w_UNSIGNED_SHORT w_INT w_UNSIGNED_INT w_LONG_LONG w_UNSIGNED_LONG_LONG h10 I (((((((((((E_w_INT.ext O0.2).ext E1).wr W2).wr W3).wr W4).wr W5).wr W6).wr W7).wr W8).wr W9).wr W10) (((((((((((F_w_INT_width.ext O0.2).ext E1).other W2 (Or.inl ne_w_INT_b1)).other W3 (Or.inl ne_w_INT_b1)).other W4 (Or.inl ne_w_INT_b1)).other W5 (Or.inl ne_w_INT_b1)).other W6 (Or.inl ne_w_INT_b1)).other W7 (Or.inl ne_w_INT_b1)).other W8 (Or.inl ne_w_INT_b1)).other W9 (Or.inl ne_w_INT_b1)).other W10 (Or.inl ne_w_INT_b1)) (((((((((((F_w_INT_signed.ext O0.2).ext E1).other W2 (Or.inl ne_w_INT_b1)).other W3 (Or.inl ne_w_INT_b1)).other W4 (Or.inl ne_w_INT_b1)).other W5 (Or.inl ne_w_INT_b1)).other W6 (Or.inl ne_w_INT_b1)).other W7 (Or.inl ne_w_INT_b1)).other W8 (Or.inl ne_w_INT_b1)).other W9 (Or.inl ne_w_INT_b1)).other W10 (Or.inl ne_w_INT_b1)) (((((((((((E_w_LONG_LONG.ext O0.2).ext E1).wr W2).wr W3).wr W4).wr W5).wr W6).wr W7).wr W8).wr W9).wr W10) (((((((((((F_w_LONG_LONG_width.ext O0.2).ext E1).other W2 (Or.inl ne_w_LONG_LONG_b1)).other W3 (Or.inl ne_w_LONG_LONG_b1)).other W4 (Or.inl ne_w_LONG_LONG_b1)).other W5 (Or.inl ne_w_LONG_LONG_b1)).other W6 (Or.inl ne_w_LONG_LONG_b1)).other W7 (Or.inl ne_w_LONG_LONG_b1)).other W8 (Or.inl ne_w_LONG_LONG_b1)).other W9 (Or.inl ne_w_LONG_LONG_b1)).other W10 (Or.inl ne_w_LONG_LONG_b1)) (((((((((((F_w_LONG_LONG_signed.ext O0.2).ext E1).other W2 (Or.inl ne_w_LONG_LONG_b1)).other W3 (Or.inl ne_w_LONG_LONG_b1)).other W4 (Or.inl ne_w_LONG_LONG_b1)).other W5 (Or.inl ne_w_LONG_LONG_b1)).other W6 (Or.inl ne_w_LONG_LONG_b1)).other W7 (Or.inl ne_w_LONG_LONG_b1)).other W8 (Or.inl ne_w_LONG_LONG_b1)).other W9 (Or.inl ne_w_LONG_LONG_b1)).other W10 (Or.inl ne_w_LONG_LONG_b1)) (by decide) (by decide)) at_113 rfl (lenOf own_pd2 rfl) rfl rfl rfl (by decide) (by decide) rfl rfl (by decide) (by decide) (own_kv fun v381 h381 q381 => ?_)
      obtain ⟨rfl, e381⟩ := q381
      rw [e381]
      rw [show own_com w_INT w_INT (32 : Int32) (1 : Int32) w_LONG_LONG (64 : Int32) (1 : Int32) = w_LONG_LONG from by simp [own_com]]
      refine own_aload 118 rfl at_116 rfl rfl ?_
      refine own_acmpNo 121 rfl at_118 rfl rfl (own_teq (rfl : ((.ref w_LONG_LONG) : Value) = (.ref w_LONG_LONG))).2 ?_
      refine own_iconst 122 rfl (1 : Int32) at_121 rfl ?_
      refine own_goto 126 at_122 (by decide) (by decide) ?_
      refine own_retN rfl (by simp) at_126 (by decide) (by decide) ?_
      exact ⟨_, rfl, rfl⟩
    · have hin_j := (rfl : (8 : Int) = 8)
      refine own_iloadN 81 rfl at_80 rfl ?_
      refine own_iconst 82 rfl (5 : Int32) at_81 rfl ?_
      refine own_callS 85 rfl 1 9 0 [(.int (5 : Int32)), (.int (5 : Int32))] [] (y := (⟨"java/lang/Math", "max", "(II)I"⟩ : MethodName)) (hw _ (List.mem_of_getElem? (i := 23) rfl)) (hw _ (List.mem_of_getElem? (i := 24) rfl)) (hw _ (List.mem_of_getElem? (i := 25) rfl)) (hw _ (List.mem_of_getElem? (i := 26) rfl)) (by decide) (rm1 l Z a0 hw [] (5 : Int32) (5 : Int32)  h10 ) at_82 rfl (lenOf own_pd1 rfl) rfl rfl rfl (by decide) (by decide) rfl rfl (by decide) (by decide) (own_kv fun v382 h382 q382 => ?_)
      obtain ⟨rfl, e382⟩ := q382
      rw [e382]
      rw [show (if (5 : Int32) < (5 : Int32) then (5 : Int32) else (5 : Int32)) = (5 : Int32) from by decide]
      refine own_istore 87 rfl #[.val (.int p1), .val (.int p2), .val (.ref b1), .val (.int (5 : Int32)), .val (.int (8 : Int32)), .val (.int (5 : Int32)), .unset, .unset] at_85 rfl ?_
      refine own_iload 89 rfl at_87 rfl ?_
      refine own_iconst 90 rfl (5 : Int32) at_89 rfl ?_
      refine own_callS 93 rfl 1 9 0 [(.int (8 : Int32)), (.int (5 : Int32))] [] (y := (⟨"java/lang/Math", "max", "(II)I"⟩ : MethodName)) (hw _ (List.mem_of_getElem? (i := 23) rfl)) (hw _ (List.mem_of_getElem? (i := 24) rfl)) (hw _ (List.mem_of_getElem? (i := 25) rfl)) (hw _ (List.mem_of_getElem? (i := 26) rfl)) (by decide) (rm1 l Z a0 hw [] (8 : Int32) (5 : Int32)  h10 ) at_90 rfl (lenOf own_pd1 rfl) rfl rfl rfl (by decide) (by decide) rfl rfl (by decide) (by decide) (own_kv fun v383 h383 q383 => ?_)
      obtain ⟨rfl, e383⟩ := q383
      rw [e383]
      rw [show (if (8 : Int32) < (5 : Int32) then (5 : Int32) else (8 : Int32)) = (8 : Int32) from by decide]
      refine own_istore 95 rfl #[.val (.int p1), .val (.int p2), .val (.ref b1), .val (.int (5 : Int32)), .val (.int (8 : Int32)), .val (.int (5 : Int32)), .val (.int (8 : Int32)), .unset] at_93 rfl ?_
      refine own_aloadN 96 rfl at_95 rfl rfl ?_
      refine own_iload 98 rfl at_96 rfl ?_
      refine own_iload 100 rfl at_98 rfl ?_
      refine own_callS 103 rfl 1 9 1 [(.int (5 : Int32)), (.int (8 : Int32))] [(.ref b1)] (y := (⟨"java/lang/Math", "max", "(II)I"⟩ : MethodName)) (hw _ (List.mem_of_getElem? (i := 23) rfl)) (hw _ (List.mem_of_getElem? (i := 24) rfl)) (hw _ (List.mem_of_getElem? (i := 25) rfl)) (hw _ (List.mem_of_getElem? (i := 26) rfl)) (by decide) (rm1 l Z a0 hw [] (5 : Int32) (8 : Int32)  h10 ) at_100 rfl (lenOf own_pd1 rfl) rfl rfl rfl (by decide) (by decide) rfl rfl (by decide) (by decide) (own_kv fun v384 h384 q384 => ?_)
      obtain ⟨rfl, e384⟩ := q384
      rw [e384]
      rw [show (if (5 : Int32) < (8 : Int32) then (8 : Int32) else (5 : Int32)) = (8 : Int32) from by decide]
      obtain ⟨c385, A385, q385, S385, N385, H385, G385⟩ := id V10
      refine own_aaload 104 rfl A385 rfl (inb_of S385 ⟨by decide, by decide⟩) (Has.at H385 (inb_of S385 ⟨by decide, by decide⟩) rfl) at_103 ?_
      refine own_astore 106 rfl #[.val (.int p1), .val (.int p2), .val (.ref b1), .val (.int (5 : Int32)), .val (.int (8 : Int32)), .val (.int (5 : Int32)), .val (.int (8 : Int32)), .val (.ref w_UNSIGNED_LONG_LONG)] at_104 rfl rfl ?_
      refine own_aloadN 107 rfl at_106 rfl rfl ?_
      refine own_iloadN 108 rfl at_107 rfl ?_
      obtain ⟨c386, A386, q386, S386, N386, H386, G386⟩ := id V10
      refine own_aaload 109 rfl A386 rfl (inb_of S386 ⟨by decide, by decide⟩) (Has.at H386 (inb_of S386 ⟨by decide, by decide⟩) rfl) at_108 ?_
      refine own_aloadN 110 rfl at_109 rfl rfl ?_
      refine own_iload 112 rfl at_110 rfl ?_
      obtain ⟨c387, A387, q387, S387, N387, H387, G387⟩ := id V10
      refine own_aaload 113 rfl A387 rfl (inb_of S387 ⟨by decide, by decide⟩) (Has.at H387 (inb_of S387 ⟨by decide, by decide⟩) rfl) at_112 ?_
      refine own_callS 116 rfl 1 9 0 [(.ref w_INT), (.ref w_UNSIGNED_LONG_LONG)] [] (y := (⟨"com/example/counterpath/counterpath/cfa/Type", "common", "(Lcom/example/counterpath/counterpath/cfa/Type;Lcom/example/counterpath/counterpath/cfa/Type;)Lcom/example/counterpath/counterpath/cfa/Type;"⟩ : MethodName)) (hw _ (List.mem_of_getElem? (i := 27) rfl)) (hw _ (List.mem_of_getElem? (i := 28) rfl)) (hw _ (List.mem_of_getElem? (i := 3) rfl)) (hw _ (List.mem_of_getElem? (i := 29) rfl)) (by decide) (rm2 l Z a0 hw [] w_INT w_UNSIGNED_LONG_LONG (32 : Int32) (1 : Int32) (64 : Int32) (0 : Int32) w_BOOL w_SIGNED_CHAR w_UNSIGNED_CHAR w_SHORT w_UNSIGNED_SHORT w_INT w_UNSIGNED_INT w_LONG_LONG w_UNSIGNED_LONG_LONG h10 I (((((((((((E_w_INT.ext O0.2).ext E1).wr W2).wr W3).wr W4).wr W5).wr W6).wr W7).wr W8).wr W9).wr W10) (((((((((((F_w_INT_width.ext O0.2).ext E1).other W2 (Or.inl ne_w_INT_b1)).other W3 (Or.inl ne_w_INT_b1)).other W4 (Or.inl ne_w_INT_b1)).other W5 (Or.inl ne_w_INT_b1)).other W6 (Or.inl ne_w_INT_b1)).other W7 (Or.inl ne_w_INT_b1)).other W8 (Or.inl ne_w_INT_b1)).other W9 (Or.inl ne_w_INT_b1)).other W10 (Or.inl ne_w_INT_b1)) (((((((((((F_w_INT_signed.ext O0.2).ext E1).other W2 (Or.inl ne_w_INT_b1)).other W3 (Or.inl ne_w_INT_b1)).other W4 (Or.inl ne_w_INT_b1)).other W5 (Or.inl ne_w_INT_b1)).other W6 (Or.inl ne_w_INT_b1)).other W7 (Or.inl ne_w_INT_b1)).other W8 (Or.inl ne_w_INT_b1)).other W9 (Or.inl ne_w_INT_b1)).other W10 (Or.inl ne_w_INT_b1)) (((((((((((E_w_UNSIGNED_LONG_LONG.ext O0.2).ext E1).wr W2).wr W3).wr W4).wr W5).wr W6).wr W7).wr W8).wr W9).wr W10) (((((((((((F_w_UNSIGNED_LONG_LONG_width.ext O0.2).ext E1).other W2 (Or.inl ne_w_UNSIGNED_LONG_LONG_b1)).other W3 (Or.inl ne_w_UNSIGNED_LONG_LONG_b1)).other W4 (Or.inl ne_w_UNSIGNED_LONG_LONG_b1)).other W5 (Or.inl ne_w_UNSIGNED_LONG_LONG_b1)).other W6 (Or.inl ne_w_UNSIGNED_LONG_LONG_b1)).other W7 (Or.inl ne_w_UNSIGNED_LONG_LONG_b1)).other W8 (Or.inl ne_w_UNSIGNED_LONG_LONG_b1)).other W9 (Or.inl ne_w_UNSIGNED_LONG_LONG_b1)).other W10 (Or.inl ne_w_UNSIGNED_LONG_LONG_b1)) (((((((((((F_w_UNSIGNED_LONG_LONG_signed.ext O0.2).ext E1).other W2 (Or.inl ne_w_UNSIGNED_LONG_LONG_b1)).other W3 (Or.inl ne_w_UNSIGNED_LONG_LONG_b1)).other W4 (Or.inl ne_w_UNSIGNED_LONG_LONG_b1)).other W5 (Or.inl ne_w_UNSIGNED_LONG_LONG_b1)).other W6 (Or.inl ne_w_UNSIGNED_LONG_LONG_b1)).other W7 (Or.inl ne_w_UNSIGNED_LONG_LONG_b1)).other W8 (Or.inl ne_w_UNSIGNED_LONG_LONG_b1)).other W9 (Or.inl ne_w_UNSIGNED_LONG_LONG_b1)).other W10 (Or.inl ne_w_UNSIGNED_LONG_LONG_b1)) (by decide) (by decide)) at_113 rfl (lenOf own_pd2 rfl) rfl rfl rfl (by decide) (by decide) rfl rfl (by decide) (by decide) (own_kv fun v388 h388 q388 => ?_)
      obtain ⟨rfl, e388⟩ := q388
      rw [e388]
      rw [show own_com w_INT w_INT (32 : Int32) (1 : Int32) w_UNSIGNED_LONG_LONG (64 : Int32) (0 : Int32) = w_UNSIGNED_LONG_LONG from by simp [own_com]]
      refine own_aload 118 rfl at_116 rfl rfl ?_
      refine own_acmpNo 121 rfl at_118 rfl rfl (own_teq (rfl : ((.ref w_UNSIGNED_LONG_LONG) : Value) = (.ref w_UNSIGNED_LONG_LONG))).2 ?_
      refine own_iconst 122 rfl (1 : Int32) at_121 rfl ?_
      refine own_goto 126 at_122 (by decide) (by decide) ?_
      refine own_retN rfl (by simp) at_126 (by decide) (by decide) ?_
      exact ⟨_, rfl, rfl⟩
  · have hin_k := (rfl : (6 : Int) = 6)
    have hr_j : j = (0 : Int32) ∨ j = (1 : Int32) ∨ j = (2 : Int32) ∨ j = (3 : Int32) ∨ j = (4 : Int32) ∨ j = (5 : Int32) ∨ j = (6 : Int32) ∨ j = (7 : Int32) ∨ j = (8 : Int32) := by
      have hrz : j.toInt = 0 ∨ j.toInt = 1 ∨ j.toInt = 2 ∨ j.toInt = 3 ∨ j.toInt = 4 ∨ j.toInt = 5 ∨ j.toInt = 6 ∨ j.toInt = 7 ∨ j.toInt = 8 := by omega
      rcases hrz with q | q | q | q | q | q | q | q | q
      · exact Or.inl (own_eq' q)
      · exact Or.inr (Or.inl (own_eq' q))
      · exact Or.inr (Or.inr (Or.inl (own_eq' q)))
      · exact Or.inr (Or.inr (Or.inr (Or.inl (own_eq' q))))
      · exact Or.inr (Or.inr (Or.inr (Or.inr (Or.inl (own_eq' q)))))
      · exact Or.inr (Or.inr (Or.inr (Or.inr (Or.inr (Or.inl (own_eq' q))))))
      · exact Or.inr (Or.inr (Or.inr (Or.inr (Or.inr (Or.inr (Or.inl (own_eq' q)))))))
      · exact Or.inr (Or.inr (Or.inr (Or.inr (Or.inr (Or.inr (Or.inr (Or.inl (own_eq' q))))))))
      · exact Or.inr (Or.inr (Or.inr (Or.inr (Or.inr (Or.inr (Or.inr (Or.inr (own_eq' q))))))))
    rcases hr_j with rfl | rfl | rfl | rfl | rfl | rfl | rfl | rfl | rfl
    · have hin_j := (rfl : (0 : Int) = 0)
      refine own_iloadN 81 rfl at_80 rfl ?_
      refine own_iconst 82 rfl (5 : Int32) at_81 rfl ?_
      refine own_callS 85 rfl 1 9 0 [(.int (6 : Int32)), (.int (5 : Int32))] [] (y := (⟨"java/lang/Math", "max", "(II)I"⟩ : MethodName)) (hw _ (List.mem_of_getElem? (i := 23) rfl)) (hw _ (List.mem_of_getElem? (i := 24) rfl)) (hw _ (List.mem_of_getElem? (i := 25) rfl)) (hw _ (List.mem_of_getElem? (i := 26) rfl)) (by decide) (rm1 l Z a0 hw [] (6 : Int32) (5 : Int32)  h10 ) at_82 rfl (lenOf own_pd1 rfl) rfl rfl rfl (by decide) (by decide) rfl rfl (by decide) (by decide) (own_kv fun v389 h389 q389 => ?_)
      obtain ⟨rfl, e389⟩ := q389
      rw [e389]
      rw [show (if (6 : Int32) < (5 : Int32) then (5 : Int32) else (6 : Int32)) = (6 : Int32) from by decide]
      refine own_istore 87 rfl #[.val (.int p1), .val (.int p2), .val (.ref b1), .val (.int (6 : Int32)), .val (.int (0 : Int32)), .val (.int (6 : Int32)), .unset, .unset] at_85 rfl ?_
      refine own_iload 89 rfl at_87 rfl ?_
      refine own_iconst 90 rfl (5 : Int32) at_89 rfl ?_
      refine own_callS 93 rfl 1 9 0 [(.int (0 : Int32)), (.int (5 : Int32))] [] (y := (⟨"java/lang/Math", "max", "(II)I"⟩ : MethodName)) (hw _ (List.mem_of_getElem? (i := 23) rfl)) (hw _ (List.mem_of_getElem? (i := 24) rfl)) (hw _ (List.mem_of_getElem? (i := 25) rfl)) (hw _ (List.mem_of_getElem? (i := 26) rfl)) (by decide) (rm1 l Z a0 hw [] (0 : Int32) (5 : Int32)  h10 ) at_90 rfl (lenOf own_pd1 rfl) rfl rfl rfl (by decide) (by decide) rfl rfl (by decide) (by decide) (own_kv fun v390 h390 q390 => ?_)
      obtain ⟨rfl, e390⟩ := q390
      rw [e390]
      rw [show (if (0 : Int32) < (5 : Int32) then (5 : Int32) else (0 : Int32)) = (5 : Int32) from by decide]
      refine own_istore 95 rfl #[.val (.int p1), .val (.int p2), .val (.ref b1), .val (.int (6 : Int32)), .val (.int (0 : Int32)), .val (.int (6 : Int32)), .val (.int (5 : Int32)), .unset] at_93 rfl ?_
      refine own_aloadN 96 rfl at_95 rfl rfl ?_
      refine own_iload 98 rfl at_96 rfl ?_
      refine own_iload 100 rfl at_98 rfl ?_
      refine own_callS 103 rfl 1 9 1 [(.int (6 : Int32)), (.int (5 : Int32))] [(.ref b1)] (y := (⟨"java/lang/Math", "max", "(II)I"⟩ : MethodName)) (hw _ (List.mem_of_getElem? (i := 23) rfl)) (hw _ (List.mem_of_getElem? (i := 24) rfl)) (hw _ (List.mem_of_getElem? (i := 25) rfl)) (hw _ (List.mem_of_getElem? (i := 26) rfl)) (by decide) (rm1 l Z a0 hw [] (6 : Int32) (5 : Int32)  h10 ) at_100 rfl (lenOf own_pd1 rfl) rfl rfl rfl (by decide) (by decide) rfl rfl (by decide) (by decide) (own_kv fun v391 h391 q391 => ?_)
      obtain ⟨rfl, e391⟩ := q391
      rw [e391]
      rw [show (if (6 : Int32) < (5 : Int32) then (5 : Int32) else (6 : Int32)) = (6 : Int32) from by decide]
      obtain ⟨c392, A392, q392, S392, N392, H392, G392⟩ := id V10
      refine own_aaload 104 rfl A392 rfl (inb_of S392 ⟨by decide, by decide⟩) (Has.at H392 (inb_of S392 ⟨by decide, by decide⟩) rfl) at_103 ?_
      refine own_astore 106 rfl #[.val (.int p1), .val (.int p2), .val (.ref b1), .val (.int (6 : Int32)), .val (.int (0 : Int32)), .val (.int (6 : Int32)), .val (.int (5 : Int32)), .val (.ref w_UNSIGNED_INT)] at_104 rfl rfl ?_
      refine own_aloadN 107 rfl at_106 rfl rfl ?_
      refine own_iloadN 108 rfl at_107 rfl ?_
      obtain ⟨c393, A393, q393, S393, N393, H393, G393⟩ := id V10
      refine own_aaload 109 rfl A393 rfl (inb_of S393 ⟨by decide, by decide⟩) (Has.at H393 (inb_of S393 ⟨by decide, by decide⟩) rfl) at_108 ?_
      refine own_aloadN 110 rfl at_109 rfl rfl ?_
      refine own_iload 112 rfl at_110 rfl ?_
      obtain ⟨c394, A394, q394, S394, N394, H394, G394⟩ := id V10
      refine own_aaload 113 rfl A394 rfl (inb_of S394 ⟨by decide, by decide⟩) (Has.at H394 (inb_of S394 ⟨by decide, by decide⟩) rfl) at_112 ?_
      refine own_callS 116 rfl 1 9 0 [(.ref w_UNSIGNED_INT), (.ref w_BOOL)] [] (y := (⟨"com/example/counterpath/counterpath/cfa/Type", "common", "(Lcom/example/counterpath/counterpath/cfa/Type;Lcom/example/counterpath/counterpath/cfa/Type;)Lcom/example/counterpath/counterpath/cfa/Type;"⟩ : MethodName)) (hw _ (List.mem_of_getElem? (i := 27) rfl)) (hw _ (List.mem_of_getElem? (i := 28) rfl)) (hw _ (List.mem_of_getElem? (i := 3) rfl)) (hw _ (List.mem_of_getElem? (i := 29) rfl)) (by decide) (rm2 l Z a0 hw [] w_UNSIGNED_INT w_BOOL (32 : Int32) (0 : Int32) (1 : Int32) (0 : Int32) w_BOOL w_SIGNED_CHAR w_UNSIGNED_CHAR w_SHORT w_UNSIGNED_SHORT w_INT w_UNSIGNED_INT w_LONG_LONG w_UNSIGNED_LONG_LONG h10 I (((((((((((E_w_UNSIGNED_INT.ext O0.2).ext E1).wr W2).wr W3).wr W4).wr W5).wr W6).wr W7).wr W8).wr W9).wr W10) (((((((((((F_w_UNSIGNED_INT_width.ext O0.2).ext E1).other W2 (Or.inl ne_w_UNSIGNED_INT_b1)).other W3 (Or.inl ne_w_UNSIGNED_INT_b1)).other W4 (Or.inl ne_w_UNSIGNED_INT_b1)).other W5 (Or.inl ne_w_UNSIGNED_INT_b1)).other W6 (Or.inl ne_w_UNSIGNED_INT_b1)).other W7 (Or.inl ne_w_UNSIGNED_INT_b1)).other W8 (Or.inl ne_w_UNSIGNED_INT_b1)).other W9 (Or.inl ne_w_UNSIGNED_INT_b1)).other W10 (Or.inl ne_w_UNSIGNED_INT_b1)) (((((((((((F_w_UNSIGNED_INT_signed.ext O0.2).ext E1).other W2 (Or.inl ne_w_UNSIGNED_INT_b1)).other W3 (Or.inl ne_w_UNSIGNED_INT_b1)).other W4 (Or.inl ne_w_UNSIGNED_INT_b1)).other W5 (Or.inl ne_w_UNSIGNED_INT_b1)).other W6 (Or.inl ne_w_UNSIGNED_INT_b1)).other W7 (Or.inl ne_w_UNSIGNED_INT_b1)).other W8 (Or.inl ne_w_UNSIGNED_INT_b1)).other W9 (Or.inl ne_w_UNSIGNED_INT_b1)).other W10 (Or.inl ne_w_UNSIGNED_INT_b1)) (((((((((((E_w_BOOL.ext O0.2).ext E1).wr W2).wr W3).wr W4).wr W5).wr W6).wr W7).wr W8).wr W9).wr W10) (((((((((((F_w_BOOL_width.ext O0.2).ext E1).other W2 (Or.inl ne_w_BOOL_b1)).other W3 (Or.inl ne_w_BOOL_b1)).other W4 (Or.inl ne_w_BOOL_b1)).other W5 (Or.inl ne_w_BOOL_b1)).other W6 (Or.inl ne_w_BOOL_b1)).other W7 (Or.inl ne_w_BOOL_b1)).other W8 (Or.inl ne_w_BOOL_b1)).other W9 (Or.inl ne_w_BOOL_b1)).other W10 (Or.inl ne_w_BOOL_b1)) (((((((((((F_w_BOOL_signed.ext O0.2).ext E1).other W2 (Or.inl ne_w_BOOL_b1)).other W3 (Or.inl ne_w_BOOL_b1)).other W4 (Or.inl ne_w_BOOL_b1)).other W5 (Or.inl ne_w_BOOL_b1)).other W6 (Or.inl ne_w_BOOL_b1)).other W7 (Or.inl ne_w_BOOL_b1)).other W8 (Or.inl ne_w_BOOL_b1)).other W9 (Or.inl ne_w_BOOL_b1)).other W10 (Or.inl ne_w_BOOL_b1)) (by decide) (by decide)) at_113 rfl (lenOf own_pd2 rfl) rfl rfl rfl (by decide) (by decide) rfl rfl (by decide) (by decide) (own_kv fun v395 h395 q395 => ?_)
      obtain ⟨rfl, e395⟩ := q395
      rw [e395]
      rw [show own_com w_INT w_UNSIGNED_INT (32 : Int32) (0 : Int32) w_BOOL (1 : Int32) (0 : Int32) = w_UNSIGNED_INT from by simp [own_com]]
      refine own_aload 118 rfl at_116 rfl rfl ?_
      refine own_acmpNo 121 rfl at_118 rfl rfl (own_teq (rfl : ((.ref w_UNSIGNED_INT) : Value) = (.ref w_UNSIGNED_INT))).2 ?_
      refine own_iconst 122 rfl (1 : Int32) at_121 rfl ?_
      refine own_goto 126 at_122 (by decide) (by decide) ?_
      refine own_retN rfl (by simp) at_126 (by decide) (by decide) ?_
      exact ⟨_, rfl, rfl⟩
    · have hin_j := (rfl : (1 : Int) = 1)
      refine own_iloadN 81 rfl at_80 rfl ?_
      refine own_iconst 82 rfl (5 : Int32) at_81 rfl ?_
      refine own_callS 85 rfl 1 9 0 [(.int (6 : Int32)), (.int (5 : Int32))] [] (y := (⟨"java/lang/Math", "max", "(II)I"⟩ : MethodName)) (hw _ (List.mem_of_getElem? (i := 23) rfl)) (hw _ (List.mem_of_getElem? (i := 24) rfl)) (hw _ (List.mem_of_getElem? (i := 25) rfl)) (hw _ (List.mem_of_getElem? (i := 26) rfl)) (by decide) (rm1 l Z a0 hw [] (6 : Int32) (5 : Int32)  h10 ) at_82 rfl (lenOf own_pd1 rfl) rfl rfl rfl (by decide) (by decide) rfl rfl (by decide) (by decide) (own_kv fun v396 h396 q396 => ?_)
      obtain ⟨rfl, e396⟩ := q396
      rw [e396]
      rw [show (if (6 : Int32) < (5 : Int32) then (5 : Int32) else (6 : Int32)) = (6 : Int32) from by decide]
      refine own_istore 87 rfl #[.val (.int p1), .val (.int p2), .val (.ref b1), .val (.int (6 : Int32)), .val (.int (1 : Int32)), .val (.int (6 : Int32)), .unset, .unset] at_85 rfl ?_
      refine own_iload 89 rfl at_87 rfl ?_
      refine own_iconst 90 rfl (5 : Int32) at_89 rfl ?_
      refine own_callS 93 rfl 1 9 0 [(.int (1 : Int32)), (.int (5 : Int32))] [] (y := (⟨"java/lang/Math", "max", "(II)I"⟩ : MethodName)) (hw _ (List.mem_of_getElem? (i := 23) rfl)) (hw _ (List.mem_of_getElem? (i := 24) rfl)) (hw _ (List.mem_of_getElem? (i := 25) rfl)) (hw _ (List.mem_of_getElem? (i := 26) rfl)) (by decide) (rm1 l Z a0 hw [] (1 : Int32) (5 : Int32)  h10 ) at_90 rfl (lenOf own_pd1 rfl) rfl rfl rfl (by decide) (by decide) rfl rfl (by decide) (by decide) (own_kv fun v397 h397 q397 => ?_)
      obtain ⟨rfl, e397⟩ := q397
      rw [e397]
      rw [show (if (1 : Int32) < (5 : Int32) then (5 : Int32) else (1 : Int32)) = (5 : Int32) from by decide]
      refine own_istore 95 rfl #[.val (.int p1), .val (.int p2), .val (.ref b1), .val (.int (6 : Int32)), .val (.int (1 : Int32)), .val (.int (6 : Int32)), .val (.int (5 : Int32)), .unset] at_93 rfl ?_
      refine own_aloadN 96 rfl at_95 rfl rfl ?_
      refine own_iload 98 rfl at_96 rfl ?_
      refine own_iload 100 rfl at_98 rfl ?_
      refine own_callS 103 rfl 1 9 1 [(.int (6 : Int32)), (.int (5 : Int32))] [(.ref b1)] (y := (⟨"java/lang/Math", "max", "(II)I"⟩ : MethodName)) (hw _ (List.mem_of_getElem? (i := 23) rfl)) (hw _ (List.mem_of_getElem? (i := 24) rfl)) (hw _ (List.mem_of_getElem? (i := 25) rfl)) (hw _ (List.mem_of_getElem? (i := 26) rfl)) (by decide) (rm1 l Z a0 hw [] (6 : Int32) (5 : Int32)  h10 ) at_100 rfl (lenOf own_pd1 rfl) rfl rfl rfl (by decide) (by decide) rfl rfl (by decide) (by decide) (own_kv fun v398 h398 q398 => ?_)
      obtain ⟨rfl, e398⟩ := q398
      rw [e398]
      rw [show (if (6 : Int32) < (5 : Int32) then (5 : Int32) else (6 : Int32)) = (6 : Int32) from by decide]
      obtain ⟨c399, A399, q399, S399, N399, H399, G399⟩ := id V10
      refine own_aaload 104 rfl A399 rfl (inb_of S399 ⟨by decide, by decide⟩) (Has.at H399 (inb_of S399 ⟨by decide, by decide⟩) rfl) at_103 ?_
      refine own_astore 106 rfl #[.val (.int p1), .val (.int p2), .val (.ref b1), .val (.int (6 : Int32)), .val (.int (1 : Int32)), .val (.int (6 : Int32)), .val (.int (5 : Int32)), .val (.ref w_UNSIGNED_INT)] at_104 rfl rfl ?_
      refine own_aloadN 107 rfl at_106 rfl rfl ?_
      refine own_iloadN 108 rfl at_107 rfl ?_
      obtain ⟨c400, A400, q400, S400, N400, H400, G400⟩ := id V10
      refine own_aaload 109 rfl A400 rfl (inb_of S400 ⟨by decide, by decide⟩) (Has.at H400 (inb_of S400 ⟨by decide, by decide⟩) rfl) at_108 ?_
      refine own_aloadN 110 rfl at_109 rfl rfl ?_
      refine own_iload 112 rfl at_110 rfl ?_
      obtain ⟨c401, A401, q401, S401, N401, H401, G401⟩ := id V10
      refine own_aaload 113 rfl A401 rfl (inb_of S401 ⟨by decide, by decide⟩) (Has.at H401 (inb_of S401 ⟨by decide, by decide⟩) rfl) at_112 ?_
      refine own_callS 116 rfl 1 9 0 [(.ref w_UNSIGNED_INT), (.ref w_SIGNED_CHAR)] [] (y := (⟨"com/example/counterpath/counterpath/cfa/Type", "common", "(Lcom/example/counterpath/counterpath/cfa/Type;Lcom/example/counterpath/counterpath/cfa/Type;)Lcom/example/counterpath/counterpath/cfa/Type;"⟩ : MethodName)) (hw _ (List.mem_of_getElem? (i := 27) rfl)) (hw _ (List.mem_of_getElem? (i := 28) rfl)) (hw _ (List.mem_of_getElem? (i := 3) rfl)) (hw _ (List.mem_of_getElem? (i := 29) rfl)) (by decide) (rm2 l Z a0 hw [] w_UNSIGNED_INT w_SIGNED_CHAR (32 : Int32) (0 : Int32) (8 : Int32) (1 : Int32) w_BOOL w_SIGNED_CHAR w_UNSIGNED_CHAR w_SHORT w_UNSIGNED_SHORT w_INT w_UNSIGNED_INT w_LONG_LONG w_UNSIGNED_LONG_LONG h10 I (((((((((((E_w_UNSIGNED_INT.ext O0.2).ext E1).wr W2).wr W3).wr W4).wr W5).wr W6).wr W7).wr W8).wr W9).wr W10) (((((((((((F_w_UNSIGNED_INT_width.ext O0.2).ext E1).other W2 (Or.inl ne_w_UNSIGNED_INT_b1)).other W3 (Or.inl ne_w_UNSIGNED_INT_b1)).other W4 (Or.inl ne_w_UNSIGNED_INT_b1)).other W5 (Or.inl ne_w_UNSIGNED_INT_b1)).other W6 (Or.inl ne_w_UNSIGNED_INT_b1)).other W7 (Or.inl ne_w_UNSIGNED_INT_b1)).other W8 (Or.inl ne_w_UNSIGNED_INT_b1)).other W9 (Or.inl ne_w_UNSIGNED_INT_b1)).other W10 (Or.inl ne_w_UNSIGNED_INT_b1)) (((((((((((F_w_UNSIGNED_INT_signed.ext O0.2).ext E1).other W2 (Or.inl ne_w_UNSIGNED_INT_b1)).other W3 (Or.inl ne_w_UNSIGNED_INT_b1)).other W4 (Or.inl ne_w_UNSIGNED_INT_b1)).other W5 (Or.inl ne_w_UNSIGNED_INT_b1)).other W6 (Or.inl ne_w_UNSIGNED_INT_b1)).other W7 (Or.inl ne_w_UNSIGNED_INT_b1)).other W8 (Or.inl ne_w_UNSIGNED_INT_b1)).other W9 (Or.inl ne_w_UNSIGNED_INT_b1)).other W10 (Or.inl ne_w_UNSIGNED_INT_b1)) (((((((((((E_w_SIGNED_CHAR.ext O0.2).ext E1).wr W2).wr W3).wr W4).wr W5).wr W6).wr W7).wr W8).wr W9).wr W10) (((((((((((F_w_SIGNED_CHAR_width.ext O0.2).ext E1).other W2 (Or.inl ne_w_SIGNED_CHAR_b1)).other W3 (Or.inl ne_w_SIGNED_CHAR_b1)).other W4 (Or.inl ne_w_SIGNED_CHAR_b1)).other W5 (Or.inl ne_w_SIGNED_CHAR_b1)).other W6 (Or.inl ne_w_SIGNED_CHAR_b1)).other W7 (Or.inl ne_w_SIGNED_CHAR_b1)).other W8 (Or.inl ne_w_SIGNED_CHAR_b1)).other W9 (Or.inl ne_w_SIGNED_CHAR_b1)).other W10 (Or.inl ne_w_SIGNED_CHAR_b1)) (((((((((((F_w_SIGNED_CHAR_signed.ext O0.2).ext E1).other W2 (Or.inl ne_w_SIGNED_CHAR_b1)).other W3 (Or.inl ne_w_SIGNED_CHAR_b1)).other W4 (Or.inl ne_w_SIGNED_CHAR_b1)).other W5 (Or.inl ne_w_SIGNED_CHAR_b1)).other W6 (Or.inl ne_w_SIGNED_CHAR_b1)).other W7 (Or.inl ne_w_SIGNED_CHAR_b1)).other W8 (Or.inl ne_w_SIGNED_CHAR_b1)).other W9 (Or.inl ne_w_SIGNED_CHAR_b1)).other W10 (Or.inl ne_w_SIGNED_CHAR_b1)) (by decide) (by decide)) at_113 rfl (lenOf own_pd2 rfl) rfl rfl rfl (by decide) (by decide) rfl rfl (by decide) (by decide) (own_kv fun v402 h402 q402 => ?_)
      obtain ⟨rfl, e402⟩ := q402
      rw [e402]
      rw [show own_com w_INT w_UNSIGNED_INT (32 : Int32) (0 : Int32) w_SIGNED_CHAR (8 : Int32) (1 : Int32) = w_UNSIGNED_INT from by simp [own_com]]
      refine own_aload 118 rfl at_116 rfl rfl ?_
      refine own_acmpNo 121 rfl at_118 rfl rfl (own_teq (rfl : ((.ref w_UNSIGNED_INT) : Value) = (.ref w_UNSIGNED_INT))).2 ?_
      refine own_iconst 122 rfl (1 : Int32) at_121 rfl ?_
      refine own_goto 126 at_122 (by decide) (by decide) ?_
      refine own_retN rfl (by simp) at_126 (by decide) (by decide) ?_
      exact ⟨_, rfl, rfl⟩
    · have hin_j := (rfl : (2 : Int) = 2)
      refine own_iloadN 81 rfl at_80 rfl ?_
      refine own_iconst 82 rfl (5 : Int32) at_81 rfl ?_
      refine own_callS 85 rfl 1 9 0 [(.int (6 : Int32)), (.int (5 : Int32))] [] (y := (⟨"java/lang/Math", "max", "(II)I"⟩ : MethodName)) (hw _ (List.mem_of_getElem? (i := 23) rfl)) (hw _ (List.mem_of_getElem? (i := 24) rfl)) (hw _ (List.mem_of_getElem? (i := 25) rfl)) (hw _ (List.mem_of_getElem? (i := 26) rfl)) (by decide) (rm1 l Z a0 hw [] (6 : Int32) (5 : Int32)  h10 ) at_82 rfl (lenOf own_pd1 rfl) rfl rfl rfl (by decide) (by decide) rfl rfl (by decide) (by decide) (own_kv fun v403 h403 q403 => ?_)
      obtain ⟨rfl, e403⟩ := q403
      rw [e403]
      rw [show (if (6 : Int32) < (5 : Int32) then (5 : Int32) else (6 : Int32)) = (6 : Int32) from by decide]
      refine own_istore 87 rfl #[.val (.int p1), .val (.int p2), .val (.ref b1), .val (.int (6 : Int32)), .val (.int (2 : Int32)), .val (.int (6 : Int32)), .unset, .unset] at_85 rfl ?_
      refine own_iload 89 rfl at_87 rfl ?_
      refine own_iconst 90 rfl (5 : Int32) at_89 rfl ?_
      refine own_callS 93 rfl 1 9 0 [(.int (2 : Int32)), (.int (5 : Int32))] [] (y := (⟨"java/lang/Math", "max", "(II)I"⟩ : MethodName)) (hw _ (List.mem_of_getElem? (i := 23) rfl)) (hw _ (List.mem_of_getElem? (i := 24) rfl)) (hw _ (List.mem_of_getElem? (i := 25) rfl)) (hw _ (List.mem_of_getElem? (i := 26) rfl)) (by decide) (rm1 l Z a0 hw [] (2 : Int32) (5 : Int32)  h10 ) at_90 rfl (lenOf own_pd1 rfl) rfl rfl rfl (by decide) (by decide) rfl rfl (by decide) (by decide) (own_kv fun v404 h404 q404 => ?_)
      obtain ⟨rfl, e404⟩ := q404
      rw [e404]
      rw [show (if (2 : Int32) < (5 : Int32) then (5 : Int32) else (2 : Int32)) = (5 : Int32) from by decide]
      refine own_istore 95 rfl #[.val (.int p1), .val (.int p2), .val (.ref b1), .val (.int (6 : Int32)), .val (.int (2 : Int32)), .val (.int (6 : Int32)), .val (.int (5 : Int32)), .unset] at_93 rfl ?_
      refine own_aloadN 96 rfl at_95 rfl rfl ?_
      refine own_iload 98 rfl at_96 rfl ?_
      refine own_iload 100 rfl at_98 rfl ?_
      refine own_callS 103 rfl 1 9 1 [(.int (6 : Int32)), (.int (5 : Int32))] [(.ref b1)] (y := (⟨"java/lang/Math", "max", "(II)I"⟩ : MethodName)) (hw _ (List.mem_of_getElem? (i := 23) rfl)) (hw _ (List.mem_of_getElem? (i := 24) rfl)) (hw _ (List.mem_of_getElem? (i := 25) rfl)) (hw _ (List.mem_of_getElem? (i := 26) rfl)) (by decide) (rm1 l Z a0 hw [] (6 : Int32) (5 : Int32)  h10 ) at_100 rfl (lenOf own_pd1 rfl) rfl rfl rfl (by decide) (by decide) rfl rfl (by decide) (by decide) (own_kv fun v405 h405 q405 => ?_)
      obtain ⟨rfl, e405⟩ := q405
      rw [e405]
      rw [show (if (6 : Int32) < (5 : Int32) then (5 : Int32) else (6 : Int32)) = (6 : Int32) from by decide]
      obtain ⟨c406, A406, q406, S406, N406, H406, G406⟩ := id V10
      refine own_aaload 104 rfl A406 rfl (inb_of S406 ⟨by decide, by decide⟩) (Has.at H406 (inb_of S406 ⟨by decide, by decide⟩) rfl) at_103 ?_
      refine own_astore 106 rfl #[.val (.int p1), .val (.int p2), .val (.ref b1), .val (.int (6 : Int32)), .val (.int (2 : Int32)), .val (.int (6 : Int32)), .val (.int (5 : Int32)), .val (.ref w_UNSIGNED_INT)] at_104 rfl rfl ?_
      refine own_aloadN 107 rfl at_106 rfl rfl ?_
      refine own_iloadN 108 rfl at_107 rfl ?_
      obtain ⟨c407, A407, q407, S407, N407, H407, G407⟩ := id V10
      refine own_aaload 109 rfl A407 rfl (inb_of S407 ⟨by decide, by decide⟩) (Has.at H407 (inb_of S407 ⟨by decide, by decide⟩) rfl) at_108 ?_
      refine own_aloadN 110 rfl at_109 rfl rfl ?_
      refine own_iload 112 rfl at_110 rfl ?_
      obtain ⟨c408, A408, q408, S408, N408, H408, G408⟩ := id V10
      refine own_aaload 113 rfl A408 rfl (inb_of S408 ⟨by decide, by decide⟩) (Has.at H408 (inb_of S408 ⟨by decide, by decide⟩) rfl) at_112 ?_
      refine own_callS 116 rfl 1 9 0 [(.ref w_UNSIGNED_INT), (.ref w_UNSIGNED_CHAR)] [] (y := (⟨"com/example/counterpath/counterpath/cfa/Type", "common", "(Lcom/example/counterpath/counterpath/cfa/Type;Lcom/example/counterpath/counterpath/cfa/Type;)Lcom/example/counterpath/counterpath/cfa/Type;"⟩ : MethodName)) (hw _ (List.mem_of_getElem? (i := 27) rfl)) (hw _ (List.mem_of_getElem? (i := 28) rfl)) (hw _ (List.mem_of_getElem? (i := 3) rfl)) (hw _ (List.mem_of_getElem? (i := 29) rfl)) (by decide) (rm2 l Z a0 hw [] w_UNSIGNED_INT w_UNSIGNED_CHAR (32 : Int32) (0 : Int32) (8 : Int32) (0 : Int32) w_BOOL w_SIGNED_CHAR w_UNSIGNED_CHAR w_SHORT w_UNSIGNED_SHORT w_INT w_UNSIGNED_INT w_LONG_LONG w_UNSIGNED_LONG_LONG h10 I (((((((((((E_w_UNSIGNED_INT.ext O0.2).ext E1).wr W2).wr W3).wr W4).wr W5).wr W6).wr W7).wr W8).wr W9).wr W10) (((((((((((F_w_UNSIGNED_INT_width.ext O0.2).ext E1).other W2 (Or.inl ne_w_UNSIGNED_INT_b1)).other W3 (Or.inl ne_w_UNSIGNED_INT_b1)).other W4 (Or.inl ne_w_UNSIGNED_INT_b1)).other W5 (Or.inl ne_w_UNSIGNED_INT_b1)).other W6 (Or.inl ne_w_UNSIGNED_INT_b1)).other W7 (Or.inl ne_w_UNSIGNED_INT_b1)).other W8 (Or.inl ne_w_UNSIGNED_INT_b1)).other W9 (Or.inl ne_w_UNSIGNED_INT_b1)).other W10 (Or.inl ne_w_UNSIGNED_INT_b1)) (((((((((((F_w_UNSIGNED_INT_signed.ext O0.2).ext E1).other W2 (Or.inl ne_w_UNSIGNED_INT_b1)).other W3 (Or.inl ne_w_UNSIGNED_INT_b1)).other W4 (Or.inl ne_w_UNSIGNED_INT_b1)).other W5 (Or.inl ne_w_UNSIGNED_INT_b1)).other W6 (Or.inl ne_w_UNSIGNED_INT_b1)).other W7 (Or.inl ne_w_UNSIGNED_INT_b1)).other W8 (Or.inl ne_w_UNSIGNED_INT_b1)).other W9 (Or.inl ne_w_UNSIGNED_INT_b1)).other W10 (Or.inl ne_w_UNSIGNED_INT_b1)) (((((((((((E_w_UNSIGNED_CHAR.ext O0.2).ext E1).wr W2).wr W3).wr W4).wr W5).wr W6).wr W7).wr W8).wr W9).wr W10) (((((((((((F_w_UNSIGNED_CHAR_width.ext O0.2).ext E1).other W2 (Or.inl ne_w_UNSIGNED_CHAR_b1)).other W3 (Or.inl ne_w_UNSIGNED_CHAR_b1)).other W4 (Or.inl ne_w_UNSIGNED_CHAR_b1)).other W5 (Or.inl ne_w_UNSIGNED_CHAR_b1)).other W6 (Or.inl ne_w_UNSIGNED_CHAR_b1)).other W7 (Or.inl ne_w_UNSIGNED_CHAR_b1)).other W8 (Or.inl ne_w_UNSIGNED_CHAR_b1)).other W9 (Or.inl ne_w_UNSIGNED_CHAR_b1)).other W10 (Or.inl ne_w_UNSIGNED_CHAR_b1)) (((((((((((F_w_UNSIGNED_CHAR_signed.ext O0.2).ext E1).other W2 (Or.inl ne_w_UNSIGNED_CHAR_b1)).other W3 (Or.inl ne_w_UNSIGNED_CHAR_b1)).other W4 (Or.inl ne_w_UNSIGNED_CHAR_b1)).other W5 (Or.inl ne_w_UNSIGNED_CHAR_b1)).other W6 (Or.inl ne_w_UNSIGNED_CHAR_b1)).other W7 (Or.inl ne_w_UNSIGNED_CHAR_b1)).other W8 (Or.inl ne_w_UNSIGNED_CHAR_b1)).other W9 (Or.inl ne_w_UNSIGNED_CHAR_b1)).other W10 (Or.inl ne_w_UNSIGNED_CHAR_b1)) (by decide) (by decide)) at_113 rfl (lenOf own_pd2 rfl) rfl rfl rfl (by decide) (by decide) rfl rfl (by decide) (by decide) (own_kv fun v409 h409 q409 => ?_)
      obtain ⟨rfl, e409⟩ := q409
      rw [e409]
      rw [show own_com w_INT w_UNSIGNED_INT (32 : Int32) (0 : Int32) w_UNSIGNED_CHAR (8 : Int32) (0 : Int32) = w_UNSIGNED_INT from by simp [own_com]]
      refine own_aload 118 rfl at_116 rfl rfl ?_
      refine own_acmpNo 121 rfl at_118 rfl rfl (own_teq (rfl : ((.ref w_UNSIGNED_INT) : Value) = (.ref w_UNSIGNED_INT))).2 ?_
      refine own_iconst 122 rfl (1 : Int32) at_121 rfl ?_
      refine own_goto 126 at_122 (by decide) (by decide) ?_
      refine own_retN rfl (by simp) at_126 (by decide) (by decide) ?_
      exact ⟨_, rfl, rfl⟩
    · have hin_j := (rfl : (3 : Int) = 3)
      refine own_iloadN 81 rfl at_80 rfl ?_
      refine own_iconst 82 rfl (5 : Int32) at_81 rfl ?_
      refine own_callS 85 rfl 1 9 0 [(.int (6 : Int32)), (.int (5 : Int32))] [] (y := (⟨"java/lang/Math", "max", "(II)I"⟩ : MethodName)) (hw _ (List.mem_of_getElem? (i := 23) rfl)) (hw _ (List.mem_of_getElem? (i := 24) rfl)) (hw _ (List.mem_of_getElem? (i := 25) rfl)) (hw _ (List.mem_of_getElem? (i := 26) rfl)) (by decide) (rm1 l Z a0 hw [] (6 : Int32) (5 : Int32)  h10 ) at_82 rfl (lenOf own_pd1 rfl) rfl rfl rfl (by decide) (by decide) rfl rfl (by decide) (by decide) (own_kv fun v410 h410 q410 => ?_)
      obtain ⟨rfl, e410⟩ := q410
      rw [e410]
      rw [show (if (6 : Int32) < (5 : Int32) then (5 : Int32) else (6 : Int32)) = (6 : Int32) from by decide]
      refine own_istore 87 rfl #[.val (.int p1), .val (.int p2), .val (.ref b1), .val (.int (6 : Int32)), .val (.int (3 : Int32)), .val (.int (6 : Int32)), .unset, .unset] at_85 rfl ?_
      refine own_iload 89 rfl at_87 rfl ?_
      refine own_iconst 90 rfl (5 : Int32) at_89 rfl ?_
      refine own_callS 93 rfl 1 9 0 [(.int (3 : Int32)), (.int (5 : Int32))] [] (y := (⟨"java/lang/Math", "max", "(II)I"⟩ : MethodName)) (hw _ (List.mem_of_getElem? (i := 23) rfl)) (hw _ (List.mem_of_getElem? (i := 24) rfl)) (hw _ (List.mem_of_getElem? (i := 25) rfl)) (hw _ (List.mem_of_getElem? (i := 26) rfl)) (by decide) (rm1 l Z a0 hw [] (3 : Int32) (5 : Int32)  h10 ) at_90 rfl (lenOf own_pd1 rfl) rfl rfl rfl (by decide) (by decide) rfl rfl (by decide) (by decide) (own_kv fun v411 h411 q411 => ?_)
      obtain ⟨rfl, e411⟩ := q411
      rw [e411]
      rw [show (if (3 : Int32) < (5 : Int32) then (5 : Int32) else (3 : Int32)) = (5 : Int32) from by decide]
      refine own_istore 95 rfl #[.val (.int p1), .val (.int p2), .val (.ref b1), .val (.int (6 : Int32)), .val (.int (3 : Int32)), .val (.int (6 : Int32)), .val (.int (5 : Int32)), .unset] at_93 rfl ?_
      refine own_aloadN 96 rfl at_95 rfl rfl ?_
      refine own_iload 98 rfl at_96 rfl ?_
      refine own_iload 100 rfl at_98 rfl ?_
      refine own_callS 103 rfl 1 9 1 [(.int (6 : Int32)), (.int (5 : Int32))] [(.ref b1)] (y := (⟨"java/lang/Math", "max", "(II)I"⟩ : MethodName)) (hw _ (List.mem_of_getElem? (i := 23) rfl)) (hw _ (List.mem_of_getElem? (i := 24) rfl)) (hw _ (List.mem_of_getElem? (i := 25) rfl)) (hw _ (List.mem_of_getElem? (i := 26) rfl)) (by decide) (rm1 l Z a0 hw [] (6 : Int32) (5 : Int32)  h10 ) at_100 rfl (lenOf own_pd1 rfl) rfl rfl rfl (by decide) (by decide) rfl rfl (by decide) (by decide) (own_kv fun v412 h412 q412 => ?_)
      obtain ⟨rfl, e412⟩ := q412
      rw [e412]
      rw [show (if (6 : Int32) < (5 : Int32) then (5 : Int32) else (6 : Int32)) = (6 : Int32) from by decide]
      obtain ⟨c413, A413, q413, S413, N413, H413, G413⟩ := id V10
      refine own_aaload 104 rfl A413 rfl (inb_of S413 ⟨by decide, by decide⟩) (Has.at H413 (inb_of S413 ⟨by decide, by decide⟩) rfl) at_103 ?_
      refine own_astore 106 rfl #[.val (.int p1), .val (.int p2), .val (.ref b1), .val (.int (6 : Int32)), .val (.int (3 : Int32)), .val (.int (6 : Int32)), .val (.int (5 : Int32)), .val (.ref w_UNSIGNED_INT)] at_104 rfl rfl ?_
      refine own_aloadN 107 rfl at_106 rfl rfl ?_
      refine own_iloadN 108 rfl at_107 rfl ?_
      obtain ⟨c414, A414, q414, S414, N414, H414, G414⟩ := id V10
      refine own_aaload 109 rfl A414 rfl (inb_of S414 ⟨by decide, by decide⟩) (Has.at H414 (inb_of S414 ⟨by decide, by decide⟩) rfl) at_108 ?_
      refine own_aloadN 110 rfl at_109 rfl rfl ?_
      refine own_iload 112 rfl at_110 rfl ?_
      obtain ⟨c415, A415, q415, S415, N415, H415, G415⟩ := id V10
      refine own_aaload 113 rfl A415 rfl (inb_of S415 ⟨by decide, by decide⟩) (Has.at H415 (inb_of S415 ⟨by decide, by decide⟩) rfl) at_112 ?_
      refine own_callS 116 rfl 1 9 0 [(.ref w_UNSIGNED_INT), (.ref w_SHORT)] [] (y := (⟨"com/example/counterpath/counterpath/cfa/Type", "common", "(Lcom/example/counterpath/counterpath/cfa/Type;Lcom/example/counterpath/counterpath/cfa/Type;)Lcom/example/counterpath/counterpath/cfa/Type;"⟩ : MethodName)) (hw _ (List.mem_of_getElem? (i := 27) rfl)) (hw _ (List.mem_of_getElem? (i := 28) rfl)) (hw _ (List.mem_of_getElem? (i := 3) rfl)) (hw _ (List.mem_of_getElem? (i := 29) rfl)) (by decide) (rm2 l Z a0 hw [] w_UNSIGNED_INT w_SHORT (32 : Int32) (0 : Int32) (16 : Int32) (1 : Int32) w_BOOL w_SIGNED_CHAR w_UNSIGNED_CHAR w_SHORT w_UNSIGNED_SHORT w_INT w_UNSIGNED_INT w_LONG_LONG w_UNSIGNED_LONG_LONG h10 I (((((((((((E_w_UNSIGNED_INT.ext O0.2).ext E1).wr W2).wr W3).wr W4).wr W5).wr W6).wr W7).wr W8).wr W9).wr W10) (((((((((((F_w_UNSIGNED_INT_width.ext O0.2).ext E1).other W2 (Or.inl ne_w_UNSIGNED_INT_b1)).other W3 (Or.inl ne_w_UNSIGNED_INT_b1)).other W4 (Or.inl ne_w_UNSIGNED_INT_b1)).other W5 (Or.inl ne_w_UNSIGNED_INT_b1)).other W6 (Or.inl ne_w_UNSIGNED_INT_b1)).other W7 (Or.inl ne_w_UNSIGNED_INT_b1)).other W8 (Or.inl ne_w_UNSIGNED_INT_b1)).other W9 (Or.inl ne_w_UNSIGNED_INT_b1)).other W10 (Or.inl ne_w_UNSIGNED_INT_b1)) (((((((((((F_w_UNSIGNED_INT_signed.ext O0.2).ext E1).other W2 (Or.inl ne_w_UNSIGNED_INT_b1)).other W3 (Or.inl ne_w_UNSIGNED_INT_b1)).other W4 (Or.inl ne_w_UNSIGNED_INT_b1)).other W5 (Or.inl ne_w_UNSIGNED_INT_b1)).other W6 (Or.inl ne_w_UNSIGNED_INT_b1)).other W7 (Or.inl ne_w_UNSIGNED_INT_b1)).other W8 (Or.inl ne_w_UNSIGNED_INT_b1)).other W9 (Or.inl ne_w_UNSIGNED_INT_b1)).other W10 (Or.inl ne_w_UNSIGNED_INT_b1)) (((((((((((E_w_SHORT.ext O0.2).ext E1).wr W2).wr W3).wr W4).wr W5).wr W6).wr W7).wr W8).wr W9).wr W10) (((((((((((F_w_SHORT_width.ext O0.2).ext E1).other W2 (Or.inl ne_w_SHORT_b1)).other W3 (Or.inl ne_w_SHORT_b1)).other W4 (Or.inl ne_w_SHORT_b1)).other W5 (Or.inl ne_w_SHORT_b1)).other W6 (Or.inl ne_w_SHORT_b1)).other W7 (Or.inl ne_w_SHORT_b1)).other W8 (Or.inl ne_w_SHORT_b1)).other W9 (Or.inl ne_w_SHORT_b1)).other W10 (Or.inl ne_w_SHORT_b1)) (((((((((((F_w_SHORT_signed.ext O0.2).ext E1).other W2 (Or.inl ne_w_SHORT_b1)).other W3 (Or.inl ne_w_SHORT_b1)).other W4 (Or.inl ne_w_SHORT_b1)).other W5 (Or.inl ne_w_SHORT_b1)).other W6 (Or.inl ne_w_SHORT_b1)).other W7 (Or.inl ne_w_SHORT_b1)).other W8 (Or.inl ne_w_SHORT_b1)).other W9 (Or.inl ne_w_SHORT_b1)).other W10 (Or.inl ne_w_SHORT_b1)) (by decide) (by decide)) at_113 rfl (lenOf own_pd2 rfl) rfl rfl rfl (by decide) (by decide) rfl rfl (by decide) (by decide) (own_kv fun v416 h416 q416 => ?_)
      obtain ⟨rfl, e416⟩ := q416
      rw [e416]
      rw [show own_com w_INT w_UNSIGNED_INT (32 : Int32) (0 : Int32) w_SHORT (16 : Int32) (1 : Int32) = w_UNSIGNED_INT from by simp [own_com]]
      refine own_aload 118 rfl at_116 rfl rfl ?_
      refine own_acmpNo 121 rfl at_118 rfl rfl (own_teq (rfl : ((.ref w_UNSIGNED_INT) : Value) = (.ref w_UNSIGNED_INT))).2 ?_
      refine own_iconst 122 rfl (1 : Int32) at_121 rfl ?_
      refine own_goto 126 at_122 (by decide) (by decide) ?_
      refine own_retN rfl (by simp) at_126 (by decide) (by decide) ?_
      exact ⟨_, rfl, rfl⟩
    · have hin_j := (rfl : (4 : Int) = 4)
      refine own_iloadN 81 rfl at_80 rfl ?_
      refine own_iconst 82 rfl (5 : Int32) at_81 rfl ?_
      refine own_callS 85 rfl 1 9 0 [(.int (6 : Int32)), (.int (5 : Int32))] [] (y := (⟨"java/lang/Math", "max", "(II)I"⟩ : MethodName)) (hw _ (List.mem_of_getElem? (i := 23) rfl)) (hw _ (List.mem_of_getElem? (i := 24) rfl)) (hw _ (List.mem_of_getElem? (i := 25) rfl)) (hw _ (List.mem_of_getElem? (i := 26) rfl)) (by decide) (rm1 l Z a0 hw [] (6 : Int32) (5 : Int32)  h10 ) at_82 rfl (lenOf own_pd1 rfl) rfl rfl rfl (by decide) (by decide) rfl rfl (by decide) (by decide) (own_kv fun v417 h417 q417 => ?_)
      obtain ⟨rfl, e417⟩ := q417
      rw [e417]
      rw [show (if (6 : Int32) < (5 : Int32) then (5 : Int32) else (6 : Int32)) = (6 : Int32) from by decide]
      refine own_istore 87 rfl #[.val (.int p1), .val (.int p2), .val (.ref b1), .val (.int (6 : Int32)), .val (.int (4 : Int32)), .val (.int (6 : Int32)), .unset, .unset] at_85 rfl ?_
      refine own_iload 89 rfl at_87 rfl ?_
      refine own_iconst 90 rfl (5 : Int32) at_89 rfl ?_
      refine own_callS 93 rfl 1 9 0 [(.int (4 : Int32)), (.int (5 : Int32))] [] (y := (⟨"java/lang/Math", "max", "(II)I"⟩ : MethodName)) (hw _ (List.mem_of_getElem? (i := 23) rfl)) (hw _ (List.mem_of_getElem? (i := 24) rfl)) (hw _ (List.mem_of_getElem? (i := 25) rfl)) (hw _ (List.mem_of_getElem? (i := 26) rfl)) (by decide) (rm1 l Z a0 hw [] (4 : Int32) (5 : Int32)  h10 ) at_90 rfl (lenOf own_pd1 rfl) rfl rfl rfl (by decide) (by decide) rfl rfl (by decide) (by decide) (own_kv fun v418 h418 q418 => ?_)
      obtain ⟨rfl, e418⟩ := q418
      rw [e418]
      rw [show (if (4 : Int32) < (5 : Int32) then (5 : Int32) else (4 : Int32)) = (5 : Int32) from by decide]
      refine own_istore 95 rfl #[.val (.int p1), .val (.int p2), .val (.ref b1), .val (.int (6 : Int32)), .val (.int (4 : Int32)), .val (.int (6 : Int32)), .val (.int (5 : Int32)), .unset] at_93 rfl ?_
      refine own_aloadN 96 rfl at_95 rfl rfl ?_
      refine own_iload 98 rfl at_96 rfl ?_
      refine own_iload 100 rfl at_98 rfl ?_
      refine own_callS 103 rfl 1 9 1 [(.int (6 : Int32)), (.int (5 : Int32))] [(.ref b1)] (y := (⟨"java/lang/Math", "max", "(II)I"⟩ : MethodName)) (hw _ (List.mem_of_getElem? (i := 23) rfl)) (hw _ (List.mem_of_getElem? (i := 24) rfl)) (hw _ (List.mem_of_getElem? (i := 25) rfl)) (hw _ (List.mem_of_getElem? (i := 26) rfl)) (by decide) (rm1 l Z a0 hw [] (6 : Int32) (5 : Int32)  h10 ) at_100 rfl (lenOf own_pd1 rfl) rfl rfl rfl (by decide) (by decide) rfl rfl (by decide) (by decide) (own_kv fun v419 h419 q419 => ?_)
      obtain ⟨rfl, e419⟩ := q419
      rw [e419]
      rw [show (if (6 : Int32) < (5 : Int32) then (5 : Int32) else (6 : Int32)) = (6 : Int32) from by decide]
      obtain ⟨c420, A420, q420, S420, N420, H420, G420⟩ := id V10
      refine own_aaload 104 rfl A420 rfl (inb_of S420 ⟨by decide, by decide⟩) (Has.at H420 (inb_of S420 ⟨by decide, by decide⟩) rfl) at_103 ?_
      refine own_astore 106 rfl #[.val (.int p1), .val (.int p2), .val (.ref b1), .val (.int (6 : Int32)), .val (.int (4 : Int32)), .val (.int (6 : Int32)), .val (.int (5 : Int32)), .val (.ref w_UNSIGNED_INT)] at_104 rfl rfl ?_
      refine own_aloadN 107 rfl at_106 rfl rfl ?_
      refine own_iloadN 108 rfl at_107 rfl ?_
      obtain ⟨c421, A421, q421, S421, N421, H421, G421⟩ := id V10
      refine own_aaload 109 rfl A421 rfl (inb_of S421 ⟨by decide, by decide⟩) (Has.at H421 (inb_of S421 ⟨by decide, by decide⟩) rfl) at_108 ?_
      refine own_aloadN 110 rfl at_109 rfl rfl ?_
      refine own_iload 112 rfl at_110 rfl ?_
      obtain ⟨c422, A422, q422, S422, N422, H422, G422⟩ := id V10
      refine own_aaload 113 rfl A422 rfl (inb_of S422 ⟨by decide, by decide⟩) (Has.at H422 (inb_of S422 ⟨by decide, by decide⟩) rfl) at_112 ?_
      refine own_callS 116 rfl 1 9 0 [(.ref w_UNSIGNED_INT), (.ref w_UNSIGNED_SHORT)] [] (y := (⟨"com/example/counterpath/counterpath/cfa/Type", "common", "(Lcom/example/counterpath/counterpath/cfa/Type;Lcom/example/counterpath/counterpath/cfa/Type;)Lcom/example/counterpath/counterpath/cfa/Type;"⟩ : MethodName)) (hw _ (List.mem_of_getElem? (i := 27) rfl)) (hw _ (List.mem_of_getElem? (i := 28) rfl)) (hw _ (List.mem_of_getElem? (i := 3) rfl)) (hw _ (List.mem_of_getElem? (i := 29) rfl)) (by decide) (rm2 l Z a0 hw [] w_UNSIGNED_INT w_UNSIGNED_SHORT (32 : Int32) (0 : Int32) (16 : Int32) (0 : Int32) w_BOOL w_SIGNED_CHAR w_UNSIGNED_CHAR w_SHORT w_UNSIGNED_SHORT w_INT w_UNSIGNED_INT w_LONG_LONG w_UNSIGNED_LONG_LONG h10 I (((((((((((E_w_UNSIGNED_INT.ext O0.2).ext E1).wr W2).wr W3).wr W4).wr W5).wr W6).wr W7).wr W8).wr W9).wr W10) (((((((((((F_w_UNSIGNED_INT_width.ext O0.2).ext E1).other W2 (Or.inl ne_w_UNSIGNED_INT_b1)).other W3 (Or.inl ne_w_UNSIGNED_INT_b1)).other W4 (Or.inl ne_w_UNSIGNED_INT_b1)).other W5 (Or.inl ne_w_UNSIGNED_INT_b1)).other W6 (Or.inl ne_w_UNSIGNED_INT_b1)).other W7 (Or.inl ne_w_UNSIGNED_INT_b1)).other W8 (Or.inl ne_w_UNSIGNED_INT_b1)).other W9 (Or.inl ne_w_UNSIGNED_INT_b1)).other W10 (Or.inl ne_w_UNSIGNED_INT_b1)) (((((((((((F_w_UNSIGNED_INT_signed.ext O0.2).ext E1).other W2 (Or.inl ne_w_UNSIGNED_INT_b1)).other W3 (Or.inl ne_w_UNSIGNED_INT_b1)).other W4 (Or.inl ne_w_UNSIGNED_INT_b1)).other W5 (Or.inl ne_w_UNSIGNED_INT_b1)).other W6 (Or.inl ne_w_UNSIGNED_INT_b1)).other W7 (Or.inl ne_w_UNSIGNED_INT_b1)).other W8 (Or.inl ne_w_UNSIGNED_INT_b1)).other W9 (Or.inl ne_w_UNSIGNED_INT_b1)).other W10 (Or.inl ne_w_UNSIGNED_INT_b1)) (((((((((((E_w_UNSIGNED_SHORT.ext O0.2).ext E1).wr W2).wr W3).wr W4).wr W5).wr W6).wr W7).wr W8).wr W9).wr W10) (((((((((((F_w_UNSIGNED_SHORT_width.ext O0.2).ext E1).other W2 (Or.inl ne_w_UNSIGNED_SHORT_b1)).other W3 (Or.inl ne_w_UNSIGNED_SHORT_b1)).other W4 (Or.inl ne_w_UNSIGNED_SHORT_b1)).other W5 (Or.inl ne_w_UNSIGNED_SHORT_b1)).other W6 (Or.inl ne_w_UNSIGNED_SHORT_b1)).other W7 (Or.inl ne_w_UNSIGNED_SHORT_b1)).other W8 (Or.inl ne_w_UNSIGNED_SHORT_b1)).other W9 (Or.inl ne_w_UNSIGNED_SHORT_b1)).other W10 (Or.inl ne_w_UNSIGNED_SHORT_b1)) (((((((((((F_w_UNSIGNED_SHORT_signed.ext O0.2).ext E1).other W2 (Or.inl ne_w_UNSIGNED_SHORT_b1)).other W3 (Or.inl ne_w_UNSIGNED_SHORT_b1)).other W4 (Or.inl ne_w_UNSIGNED_SHORT_b1)).other W5 (Or.inl ne_w_UNSIGNED_SHORT_b1)).other W6 (Or.inl ne_w_UNSIGNED_SHORT_b1)).other W7 (Or.inl ne_w_UNSIGNED_SHORT_b1)).other W8 (Or.inl ne_w_UNSIGNED_SHORT_b1)).other W9 (Or.inl ne_w_UNSIGNED_SHORT_b1)).other W10 (Or.inl ne_w_UNSIGNED_SHORT_b1)) (by decide) (by decide)) at_113 rfl (lenOf own_pd2 rfl) rfl rfl rfl (by decide) (by decide) rfl rfl (by decide) (by decide) (own_kv fun v423 h423 q423 => ?_)
      obtain ⟨rfl, e423⟩ := q423
      rw [e423]
      rw [show own_com w_INT w_UNSIGNED_INT (32 : Int32) (0 : Int32) w_UNSIGNED_SHORT (16 : Int32) (0 : Int32) = w_UNSIGNED_INT from by simp [own_com]]
      refine own_aload 118 rfl at_116 rfl rfl ?_
      refine own_acmpNo 121 rfl at_118 rfl rfl (own_teq (rfl : ((.ref w_UNSIGNED_INT) : Value) = (.ref w_UNSIGNED_INT))).2 ?_
      refine own_iconst 122 rfl (1 : Int32) at_121 rfl ?_
      refine own_goto 126 at_122 (by decide) (by decide) ?_
      refine own_retN rfl (by simp) at_126 (by decide) (by decide) ?_
      exact ⟨_, rfl, rfl⟩
    · have hin_j := (rfl : (5 : Int) = 5)
      refine own_iloadN 81 rfl at_80 rfl ?_
      refine own_iconst 82 rfl (5 : Int32) at_81 rfl ?_
      refine own_callS 85 rfl 1 9 0 [(.int (6 : Int32)), (.int (5 : Int32))] [] (y := (⟨"java/lang/Math", "max", "(II)I"⟩ : MethodName)) (hw _ (List.mem_of_getElem? (i := 23) rfl)) (hw _ (List.mem_of_getElem? (i := 24) rfl)) (hw _ (List.mem_of_getElem? (i := 25) rfl)) (hw _ (List.mem_of_getElem? (i := 26) rfl)) (by decide) (rm1 l Z a0 hw [] (6 : Int32) (5 : Int32)  h10 ) at_82 rfl (lenOf own_pd1 rfl) rfl rfl rfl (by decide) (by decide) rfl rfl (by decide) (by decide) (own_kv fun v424 h424 q424 => ?_)
      obtain ⟨rfl, e424⟩ := q424
      rw [e424]
      rw [show (if (6 : Int32) < (5 : Int32) then (5 : Int32) else (6 : Int32)) = (6 : Int32) from by decide]
      refine own_istore 87 rfl #[.val (.int p1), .val (.int p2), .val (.ref b1), .val (.int (6 : Int32)), .val (.int (5 : Int32)), .val (.int (6 : Int32)), .unset, .unset] at_85 rfl ?_
      refine own_iload 89 rfl at_87 rfl ?_
      refine own_iconst 90 rfl (5 : Int32) at_89 rfl ?_
      refine own_callS 93 rfl 1 9 0 [(.int (5 : Int32)), (.int (5 : Int32))] [] (y := (⟨"java/lang/Math", "max", "(II)I"⟩ : MethodName)) (hw _ (List.mem_of_getElem? (i := 23) rfl)) (hw _ (List.mem_of_getElem? (i := 24) rfl)) (hw _ (List.mem_of_getElem? (i := 25) rfl)) (hw _ (List.mem_of_getElem? (i := 26) rfl)) (by decide) (rm1 l Z a0 hw [] (5 : Int32) (5 : Int32)  h10 ) at_90 rfl (lenOf own_pd1 rfl) rfl rfl rfl (by decide) (by decide) rfl rfl (by decide) (by decide) (own_kv fun v425 h425 q425 => ?_)
      obtain ⟨rfl, e425⟩ := q425
      rw [e425]
      rw [show (if (5 : Int32) < (5 : Int32) then (5 : Int32) else (5 : Int32)) = (5 : Int32) from by decide]
      refine own_istore 95 rfl #[.val (.int p1), .val (.int p2), .val (.ref b1), .val (.int (6 : Int32)), .val (.int (5 : Int32)), .val (.int (6 : Int32)), .val (.int (5 : Int32)), .unset] at_93 rfl ?_
      refine own_aloadN 96 rfl at_95 rfl rfl ?_
      refine own_iload 98 rfl at_96 rfl ?_
      refine own_iload 100 rfl at_98 rfl ?_
      refine own_callS 103 rfl 1 9 1 [(.int (6 : Int32)), (.int (5 : Int32))] [(.ref b1)] (y := (⟨"java/lang/Math", "max", "(II)I"⟩ : MethodName)) (hw _ (List.mem_of_getElem? (i := 23) rfl)) (hw _ (List.mem_of_getElem? (i := 24) rfl)) (hw _ (List.mem_of_getElem? (i := 25) rfl)) (hw _ (List.mem_of_getElem? (i := 26) rfl)) (by decide) (rm1 l Z a0 hw [] (6 : Int32) (5 : Int32)  h10 ) at_100 rfl (lenOf own_pd1 rfl) rfl rfl rfl (by decide) (by decide) rfl rfl (by decide) (by decide) (own_kv fun v426 h426 q426 => ?_)
      obtain ⟨rfl, e426⟩ := q426
      rw [e426]
      rw [show (if (6 : Int32) < (5 : Int32) then (5 : Int32) else (6 : Int32)) = (6 : Int32) from by decide]
      obtain ⟨c427, A427, q427, S427, N427, H427, G427⟩ := id V10
      refine own_aaload 104 rfl A427 rfl (inb_of S427 ⟨by decide, by decide⟩) (Has.at H427 (inb_of S427 ⟨by decide, by decide⟩) rfl) at_103 ?_
      refine own_astore 106 rfl #[.val (.int p1), .val (.int p2), .val (.ref b1), .val (.int (6 : Int32)), .val (.int (5 : Int32)), .val (.int (6 : Int32)), .val (.int (5 : Int32)), .val (.ref w_UNSIGNED_INT)] at_104 rfl rfl ?_
      refine own_aloadN 107 rfl at_106 rfl rfl ?_
      refine own_iloadN 108 rfl at_107 rfl ?_
      obtain ⟨c428, A428, q428, S428, N428, H428, G428⟩ := id V10
      refine own_aaload 109 rfl A428 rfl (inb_of S428 ⟨by decide, by decide⟩) (Has.at H428 (inb_of S428 ⟨by decide, by decide⟩) rfl) at_108 ?_
      refine own_aloadN 110 rfl at_109 rfl rfl ?_
      refine own_iload 112 rfl at_110 rfl ?_
      obtain ⟨c429, A429, q429, S429, N429, H429, G429⟩ := id V10
      refine own_aaload 113 rfl A429 rfl (inb_of S429 ⟨by decide, by decide⟩) (Has.at H429 (inb_of S429 ⟨by decide, by decide⟩) rfl) at_112 ?_
      refine own_callS 116 rfl 1 9 0 [(.ref w_UNSIGNED_INT), (.ref w_INT)] [] (y := (⟨"com/example/counterpath/counterpath/cfa/Type", "common", "(Lcom/example/counterpath/counterpath/cfa/Type;Lcom/example/counterpath/counterpath/cfa/Type;)Lcom/example/counterpath/counterpath/cfa/Type;"⟩ : MethodName)) (hw _ (List.mem_of_getElem? (i := 27) rfl)) (hw _ (List.mem_of_getElem? (i := 28) rfl)) (hw _ (List.mem_of_getElem? (i := 3) rfl)) (hw _ (List.mem_of_getElem? (i := 29) rfl)) (by decide) (rm2 l Z a0 hw [] w_UNSIGNED_INT w_INT (32 : Int32) (0 : Int32) (32 : Int32) (1 : Int32) w_BOOL w_SIGNED_CHAR w_UNSIGNED_CHAR w_SHORT w_UNSIGNED_SHORT w_INT w_UNSIGNED_INT w_LONG_LONG w_UNSIGNED_LONG_LONG h10 I (((((((((((E_w_UNSIGNED_INT.ext O0.2).ext E1).wr W2).wr W3).wr W4).wr W5).wr W6).wr W7).wr W8).wr W9).wr W10) (((((((((((F_w_UNSIGNED_INT_width.ext O0.2).ext E1).other W2 (Or.inl ne_w_UNSIGNED_INT_b1)).other W3 (Or.inl ne_w_UNSIGNED_INT_b1)).other W4 (Or.inl ne_w_UNSIGNED_INT_b1)).other W5 (Or.inl ne_w_UNSIGNED_INT_b1)).other W6 (Or.inl ne_w_UNSIGNED_INT_b1)).other W7 (Or.inl ne_w_UNSIGNED_INT_b1)).other W8 (Or.inl ne_w_UNSIGNED_INT_b1)).other W9 (Or.inl ne_w_UNSIGNED_INT_b1)).other W10 (Or.inl ne_w_UNSIGNED_INT_b1)) (((((((((((F_w_UNSIGNED_INT_signed.ext O0.2).ext E1).other W2 (Or.inl ne_w_UNSIGNED_INT_b1)).other W3 (Or.inl ne_w_UNSIGNED_INT_b1)).other W4 (Or.inl ne_w_UNSIGNED_INT_b1)).other W5 (Or.inl ne_w_UNSIGNED_INT_b1)).other W6 (Or.inl ne_w_UNSIGNED_INT_b1)).other W7 (Or.inl ne_w_UNSIGNED_INT_b1)).other W8 (Or.inl ne_w_UNSIGNED_INT_b1)).other W9 (Or.inl ne_w_UNSIGNED_INT_b1)).other W10 (Or.inl ne_w_UNSIGNED_INT_b1)) (((((((((((E_w_INT.ext O0.2).ext E1).wr W2).wr W3).wr W4).wr W5).wr W6).wr W7).wr W8).wr W9).wr W10) (((((((((((F_w_INT_width.ext O0.2).ext E1).other W2 (Or.inl ne_w_INT_b1)).other W3 (Or.inl ne_w_INT_b1)).other W4 (Or.inl ne_w_INT_b1)).other W5 (Or.inl ne_w_INT_b1)).other W6 (Or.inl ne_w_INT_b1)).other W7 (Or.inl ne_w_INT_b1)).other W8 (Or.inl ne_w_INT_b1)).other W9 (Or.inl ne_w_INT_b1)).other W10 (Or.inl ne_w_INT_b1)) (((((((((((F_w_INT_signed.ext O0.2).ext E1).other W2 (Or.inl ne_w_INT_b1)).other W3 (Or.inl ne_w_INT_b1)).other W4 (Or.inl ne_w_INT_b1)).other W5 (Or.inl ne_w_INT_b1)).other W6 (Or.inl ne_w_INT_b1)).other W7 (Or.inl ne_w_INT_b1)).other W8 (Or.inl ne_w_INT_b1)).other W9 (Or.inl ne_w_INT_b1)).other W10 (Or.inl ne_w_INT_b1)) (by decide) (by decide)) at_113 rfl (lenOf own_pd2 rfl) rfl rfl rfl (by decide) (by decide) rfl rfl (by decide) (by decide) (own_kv fun v430 h430 q430 => ?_)
      obtain ⟨rfl, e430⟩ := q430
      rw [e430]
      rw [show own_com w_INT w_UNSIGNED_INT (32 : Int32) (0 : Int32) w_INT (32 : Int32) (1 : Int32) = w_UNSIGNED_INT from by simp [own_com]]
      refine own_aload 118 rfl at_116 rfl rfl ?_
      refine own_acmpNo 121 rfl at_118 rfl rfl (own_teq (rfl : ((.ref w_UNSIGNED_INT) : Value) = (.ref w_UNSIGNED_INT))).2 ?_
      refine own_iconst 122 rfl (1 : Int32) at_121 rfl ?_
      refine own_goto 126 at_122 (by decide) (by decide) ?_
      refine own_retN rfl (by simp) at_126 (by decide) (by decide) ?_
      exact ⟨_, rfl, rfl⟩
    · have hin_j := (rfl : (6 : Int) = 6)
      refine own_iloadN 81 rfl at_80 rfl ?_
      refine own_iconst 82 rfl (5 : Int32) at_81 rfl ?_
      refine own_callS 85 rfl 1 9 0 [(.int (6 : Int32)), (.int (5 : Int32))] [] (y := (⟨"java/lang/Math", "max", "(II)I"⟩ : MethodName)) (hw _ (List.mem_of_getElem? (i := 23) rfl)) (hw _ (List.mem_of_getElem? (i := 24) rfl)) (hw _ (List.mem_of_getElem? (i := 25) rfl)) (hw _ (List.mem_of_getElem? (i := 26) rfl)) (by decide) (rm1 l Z a0 hw [] (6 : Int32) (5 : Int32)  h10 ) at_82 rfl (lenOf own_pd1 rfl) rfl rfl rfl (by decide) (by decide) rfl rfl (by decide) (by decide) (own_kv fun v431 h431 q431 => ?_)
      obtain ⟨rfl, e431⟩ := q431
      rw [e431]
      rw [show (if (6 : Int32) < (5 : Int32) then (5 : Int32) else (6 : Int32)) = (6 : Int32) from by decide]
      refine own_istore 87 rfl #[.val (.int p1), .val (.int p2), .val (.ref b1), .val (.int (6 : Int32)), .val (.int (6 : Int32)), .val (.int (6 : Int32)), .unset, .unset] at_85 rfl ?_
      refine own_iload 89 rfl at_87 rfl ?_
      refine own_iconst 90 rfl (5 : Int32) at_89 rfl ?_
      refine own_callS 93 rfl 1 9 0 [(.int (6 : Int32)), (.int (5 : Int32))] [] (y := (⟨"java/lang/Math", "max", "(II)I"⟩ : MethodName)) (hw _ (List.mem_of_getElem? (i := 23) rfl)) (hw _ (List.mem_of_getElem? (i := 24) rfl)) (hw _ (List.mem_of_getElem? (i := 25) rfl)) (hw _ (List.mem_of_getElem? (i := 26) rfl)) (by decide) (rm1 l Z a0 hw [] (6 : Int32) (5 : Int32)  h10 ) at_90 rfl (lenOf own_pd1 rfl) rfl rfl rfl (by decide) (by decide) rfl rfl (by decide) (by decide) (own_kv fun v432 h432 q432 => ?_)
      obtain ⟨rfl, e432⟩ := q432
      rw [e432]
      rw [show (if (6 : Int32) < (5 : Int32) then (5 : Int32) else (6 : Int32)) = (6 : Int32) from by decide]
      refine own_istore 95 rfl #[.val (.int p1), .val (.int p2), .val (.ref b1), .val (.int (6 : Int32)), .val (.int (6 : Int32)), .val (.int (6 : Int32)), .val (.int (6 : Int32)), .unset] at_93 rfl ?_
      refine own_aloadN 96 rfl at_95 rfl rfl ?_
      refine own_iload 98 rfl at_96 rfl ?_
      refine own_iload 100 rfl at_98 rfl ?_
      refine own_callS 103 rfl 1 9 1 [(.int (6 : Int32)), (.int (6 : Int32))] [(.ref b1)] (y := (⟨"java/lang/Math", "max", "(II)I"⟩ : MethodName)) (hw _ (List.mem_of_getElem? (i := 23) rfl)) (hw _ (List.mem_of_getElem? (i := 24) rfl)) (hw _ (List.mem_of_getElem? (i := 25) rfl)) (hw _ (List.mem_of_getElem? (i := 26) rfl)) (by decide) (rm1 l Z a0 hw [] (6 : Int32) (6 : Int32)  h10 ) at_100 rfl (lenOf own_pd1 rfl) rfl rfl rfl (by decide) (by decide) rfl rfl (by decide) (by decide) (own_kv fun v433 h433 q433 => ?_)
      obtain ⟨rfl, e433⟩ := q433
      rw [e433]
      rw [show (if (6 : Int32) < (6 : Int32) then (6 : Int32) else (6 : Int32)) = (6 : Int32) from by decide]
      obtain ⟨c434, A434, q434, S434, N434, H434, G434⟩ := id V10
      refine own_aaload 104 rfl A434 rfl (inb_of S434 ⟨by decide, by decide⟩) (Has.at H434 (inb_of S434 ⟨by decide, by decide⟩) rfl) at_103 ?_
      refine own_astore 106 rfl #[.val (.int p1), .val (.int p2), .val (.ref b1), .val (.int (6 : Int32)), .val (.int (6 : Int32)), .val (.int (6 : Int32)), .val (.int (6 : Int32)), .val (.ref w_UNSIGNED_INT)] at_104 rfl rfl ?_
      refine own_aloadN 107 rfl at_106 rfl rfl ?_
      refine own_iloadN 108 rfl at_107 rfl ?_
      obtain ⟨c435, A435, q435, S435, N435, H435, G435⟩ := id V10
      refine own_aaload 109 rfl A435 rfl (inb_of S435 ⟨by decide, by decide⟩) (Has.at H435 (inb_of S435 ⟨by decide, by decide⟩) rfl) at_108 ?_
      refine own_aloadN 110 rfl at_109 rfl rfl ?_
      refine own_iload 112 rfl at_110 rfl ?_
      obtain ⟨c436, A436, q436, S436, N436, H436, G436⟩ := id V10
      refine own_aaload 113 rfl A436 rfl (inb_of S436 ⟨by decide, by decide⟩) (Has.at H436 (inb_of S436 ⟨by decide, by decide⟩) rfl) at_112 ?_
      refine own_callS 116 rfl 1 9 0 [(.ref w_UNSIGNED_INT), (.ref w_UNSIGNED_INT)] [] (y := (⟨"com/example/counterpath/counterpath/cfa/Type", "common", "(Lcom/example/counterpath/counterpath/cfa/Type;Lcom/example/counterpath/counterpath/cfa/Type;)Lcom/example/counterpath/counterpath/cfa/Type;"⟩ : MethodName)) (hw _ (List.mem_of_getElem? (i := 27) rfl)) (hw _ (List.mem_of_getElem? (i := 28) rfl)) (hw _ (List.mem_of_getElem? (i := 3) rfl)) (hw _ (List.mem_of_getElem? (i := 29) rfl)) (by decide) (rm2 l Z a0 hw [] w_UNSIGNED_INT w_UNSIGNED_INT (32 : Int32) (0 : Int32) (32 : Int32) (0 : Int32) w_BOOL w_SIGNED_CHAR w_UNSIGNED_CHAR w_SHORT w_UNSIGNED_SHORT w_INT w_UNSIGNED_INT w_LONG_LONG w_UNSIGNED_LONG_LONG h10 I (((((((((((E_w_UNSIGNED_INT.ext O0.2).ext E1).wr W2).wr W3).wr W4).wr W5).wr W6).wr W7).wr W8).wr W9).wr W10) (((((((((((F_w_UNSIGNED_INT_width.ext O0.2).ext E1).other W2 (Or.inl ne_w_UNSIGNED_INT_b1)).other W3 (Or.inl ne_w_UNSIGNED_INT_b1)).other W4 (Or.inl ne_w_UNSIGNED_INT_b1)).other W5 (Or.inl ne_w_UNSIGNED_INT_b1)).other W6 (Or.inl ne_w_UNSIGNED_INT_b1)).other W7 (Or.inl ne_w_UNSIGNED_INT_b1)).other W8 (Or.inl ne_w_UNSIGNED_INT_b1)).other W9 (Or.inl ne_w_UNSIGNED_INT_b1)).other W10 (Or.inl ne_w_UNSIGNED_INT_b1)) (((((((((((F_w_UNSIGNED_INT_signed.ext O0.2).ext E1).other W2 (Or.inl ne_w_UNSIGNED_INT_b1)).other W3 (Or.inl ne_w_UNSIGNED_INT_b1)).other W4 (Or.inl ne_w_UNSIGNED_INT_b1)).other W5 (Or.inl ne_w_UNSIGNED_INT_b1)).other W6 (Or.inl ne_w_UNSIGNED_INT_b1)).other W7 (Or.inl ne_w_UNSIGNED_INT_b1)).other W8 (Or.inl ne_w_UNSIGNED_INT_b1)).other W9 (Or.inl ne_w_UNSIGNED_INT_b1)).other W10 (Or.inl ne_w_UNSIGNED_INT_b1)) (((((((((((E_w_UNSIGNED_INT.ext O0.2).ext E1).wr W2).wr W3).wr W4).wr W5).wr W6).wr W7).wr W8).wr W9).wr W10) (((((((((((F_w_UNSIGNED_INT_width.ext O0.2).ext E1).other W2 (Or.inl ne_w_UNSIGNED_INT_b1)).other W3 (Or.inl ne_w_UNSIGNED_INT_b1)).other W4 (Or.inl ne_w_UNSIGNED_INT_b1)).other W5 (Or.inl ne_w_UNSIGNED_INT_b1)).other W6 (Or.inl ne_w_UNSIGNED_INT_b1)).other W7 (Or.inl ne_w_UNSIGNED_INT_b1)).other W8 (Or.inl ne_w_UNSIGNED_INT_b1)).other W9 (Or.inl ne_w_UNSIGNED_INT_b1)).other W10 (Or.inl ne_w_UNSIGNED_INT_b1)) (((((((((((F_w_UNSIGNED_INT_signed.ext O0.2).ext E1).other W2 (Or.inl ne_w_UNSIGNED_INT_b1)).other W3 (Or.inl ne_w_UNSIGNED_INT_b1)).other W4 (Or.inl ne_w_UNSIGNED_INT_b1)).other W5 (Or.inl ne_w_UNSIGNED_INT_b1)).other W6 (Or.inl ne_w_UNSIGNED_INT_b1)).other W7 (Or.inl ne_w_UNSIGNED_INT_b1)).other W8 (Or.inl ne_w_UNSIGNED_INT_b1)).other W9 (Or.inl ne_w_UNSIGNED_INT_b1)).other W10 (Or.inl ne_w_UNSIGNED_INT_b1)) (by decide) (by decide)) at_113 rfl (lenOf own_pd2 rfl) rfl rfl rfl (by decide) (by decide) rfl rfl (by decide) (by decide) (own_kv fun v437 h437 q437 => ?_)
      obtain ⟨rfl, e437⟩ := q437
      rw [e437]
      rw [show own_com w_INT w_UNSIGNED_INT (32 : Int32) (0 : Int32) w_UNSIGNED_INT (32 : Int32) (0 : Int32) = w_UNSIGNED_INT from by simp [own_com]]
      refine own_aload 118 rfl at_116 rfl rfl ?_
      refine own_acmpNo 121 rfl at_118 rfl rfl (own_teq (rfl : ((.ref w_UNSIGNED_INT) : Value) = (.ref w_UNSIGNED_INT))).2 ?_
      refine own_iconst 122 rfl (1 : Int32) at_121 rfl ?_
      refine own_goto 126 at_122 (by decide) (by decide) ?_
      refine own_retN rfl (by simp) at_126 (by decide) (by decide) ?_
      exact ⟨_, rfl, rfl⟩
    · have hin_j := (rfl : (7 : Int) = 7)
      refine own_iloadN 81 rfl at_80 rfl ?_
      refine own_iconst 82 rfl (5 : Int32) at_81 rfl ?_
      refine own_callS 85 rfl 1 9 0 [(.int (6 : Int32)), (.int (5 : Int32))] [] (y := (⟨"java/lang/Math", "max", "(II)I"⟩ : MethodName)) (hw _ (List.mem_of_getElem? (i := 23) rfl)) (hw _ (List.mem_of_getElem? (i := 24) rfl)) (hw _ (List.mem_of_getElem? (i := 25) rfl)) (hw _ (List.mem_of_getElem? (i := 26) rfl)) (by decide) (rm1 l Z a0 hw [] (6 : Int32) (5 : Int32)  h10 ) at_82 rfl (lenOf own_pd1 rfl) rfl rfl rfl (by decide) (by decide) rfl rfl (by decide) (by decide) (own_kv fun v438 h438 q438 => ?_)
      obtain ⟨rfl, e438⟩ := q438
      rw [e438]
      rw [show (if (6 : Int32) < (5 : Int32) then (5 : Int32) else (6 : Int32)) = (6 : Int32) from by decide]
      refine own_istore 87 rfl #[.val (.int p1), .val (.int p2), .val (.ref b1), .val (.int (6 : Int32)), .val (.int (7 : Int32)), .val (.int (6 : Int32)), .unset, .unset] at_85 rfl ?_
      refine own_iload 89 rfl at_87 rfl ?_
      refine own_iconst 90 rfl (5 : Int32) at_89 rfl ?_
      refine own_callS 93 rfl 1 9 0 [(.int (7 : Int32)), (.int (5 : Int32))] [] (y := (⟨"java/lang/Math", "max", "(II)I"⟩ : MethodName)) (hw _ (List.mem_of_getElem? (i := 23) rfl)) (hw _ (List.mem_of_getElem? (i := 24) rfl)) (hw _ (List.mem_of_getElem? (i := 25) rfl)) (hw _ (List.mem_of_getElem? (i := 26) rfl)) (by decide) (rm1 l Z a0 hw [] (7 : Int32) (5 : Int32)  h10 ) at_90 rfl (lenOf own_pd1 rfl) rfl rfl rfl (by decide) (by decide) rfl rfl (by decide) (by decide) (own_kv fun v439 h439 q439 => ?_)
      obtain ⟨rfl, e439⟩ := q439
      rw [e439]
      rw [show (if (7 : Int32) < (5 : Int32) then (5 : Int32) else (7 : Int32)) = (7 : Int32) from by decide]
      refine own_istore 95 rfl #[.val (.int p1), .val (.int p2), .val (.ref b1), .val (.int (6 : Int32)), .val (.int (7 : Int32)), .val (.int (6 : Int32)), .val (.int (7 : Int32)), .unset] at_93 rfl ?_
      refine own_aloadN 96 rfl at_95 rfl rfl ?_
      refine own_iload 98 rfl at_96 rfl ?_
      refine own_iload 100 rfl at_98 rfl ?_
      refine own_callS 103 rfl 1 9 1 [(.int (6 : Int32)), (.int (7 : Int32))] [(.ref b1)] (y := (⟨"java/lang/Math", "max", "(II)I"⟩ : MethodName)) (hw _ (List.mem_of_getElem? (i := 23) rfl)) (hw _ (List.mem_of_getElem? (i := 24) rfl)) (hw _ (List.mem_of_getElem? (i := 25) rfl)) (hw _ (List.mem_of_getElem? (i := 26) rfl)) (by decide) (rm1 l Z a0 hw [] (6 : Int32) (7 : Int32)  h10 ) at_100 rfl (lenOf own_pd1 rfl) rfl rfl rfl (by decide) (by decide) rfl rfl (by decide) (by decide) (own_kv fun v440 h440 q440 => ?_)
      obtain ⟨rfl, e440⟩ := q440
      rw [e440]
      rw [show (if (6 : Int32) < (7 : Int32) then (7 : Int32) else (6 : Int32)) = (7 : Int32) from by decide]
      obtain ⟨c441, A441, q441, S441, N441, H441, G441⟩ := id V10
      refine own_aaload 104 rfl A441 rfl (inb_of S441 ⟨by decide, by decide⟩) (Has.at H441 (inb_of S441 ⟨by decide, by decide⟩) rfl) at_103 ?_
      refine own_astore 106 rfl #[.val (.int p1), .val (.int p2), .val (.ref b1), .val (.int (6 : Int32)), .val (.int (7 : Int32)), .val (.int (6 : Int32)), .val (.int (7 : Int32)), .val (.ref w_LONG_LONG)] at_104 rfl rfl ?_
      refine own_aloadN 107 rfl at_106 rfl rfl ?_
      refine own_iloadN 108 rfl at_107 rfl ?_
      obtain ⟨c442, A442, q442, S442, N442, H442, G442⟩ := id V10
      refine own_aaload 109 rfl A442 rfl (inb_of S442 ⟨by decide, by decide⟩) (Has.at H442 (inb_of S442 ⟨by decide, by decide⟩) rfl) at_108 ?_
      refine own_aloadN 110 rfl at_109 rfl rfl ?_
      refine own_iload 112 rfl at_110 rfl ?_
      obtain ⟨c443, A443, q443, S443, N443, H443, G443⟩ := id V10
      refine own_aaload 113 rfl A443 rfl (inb_of S443 ⟨by decide, by decide⟩) (Has.at H443 (inb_of S443 ⟨by decide, by decide⟩) rfl) at_112 ?_
      refine own_callS 116 rfl 1 9 0 [(.ref w_UNSIGNED_INT), (.ref w_LONG_LONG)] [] (y := (⟨"com/example/counterpath/counterpath/cfa/Type", "common", "(Lcom/example/counterpath/counterpath/cfa/Type;Lcom/example/counterpath/counterpath/cfa/Type;)Lcom/example/counterpath/counterpath/cfa/Type;"⟩ : MethodName)) (hw _ (List.mem_of_getElem? (i := 27) rfl)) (hw _ (List.mem_of_getElem? (i := 28) rfl)) (hw _ (List.mem_of_getElem? (i := 3) rfl)) (hw _ (List.mem_of_getElem? (i := 29) rfl)) (by decide) (rm2 l Z a0 hw [] w_UNSIGNED_INT w_LONG_LONG (32 : Int32) (0 : Int32) (64 : Int32) (1 : Int32) w_BOOL w_SIGNED_CHAR w_UNSIGNED_CHAR w_SHORT w_UNSIGNED_SHORT w_INT w_UNSIGNED_INT w_LONG_LONG w_UNSIGNED_LONG_LONG h10 I (((((((((((E_w_UNSIGNED_INT.ext O0.2).ext E1).wr W2).wr W3).wr W4).wr W5).wr W6).wr W7).wr W8).wr W9).wr W10) (((((((((((F_w_UNSIGNED_INT_width.ext O0.2).ext E1).other W2 (Or.inl ne_w_UNSIGNED_INT_b1)).other W3 (Or.inl ne_w_UNSIGNED_INT_b1)).other W4 (Or.inl ne_w_UNSIGNED_INT_b1)).other W5 (Or.inl ne_w_UNSIGNED_INT_b1)).other W6 (Or.inl ne_w_UNSIGNED_INT_b1)).other W7 (Or.inl ne_w_UNSIGNED_INT_b1)).other W8 (Or.inl ne_w_UNSIGNED_INT_b1)).other W9 (Or.inl ne_w_UNSIGNED_INT_b1)).other W10 (Or.inl ne_w_UNSIGNED_INT_b1)) (((((((((((F_w_UNSIGNED_INT_signed.ext O0.2).ext E1).other W2 (Or.inl ne_w_UNSIGNED_INT_b1)).other W3 (Or.inl ne_w_UNSIGNED_INT_b1)).other W4 (Or.inl ne_w_UNSIGNED_INT_b1)).other W5 (Or.inl ne_w_UNSIGNED_INT_b1)).other W6 (Or.inl ne_w_UNSIGNED_INT_b1)).other W7 (Or.inl ne_w_UNSIGNED_INT_b1)).other W8 (Or.inl ne_w_UNSIGNED_INT_b1)).other W9 (Or.inl ne_w_UNSIGNED_INT_b1)).other W10 (Or.inl ne_w_UNSIGNED_INT_b1)) (((((((((((E_w_LONG_LONG.ext O0.2).ext E1).wr W2).wr W3).wr W4).wr W5).wr W6).wr W7).wr W8).wr W9).wr W10) (((((((((((F_w_LONG_LONG_width.ext O0.2).ext E1).other W2 (Or.inl ne_w_LONG_LONG_b1)).other W3 (Or.inl ne_w_LONG_LONG_b1)).other W4 (Or.inl ne_w_LONG_LONG_b1)).other W5 (Or.inl ne_w_LONG_LONG_b1)).other W6 (Or.inl ne_w_LONG_LONG_b1)).other W7 (Or.inl ne_w_LONG_LONG_b1)).other W8 (Or.inl ne_w_LONG_LONG_b1)).other W9 (Or.inl ne_w_LONG_LONG_b1)).other W10 (Or.inl ne_w_LONG_LONG_b1)) (((((((((((F_w_LONG_LONG_signed.ext O0.2).ext E1).other W2 (Or.inl ne_w_LONG_LONG_b1)).other W3 (Or.inl ne_w_LONG_LONG_b1)).other W4 (Or.inl ne_w_LONG_LONG_b1)).other W5 (Or.inl ne_w_LONG_LONG_b1)).other W6 (Or.inl ne_w_LONG_LONG_b1)).other W7 (Or.inl ne_w_LONG_LONG_b1)).other W8 (Or.inl ne_w_LONG_LONG_b1)).other W9 (Or.inl ne_w_LONG_LONG_b1)).other W10 (Or.inl ne_w_LONG_LONG_b1)) (by decide) (by decide)) at_113 rfl (lenOf own_pd2 rfl) rfl rfl rfl (by decide) (by decide) rfl rfl (by decide) (by decide) (own_kv fun v444 h444 q444 => ?_)
      obtain ⟨rfl, e444⟩ := q444
      rw [e444]
      rw [show own_com w_INT w_UNSIGNED_INT (32 : Int32) (0 : Int32) w_LONG_LONG (64 : Int32) (1 : Int32) = w_LONG_LONG from by simp [own_com]]
      refine own_aload 118 rfl at_116 rfl rfl ?_
      refine own_acmpNo 121 rfl at_118 rfl rfl (own_teq (rfl : ((.ref w_LONG_LONG) : Value) = (.ref w_LONG_LONG))).2 ?_
      refine own_iconst 122 rfl (1 : Int32) at_121 rfl ?_
      refine own_goto 126 at_122 (by decide) (by decide) ?_
      refine own_retN rfl (by simp) at_126 (by decide) (by decide) ?_
      exact ⟨_, rfl, rfl⟩
    · have hin_j := (rfl : (8 : Int) = 8)
      refine own_iloadN 81 rfl at_80 rfl ?_
      refine own_iconst 82 rfl (5 : Int32) at_81 rfl ?_
      refine own_callS 85 rfl 1 9 0 [(.int (6 : Int32)), (.int (5 : Int32))] [] (y := (⟨"java/lang/Math", "max", "(II)I"⟩ : MethodName)) (hw _ (List.mem_of_getElem? (i := 23) rfl)) (hw _ (List.mem_of_getElem? (i := 24) rfl)) (hw _ (List.mem_of_getElem? (i := 25) rfl)) (hw _ (List.mem_of_getElem? (i := 26) rfl)) (by decide) (rm1 l Z a0 hw [] (6 : Int32) (5 : Int32)  h10 ) at_82 rfl (lenOf own_pd1 rfl) rfl rfl rfl (by decide) (by decide) rfl rfl (by decide) (by decide) (own_kv fun v445 h445 q445 => ?_)
      obtain ⟨rfl, e445⟩ := q445
      rw [e445]
      rw [show (if (6 : Int32) < (5 : Int32) then (5 : Int32) else (6 : Int32)) = (6 : Int32) from by decide]
      refine own_istore 87 rfl #[.val (.int p1), .val (.int p2), .val (.ref b1), .val (.int (6 : Int32)), .val (.int (8 : Int32)), .val (.int (6 : Int32)), .unset, .unset] at_85 rfl ?_
      refine own_iload 89 rfl at_87 rfl ?_
      refine own_iconst 90 rfl (5 : Int32) at_89 rfl ?_
      refine own_callS 93 rfl 1 9 0 [(.int (8 : Int32)), (.int (5 : Int32))] [] (y := (⟨"java/lang/Math", "max", "(II)I"⟩ : MethodName)) (hw _ (List.mem_of_getElem? (i := 23) rfl)) (hw _ (List.mem_of_getElem? (i := 24) rfl)) (hw _ (List.mem_of_getElem? (i := 25) rfl)) (hw _ (List.mem_of_getElem? (i := 26) rfl)) (by decide) (rm1 l Z a0 hw [] (8 : Int32) (5 : Int32)  h10 ) at_90 rfl (lenOf own_pd1 rfl) rfl rfl rfl (by decide) (by decide) rfl rfl (by decide) (by decide) (own_kv fun v446 h446 q446 => ?_)
      obtain ⟨rfl, e446⟩ := q446
      rw [e446]
      rw [show (if (8 : Int32) < (5 : Int32) then (5 : Int32) else (8 : Int32)) = (8 : Int32) from by decide]
      refine own_istore 95 rfl #[.val (.int p1), .val (.int p2), .val (.ref b1), .val (.int (6 : Int32)), .val (.int (8 : Int32)), .val (.int (6 : Int32)), .val (.int (8 : Int32)), .unset] at_93 rfl ?_
      refine own_aloadN 96 rfl at_95 rfl rfl ?_
      refine own_iload 98 rfl at_96 rfl ?_
      refine own_iload 100 rfl at_98 rfl ?_
      refine own_callS 103 rfl 1 9 1 [(.int (6 : Int32)), (.int (8 : Int32))] [(.ref b1)] (y := (⟨"java/lang/Math", "max", "(II)I"⟩ : MethodName)) (hw _ (List.mem_of_getElem? (i := 23) rfl)) (hw _ (List.mem_of_getElem? (i := 24) rfl)) (hw _ (List.mem_of_getElem? (i := 25) rfl)) (hw _ (List.mem_of_getElem? (i := 26) rfl)) (by decide) (rm1 l Z a0 hw [] (6 : Int32) (8 : Int32)  h10 ) at_100 rfl (lenOf own_pd1 rfl) rfl rfl rfl (by decide) (by decide) rfl rfl (by decide) (by decide) (own_kv fun v447 h447 q447 => ?_)
      obtain ⟨rfl, e447⟩ := q447
      rw [e447]
      rw [show (if (6 : Int32) < (8 : Int32) then (8 : Int32) else (6 : Int32)) = (8 : Int32) from by decide]
      obtain ⟨c448, A448, q448, S448, N448, H448, G448⟩ := id V10
      refine own_aaload 104 rfl A448 rfl (inb_of S448 ⟨by decide, by decide⟩) (Has.at H448 (inb_of S448 ⟨by decide, by decide⟩) rfl) at_103 ?_
      refine own_astore 106 rfl #[.val (.int p1), .val (.int p2), .val (.ref b1), .val (.int (6 : Int32)), .val (.int (8 : Int32)), .val (.int (6 : Int32)), .val (.int (8 : Int32)), .val (.ref w_UNSIGNED_LONG_LONG)] at_104 rfl rfl ?_
      refine own_aloadN 107 rfl at_106 rfl rfl ?_
      refine own_iloadN 108 rfl at_107 rfl ?_
      obtain ⟨c449, A449, q449, S449, N449, H449, G449⟩ := id V10
      refine own_aaload 109 rfl A449 rfl (inb_of S449 ⟨by decide, by decide⟩) (Has.at H449 (inb_of S449 ⟨by decide, by decide⟩) rfl) at_108 ?_
      refine own_aloadN 110 rfl at_109 rfl rfl ?_
      refine own_iload 112 rfl at_110 rfl ?_
      obtain ⟨c450, A450, q450, S450, N450, H450, G450⟩ := id V10
      refine own_aaload 113 rfl A450 rfl (inb_of S450 ⟨by decide, by decide⟩) (Has.at H450 (inb_of S450 ⟨by decide, by decide⟩) rfl) at_112 ?_
      refine own_callS 116 rfl 1 9 0 [(.ref w_UNSIGNED_INT), (.ref w_UNSIGNED_LONG_LONG)] [] (y := (⟨"com/example/counterpath/counterpath/cfa/Type", "common", "(Lcom/example/counterpath/counterpath/cfa/Type;Lcom/example/counterpath/counterpath/cfa/Type;)Lcom/example/counterpath/counterpath/cfa/Type;"⟩ : MethodName)) (hw _ (List.mem_of_getElem? (i := 27) rfl)) (hw _ (List.mem_of_getElem? (i := 28) rfl)) (hw _ (List.mem_of_getElem? (i := 3) rfl)) (hw _ (List.mem_of_getElem? (i := 29) rfl)) (by decide) (rm2 l Z a0 hw [] w_UNSIGNED_INT w_UNSIGNED_LONG_LONG (32 : Int32) (0 : Int32) (64 : Int32) (0 : Int32) w_BOOL w_SIGNED_CHAR w_UNSIGNED_CHAR w_SHORT w_UNSIGNED_SHORT w_INT w_UNSIGNED_INT w_LONG_LONG w_UNSIGNED_LONG_LONG h10 I (((((((((((E_w_UNSIGNED_INT.ext O0.2).ext E1).wr W2).wr W3).wr W4).wr W5).wr W6).wr W7).wr W8).wr W9).wr W10) (((((((((((F_w_UNSIGNED_INT_width.ext O0.2).ext E1).other W2 (Or.inl ne_w_UNSIGNED_INT_b1)).other W3 (Or.inl ne_w_UNSIGNED_INT_b1)).other W4 (Or.inl ne_w_UNSIGNED_INT_b1)).other W5 (Or.inl ne_w_UNSIGNED_INT_b1)).other W6 (Or.inl ne_w_UNSIGNED_INT_b1)).other W7 (Or.inl ne_w_UNSIGNED_INT_b1)).other W8 (Or.inl ne_w_UNSIGNED_INT_b1)).other W9 (Or.inl ne_w_UNSIGNED_INT_b1)).other W10 (Or.inl ne_w_UNSIGNED_INT_b1)) (((((((((((F_w_UNSIGNED_INT_signed.ext O0.2).ext E1).other W2 (Or.inl ne_w_UNSIGNED_INT_b1)).other W3 (Or.inl ne_w_UNSIGNED_INT_b1)).other W4 (Or.inl ne_w_UNSIGNED_INT_b1)).other W5 (Or.inl ne_w_UNSIGNED_INT_b1)).other W6 (Or.inl ne_w_UNSIGNED_INT_b1)).other W7 (Or.inl ne_w_UNSIGNED_INT_b1)).other W8 (Or.inl ne_w_UNSIGNED_INT_b1)).other W9 (Or.inl ne_w_UNSIGNED_INT_b1)).other W10 (Or.inl ne_w_UNSIGNED_INT_b1)) (((((((((((E_w_UNSIGNED_LONG_LONG.ext O0.2).ext E1).wr W2).wr W3).wr W4).wr W5).wr W6).wr W7).wr W8).wr W9).wr W10) (((((((((((F_w_UNSIGNED_LONG_LONG_width.ext O0.2).ext E1).other W2 (Or.inl ne_w_UNSIGNED_LONG_LONG_b1)).other W3 (Or.inl ne_w_UNSIGNED_LONG_LONG_b1)).other W4 (Or.inl ne_w_UNSIGNED_LONG_LONG_b1)).other W5 (Or.inl ne_w_UNSIGNED_LONG_LONG_b1)).other W6 (Or.inl ne_w_UNSIGNED_LONG_LONG_b1)).other W7 (Or.inl ne_w_UNSIGNED_LONG_LONG_b1)).other W8 (Or.inl ne_w_UNSIGNED_LONG_LONG_b1)).other W9 (Or.inl ne_w_UNSIGNED_LONG_LONG_b1)).other W10 (Or.inl ne_w_UNSIGNED_LONG_LONG_b1)) (((((((((((F_w_UNSIGNED_LONG_LONG_signed.ext O0.2).ext E1).other W2 (Or.inl ne_w_UNSIGNED_LONG_LONG_b1)).other W3 (Or.inl ne_w_UNSIGNED_LONG_LONG_b1)).other W4 (Or.inl ne_w_UNSIGNED_LONG_LONG_b1)).other W5 (Or.inl ne_w_UNSIGNED_LONG_LONG_b1)).other W6 (Or.inl ne_w_UNSIGNED_LONG_LONG_b1)).other W7 (Or.inl ne_w_UNSIGNED_LONG_LONG_b1)).other W8 (Or.inl ne_w_UNSIGNED_LONG_LONG_b1)).other W9 (Or.inl ne_w_UNSIGNED_LONG_LONG_b1)).other W10 (Or.inl ne_w_UNSIGNED_LONG_LONG_b1)) (by decide) (by decide)) at_113 rfl (lenOf own_pd2 rfl) rfl rfl rfl (by decide) (by decide) rfl rfl (by decide) (by decide) (own_kv fun v451 h451 q451 => ?_)
      obtain ⟨rfl, e451⟩ := q451
      rw [e451]
      rw [show own_com w_INT w_UNSIGNED_INT (32 : Int32) (0 : Int32) w_UNSIGNED_LONG_LONG (64 : Int32) (0 : Int32) = w_UNSIGNED_LONG_LONG from by simp [own_com]]
      refine own_aload 118 rfl at_116 rfl rfl ?_
      refine own_acmpNo 121 rfl at_118 rfl rfl (own_teq (rfl : ((.ref w_UNSIGNED_LONG_LONG) : Value) = (.ref w_UNSIGNED_LONG_LONG))).2 ?_
      refine own_iconst 122 rfl (1 : Int32) at_121 rfl ?_
      refine own_goto 126 at_122 (by decide) (by decide) ?_
      refine own_retN rfl (by simp) at_126 (by decide) (by decide) ?_
      exact ⟨_, rfl, rfl⟩
  · have hin_k := (rfl : (7 : Int) = 7)
    have hr_j : j = (0 : Int32) ∨ j = (1 : Int32) ∨ j = (2 : Int32) ∨ j = (3 : Int32) ∨ j = (4 : Int32) ∨ j = (5 : Int32) ∨ j = (6 : Int32) ∨ j = (7 : Int32) ∨ j = (8 : Int32) := by
      have hrz : j.toInt = 0 ∨ j.toInt = 1 ∨ j.toInt = 2 ∨ j.toInt = 3 ∨ j.toInt = 4 ∨ j.toInt = 5 ∨ j.toInt = 6 ∨ j.toInt = 7 ∨ j.toInt = 8 := by omega
      rcases hrz with q | q | q | q | q | q | q | q | q
      · exact Or.inl (own_eq' q)
      · exact Or.inr (Or.inl (own_eq' q))
      · exact Or.inr (Or.inr (Or.inl (own_eq' q)))
      · exact Or.inr (Or.inr (Or.inr (Or.inl (own_eq' q))))
      · exact Or.inr (Or.inr (Or.inr (Or.inr (Or.inl (own_eq' q)))))
      · exact Or.inr (Or.inr (Or.inr (Or.inr (Or.inr (Or.inl (own_eq' q))))))
      · exact Or.inr (Or.inr (Or.inr (Or.inr (Or.inr (Or.inr (Or.inl (own_eq' q)))))))
      · exact Or.inr (Or.inr (Or.inr (Or.inr (Or.inr (Or.inr (Or.inr (Or.inl (own_eq' q))))))))
      · exact Or.inr (Or.inr (Or.inr (Or.inr (Or.inr (Or.inr (Or.inr (Or.inr (own_eq' q))))))))
    rcases hr_j with rfl | rfl | rfl | rfl | rfl | rfl | rfl | rfl | rfl
    · have hin_j := (rfl : (0 : Int) = 0)
      refine own_iloadN 81 rfl at_80 rfl ?_
      refine own_iconst 82 rfl (5 : Int32) at_81 rfl ?_
      refine own_callS 85 rfl 1 9 0 [(.int (7 : Int32)), (.int (5 : Int32))] [] (y := (⟨"java/lang/Math", "max", "(II)I"⟩ : MethodName)) (hw _ (List.mem_of_getElem? (i := 23) rfl)) (hw _ (List.mem_of_getElem? (i := 24) rfl)) (hw _ (List.mem_of_getElem? (i := 25) rfl)) (hw _ (List.mem_of_getElem? (i := 26) rfl)) (by decide) (rm1 l Z a0 hw [] (7 : Int32) (5 : Int32)  h10 ) at_82 rfl (lenOf own_pd1 rfl) rfl rfl rfl (by decide) (by decide) rfl rfl (by decide) (by decide) (own_kv fun v452 h452 q452 => ?_)
      obtain ⟨rfl, e452⟩ := q452
      rw [e452]
      rw [show (if (7 : Int32) < (5 : Int32) then (5 : Int32) else (7 : Int32)) = (7 : Int32) from by decide]
      refine own_istore 87 rfl #[.val (.int p1), .val (.int p2), .val (.ref b1), .val (.int (7 : Int32)), .val (.int (0 : Int32)), .val (.int (7 : Int32)), .unset, .unset] at_85 rfl ?_
      refine own_iload 89 rfl at_87 rfl ?_
      refine own_iconst 90 rfl (5 : Int32) at_89 rfl ?_
      refine own_callS 93 rfl 1 9 0 [(.int (0 : Int32)), (.int (5 : Int32))] [] (y := (⟨"java/lang/Math", "max", "(II)I"⟩ : MethodName)) (hw _ (List.mem_of_getElem? (i := 23) rfl)) (hw _ (List.mem_of_getElem? (i := 24) rfl)) (hw _ (List.mem_of_getElem? (i := 25) rfl)) (hw _ (List.mem_of_getElem? (i := 26) rfl)) (by decide) (rm1 l Z a0 hw [] (0 : Int32) (5 : Int32)  h10 ) at_90 rfl (lenOf own_pd1 rfl) rfl rfl rfl (by decide) (by decide) rfl rfl (by decide) (by decide) (own_kv fun v453 h453 q453 => ?_)
      obtain ⟨rfl, e453⟩ := q453
      rw [e453]
      rw [show (if (0 : Int32) < (5 : Int32) then (5 : Int32) else (0 : Int32)) = (5 : Int32) from by decide]
      refine own_istore 95 rfl #[.val (.int p1), .val (.int p2), .val (.ref b1), .val (.int (7 : Int32)), .val (.int (0 : Int32)), .val (.int (7 : Int32)), .val (.int (5 : Int32)), .unset] at_93 rfl ?_
      refine own_aloadN 96 rfl at_95 rfl rfl ?_
      refine own_iload 98 rfl at_96 rfl ?_
      refine own_iload 100 rfl at_98 rfl ?_
      refine own_callS 103 rfl 1 9 1 [(.int (7 : Int32)), (.int (5 : Int32))] [(.ref b1)] (y := (⟨"java/lang/Math", "max", "(II)I"⟩ : MethodName)) (hw _ (List.mem_of_getElem? (i := 23) rfl)) (hw _ (List.mem_of_getElem? (i := 24) rfl)) (hw _ (List.mem_of_getElem? (i := 25) rfl)) (hw _ (List.mem_of_getElem? (i := 26) rfl)) (by decide) (rm1 l Z a0 hw [] (7 : Int32) (5 : Int32)  h10 ) at_100 rfl (lenOf own_pd1 rfl) rfl rfl rfl (by decide) (by decide) rfl rfl (by decide) (by decide) (own_kv fun v454 h454 q454 => ?_)
      obtain ⟨rfl, e454⟩ := q454
      rw [e454]
      rw [show (if (7 : Int32) < (5 : Int32) then (5 : Int32) else (7 : Int32)) = (7 : Int32) from by decide]
      obtain ⟨c455, A455, q455, S455, N455, H455, G455⟩ := id V10
      refine own_aaload 104 rfl A455 rfl (inb_of S455 ⟨by decide, by decide⟩) (Has.at H455 (inb_of S455 ⟨by decide, by decide⟩) rfl) at_103 ?_
      refine own_astore 106 rfl #[.val (.int p1), .val (.int p2), .val (.ref b1), .val (.int (7 : Int32)), .val (.int (0 : Int32)), .val (.int (7 : Int32)), .val (.int (5 : Int32)), .val (.ref w_LONG_LONG)] at_104 rfl rfl ?_
      refine own_aloadN 107 rfl at_106 rfl rfl ?_
      refine own_iloadN 108 rfl at_107 rfl ?_
      obtain ⟨c456, A456, q456, S456, N456, H456, G456⟩ := id V10
      refine own_aaload 109 rfl A456 rfl (inb_of S456 ⟨by decide, by decide⟩) (Has.at H456 (inb_of S456 ⟨by decide, by decide⟩) rfl) at_108 ?_
      refine own_aloadN 110 rfl at_109 rfl rfl ?_
      refine own_iload 112 rfl at_110 rfl ?_
      obtain ⟨c457, A457, q457, S457, N457, H457, G457⟩ := id V10
      refine own_aaload 113 rfl A457 rfl (inb_of S457 ⟨by decide, by decide⟩) (Has.at H457 (inb_of S457 ⟨by decide, by decide⟩) rfl) at_112 ?_
      refine own_callS 116 rfl 1 9 0 [(.ref w_LONG_LONG), (.ref w_BOOL)] [] (y := (⟨"com/example/counterpath/counterpath/cfa/Type", "common", "(Lcom/example/counterpath/counterpath/cfa/Type;Lcom/example/counterpath/counterpath/cfa/Type;)Lcom/example/counterpath/counterpath/cfa/Type;"⟩ : MethodName)) (hw _ (List.mem_of_getElem? (i := 27) rfl)) (hw _ (List.mem_of_getElem? (i := 28) rfl)) (hw _ (List.mem_of_getElem? (i := 3) rfl)) (hw _ (List.mem_of_getElem? (i := 29) rfl)) (by decide) (rm2 l Z a0 hw [] w_LONG_LONG w_BOOL (64 : Int32) (1 : Int32) (1 : Int32) (0 : Int32) w_BOOL w_SIGNED_CHAR w_UNSIGNED_CHAR w_SHORT w_UNSIGNED_SHORT w_INT w_UNSIGNED_INT w_LONG_LONG w_UNSIGNED_LONG_LONG h10 I (((((((((((E_w_LONG_LONG.ext O0.2).ext E1).wr W2).wr W3).wr W4).wr W5).wr W6).wr W7).wr W8).wr W9).wr W10) (((((((((((F_w_LONG_LONG_width.ext O0.2).ext E1).other W2 (Or.inl ne_w_LONG_LONG_b1)).other W3 (Or.inl ne_w_LONG_LONG_b1)).other W4 (Or.inl ne_w_LONG_LONG_b1)).other W5 (Or.inl ne_w_LONG_LONG_b1)).other W6 (Or.inl ne_w_LONG_LONG_b1)).other W7 (Or.inl ne_w_LONG_LONG_b1)).other W8 (Or.inl ne_w_LONG_LONG_b1)).other W9 (Or.inl ne_w_LONG_LONG_b1)).other W10 (Or.inl ne_w_LONG_LONG_b1)) (((((((((((F_w_LONG_LONG_signed.ext O0.2).ext E1).other W2 (Or.inl ne_w_LONG_LONG_b1)).other W3 (Or.inl ne_w_LONG_LONG_b1)).other W4 (Or.inl ne_w_LONG_LONG_b1)).other W5 (Or.inl ne_w_LONG_LONG_b1)).other W6 (Or.inl ne_w_LONG_LONG_b1)).other W7 (Or.inl ne_w_LONG_LONG_b1)).other W8 (Or.inl ne_w_LONG_LONG_b1)).other W9 (Or.inl ne_w_LONG_LONG_b1)).other W10 (Or.inl ne_w_LONG_LONG_b1)) (((((((((((E_w_BOOL.ext O0.2).ext E1).wr W2).wr W3).wr W4).wr W5).wr W6).wr W7).wr W8).wr W9).wr W10) (((((((((((F_w_BOOL_width.ext O0.2).ext E1).other W2 (Or.inl ne_w_BOOL_b1)).other W3 (Or.inl ne_w_BOOL_b1)).other W4 (Or.inl ne_w_BOOL_b1)).other W5 (Or.inl ne_w_BOOL_b1)).other W6 (Or.inl ne_w_BOOL_b1)).other W7 (Or.inl ne_w_BOOL_b1)).other W8 (Or.inl ne_w_BOOL_b1)).other W9 (Or.inl ne_w_BOOL_b1)).other W10 (Or.inl ne_w_BOOL_b1)) (((((((((((F_w_BOOL_signed.ext O0.2).ext E1).other W2 (Or.inl ne_w_BOOL_b1)).other W3 (Or.inl ne_w_BOOL_b1)).other W4 (Or.inl ne_w_BOOL_b1)).other W5 (Or.inl ne_w_BOOL_b1)).other W6 (Or.inl ne_w_BOOL_b1)).other W7 (Or.inl ne_w_BOOL_b1)).other W8 (Or.inl ne_w_BOOL_b1)).other W9 (Or.inl ne_w_BOOL_b1)).other W10 (Or.inl ne_w_BOOL_b1)) (by decide) (by decide)) at_113 rfl (lenOf own_pd2 rfl) rfl rfl rfl (by decide) (by decide) rfl rfl (by decide) (by decide) (own_kv fun v458 h458 q458 => ?_)
      obtain ⟨rfl, e458⟩ := q458
      rw [e458]
      rw [show own_com w_INT w_LONG_LONG (64 : Int32) (1 : Int32) w_BOOL (1 : Int32) (0 : Int32) = w_LONG_LONG from by simp [own_com]]
      refine own_aload 118 rfl at_116 rfl rfl ?_
      refine own_acmpNo 121 rfl at_118 rfl rfl (own_teq (rfl : ((.ref w_LONG_LONG) : Value) = (.ref w_LONG_LONG))).2 ?_
      refine own_iconst 122 rfl (1 : Int32) at_121 rfl ?_
      refine own_goto 126 at_122 (by decide) (by decide) ?_
      refine own_retN rfl (by simp) at_126 (by decide) (by decide) ?_
      exact ⟨_, rfl, rfl⟩
    · have hin_j := (rfl : (1 : Int) = 1)
      refine own_iloadN 81 rfl at_80 rfl ?_
      refine own_iconst 82 rfl (5 : Int32) at_81 rfl ?_
      refine own_callS 85 rfl 1 9 0 [(.int (7 : Int32)), (.int (5 : Int32))] [] (y := (⟨"java/lang/Math", "max", "(II)I"⟩ : MethodName)) (hw _ (List.mem_of_getElem? (i := 23) rfl)) (hw _ (List.mem_of_getElem? (i := 24) rfl)) (hw _ (List.mem_of_getElem? (i := 25) rfl)) (hw _ (List.mem_of_getElem? (i := 26) rfl)) (by decide) (rm1 l Z a0 hw [] (7 : Int32) (5 : Int32)  h10 ) at_82 rfl (lenOf own_pd1 rfl) rfl rfl rfl (by decide) (by decide) rfl rfl (by decide) (by decide) (own_kv fun v459 h459 q459 => ?_)
      obtain ⟨rfl, e459⟩ := q459
      rw [e459]
      rw [show (if (7 : Int32) < (5 : Int32) then (5 : Int32) else (7 : Int32)) = (7 : Int32) from by decide]
      refine own_istore 87 rfl #[.val (.int p1), .val (.int p2), .val (.ref b1), .val (.int (7 : Int32)), .val (.int (1 : Int32)), .val (.int (7 : Int32)), .unset, .unset] at_85 rfl ?_
      refine own_iload 89 rfl at_87 rfl ?_
      refine own_iconst 90 rfl (5 : Int32) at_89 rfl ?_
      refine own_callS 93 rfl 1 9 0 [(.int (1 : Int32)), (.int (5 : Int32))] [] (y := (⟨"java/lang/Math", "max", "(II)I"⟩ : MethodName)) (hw _ (List.mem_of_getElem? (i := 23) rfl)) (hw _ (List.mem_of_getElem? (i := 24) rfl)) (hw _ (List.mem_of_getElem? (i := 25) rfl)) (hw _ (List.mem_of_getElem? (i := 26) rfl)) (by decide) (rm1 l Z a0 hw [] (1 : Int32) (5 : Int32)  h10 ) at_90 rfl (lenOf own_pd1 rfl) rfl rfl rfl (by decide) (by decide) rfl rfl (by decide) (by decide) (own_kv fun v460 h460 q460 => ?_)
      obtain ⟨rfl, e460⟩ := q460
      rw [e460]
      rw [show (if (1 : Int32) < (5 : Int32) then (5 : Int32) else (1 : Int32)) = (5 : Int32) from by decide]
      refine own_istore 95 rfl #[.val (.int p1), .val (.int p2), .val (.ref b1), .val (.int (7 : Int32)), .val (.int (1 : Int32)), .val (.int (7 : Int32)), .val (.int (5 : Int32)), .unset] at_93 rfl ?_
      refine own_aloadN 96 rfl at_95 rfl rfl ?_
      refine own_iload 98 rfl at_96 rfl ?_
      refine own_iload 100 rfl at_98 rfl ?_
      refine own_callS 103 rfl 1 9 1 [(.int (7 : Int32)), (.int (5 : Int32))] [(.ref b1)] (y := (⟨"java/lang/Math", "max", "(II)I"⟩ : MethodName)) (hw _ (List.mem_of_getElem? (i := 23) rfl)) (hw _ (List.mem_of_getElem? (i := 24) rfl)) (hw _ (List.mem_of_getElem? (i := 25) rfl)) (hw _ (List.mem_of_getElem? (i := 26) rfl)) (by decide) (rm1 l Z a0 hw [] (7 : Int32) (5 : Int32)  h10 ) at_100 rfl (lenOf own_pd1 rfl) rfl rfl rfl (by decide) (by decide) rfl rfl (by decide) (by decide) (own_kv fun v461 h461 q461 => ?_)
      obtain ⟨rfl, e461⟩ := q461
      rw [e461]
      rw [show (if (7 : Int32) < (5 : Int32) then (5 : Int32) else (7 : Int32)) = (7 : Int32) from by decide]
      obtain ⟨c462, A462, q462, S462, N462, H462, G462⟩ := id V10
      refine own_aaload 104 rfl A462 rfl (inb_of S462 ⟨by decide, by decide⟩) (Has.at H462 (inb_of S462 ⟨by decide, by decide⟩) rfl) at_103 ?_
      refine own_astore 106 rfl #[.val (.int p1), .val (.int p2), .val (.ref b1), .val (.int (7 : Int32)), .val (.int (1 : Int32)), .val (.int (7 : Int32)), .val (.int (5 : Int32)), .val (.ref w_LONG_LONG)] at_104 rfl rfl ?_
      refine own_aloadN 107 rfl at_106 rfl rfl ?_
      refine own_iloadN 108 rfl at_107 rfl ?_
      obtain ⟨c463, A463, q463, S463, N463, H463, G463⟩ := id V10
      refine own_aaload 109 rfl A463 rfl (inb_of S463 ⟨by decide, by decide⟩) (Has.at H463 (inb_of S463 ⟨by decide, by decide⟩) rfl) at_108 ?_
      refine own_aloadN 110 rfl at_109 rfl rfl ?_
      refine own_iload 112 rfl at_110 rfl ?_
      obtain ⟨c464, A464, q464, S464, N464, H464, G464⟩ := id V10
      refine own_aaload 113 rfl A464 rfl (inb_of S464 ⟨by decide, by decide⟩) (Has.at H464 (inb_of S464 ⟨by decide, by decide⟩) rfl) at_112 ?_
      refine own_callS 116 rfl 1 9 0 [(.ref w_LONG_LONG), (.ref w_SIGNED_CHAR)] [] (y := (⟨"com/example/counterpath/counterpath/cfa/Type", "common", "(Lcom/example/counterpath/counterpath/cfa/Type;Lcom/example/counterpath/counterpath/cfa/Type;)Lcom/example/counterpath/counterpath/cfa/Type;"⟩ : MethodName)) (hw _ (List.mem_of_getElem? (i := 27) rfl)) (hw _ (List.mem_of_getElem? (i := 28) rfl)) (hw _ (List.mem_of_getElem? (i := 3) rfl)) (hw _ (List.mem_of_getElem? (i := 29) rfl)) (by decide) (rm2 l Z a0 hw [] w_LONG_LONG w_SIGNED_CHAR (64 : Int32) (1 : Int32) (8 : Int32) (1 : Int32) w_BOOL w_SIGNED_CHAR w_UNSIGNED_CHAR w_SHORT w_UNSIGNED_SHORT w_INT w_UNSIGNED_INT w_LONG_LONG w_UNSIGNED_LONG_LONG h10 I (((((((((((E_w_LONG_LONG.ext O0.2).ext E1).wr W2).wr W3).wr W4).wr W5).wr W6).wr W7).wr W8).wr W9).wr W10) (((((((((((F_w_LONG_LONG_width.ext O0.2).ext E1).other W2 (Or.inl ne_w_LONG_LONG_b1)).other W3 (Or.inl ne_w_LONG_LONG_b1)).other W4 (Or.inl ne_w_LONG_LONG_b1)).other W5 (Or.inl ne_w_LONG_LONG_b1)).other W6 (Or.inl ne_w_LONG_LONG_b1)).other W7 (Or.inl ne_w_LONG_LONG_b1)).other W8 (Or.inl ne_w_LONG_LONG_b1)).other W9 (Or.inl ne_w_LONG_LONG_b1)).other W10 (Or.inl ne_w_LONG_LONG_b1)) (((((((((((F_w_LONG_LONG_signed.ext O0.2).ext E1).other W2 (Or.inl ne_w_LONG_LONG_b1)).other W3 (Or.inl ne_w_LONG_LONG_b1)).other W4 (Or.inl ne_w_LONG_LONG_b1)).other W5 (Or.inl ne_w_LONG_LONG_b1)).other W6 (Or.inl ne_w_LONG_LONG_b1)).other W7 (Or.inl ne_w_LONG_LONG_b1)).other W8 (Or.inl ne_w_LONG_LONG_b1)).other W9 (Or.inl ne_w_LONG_LONG_b1)).other W10 (Or.inl ne_w_LONG_LONG_b1)) (((((((((((E_w_SIGNED_CHAR.ext O0.2).ext E1).wr W2).wr W3).wr W4).wr W5).wr W6).wr W7).wr W8).wr W9).wr W10) (((((((((((F_w_SIGNED_CHAR_width.ext O0.2).ext E1).other W2 (Or.inl ne_w_SIGNED_CHAR_b1)).other W3 (Or.inl ne_w_SIGNED_CHAR_b1)).other W4 (Or.inl ne_w_SIGNED_CHAR_b1)).other W5 (Or.inl ne_w_SIGNED_CHAR_b1)).other W6 (Or.inl ne_w_SIGNED_CHAR_b1)).other W7 (Or.inl ne_w_SIGNED_CHAR_b1)).other W8 (Or.inl ne_w_SIGNED_CHAR_b1)).other W9 (Or.inl ne_w_SIGNED_CHAR_b1)).other W10 (Or.inl ne_w_SIGNED_CHAR_b1)) (((((((((((F_w_SIGNED_CHAR_signed.ext O0.2).ext E1).other W2 (Or.inl ne_w_SIGNED_CHAR_b1)).other W3 (Or.inl ne_w_SIGNED_CHAR_b1)).other W4 (Or.inl ne_w_SIGNED_CHAR_b1)).other W5 (Or.inl ne_w_SIGNED_CHAR_b1)).other W6 (Or.inl ne_w_SIGNED_CHAR_b1)).other W7 (Or.inl ne_w_SIGNED_CHAR_b1)).other W8 (Or.inl ne_w_SIGNED_CHAR_b1)).other W9 (Or.inl ne_w_SIGNED_CHAR_b1)).other W10 (Or.inl ne_w_SIGNED_CHAR_b1)) (by decide) (by decide)) at_113 rfl (lenOf own_pd2 rfl) rfl rfl rfl (by decide) (by decide) rfl rfl (by decide) (by decide) (own_kv fun v465 h465 q465 => ?_)
      obtain ⟨rfl, e465⟩ := q465
      rw [e465]
      rw [show own_com w_INT w_LONG_LONG (64 : Int32) (1 : Int32) w_SIGNED_CHAR (8 : Int32) (1 : Int32) = w_LONG_LONG from by simp [own_com]]
      refine own_aload 118 rfl at_116 rfl rfl ?_
      refine own_acmpNo 121 rfl at_118 rfl rfl (own_teq (rfl : ((.ref w_LONG_LONG) : Value) = (.ref w_LONG_LONG))).2 ?_
      refine own_iconst 122 rfl (1 : Int32) at_121 rfl ?_
      refine own_goto 126 at_122 (by decide) (by decide) ?_
      refine own_retN rfl (by simp) at_126 (by decide) (by decide) ?_
      exact ⟨_, rfl, rfl⟩
    · have hin_j := (rfl : (2 : Int) = 2)
      refine own_iloadN 81 rfl at_80 rfl ?_
      refine own_iconst 82 rfl (5 : Int32) at_81 rfl ?_
      refine own_callS 85 rfl 1 9 0 [(.int (7 : Int32)), (.int (5 : Int32))] [] (y := (⟨"java/lang/Math", "max", "(II)I"⟩ : MethodName)) (hw _ (List.mem_of_getElem? (i := 23) rfl)) (hw _ (List.mem_of_getElem? (i := 24) rfl)) (hw _ (List.mem_of_getElem? (i := 25) rfl)) (hw _ (List.mem_of_getElem? (i := 26) rfl)) (by decide) (rm1 l Z a0 hw [] (7 : Int32) (5 : Int32)  h10 ) at_82 rfl (lenOf own_pd1 rfl) rfl rfl rfl (by decide) (by decide) rfl rfl (by decide) (by decide) (own_kv fun v466 h466 q466 => ?_)
      obtain ⟨rfl, e466⟩ := q466
      rw [e466]
      rw [show (if (7 : Int32) < (5 : Int32) then (5 : Int32) else (7 : Int32)) = (7 : Int32) from by decide]
      refine own_istore 87 rfl #[.val (.int p1), .val (.int p2), .val (.ref b1), .val (.int (7 : Int32)), .val (.int (2 : Int32)), .val (.int (7 : Int32)), .unset, .unset] at_85 rfl ?_
      refine own_iload 89 rfl at_87 rfl ?_
      refine own_iconst 90 rfl (5 : Int32) at_89 rfl ?_
      refine own_callS 93 rfl 1 9 0 [(.int (2 : Int32)), (.int (5 : Int32))] [] (y := (⟨"java/lang/Math", "max", "(II)I"⟩ : MethodName)) (hw _ (List.mem_of_getElem? (i := 23) rfl)) (hw _ (List.mem_of_getElem? (i := 24) rfl)) (hw _ (List.mem_of_getElem? (i := 25) rfl)) (hw _ (List.mem_of_getElem? (i := 26) rfl)) (by decide) (rm1 l Z a0 hw [] (2 : Int32) (5 : Int32)  h10 ) at_90 rfl (lenOf own_pd1 rfl) rfl rfl rfl (by decide) (by decide) rfl rfl (by decide) (by decide) (own_kv fun v467 h467 q467 => ?_)
      obtain ⟨rfl, e467⟩ := q467
      rw [e467]
      rw [show (if (2 : Int32) < (5 : Int32) then (5 : Int32) else (2 : Int32)) = (5 : Int32) from by decide]
      refine own_istore 95 rfl #[.val (.int p1), .val (.int p2), .val (.ref b1), .val (.int (7 : Int32)), .val (.int (2 : Int32)), .val (.int (7 : Int32)), .val (.int (5 : Int32)), .unset] at_93 rfl ?_
      refine own_aloadN 96 rfl at_95 rfl rfl ?_
      refine own_iload 98 rfl at_96 rfl ?_
      refine own_iload 100 rfl at_98 rfl ?_
      refine own_callS 103 rfl 1 9 1 [(.int (7 : Int32)), (.int (5 : Int32))] [(.ref b1)] (y := (⟨"java/lang/Math", "max", "(II)I"⟩ : MethodName)) (hw _ (List.mem_of_getElem? (i := 23) rfl)) (hw _ (List.mem_of_getElem? (i := 24) rfl)) (hw _ (List.mem_of_getElem? (i := 25) rfl)) (hw _ (List.mem_of_getElem? (i := 26) rfl)) (by decide) (rm1 l Z a0 hw [] (7 : Int32) (5 : Int32)  h10 ) at_100 rfl (lenOf own_pd1 rfl) rfl rfl rfl (by decide) (by decide) rfl rfl (by decide) (by decide) (own_kv fun v468 h468 q468 => ?_)
      obtain ⟨rfl, e468⟩ := q468
      rw [e468]
      rw [show (if (7 : Int32) < (5 : Int32) then (5 : Int32) else (7 : Int32)) = (7 : Int32) from by decide]
      obtain ⟨c469, A469, q469, S469, N469, H469, G469⟩ := id V10
      refine own_aaload 104 rfl A469 rfl (inb_of S469 ⟨by decide, by decide⟩) (Has.at H469 (inb_of S469 ⟨by decide, by decide⟩) rfl) at_103 ?_
      refine own_astore 106 rfl #[.val (.int p1), .val (.int p2), .val (.ref b1), .val (.int (7 : Int32)), .val (.int (2 : Int32)), .val (.int (7 : Int32)), .val (.int (5 : Int32)), .val (.ref w_LONG_LONG)] at_104 rfl rfl ?_
      refine own_aloadN 107 rfl at_106 rfl rfl ?_
      refine own_iloadN 108 rfl at_107 rfl ?_
      obtain ⟨c470, A470, q470, S470, N470, H470, G470⟩ := id V10
      refine own_aaload 109 rfl A470 rfl (inb_of S470 ⟨by decide, by decide⟩) (Has.at H470 (inb_of S470 ⟨by decide, by decide⟩) rfl) at_108 ?_
      refine own_aloadN 110 rfl at_109 rfl rfl ?_
      refine own_iload 112 rfl at_110 rfl ?_
      obtain ⟨c471, A471, q471, S471, N471, H471, G471⟩ := id V10
      refine own_aaload 113 rfl A471 rfl (inb_of S471 ⟨by decide, by decide⟩) (Has.at H471 (inb_of S471 ⟨by decide, by decide⟩) rfl) at_112 ?_
      refine own_callS 116 rfl 1 9 0 [(.ref w_LONG_LONG), (.ref w_UNSIGNED_CHAR)] [] (y := (⟨"com/example/counterpath/counterpath/cfa/Type", "common", "(Lcom/example/counterpath/counterpath/cfa/Type;Lcom/example/counterpath/counterpath/cfa/Type;)Lcom/example/counterpath/counterpath/cfa/Type;"⟩ : MethodName)) (hw _ (List.mem_of_getElem? (i := 27) rfl)) (hw _ (List.mem_of_getElem? (i := 28) rfl)) (hw _ (List.mem_of_getElem? (i := 3) rfl)) (hw _ (List.mem_of_getElem? (i := 29) rfl)) (by decide) (rm2 l Z a0 hw [] w_LONG_LONG w_UNSIGNED_CHAR (64 : Int32) (1 : Int32) (8 : Int32) (0 : Int32) w_BOOL w_SIGNED_CHAR w_UNSIGNED_CHAR w_SHORT w_UNSIGNED_SHORT w_INT w_UNSIGNED_INT w_LONG_LONG w_UNSIGNED_LONG_LONG h10 I (((((((((((E_w_LONG_LONG.ext O0.2).ext E1).wr W2).wr W3).wr W4).wr W5).wr W6).wr W7).wr W8).wr W9).wr W10) (((((((((((F_w_LONG_LONG_width.ext O0.2).ext E1).other W2 (Or.inl ne_w_LONG_LONG_b1)).other W3 (Or.inl ne_w_LONG_LONG_b1)).other W4 (Or.inl ne_w_LONG_LONG_b1)).other W5 (Or.inl ne_w_LONG_LONG_b1)).other W6 (Or.inl ne_w_LONG_LONG_b1)).other W7 (Or.inl ne_w_LONG_LONG_b1)).other W8 (Or.inl ne_w_LONG_LONG_b1)).other W9 (Or.inl ne_w_LONG_LONG_b1)).other W10 (Or.inl ne_w_LONG_LONG_b1)) (((((((((((F_w_LONG_LONG_signed.ext O0.2).ext E1).other W2 (Or.inl ne_w_LONG_LONG_b1)).other W3 (Or.inl ne_w_LONG_LONG_b1)).other W4 (Or.inl ne_w_LONG_LONG_b1)).other W5 (Or.inl ne_w_LONG_LONG_b1)).other W6 (Or.inl ne_w_LONG_LONG_b1)).other W7 (Or.inl ne_w_LONG_LONG_b1)).other W8 (Or.inl ne_w_LONG_LONG_b1)).other W9 (Or.inl ne_w_LONG_LONG_b1)).other W10 (Or.inl ne_w_LONG_LONG_b1)) (((((((((((E_w_UNSIGNED_CHAR.ext O0.2).ext E1).wr W2).wr W3).wr W4).wr W5).wr W6).wr W7).wr W8).wr W9).wr W10) (((((((((((F_w_UNSIGNED_CHAR_width.ext O0.2).ext E1).other W2 (Or.inl ne_w_UNSIGNED_CHAR_b1)).other W3 (Or.inl ne_w_UNSIGNED_CHAR_b1)).other W4 (Or.inl ne_w_UNSIGNED_CHAR_b1)).other W5 (Or.inl ne_w_UNSIGNED_CHAR_b1)).other W6 (Or.inl ne_w_UNSIGNED_CHAR_b1)).other W7 (Or.inl ne_w_UNSIGNED_CHAR_b1)).other W8 (Or.inl ne_w_UNSIGNED_CHAR_b1)).other W9 (Or.inl ne_w_UNSIGNED_CHAR_b1)).other W10 (Or.inl ne_w_UNSIGNED_CHAR_b1)) (((((((((((F_w_UNSIGNED_CHAR_signed.ext O0.2).ext E1).other W2 (Or.inl ne_w_UNSIGNED_CHAR_b1)).other W3 (Or.inl ne_w_UNSIGNED_CHAR_b1)).other W4 (Or.inl ne_w_UNSIGNED_CHAR_b1)).other W5 (Or.inl ne_w_UNSIGNED_CHAR_b1)).other W6 (Or.inl ne_w_UNSIGNED_CHAR_b1)).other W7 (Or.inl ne_w_UNSIGNED_CHAR_b1)).other W8 (Or.inl ne_w_UNSIGNED_CHAR_b1)).other W9 (Or.inl ne_w_UNSIGNED_CHAR_b1)).other W10 (Or.inl ne_w_UNSIGNED_CHAR_b1)) (by decide) (by decide)) at_113 rfl (lenOf own_pd2 rfl) rfl rfl rfl (by decide) (by decide) rfl rfl (by decide) (by decide) (own_kv fun v472 h472 q472 => ?_)
      obtain ⟨rfl, e472⟩ := q472
      rw [e472]
      rw [show own_com w_INT w_LONG_LONG (64 : Int32) (1 : Int32) w_UNSIGNED_CHAR (8 : Int32) (0 : Int32) = w_LONG_LONG from by simp [own_com]]
      refine own_aload 118 rfl at_116 rfl rfl ?_
      refine own_acmpNo 121 rfl at_118 rfl rfl (own_teq (rfl : ((.ref w_LONG_LONG) : Value) = (.ref w_LONG_LONG))).2 ?_
      refine own_iconst 122 rfl (1 : Int32) at_121 rfl ?_
      refine own_goto 126 at_122 (by decide) (by decide) ?_
      refine own_retN rfl (by simp) at_126 (by decide) (by decide) ?_
      exact ⟨_, rfl, rfl⟩
    · have hin_j := (rfl : (3 : Int) = 3)
      refine own_iloadN 81 rfl at_80 rfl ?_
      refine own_iconst 82 rfl (5 : Int32) at_81 rfl ?_
      refine own_callS 85 rfl 1 9 0 [(.int (7 : Int32)), (.int (5 : Int32))] [] (y := (⟨"java/lang/Math", "max", "(II)I"⟩ : MethodName)) (hw _ (List.mem_of_getElem? (i := 23) rfl)) (hw _ (List.mem_of_getElem? (i := 24) rfl)) (hw _ (List.mem_of_getElem? (i := 25) rfl)) (hw _ (List.mem_of_getElem? (i := 26) rfl)) (by decide) (rm1 l Z a0 hw [] (7 : Int32) (5 : Int32)  h10 ) at_82 rfl (lenOf own_pd1 rfl) rfl rfl rfl (by decide) (by decide) rfl rfl (by decide) (by decide) (own_kv fun v473 h473 q473 => ?_)
      obtain ⟨rfl, e473⟩ := q473
      rw [e473]
      rw [show (if (7 : Int32) < (5 : Int32) then (5 : Int32) else (7 : Int32)) = (7 : Int32) from by decide]
      refine own_istore 87 rfl #[.val (.int p1), .val (.int p2), .val (.ref b1), .val (.int (7 : Int32)), .val (.int (3 : Int32)), .val (.int (7 : Int32)), .unset, .unset] at_85 rfl ?_
      refine own_iload 89 rfl at_87 rfl ?_
      refine own_iconst 90 rfl (5 : Int32) at_89 rfl ?_
      refine own_callS 93 rfl 1 9 0 [(.int (3 : Int32)), (.int (5 : Int32))] [] (y := (⟨"java/lang/Math", "max", "(II)I"⟩ : MethodName)) (hw _ (List.mem_of_getElem? (i := 23) rfl)) (hw _ (List.mem_of_getElem? (i := 24) rfl)) (hw _ (List.mem_of_getElem? (i := 25) rfl)) (hw _ (List.mem_of_getElem? (i := 26) rfl)) (by decide) (rm1 l Z a0 hw [] (3 : Int32) (5 : Int32)  h10 ) at_90 rfl (lenOf own_pd1 rfl) rfl rfl rfl (by decide) (by decide) rfl rfl (by decide) (by decide) (own_kv fun v474 h474 q474 => ?_)
      obtain ⟨rfl, e474⟩ := q474
      rw [e474]
      rw [show (if (3 : Int32) < (5 : Int32) then (5 : Int32) else (3 : Int32)) = (5 : Int32) from by decide]
      refine own_istore 95 rfl #[.val (.int p1), .val (.int p2), .val (.ref b1), .val (.int (7 : Int32)), .val (.int (3 : Int32)), .val (.int (7 : Int32)), .val (.int (5 : Int32)), .unset] at_93 rfl ?_
      refine own_aloadN 96 rfl at_95 rfl rfl ?_
      refine own_iload 98 rfl at_96 rfl ?_
      refine own_iload 100 rfl at_98 rfl ?_
      refine own_callS 103 rfl 1 9 1 [(.int (7 : Int32)), (.int (5 : Int32))] [(.ref b1)] (y := (⟨"java/lang/Math", "max", "(II)I"⟩ : MethodName)) (hw _ (List.mem_of_getElem? (i := 23) rfl)) (hw _ (List.mem_of_getElem? (i := 24) rfl)) (hw _ (List.mem_of_getElem? (i := 25) rfl)) (hw _ (List.mem_of_getElem? (i := 26) rfl)) (by decide) (rm1 l Z a0 hw [] (7 : Int32) (5 : Int32)  h10 ) at_100 rfl (lenOf own_pd1 rfl) rfl rfl rfl (by decide) (by decide) rfl rfl (by decide) (by decide) (own_kv fun v475 h475 q475 => ?_)
      obtain ⟨rfl, e475⟩ := q475
      rw [e475]
      rw [show (if (7 : Int32) < (5 : Int32) then (5 : Int32) else (7 : Int32)) = (7 : Int32) from by decide]
      obtain ⟨c476, A476, q476, S476, N476, H476, G476⟩ := id V10
      refine own_aaload 104 rfl A476 rfl (inb_of S476 ⟨by decide, by decide⟩) (Has.at H476 (inb_of S476 ⟨by decide, by decide⟩) rfl) at_103 ?_
      refine own_astore 106 rfl #[.val (.int p1), .val (.int p2), .val (.ref b1), .val (.int (7 : Int32)), .val (.int (3 : Int32)), .val (.int (7 : Int32)), .val (.int (5 : Int32)), .val (.ref w_LONG_LONG)] at_104 rfl rfl ?_
      refine own_aloadN 107 rfl at_106 rfl rfl ?_
      refine own_iloadN 108 rfl at_107 rfl ?_
      obtain ⟨c477, A477, q477, S477, N477, H477, G477⟩ := id V10
      refine own_aaload 109 rfl A477 rfl (inb_of S477 ⟨by decide, by decide⟩) (Has.at H477 (inb_of S477 ⟨by decide, by decide⟩) rfl) at_108 ?_
      refine own_aloadN 110 rfl at_109 rfl rfl ?_
      refine own_iload 112 rfl at_110 rfl ?_
      obtain ⟨c478, A478, q478, S478, N478, H478, G478⟩ := id V10
      refine own_aaload 113 rfl A478 rfl (inb_of S478 ⟨by decide, by decide⟩) (Has.at H478 (inb_of S478 ⟨by decide, by decide⟩) rfl) at_112 ?_
      refine own_callS 116 rfl 1 9 0 [(.ref w_LONG_LONG), (.ref w_SHORT)] [] (y := (⟨"com/example/counterpath/counterpath/cfa/Type", "common", "(Lcom/example/counterpath/counterpath/cfa/Type;Lcom/example/counterpath/counterpath/cfa/Type;)Lcom/example/counterpath/counterpath/cfa/Type;"⟩ : MethodName)) (hw _ (List.mem_of_getElem? (i := 27) rfl)) (hw _ (List.mem_of_getElem? (i := 28) rfl)) (hw _ (List.mem_of_getElem? (i := 3) rfl)) (hw _ (List.mem_of_getElem? (i := 29) rfl)) (by decide) (rm2 l Z a0 hw [] w_LONG_LONG w_SHORT (64 : Int32) (1 : Int32) (16 : Int32) (1 : Int32) w_BOOL w_SIGNED_CHAR w_UNSIGNED_CHAR w_SHORT w_UNSIGNED_SHORT w_INT w_UNSIGNED_INT w_LONG_LONG w_UNSIGNED_LONG_LONG h10 I (((((((((((E_w_LONG_LONG.ext O0.2).ext E1).wr W2).wr W3).wr W4).wr W5).wr W6).wr W7).wr W8).wr W9).wr W10) (((((((((((F_w_LONG_LONG_width.ext O0.2).ext E1).other W2 (Or.inl ne_w_LONG_LONG_b1)).other W3 (Or.inl ne_w_LONG_LONG_b1)).other W4 (Or.inl ne_w_LONG_LONG_b1)).other W5 (Or.inl ne_w_LONG_LONG_b1)).other W6 (Or.inl ne_w_LONG_LONG_b1)).other W7 (Or.inl ne_w_LONG_LONG_b1)).other W8 (Or.inl ne_w_LONG_LONG_b1)).other W9 (Or.inl ne_w_LONG_LONG_b1)).other W10 (Or.inl ne_w_LONG_LONG_b1)) (((((((((((F_w_LONG_LONG_signed.ext O0.2).ext E1).other W2 (Or.inl ne_w_LONG_LONG_b1)).other W3 (Or.inl ne_w_LONG_LONG_b1)).other W4 (Or.inl ne_w_LONG_LONG_b1)).other W5 (Or.inl ne_w_LONG_LONG_b1)).other W6 (Or.inl ne_w_LONG_LONG_b1)).other W7 (Or.inl ne_w_LONG_LONG_b1)).other W8 (Or.inl ne_w_LONG_LONG_b1)).other W9 (Or.inl ne_w_LONG_LONG_b1)).other W10 (Or.inl ne_w_LONG_LONG_b1)) (((((((((((E_w_SHORT.ext O0.2).ext E1).wr W2).wr W3).wr W4).wr W5).wr W6).wr W7).wr W8).wr W9).wr W10) (((((((((((F_w_SHORT_width.ext O0.2).ext E1).other W2 (Or.inl ne_w_SHORT_b1)).other W3 (Or.inl ne_w_SHORT_b1)).other W4 (Or.inl ne_w_SHORT_b1)).other W5 (Or.inl ne_w_SHORT_b1)).other W6 (Or.inl ne_w_SHORT_b1)).other W7 (Or.inl ne_w_SHORT_b1)).other W8 (Or.inl ne_w_SHORT_b1)).other W9 (Or.inl ne_w_SHORT_b1)).other W10 (Or.inl ne_w_SHORT_b1)) (((((((((((F_w_SHORT_signed.ext O0.2).ext E1).other W2 (Or.inl ne_w_SHORT_b1)).other W3 (Or.inl ne_w_SHORT_b1)).other W4 (Or.inl ne_w_SHORT_b1)).other W5 (Or.inl ne_w_SHORT_b1)).other W6 (Or.inl ne_w_SHORT_b1)).other W7 (Or.inl ne_w_SHORT_b1)).other W8 (Or.inl ne_w_SHORT_b1)).other W9 (Or.inl ne_w_SHORT_b1)).other W10 (Or.inl ne_w_SHORT_b1)) (by decide) (by decide)) at_113 rfl (lenOf own_pd2 rfl) rfl rfl rfl (by decide) (by decide) rfl rfl (by decide) (by decide) (own_kv fun v479 h479 q479 => ?_)
      obtain ⟨rfl, e479⟩ := q479
      rw [e479]
      rw [show own_com w_INT w_LONG_LONG (64 : Int32) (1 : Int32) w_SHORT (16 : Int32) (1 : Int32) = w_LONG_LONG from by simp [own_com]]
      refine own_aload 118 rfl at_116 rfl rfl ?_
      refine own_acmpNo 121 rfl at_118 rfl rfl (own_teq (rfl : ((.ref w_LONG_LONG) : Value) = (.ref w_LONG_LONG))).2 ?_
      refine own_iconst 122 rfl (1 : Int32) at_121 rfl ?_
      refine own_goto 126 at_122 (by decide) (by decide) ?_
      refine own_retN rfl (by simp) at_126 (by decide) (by decide) ?_
      exact ⟨_, rfl, rfl⟩
    · have hin_j := (rfl : (4 : Int) = 4)
      refine own_iloadN 81 rfl at_80 rfl ?_
      refine own_iconst 82 rfl (5 : Int32) at_81 rfl ?_
      refine own_callS 85 rfl 1 9 0 [(.int (7 : Int32)), (.int (5 : Int32))] [] (y := (⟨"java/lang/Math", "max", "(II)I"⟩ : MethodName)) (hw _ (List.mem_of_getElem? (i := 23) rfl)) (hw _ (List.mem_of_getElem? (i := 24) rfl)) (hw _ (List.mem_of_getElem? (i := 25) rfl)) (hw _ (List.mem_of_getElem? (i := 26) rfl)) (by decide) (rm1 l Z a0 hw [] (7 : Int32) (5 : Int32)  h10 ) at_82 rfl (lenOf own_pd1 rfl) rfl rfl rfl (by decide) (by decide) rfl rfl (by decide) (by decide) (own_kv fun v480 h480 q480 => ?_)
      obtain ⟨rfl, e480⟩ := q480
      rw [e480]
      rw [show (if (7 : Int32) < (5 : Int32) then (5 : Int32) else (7 : Int32)) = (7 : Int32) from by decide]
      refine own_istore 87 rfl #[.val (.int p1), .val (.int p2), .val (.ref b1), .val (.int (7 : Int32)), .val (.int (4 : Int32)), .val (.int (7 : Int32)), .unset, .unset] at_85 rfl ?_
      refine own_iload 89 rfl at_87 rfl ?_
      refine own_iconst 90 rfl (5 : Int32) at_89 rfl ?_
      refine own_callS 93 rfl 1 9 0 [(.int (4 : Int32)), (.int (5 : Int32))] [] (y := (⟨"java/lang/Math", "max", "(II)I"⟩ : MethodName)) (hw _ (List.mem_of_getElem? (i := 23) rfl)) (hw _ (List.mem_of_getElem? (i := 24) rfl)) (hw _ (List.mem_of_getElem? (i := 25) rfl)) (hw _ (List.mem_of_getElem? (i := 26) rfl)) (by decide) (rm1 l Z a0 hw [] (4 : Int32) (5 : Int32)  h10 ) at_90 rfl (lenOf own_pd1 rfl) rfl rfl rfl (by decide) (by decide) rfl rfl (by decide) (by decide) (own_kv fun v481 h481 q481 => ?_)
      obtain ⟨rfl, e481⟩ := q481
      rw [e481]
      rw [show (if (4 : Int32) < (5 : Int32) then (5 : Int32) else (4 : Int32)) = (5 : Int32) from by decide]
      refine own_istore 95 rfl #[.val (.int p1), .val (.int p2), .val (.ref b1), .val (.int (7 : Int32)), .val (.int (4 : Int32)), .val (.int (7 : Int32)), .val (.int (5 : Int32)), .unset] at_93 rfl ?_
      refine own_aloadN 96 rfl at_95 rfl rfl ?_
      refine own_iload 98 rfl at_96 rfl ?_
      refine own_iload 100 rfl at_98 rfl ?_
      refine own_callS 103 rfl 1 9 1 [(.int (7 : Int32)), (.int (5 : Int32))] [(.ref b1)] (y := (⟨"java/lang/Math", "max", "(II)I"⟩ : MethodName)) (hw _ (List.mem_of_getElem? (i := 23) rfl)) (hw _ (List.mem_of_getElem? (i := 24) rfl)) (hw _ (List.mem_of_getElem? (i := 25) rfl)) (hw _ (List.mem_of_getElem? (i := 26) rfl)) (by decide) (rm1 l Z a0 hw [] (7 : Int32) (5 : Int32)  h10 ) at_100 rfl (lenOf own_pd1 rfl) rfl rfl rfl (by decide) (by decide) rfl rfl (by decide) (by decide) (own_kv fun v482 h482 q482 => ?_)
      obtain ⟨rfl, e482⟩ := q482
      rw [e482]
      rw [show (if (7 : Int32) < (5 : Int32) then (5 : Int32) else (7 : Int32)) = (7 : Int32) from by decide]
      obtain ⟨c483, A483, q483, S483, N483, H483, G483⟩ := id V10
      refine own_aaload 104 rfl A483 rfl (inb_of S483 ⟨by decide, by decide⟩) (Has.at H483 (inb_of S483 ⟨by decide, by decide⟩) rfl) at_103 ?_
      refine own_astore 106 rfl #[.val (.int p1), .val (.int p2), .val (.ref b1), .val (.int (7 : Int32)), .val (.int (4 : Int32)), .val (.int (7 : Int32)), .val (.int (5 : Int32)), .val (.ref w_LONG_LONG)] at_104 rfl rfl ?_
      refine own_aloadN 107 rfl at_106 rfl rfl ?_
      refine own_iloadN 108 rfl at_107 rfl ?_
      obtain ⟨c484, A484, q484, S484, N484, H484, G484⟩ := id V10
      refine own_aaload 109 rfl A484 rfl (inb_of S484 ⟨by decide, by decide⟩) (Has.at H484 (inb_of S484 ⟨by decide, by decide⟩) rfl) at_108 ?_
      refine own_aloadN 110 rfl at_109 rfl rfl ?_
      refine own_iload 112 rfl at_110 rfl ?_
      obtain ⟨c485, A485, q485, S485, N485, H485, G485⟩ := id V10
      refine own_aaload 113 rfl A485 rfl (inb_of S485 ⟨by decide, by decide⟩) (Has.at H485 (inb_of S485 ⟨by decide, by decide⟩) rfl) at_112 ?_
      refine own_callS 116 rfl 1 9 0 [(.ref w_LONG_LONG), (.ref w_UNSIGNED_SHORT)] [] (y := (⟨"com/example/counterpath/counterpath/cfa/Type", "common", "(Lcom/example/counterpath/counterpath/cfa/Type;Lcom/example/counterpath/counterpath/cfa/Type;)Lcom/example/counterpath/counterpath/cfa/Type;"⟩ : MethodName)) (hw _ (List.mem_of_getElem? (i := 27) rfl)) (hw _ (List.mem_of_getElem? (i := 28) rfl)) (hw _ (List.mem_of_getElem? (i := 3) rfl)) (hw _ (List.mem_of_getElem? (i := 29) rfl)) (by decide) (rm2 l Z a0 hw [] w_LONG_LONG w_UNSIGNED_SHORT (64 : Int32) (1 : Int32) (16 : Int32) (0 : Int32) w_BOOL w_SIGNED_CHAR w_UNSIGNED_CHAR w_SHORT w_UNSIGNED_SHORT w_INT w_UNSIGNED_INT w_LONG_LONG w_UNSIGNED_LONG_LONG h10 I (((((((((((E_w_LONG_LONG.ext O0.2).ext E1).wr W2).wr W3).wr W4).wr W5).wr W6).wr W7).wr W8).wr W9).wr W10) (((((((((((F_w_LONG_LONG_width.ext O0.2).ext E1).other W2 (Or.inl ne_w_LONG_LONG_b1)).other W3 (Or.inl ne_w_LONG_LONG_b1)).other W4 (Or.inl ne_w_LONG_LONG_b1)).other W5 (Or.inl ne_w_LONG_LONG_b1)).other W6 (Or.inl ne_w_LONG_LONG_b1)).other W7 (Or.inl ne_w_LONG_LONG_b1)).other W8 (Or.inl ne_w_LONG_LONG_b1)).other W9 (Or.inl ne_w_LONG_LONG_b1)).other W10 (Or.inl ne_w_LONG_LONG_b1)) (((((((((((F_w_LONG_LONG_signed.ext O0.2).ext E1).other W2 (Or.inl ne_w_LONG_LONG_b1)).other W3 (Or.inl ne_w_LONG_LONG_b1)).other W4 (Or.inl ne_w_LONG_LONG_b1)).other W5 (Or.inl ne_w_LONG_LONG_b1)).other W6 (Or.inl ne_w_LONG_LONG_b1)).other W7 (Or.inl ne_w_LONG_LONG_b1)).other W8 (Or.inl ne_w_LONG_LONG_b1)).other W9 (Or.inl ne_w_LONG_LONG_b1)).other W10 (Or.inl ne_w_LONG_LONG_b1)) (((((((((((E_w_UNSIGNED_SHORT.ext O0.2).ext E1).wr W2).wr W3).wr W4).wr W5).wr W6).wr W7).wr W8).wr W9).wr W10) (((((((((((F_w_UNSIGNED_SHORT_width.ext O0.2).ext E1).other W2 (Or.inl ne_w_UNSIGNED_SHORT_b1)).other W3 (Or.inl ne_w_UNSIGNED_SHORT_b1)).other W4 (Or.inl ne_w_UNSIGNED_SHORT_b1)).other W5 (Or.inl ne_w_UNSIGNED_SHORT_b1)).other W6 (Or.inl ne_w_UNSIGNED_SHORT_b1)).other W7 (Or.inl ne_w_UNSIGNED_SHORT_b1)).other W8 (Or.inl ne_w_UNSIGNED_SHORT_b1)).other W9 (Or.inl ne_w_UNSIGNED_SHORT_b1)).other W10 (Or.inl ne_w_UNSIGNED_SHORT_b1)) (((((((((((F_w_UNSIGNED_SHORT_signed.ext O0.2).ext E1).other W2 (Or.inl ne_w_UNSIGNED_SHORT_b1)).other W3 (Or.inl ne_w_UNSIGNED_SHORT_b1)).other W4 (Or.inl ne_w_UNSIGNED_SHORT_b1)).other W5 (Or.inl ne_w_UNSIGNED_SHORT_b1)).other W6 (Or.inl ne_w_UNSIGNED_SHORT_b1)).other W7 (Or.inl ne_w_UNSIGNED_SHORT_b1)).other W8 (Or.inl ne_w_UNSIGNED_SHORT_b1)).other W9 (Or.inl ne_w_UNSIGNED_SHORT_b1)).other W10 (Or.inl ne_w_UNSIGNED_SHORT_b1)) (by decide) (by decide)) at_113 rfl (lenOf own_pd2 rfl) rfl rfl rfl (by decide) (by decide) rfl rfl (by decide) (by decide) (own_kv fun v486 h486 q486 => ?_)
      obtain ⟨rfl, e486⟩ := q486
      rw [e486]
      rw [show own_com w_INT w_LONG_LONG (64 : Int32) (1 : Int32) w_UNSIGNED_SHORT (16 : Int32) (0 : Int32) = w_LONG_LONG from by simp [own_com]]
      refine own_aload 118 rfl at_116 rfl rfl ?_
      refine own_acmpNo 121 rfl at_118 rfl rfl (own_teq (rfl : ((.ref w_LONG_LONG) : Value) = (.ref w_LONG_LONG))).2 ?_
      refine own_iconst 122 rfl (1 : Int32) at_121 rfl ?_
      refine own_goto 126 at_122 (by decide) (by decide) ?_
      refine own_retN rfl (by simp) at_126 (by decide) (by decide) ?_
      exact ⟨_, rfl, rfl⟩
    · have hin_j := (rfl : (5 : Int) = 5)
      refine own_iloadN 81 rfl at_80 rfl ?_
      refine own_iconst 82 rfl (5 : Int32) at_81 rfl ?_
      refine own_callS 85 rfl 1 9 0 [(.int (7 : Int32)), (.int (5 : Int32))] [] (y := (⟨"java/lang/Math", "max", "(II)I"⟩ : MethodName)) (hw _ (List.mem_of_getElem? (i := 23) rfl)) (hw _ (List.mem_of_getElem? (i := 24) rfl)) (hw _ (List.mem_of_getElem? (i := 25) rfl)) (hw _ (List.mem_of_getElem? (i := 26) rfl)) (by decide) (rm1 l Z a0 hw [] (7 : Int32) (5 : Int32)  h10 ) at_82 rfl (lenOf own_pd1 rfl) rfl rfl rfl (by decide) (by decide) rfl rfl (by decide) (by decide) (own_kv fun v487 h487 q487 => ?_)
      obtain ⟨rfl, e487⟩ := q487
      rw [e487]
      rw [show (if (7 : Int32) < (5 : Int32) then (5 : Int32) else (7 : Int32)) = (7 : Int32) from by decide]
      refine own_istore 87 rfl #[.val (.int p1), .val (.int p2), .val (.ref b1), .val (.int (7 : Int32)), .val (.int (5 : Int32)), .val (.int (7 : Int32)), .unset, .unset] at_85 rfl ?_
      refine own_iload 89 rfl at_87 rfl ?_
      refine own_iconst 90 rfl (5 : Int32) at_89 rfl ?_
      refine own_callS 93 rfl 1 9 0 [(.int (5 : Int32)), (.int (5 : Int32))] [] (y := (⟨"java/lang/Math", "max", "(II)I"⟩ : MethodName)) (hw _ (List.mem_of_getElem? (i := 23) rfl)) (hw _ (List.mem_of_getElem? (i := 24) rfl)) (hw _ (List.mem_of_getElem? (i := 25) rfl)) (hw _ (List.mem_of_getElem? (i := 26) rfl)) (by decide) (rm1 l Z a0 hw [] (5 : Int32) (5 : Int32)  h10 ) at_90 rfl (lenOf own_pd1 rfl) rfl rfl rfl (by decide) (by decide) rfl rfl (by decide) (by decide) (own_kv fun v488 h488 q488 => ?_)
      obtain ⟨rfl, e488⟩ := q488
      rw [e488]
      rw [show (if (5 : Int32) < (5 : Int32) then (5 : Int32) else (5 : Int32)) = (5 : Int32) from by decide]
      refine own_istore 95 rfl #[.val (.int p1), .val (.int p2), .val (.ref b1), .val (.int (7 : Int32)), .val (.int (5 : Int32)), .val (.int (7 : Int32)), .val (.int (5 : Int32)), .unset] at_93 rfl ?_
      refine own_aloadN 96 rfl at_95 rfl rfl ?_
      refine own_iload 98 rfl at_96 rfl ?_
      refine own_iload 100 rfl at_98 rfl ?_
      refine own_callS 103 rfl 1 9 1 [(.int (7 : Int32)), (.int (5 : Int32))] [(.ref b1)] (y := (⟨"java/lang/Math", "max", "(II)I"⟩ : MethodName)) (hw _ (List.mem_of_getElem? (i := 23) rfl)) (hw _ (List.mem_of_getElem? (i := 24) rfl)) (hw _ (List.mem_of_getElem? (i := 25) rfl)) (hw _ (List.mem_of_getElem? (i := 26) rfl)) (by decide) (rm1 l Z a0 hw [] (7 : Int32) (5 : Int32)  h10 ) at_100 rfl (lenOf own_pd1 rfl) rfl rfl rfl (by decide) (by decide) rfl rfl (by decide) (by decide) (own_kv fun v489 h489 q489 => ?_)
      obtain ⟨rfl, e489⟩ := q489
      rw [e489]
      rw [show (if (7 : Int32) < (5 : Int32) then (5 : Int32) else (7 : Int32)) = (7 : Int32) from by decide]
      obtain ⟨c490, A490, q490, S490, N490, H490, G490⟩ := id V10
      refine own_aaload 104 rfl A490 rfl (inb_of S490 ⟨by decide, by decide⟩) (Has.at H490 (inb_of S490 ⟨by decide, by decide⟩) rfl) at_103 ?_
      refine own_astore 106 rfl #[.val (.int p1), .val (.int p2), .val (.ref b1), .val (.int (7 : Int32)), .val (.int (5 : Int32)), .val (.int (7 : Int32)), .val (.int (5 : Int32)), .val (.ref w_LONG_LONG)] at_104 rfl rfl ?_
      refine own_aloadN 107 rfl at_106 rfl rfl ?_
      refine own_iloadN 108 rfl at_107 rfl ?_
      obtain ⟨c491, A491, q491, S491, N491, H491, G491⟩ := id V10
      refine own_aaload 109 rfl A491 rfl (inb_of S491 ⟨by decide, by decide⟩) (Has.at H491 (inb_of S491 ⟨by decide, by decide⟩) rfl) at_108 ?_
      refine own_aloadN 110 rfl at_109 rfl rfl ?_
      refine own_iload 112 rfl at_110 rfl ?_
      obtain ⟨c492, A492, q492, S492, N492, H492, G492⟩ := id V10
      refine own_aaload 113 rfl A492 rfl (inb_of S492 ⟨by decide, by decide⟩) (Has.at H492 (inb_of S492 ⟨by decide, by decide⟩) rfl) at_112 ?_
      refine own_callS 116 rfl 1 9 0 [(.ref w_LONG_LONG), (.ref w_INT)] [] (y := (⟨"com/example/counterpath/counterpath/cfa/Type", "common", "(Lcom/example/counterpath/counterpath/cfa/Type;Lcom/example/counterpath/counterpath/cfa/Type;)Lcom/example/counterpath/counterpath/cfa/Type;"⟩ : MethodName)) (hw _ (List.mem_of_getElem? (i := 27) rfl)) (hw _ (List.mem_of_getElem? (i := 28) rfl)) (hw _ (List.mem_of_getElem? (i := 3) rfl)) (hw _ (List.mem_of_getElem? (i := 29) rfl)) (by decide) (rm2 l Z a0 hw [] w_LONG_LONG w_INT (64 : Int32) (1 : Int32) (32 : Int32) (1 : Int32) w_BOOL w_SIGNED_CHAR w_UNSIGNED_CHAR w_SHORT w_UNSIGNED_SHORT w_INT w_UNSIGNED_INT w_LONG_LONG w_UNSIGNED_LONG_LONG h10 I (((((((((((E_w_LONG_LONG.ext O0.2).ext E1).wr W2).wr W3).wr W4).wr W5).wr W6).wr W7).wr W8).wr W9).wr W10) (((((((((((F_w_LONG_LONG_width.ext O0.2).ext E1).other W2 (Or.inl ne_w_LONG_LONG_b1)).other W3 (Or.inl ne_w_LONG_LONG_b1)).other W4 (Or.inl ne_w_LONG_LONG_b1)).other W5 (Or.inl ne_w_LONG_LONG_b1)).other W6 (Or.inl ne_w_LONG_LONG_b1)).other W7 (Or.inl ne_w_LONG_LONG_b1)).other W8 (Or.inl ne_w_LONG_LONG_b1)).other W9 (Or.inl ne_w_LONG_LONG_b1)).other W10 (Or.inl ne_w_LONG_LONG_b1)) (((((((((((F_w_LONG_LONG_signed.ext O0.2).ext E1).other W2 (Or.inl ne_w_LONG_LONG_b1)).other W3 (Or.inl ne_w_LONG_LONG_b1)).other W4 (Or.inl ne_w_LONG_LONG_b1)).other W5 (Or.inl ne_w_LONG_LONG_b1)).other W6 (Or.inl ne_w_LONG_LONG_b1)).other W7 (Or.inl ne_w_LONG_LONG_b1)).other W8 (Or.inl ne_w_LONG_LONG_b1)).other W9 (Or.inl ne_w_LONG_LONG_b1)).other W10 (Or.inl ne_w_LONG_LONG_b1)) (((((((((((E_w_INT.ext O0.2).ext E1).wr W2).wr W3).wr W4).wr W5).wr W6).wr W7).wr W8).wr W9).wr W10) (((((((((((F_w_INT_width.ext O0.2).ext E1).other W2 (Or.inl ne_w_INT_b1)).other W3 (Or.inl ne_w_INT_b1)).other W4 (Or.inl ne_w_INT_b1)).other W5 (Or.inl ne_w_INT_b1)).other W6 (Or.inl ne_w_INT_b1)).other W7 (Or.inl ne_w_INT_b1)).other W8 (Or.inl ne_w_INT_b1)).other W9 (Or.inl ne_w_INT_b1)).other W10 (Or.inl ne_w_INT_b1)) (((((((((((F_w_INT_signed.ext O0.2).ext E1).other W2 (Or.inl ne_w_INT_b1)).other W3 (Or.inl ne_w_INT_b1)).other W4 (Or.inl ne_w_INT_b1)).other W5 (Or.inl ne_w_INT_b1)).other W6 (Or.inl ne_w_INT_b1)).other W7 (Or.inl ne_w_INT_b1)).other W8 (Or.inl ne_w_INT_b1)).other W9 (Or.inl ne_w_INT_b1)).other W10 (Or.inl ne_w_INT_b1)) (by decide) (by decide)) at_113 rfl (lenOf own_pd2 rfl) rfl rfl rfl (by decide) (by decide) rfl rfl (by decide) (by decide) (own_kv fun v493 h493 q493 => ?_)
      obtain ⟨rfl, e493⟩ := q493
      rw [e493]
      rw [show own_com w_INT w_LONG_LONG (64 : Int32) (1 : Int32) w_INT (32 : Int32) (1 : Int32) = w_LONG_LONG from by simp [own_com]]
      refine own_aload 118 rfl at_116 rfl rfl ?_
      refine own_acmpNo 121 rfl at_118 rfl rfl (own_teq (rfl : ((.ref w_LONG_LONG) : Value) = (.ref w_LONG_LONG))).2 ?_
      refine own_iconst 122 rfl (1 : Int32) at_121 rfl ?_
      refine own_goto 126 at_122 (by decide) (by decide) ?_
      refine own_retN rfl (by simp) at_126 (by decide) (by decide) ?_
      exact ⟨_, rfl, rfl⟩
    · have hin_j := (rfl : (6 : Int) = 6)
      refine own_iloadN 81 rfl at_80 rfl ?_
      refine own_iconst 82 rfl (5 : Int32) at_81 rfl ?_
      refine own_callS 85 rfl 1 9 0 [(.int (7 : Int32)), (.int (5 : Int32))] [] (y := (⟨"java/lang/Math", "max", "(II)I"⟩ : MethodName)) (hw _ (List.mem_of_getElem? (i := 23) rfl)) (hw _ (List.mem_of_getElem? (i := 24) rfl)) (hw _ (List.mem_of_getElem? (i := 25) rfl)) (hw _ (List.mem_of_getElem? (i := 26) rfl)) (by decide) (rm1 l Z a0 hw [] (7 : Int32) (5 : Int32)  h10 ) at_82 rfl (lenOf own_pd1 rfl) rfl rfl rfl (by decide) (by decide) rfl rfl (by decide) (by decide) (own_kv fun v494 h494 q494 => ?_)
      obtain ⟨rfl, e494⟩ := q494
      rw [e494]
      rw [show (if (7 : Int32) < (5 : Int32) then (5 : Int32) else (7 : Int32)) = (7 : Int32) from by decide]
      refine own_istore 87 rfl #[.val (.int p1), .val (.int p2), .val (.ref b1), .val (.int (7 : Int32)), .val (.int (6 : Int32)), .val (.int (7 : Int32)), .unset, .unset] at_85 rfl ?_
      refine own_iload 89 rfl at_87 rfl ?_
      refine own_iconst 90 rfl (5 : Int32) at_89 rfl ?_
      refine own_callS 93 rfl 1 9 0 [(.int (6 : Int32)), (.int (5 : Int32))] [] (y := (⟨"java/lang/Math", "max", "(II)I"⟩ : MethodName)) (hw _ (List.mem_of_getElem? (i := 23) rfl)) (hw _ (List.mem_of_getElem? (i := 24) rfl)) (hw _ (List.mem_of_getElem? (i := 25) rfl)) (hw _ (List.mem_of_getElem? (i := 26) rfl)) (by decide) (rm1 l Z a0 hw [] (6 : Int32) (5 : Int32)  h10 ) at_90 rfl (lenOf own_pd1 rfl) rfl rfl rfl (by decide) (by decide) rfl rfl (by decide) (by decide) (own_kv fun v495 h495 q495 => ?_)
      obtain ⟨rfl, e495⟩ := q495
      rw [e495]
      rw [show (if (6 : Int32) < (5 : Int32) then (5 : Int32) else (6 : Int32)) = (6 : Int32) from by decide]
      refine own_istore 95 rfl #[.val (.int p1), .val (.int p2), .val (.ref b1), .val (.int (7 : Int32)), .val (.int (6 : Int32)), .val (.int (7 : Int32)), .val (.int (6 : Int32)), .unset] at_93 rfl ?_
      refine own_aloadN 96 rfl at_95 rfl rfl ?_
      refine own_iload 98 rfl at_96 rfl ?_
      refine own_iload 100 rfl at_98 rfl ?_
      refine own_callS 103 rfl 1 9 1 [(.int (7 : Int32)), (.int (6 : Int32))] [(.ref b1)] (y := (⟨"java/lang/Math", "max", "(II)I"⟩ : MethodName)) (hw _ (List.mem_of_getElem? (i := 23) rfl)) (hw _ (List.mem_of_getElem? (i := 24) rfl)) (hw _ (List.mem_of_getElem? (i := 25) rfl)) (hw _ (List.mem_of_getElem? (i := 26) rfl)) (by decide) (rm1 l Z a0 hw [] (7 : Int32) (6 : Int32)  h10 ) at_100 rfl (lenOf own_pd1 rfl) rfl rfl rfl (by decide) (by decide) rfl rfl (by decide) (by decide) (own_kv fun v496 h496 q496 => ?_)
      obtain ⟨rfl, e496⟩ := q496
      rw [e496]
      rw [show (if (7 : Int32) < (6 : Int32) then (6 : Int32) else (7 : Int32)) = (7 : Int32) from by decide]
      obtain ⟨c497, A497, q497, S497, N497, H497, G497⟩ := id V10
      refine own_aaload 104 rfl A497 rfl (inb_of S497 ⟨by decide, by decide⟩) (Has.at H497 (inb_of S497 ⟨by decide, by decide⟩) rfl) at_103 ?_
      refine own_astore 106 rfl #[.val (.int p1), .val (.int p2), .val (.ref b1), .val (.int (7 : Int32)), .val (.int (6 : Int32)), .val (.int (7 : Int32)), .val (.int (6 : Int32)), .val (.ref w_LONG_LONG)] at_104 rfl rfl ?_
      refine own_aloadN 107 rfl at_106 rfl rfl ?_
      refine own_iloadN 108 rfl at_107 rfl ?_
      obtain ⟨c498, A498, q498, S498, N498, H498, G498⟩ := id V10
      refine own_aaload 109 rfl A498 rfl (inb_of S498 ⟨by decide, by decide⟩) (Has.at H498 (inb_of S498 ⟨by decide, by decide⟩) rfl) at_108 ?_
      refine own_aloadN 110 rfl at_109 rfl rfl ?_
      refine own_iload 112 rfl at_110 rfl ?_
      obtain ⟨c499, A499, q499, S499, N499, H499, G499⟩ := id V10
      refine own_aaload 113 rfl A499 rfl (inb_of S499 ⟨by decide, by decide⟩) (Has.at H499 (inb_of S499 ⟨by decide, by decide⟩) rfl) at_112 ?_
      refine own_callS 116 rfl 1 9 0 [(.ref w_LONG_LONG), (.ref w_UNSIGNED_INT)] [] (y := (⟨"com/example/counterpath/counterpath/cfa/Type", "common", "(Lcom/example/counterpath/counterpath/cfa/Type;Lcom/example/counterpath/counterpath/cfa/Type;)Lcom/example/counterpath/counterpath/cfa/Type;"⟩ : MethodName)) (hw _ (List.mem_of_getElem? (i := 27) rfl)) (hw _ (List.mem_of_getElem? (i := 28) rfl)) (hw _ (List.mem_of_getElem? (i := 3) rfl)) (hw _ (List.mem_of_getElem? (i := 29) rfl)) (by decide) (rm2 l Z a0 hw [] w_LONG_LONG w_UNSIGNED_INT (64 : Int32) (1 : Int32) (32 : Int32) (0 : Int32) w_BOOL w_SIGNED_CHAR w_UNSIGNED_CHAR w_SHORT w_UNSIGNED_SHORT w_INT w_UNSIGNED_INT w_LONG_LONG w_UNSIGNED_LONG_LONG h10 I (((((((((((E_w_LONG_LONG.ext O0.2).ext E1).wr W2).wr W3).wr W4).wr W5).wr W6).wr W7).wr W8).wr W9).wr W10) (((((((((((F_w_LONG_LONG_width.ext O0.2).ext E1).other W2 (Or.inl ne_w_LONG_LONG_b1)).other W3 (Or.inl ne_w_LONG_LONG_b1)).other W4 (Or.inl ne_w_LONG_LONG_b1)).other W5 (Or.inl ne_w_LONG_LONG_b1)).other W6 (Or.inl ne_w_LONG_LONG_b1)).other W7 (Or.inl ne_w_LONG_LONG_b1)).other W8 (Or.inl ne_w_LONG_LONG_b1)).other W9 (Or.inl ne_w_LONG_LONG_b1)).other W10 (Or.inl ne_w_LONG_LONG_b1)) (((((((((((F_w_LONG_LONG_signed.ext O0.2).ext E1).other W2 (Or.inl ne_w_LONG_LONG_b1)).other W3 (Or.inl ne_w_LONG_LONG_b1)).other W4 (Or.inl ne_w_LONG_LONG_b1)).other W5 (Or.inl ne_w_LONG_LONG_b1)).other W6 (Or.inl ne_w_LONG_LONG_b1)).other W7 (Or.inl ne_w_LONG_LONG_b1)).other W8 (Or.inl ne_w_LONG_LONG_b1)).other W9 (Or.inl ne_w_LONG_LONG_b1)).other W10 (Or.inl ne_w_LONG_LONG_b1)) (((((((((((E_w_UNSIGNED_INT.ext O0.2).ext E1).wr W2).wr W3).wr W4).wr W5).wr W6).wr W7).wr W8).wr W9).wr W10) (((((((((((F_w_UNSIGNED_INT_width.ext O0.2).ext E1).other W2 (Or.inl ne_w_UNSIGNED_INT_b1)).other W3 (Or.inl ne_w_UNSIGNED_INT_b1)).other W4 (Or.inl ne_w_UNSIGNED_INT_b1)).other W5 (Or.inl ne_w_UNSIGNED_INT_b1)).other W6 (Or.inl ne_w_UNSIGNED_INT_b1)).other W7 (Or.inl ne_w_UNSIGNED_INT_b1)).other W8 (Or.inl ne_w_UNSIGNED_INT_b1)).other W9 (Or.inl ne_w_UNSIGNED_INT_b1)).other W10 (Or.inl ne_w_UNSIGNED_INT_b1)) (((((((((((F_w_UNSIGNED_INT_signed.ext O0.2).ext E1).other W2 (Or.inl ne_w_UNSIGNED_INT_b1)).other W3 (Or.inl ne_w_UNSIGNED_INT_b1)).other W4 (Or.inl ne_w_UNSIGNED_INT_b1)).other W5 (Or.inl ne_w_UNSIGNED_INT_b1)).other W6 (Or.inl ne_w_UNSIGNED_INT_b1)).other W7 (Or.inl ne_w_UNSIGNED_INT_b1)).other W8 (Or.inl ne_w_UNSIGNED_INT_b1)).other W9 (Or.inl ne_w_UNSIGNED_INT_b1)).other W10 (Or.inl ne_w_UNSIGNED_INT_b1)) (by decide) (by decide)) at_113 rfl (lenOf own_pd2 rfl) rfl rfl rfl (by decide) (by decide) rfl rfl (by decide) (by decide) (own_kv fun v500 h500 q500 => ?_)
      obtain ⟨rfl, e500⟩ := q500
      rw [e500]
      rw [show own_com w_INT w_LONG_LONG (64 : Int32) (1 : Int32) w_UNSIGNED_INT (32 : Int32) (0 : Int32) = w_LONG_LONG from by simp [own_com]]
      refine own_aload 118 rfl at_116 rfl rfl ?_
      refine own_acmpNo 121 rfl at_118 rfl rfl (own_teq (rfl : ((.ref w_LONG_LONG) : Value) = (.ref w_LONG_LONG))).2 ?_
      refine own_iconst 122 rfl (1 : Int32) at_121 rfl ?_
      refine own_goto 126 at_122 (by decide) (by decide) ?_
      refine own_retN rfl (by simp) at_126 (by decide) (by decide) ?_
      exact ⟨_, rfl, rfl⟩
    · have hin_j := (rfl : (7 : Int) = 7)
      refine own_iloadN 81 rfl at_80 rfl ?_
      refine own_iconst 82 rfl (5 : Int32) at_81 rfl ?_
      refine own_callS 85 rfl 1 9 0 [(.int (7 : Int32)), (.int (5 : Int32))] [] (y := (⟨"java/lang/Math", "max", "(II)I"⟩ : MethodName)) (hw _ (List.mem_of_getElem? (i := 23) rfl)) (hw _ (List.mem_of_getElem? (i := 24) rfl)) (hw _ (List.mem_of_getElem? (i := 25) rfl)) (hw _ (List.mem_of_getElem? (i := 26) rfl)) (by decide) (rm1 l Z a0 hw [] (7 : Int32) (5 : Int32)  h10 ) at_82 rfl (lenOf own_pd1 rfl) rfl rfl rfl (by decide) (by decide) rfl rfl (by decide) (by decide) (own_kv fun v501 h501 q501 => ?_)
      obtain ⟨rfl, e501⟩ := q501
      rw [e501]
      rw [show (if (7 : Int32) < (5 : Int32) then (5 : Int32) else (7 : Int32)) = (7 : Int32) from by decide]
      refine own_istore 87 rfl #[.val (.int p1), .val (.int p2), .val (.ref b1), .val (.int (7 : Int32)), .val (.int (7 : Int32)), .val (.int (7 : Int32)), .unset, .unset] at_85 rfl ?_
      refine own_iload 89 rfl at_87 rfl ?_
      refine own_iconst 90 rfl (5 : Int32) at_89 rfl ?_
      refine own_callS 93 rfl 1 9 0 [(.int (7 : Int32)), (.int (5 : Int32))] [] (y := (⟨"java/lang/Math", "max", "(II)I"⟩ : MethodName)) (hw _ (List.mem_of_getElem? (i := 23) rfl)) (hw _ (List.mem_of_getElem? (i := 24) rfl)) (hw _ (List.mem_of_getElem? (i := 25) rfl)) (hw _ (List.mem_of_getElem? (i := 26) rfl)) (by decide) (rm1 l Z a0 hw [] (7 : Int32) (5 : Int32)  h10 ) at_90 rfl (lenOf own_pd1 rfl) rfl rfl rfl (by decide) (by decide) rfl rfl (by decide) (by decide) (own_kv fun v502 h502 q502 => ?_)
      obtain ⟨rfl, e502⟩ := q502
      rw [e502]
      rw [show (if (7 : Int32) < (5 : Int32) then (5 : Int32) else (7 : Int32)) = (7 : Int32) from by decide]
      refine own_istore 95 rfl #[.val (.int p1), .val (.int p2), .val (.ref b1), .val (.int (7 : Int32)), .val (.int (7 : Int32)), .val (.int (7 : Int32)), .val (.int (7 : Int32)), .unset] at_93 rfl ?_
      refine own_aloadN 96 rfl at_95 rfl rfl ?_
      refine own_iload 98 rfl at_96 rfl ?_
      refine own_iload 100 rfl at_98 rfl ?_
      refine own_callS 103 rfl 1 9 1 [(.int (7 : Int32)), (.int (7 : Int32))] [(.ref b1)] (y := (⟨"java/lang/Math", "max", "(II)I"⟩ : MethodName)) (hw _ (List.mem_of_getElem? (i := 23) rfl)) (hw _ (List.mem_of_getElem? (i := 24) rfl)) (hw _ (List.mem_of_getElem? (i := 25) rfl)) (hw _ (List.mem_of_getElem? (i := 26) rfl)) (by decide) (rm1 l Z a0 hw [] (7 : Int32) (7 : Int32)  h10 ) at_100 rfl (lenOf own_pd1 rfl) rfl rfl rfl (by decide) (by decide) rfl rfl (by decide) (by decide) (own_kv fun v503 h503 q503 => ?_)
      obtain ⟨rfl, e503⟩ := q503
      rw [e503]
      rw [show (if (7 : Int32) < (7 : Int32) then (7 : Int32) else (7 : Int32)) = (7 : Int32) from by decide]
      obtain ⟨c504, A504, q504, S504, N504, H504, G504⟩ := id V10
      refine own_aaload 104 rfl A504 rfl (inb_of S504 ⟨by decide, by decide⟩) (Has.at H504 (inb_of S504 ⟨by decide, by decide⟩) rfl) at_103 ?_
      refine own_astore 106 rfl #[.val (.int p1), .val (.int p2), .val (.ref b1), .val (.int (7 : Int32)), .val (.int (7 : Int32)), .val (.int (7 : Int32)), .val (.int (7 : Int32)), .val (.ref w_LONG_LONG)] at_104 rfl rfl ?_
      refine own_aloadN 107 rfl at_106 rfl rfl ?_
      refine own_iloadN 108 rfl at_107 rfl ?_
      obtain ⟨c505, A505, q505, S505, N505, H505, G505⟩ := id V10
      refine own_aaload 109 rfl A505 rfl (inb_of S505 ⟨by decide, by decide⟩) (Has.at H505 (inb_of S505 ⟨by decide, by decide⟩) rfl) at_108 ?_
      refine own_aloadN 110 rfl at_109 rfl rfl ?_
      refine own_iload 112 rfl at_110 rfl ?_
      obtain ⟨c506, A506, q506, S506, N506, H506, G506⟩ := id V10
      refine own_aaload 113 rfl A506 rfl (inb_of S506 ⟨by decide, by decide⟩) (Has.at H506 (inb_of S506 ⟨by decide, by decide⟩) rfl) at_112 ?_
      refine own_callS 116 rfl 1 9 0 [(.ref w_LONG_LONG), (.ref w_LONG_LONG)] [] (y := (⟨"com/example/counterpath/counterpath/cfa/Type", "common", "(Lcom/example/counterpath/counterpath/cfa/Type;Lcom/example/counterpath/counterpath/cfa/Type;)Lcom/example/counterpath/counterpath/cfa/Type;"⟩ : MethodName)) (hw _ (List.mem_of_getElem? (i := 27) rfl)) (hw _ (List.mem_of_getElem? (i := 28) rfl)) (hw _ (List.mem_of_getElem? (i := 3) rfl)) (hw _ (List.mem_of_getElem? (i := 29) rfl)) (by decide) (rm2 l Z a0 hw [] w_LONG_LONG w_LONG_LONG (64 : Int32) (1 : Int32) (64 : Int32) (1 : Int32) w_BOOL w_SIGNED_CHAR w_UNSIGNED_CHAR w_SHORT w_UNSIGNED_SHORT w_INT w_UNSIGNED_INT w_LONG_LONG w_UNSIGNED_LONG_LONG h10 I (((((((((((E_w_LONG_LONG.ext O0.2).ext E1).wr W2).wr W3).wr W4).wr W5).wr W6).wr W7).wr W8).wr W9).wr W10) (((((((((((F_w_LONG_LONG_width.ext O0.2).ext E1).other W2 (Or.inl ne_w_LONG_LONG_b1)).other W3 (Or.inl ne_w_LONG_LONG_b1)).other W4 (Or.inl ne_w_LONG_LONG_b1)).other W5 (Or.inl ne_w_LONG_LONG_b1)).other W6 (Or.inl ne_w_LONG_LONG_b1)).other W7 (Or.inl ne_w_LONG_LONG_b1)).other W8 (Or.inl ne_w_LONG_LONG_b1)).other W9 (Or.inl ne_w_LONG_LONG_b1)).other W10 (Or.inl ne_w_LONG_LONG_b1)) (((((((((((F_w_LONG_LONG_signed.ext O0.2).ext E1).other W2 (Or.inl ne_w_LONG_LONG_b1)).other W3 (Or.inl ne_w_LONG_LONG_b1)).other W4 (Or.inl ne_w_LONG_LONG_b1)).other W5 (Or.inl ne_w_LONG_LONG_b1)).other W6 (Or.inl ne_w_LONG_LONG_b1)).other W7 (Or.inl ne_w_LONG_LONG_b1)).other W8 (Or.inl ne_w_LONG_LONG_b1)).other W9 (Or.inl ne_w_LONG_LONG_b1)).other W10 (Or.inl ne_w_LONG_LONG_b1)) (((((((((((E_w_LONG_LONG.ext O0.2).ext E1).wr W2).wr W3).wr W4).wr W5).wr W6).wr W7).wr W8).wr W9).wr W10) (((((((((((F_w_LONG_LONG_width.ext O0.2).ext E1).other W2 (Or.inl ne_w_LONG_LONG_b1)).other W3 (Or.inl ne_w_LONG_LONG_b1)).other W4 (Or.inl ne_w_LONG_LONG_b1)).other W5 (Or.inl ne_w_LONG_LONG_b1)).other W6 (Or.inl ne_w_LONG_LONG_b1)).other W7 (Or.inl ne_w_LONG_LONG_b1)).other W8 (Or.inl ne_w_LONG_LONG_b1)).other W9 (Or.inl ne_w_LONG_LONG_b1)).other W10 (Or.inl ne_w_LONG_LONG_b1)) (((((((((((F_w_LONG_LONG_signed.ext O0.2).ext E1).other W2 (Or.inl ne_w_LONG_LONG_b1)).other W3 (Or.inl ne_w_LONG_LONG_b1)).other W4 (Or.inl ne_w_LONG_LONG_b1)).other W5 (Or.inl ne_w_LONG_LONG_b1)).other W6 (Or.inl ne_w_LONG_LONG_b1)).other W7 (Or.inl ne_w_LONG_LONG_b1)).other W8 (Or.inl ne_w_LONG_LONG_b1)).other W9 (Or.inl ne_w_LONG_LONG_b1)).other W10 (Or.inl ne_w_LONG_LONG_b1)) (by decide) (by decide)) at_113 rfl (lenOf own_pd2 rfl) rfl rfl rfl (by decide) (by decide) rfl rfl (by decide) (by decide) (own_kv fun v507 h507 q507 => ?_)
      obtain ⟨rfl, e507⟩ := q507
      rw [e507]
      rw [show own_com w_INT w_LONG_LONG (64 : Int32) (1 : Int32) w_LONG_LONG (64 : Int32) (1 : Int32) = w_LONG_LONG from by simp [own_com]]
      refine own_aload 118 rfl at_116 rfl rfl ?_
      refine own_acmpNo 121 rfl at_118 rfl rfl (own_teq (rfl : ((.ref w_LONG_LONG) : Value) = (.ref w_LONG_LONG))).2 ?_
      refine own_iconst 122 rfl (1 : Int32) at_121 rfl ?_
      refine own_goto 126 at_122 (by decide) (by decide) ?_
      refine own_retN rfl (by simp) at_126 (by decide) (by decide) ?_
      exact ⟨_, rfl, rfl⟩
    · have hin_j := (rfl : (8 : Int) = 8)
      refine own_iloadN 81 rfl at_80 rfl ?_
      refine own_iconst 82 rfl (5 : Int32) at_81 rfl ?_
      refine own_callS 85 rfl 1 9 0 [(.int (7 : Int32)), (.int (5 : Int32))] [] (y := (⟨"java/lang/Math", "max", "(II)I"⟩ : MethodName)) (hw _ (List.mem_of_getElem? (i := 23) rfl)) (hw _ (List.mem_of_getElem? (i := 24) rfl)) (hw _ (List.mem_of_getElem? (i := 25) rfl)) (hw _ (List.mem_of_getElem? (i := 26) rfl)) (by decide) (rm1 l Z a0 hw [] (7 : Int32) (5 : Int32)  h10 ) at_82 rfl (lenOf own_pd1 rfl) rfl rfl rfl (by decide) (by decide) rfl rfl (by decide) (by decide) (own_kv fun v508 h508 q508 => ?_)
      obtain ⟨rfl, e508⟩ := q508
      rw [e508]
      rw [show (if (7 : Int32) < (5 : Int32) then (5 : Int32) else (7 : Int32)) = (7 : Int32) from by decide]
      refine own_istore 87 rfl #[.val (.int p1), .val (.int p2), .val (.ref b1), .val (.int (7 : Int32)), .val (.int (8 : Int32)), .val (.int (7 : Int32)), .unset, .unset] at_85 rfl ?_
      refine own_iload 89 rfl at_87 rfl ?_
      refine own_iconst 90 rfl (5 : Int32) at_89 rfl ?_
      refine own_callS 93 rfl 1 9 0 [(.int (8 : Int32)), (.int (5 : Int32))] [] (y := (⟨"java/lang/Math", "max", "(II)I"⟩ : MethodName)) (hw _ (List.mem_of_getElem? (i := 23) rfl)) (hw _ (List.mem_of_getElem? (i := 24) rfl)) (hw _ (List.mem_of_getElem? (i := 25) rfl)) (hw _ (List.mem_of_getElem? (i := 26) rfl)) (by decide) (rm1 l Z a0 hw [] (8 : Int32) (5 : Int32)  h10 ) at_90 rfl (lenOf own_pd1 rfl) rfl rfl rfl (by decide) (by decide) rfl rfl (by decide) (by decide) (own_kv fun v509 h509 q509 => ?_)
      obtain ⟨rfl, e509⟩ := q509
      rw [e509]
      rw [show (if (8 : Int32) < (5 : Int32) then (5 : Int32) else (8 : Int32)) = (8 : Int32) from by decide]
      refine own_istore 95 rfl #[.val (.int p1), .val (.int p2), .val (.ref b1), .val (.int (7 : Int32)), .val (.int (8 : Int32)), .val (.int (7 : Int32)), .val (.int (8 : Int32)), .unset] at_93 rfl ?_
      refine own_aloadN 96 rfl at_95 rfl rfl ?_
      refine own_iload 98 rfl at_96 rfl ?_
      refine own_iload 100 rfl at_98 rfl ?_
      refine own_callS 103 rfl 1 9 1 [(.int (7 : Int32)), (.int (8 : Int32))] [(.ref b1)] (y := (⟨"java/lang/Math", "max", "(II)I"⟩ : MethodName)) (hw _ (List.mem_of_getElem? (i := 23) rfl)) (hw _ (List.mem_of_getElem? (i := 24) rfl)) (hw _ (List.mem_of_getElem? (i := 25) rfl)) (hw _ (List.mem_of_getElem? (i := 26) rfl)) (by decide) (rm1 l Z a0 hw [] (7 : Int32) (8 : Int32)  h10 ) at_100 rfl (lenOf own_pd1 rfl) rfl rfl rfl (by decide) (by decide) rfl rfl (by decide) (by decide) (own_kv fun v510 h510 q510 => ?_)
      obtain ⟨rfl, e510⟩ := q510
      rw [e510]
      rw [show (if (7 : Int32) < (8 : Int32) then (8 : Int32) else (7 : Int32)) = (8 : Int32) from by decide]
      obtain ⟨c511, A511, q511, S511, N511, H511, G511⟩ := id V10
      refine own_aaload 104 rfl A511 rfl (inb_of S511 ⟨by decide, by decide⟩) (Has.at H511 (inb_of S511 ⟨by decide, by decide⟩) rfl) at_103 ?_
      refine own_astore 106 rfl #[.val (.int p1), .val (.int p2), .val (.ref b1), .val (.int (7 : Int32)), .val (.int (8 : Int32)), .val (.int (7 : Int32)), .val (.int (8 : Int32)), .val (.ref w_UNSIGNED_LONG_LONG)] at_104 rfl rfl ?_
      refine own_aloadN 107 rfl at_106 rfl rfl ?_
      refine own_iloadN 108 rfl at_107 rfl ?_
      obtain ⟨c512, A512, q512, S512, N512, H512, G512⟩ := id V10
      refine own_aaload 109 rfl A512 rfl (inb_of S512 ⟨by decide, by decide⟩) (Has.at H512 (inb_of S512 ⟨by decide, by decide⟩) rfl) at_108 ?_
      refine own_aloadN 110 rfl at_109 rfl rfl ?_
      refine own_iload 112 rfl at_110 rfl ?_
      obtain ⟨c513, A513, q513, S513, N513, H513, G513⟩ := id V10
      refine own_aaload 113 rfl A513 rfl (inb_of S513 ⟨by decide, by decide⟩) (Has.at H513 (inb_of S513 ⟨by decide, by decide⟩) rfl) at_112 ?_
      refine own_callS 116 rfl 1 9 0 [(.ref w_LONG_LONG), (.ref w_UNSIGNED_LONG_LONG)] [] (y := (⟨"com/example/counterpath/counterpath/cfa/Type", "common", "(Lcom/example/counterpath/counterpath/cfa/Type;Lcom/example/counterpath/counterpath/cfa/Type;)Lcom/example/counterpath/counterpath/cfa/Type;"⟩ : MethodName)) (hw _ (List.mem_of_getElem? (i := 27) rfl)) (hw _ (List.mem_of_getElem? (i := 28) rfl)) (hw _ (List.mem_of_getElem? (i := 3) rfl)) (hw _ (List.mem_of_getElem? (i := 29) rfl)) (by decide) (rm2 l Z a0 hw [] w_LONG_LONG w_UNSIGNED_LONG_LONG (64 : Int32) (1 : Int32) (64 : Int32) (0 : Int32) w_BOOL w_SIGNED_CHAR w_UNSIGNED_CHAR w_SHORT w_UNSIGNED_SHORT w_INT w_UNSIGNED_INT w_LONG_LONG w_UNSIGNED_LONG_LONG h10 I (((((((((((E_w_LONG_LONG.ext O0.2).ext E1).wr W2).wr W3).wr W4).wr W5).wr W6).wr W7).wr W8).wr W9).wr W10) (((((((((((F_w_LONG_LONG_width.ext O0.2).ext E1).other W2 (Or.inl ne_w_LONG_LONG_b1)).other W3 (Or.inl ne_w_LONG_LONG_b1)).other W4 (Or.inl ne_w_LONG_LONG_b1)).other W5 (Or.inl ne_w_LONG_LONG_b1)).other W6 (Or.inl ne_w_LONG_LONG_b1)).other W7 (Or.inl ne_w_LONG_LONG_b1)).other W8 (Or.inl ne_w_LONG_LONG_b1)).other W9 (Or.inl ne_w_LONG_LONG_b1)).other W10 (Or.inl ne_w_LONG_LONG_b1)) (((((((((((F_w_LONG_LONG_signed.ext O0.2).ext E1).other W2 (Or.inl ne_w_LONG_LONG_b1)).other W3 (Or.inl ne_w_LONG_LONG_b1)).other W4 (Or.inl ne_w_LONG_LONG_b1)).other W5 (Or.inl ne_w_LONG_LONG_b1)).other W6 (Or.inl ne_w_LONG_LONG_b1)).other W7 (Or.inl ne_w_LONG_LONG_b1)).other W8 (Or.inl ne_w_LONG_LONG_b1)).other W9 (Or.inl ne_w_LONG_LONG_b1)).other W10 (Or.inl ne_w_LONG_LONG_b1)) (((((((((((E_w_UNSIGNED_LONG_LONG.ext O0.2).ext E1).wr W2).wr W3).wr W4).wr W5).wr W6).wr W7).wr W8).wr W9).wr W10) (((((((((((F_w_UNSIGNED_LONG_LONG_width.ext O0.2).ext E1).other W2 (Or.inl ne_w_UNSIGNED_LONG_LONG_b1)).other W3 (Or.inl ne_w_UNSIGNED_LONG_LONG_b1)).other W4 (Or.inl ne_w_UNSIGNED_LONG_LONG_b1)).other W5 (Or.inl ne_w_UNSIGNED_LONG_LONG_b1)).other W6 (Or.inl ne_w_UNSIGNED_LONG_LONG_b1)).other W7 (Or.inl ne_w_UNSIGNED_LONG_LONG_b1)).other W8 (Or.inl ne_w_UNSIGNED_LONG_LONG_b1)).other W9 (Or.inl ne_w_UNSIGNED_LONG_LONG_b1)).other W10 (Or.inl ne_w_UNSIGNED_LONG_LONG_b1)) (((((((((((F_w_UNSIGNED_LONG_LONG_signed.ext O0.2).ext E1).other W2 (Or.inl ne_w_UNSIGNED_LONG_LONG_b1)).other W3 (Or.inl ne_w_UNSIGNED_LONG_LONG_b1)).other W4 (Or.inl ne_w_UNSIGNED_LONG_LONG_b1)).other W5 (Or.inl ne_w_UNSIGNED_LONG_LONG_b1)).other W6 (Or.inl ne_w_UNSIGNED_LONG_LONG_b1)).other W7 (Or.inl ne_w_UNSIGNED_LONG_LONG_b1)).other W8 (Or.inl ne_w_UNSIGNED_LONG_LONG_b1)).other W9 (Or.inl ne_w_UNSIGNED_LONG_LONG_b1)).other W10 (Or.inl ne_w_UNSIGNED_LONG_LONG_b1)) (by decide) (by decide)) at_113 rfl (lenOf own_pd2 rfl) rfl rfl rfl (by decide) (by decide) rfl rfl (by decide) (by decide) (own_kv fun v514 h514 q514 => ?_)
      obtain ⟨rfl, e514⟩ := q514
      rw [e514]
      rw [show own_com w_INT w_LONG_LONG (64 : Int32) (1 : Int32) w_UNSIGNED_LONG_LONG (64 : Int32) (0 : Int32) = w_UNSIGNED_LONG_LONG from by simp [own_com]]
      refine own_aload 118 rfl at_116 rfl rfl ?_
      refine own_acmpNo 121 rfl at_118 rfl rfl (own_teq (rfl : ((.ref w_UNSIGNED_LONG_LONG) : Value) = (.ref w_UNSIGNED_LONG_LONG))).2 ?_
      refine own_iconst 122 rfl (1 : Int32) at_121 rfl ?_
      refine own_goto 126 at_122 (by decide) (by decide) ?_
      refine own_retN rfl (by simp) at_126 (by decide) (by decide) ?_
      exact ⟨_, rfl, rfl⟩
  · have hin_k := (rfl : (8 : Int) = 8)
    have hr_j : j = (0 : Int32) ∨ j = (1 : Int32) ∨ j = (2 : Int32) ∨ j = (3 : Int32) ∨ j = (4 : Int32) ∨ j = (5 : Int32) ∨ j = (6 : Int32) ∨ j = (7 : Int32) ∨ j = (8 : Int32) := by
      have hrz : j.toInt = 0 ∨ j.toInt = 1 ∨ j.toInt = 2 ∨ j.toInt = 3 ∨ j.toInt = 4 ∨ j.toInt = 5 ∨ j.toInt = 6 ∨ j.toInt = 7 ∨ j.toInt = 8 := by omega
      rcases hrz with q | q | q | q | q | q | q | q | q
      · exact Or.inl (own_eq' q)
      · exact Or.inr (Or.inl (own_eq' q))
      · exact Or.inr (Or.inr (Or.inl (own_eq' q)))
      · exact Or.inr (Or.inr (Or.inr (Or.inl (own_eq' q))))
      · exact Or.inr (Or.inr (Or.inr (Or.inr (Or.inl (own_eq' q)))))
      · exact Or.inr (Or.inr (Or.inr (Or.inr (Or.inr (Or.inl (own_eq' q))))))
      · exact Or.inr (Or.inr (Or.inr (Or.inr (Or.inr (Or.inr (Or.inl (own_eq' q)))))))
      · exact Or.inr (Or.inr (Or.inr (Or.inr (Or.inr (Or.inr (Or.inr (Or.inl (own_eq' q))))))))
      · exact Or.inr (Or.inr (Or.inr (Or.inr (Or.inr (Or.inr (Or.inr (Or.inr (own_eq' q))))))))
    rcases hr_j with rfl | rfl | rfl | rfl | rfl | rfl | rfl | rfl | rfl
    · have hin_j := (rfl : (0 : Int) = 0)
      refine own_iloadN 81 rfl at_80 rfl ?_
      refine own_iconst 82 rfl (5 : Int32) at_81 rfl ?_
      refine own_callS 85 rfl 1 9 0 [(.int (8 : Int32)), (.int (5 : Int32))] [] (y := (⟨"java/lang/Math", "max", "(II)I"⟩ : MethodName)) (hw _ (List.mem_of_getElem? (i := 23) rfl)) (hw _ (List.mem_of_getElem? (i := 24) rfl)) (hw _ (List.mem_of_getElem? (i := 25) rfl)) (hw _ (List.mem_of_getElem? (i := 26) rfl)) (by decide) (rm1 l Z a0 hw [] (8 : Int32) (5 : Int32)  h10 ) at_82 rfl (lenOf own_pd1 rfl) rfl rfl rfl (by decide) (by decide) rfl rfl (by decide) (by decide) (own_kv fun v515 h515 q515 => ?_)
      obtain ⟨rfl, e515⟩ := q515
      rw [e515]
      rw [show (if (8 : Int32) < (5 : Int32) then (5 : Int32) else (8 : Int32)) = (8 : Int32) from by decide]
      refine own_istore 87 rfl #[.val (.int p1), .val (.int p2), .val (.ref b1), .val (.int (8 : Int32)), .val (.int (0 : Int32)), .val (.int (8 : Int32)), .unset, .unset] at_85 rfl ?_
      refine own_iload 89 rfl at_87 rfl ?_
      refine own_iconst 90 rfl (5 : Int32) at_89 rfl ?_
      refine own_callS 93 rfl 1 9 0 [(.int (0 : Int32)), (.int (5 : Int32))] [] (y := (⟨"java/lang/Math", "max", "(II)I"⟩ : MethodName)) (hw _ (List.mem_of_getElem? (i := 23) rfl)) (hw _ (List.mem_of_getElem? (i := 24) rfl)) (hw _ (List.mem_of_getElem? (i := 25) rfl)) (hw _ (List.mem_of_getElem? (i := 26) rfl)) (by decide) (rm1 l Z a0 hw [] (0 : Int32) (5 : Int32)  h10 ) at_90 rfl (lenOf own_pd1 rfl) rfl rfl rfl (by decide) (by decide) rfl rfl (by decide) (by decide) (own_kv fun v516 h516 q516 => ?_)
      obtain ⟨rfl, e516⟩ := q516
      rw [e516]
      rw [show (if (0 : Int32) < (5 : Int32) then (5 : Int32) else (0 : Int32)) = (5 : Int32) from by decide]
      refine own_istore 95 rfl #[.val (.int p1), .val (.int p2), .val (.ref b1), .val (.int (8 : Int32)), .val (.int (0 : Int32)), .val (.int (8 : Int32)), .val (.int (5 : Int32)), .unset] at_93 rfl ?_
      refine own_aloadN 96 rfl at_95 rfl rfl ?_
      refine own_iload 98 rfl at_96 rfl ?_
      refine own_iload 100 rfl at_98 rfl ?_
      refine own_callS 103 rfl 1 9 1 [(.int (8 : Int32)), (.int (5 : Int32))] [(.ref b1)] (y := (⟨"java/lang/Math", "max", "(II)I"⟩ : MethodName)) (hw _ (List.mem_of_getElem? (i := 23) rfl)) (hw _ (List.mem_of_getElem? (i := 24) rfl)) (hw _ (List.mem_of_getElem? (i := 25) rfl)) (hw _ (List.mem_of_getElem? (i := 26) rfl)) (by decide) (rm1 l Z a0 hw [] (8 : Int32) (5 : Int32)  h10 ) at_100 rfl (lenOf own_pd1 rfl) rfl rfl rfl (by decide) (by decide) rfl rfl (by decide) (by decide) (own_kv fun v517 h517 q517 => ?_)
      obtain ⟨rfl, e517⟩ := q517
      rw [e517]
      rw [show (if (8 : Int32) < (5 : Int32) then (5 : Int32) else (8 : Int32)) = (8 : Int32) from by decide]
      obtain ⟨c518, A518, q518, S518, N518, H518, G518⟩ := id V10
      refine own_aaload 104 rfl A518 rfl (inb_of S518 ⟨by decide, by decide⟩) (Has.at H518 (inb_of S518 ⟨by decide, by decide⟩) rfl) at_103 ?_
      refine own_astore 106 rfl #[.val (.int p1), .val (.int p2), .val (.ref b1), .val (.int (8 : Int32)), .val (.int (0 : Int32)), .val (.int (8 : Int32)), .val (.int (5 : Int32)), .val (.ref w_UNSIGNED_LONG_LONG)] at_104 rfl rfl ?_
      refine own_aloadN 107 rfl at_106 rfl rfl ?_
      refine own_iloadN 108 rfl at_107 rfl ?_
      obtain ⟨c519, A519, q519, S519, N519, H519, G519⟩ := id V10
      refine own_aaload 109 rfl A519 rfl (inb_of S519 ⟨by decide, by decide⟩) (Has.at H519 (inb_of S519 ⟨by decide, by decide⟩) rfl) at_108 ?_
      refine own_aloadN 110 rfl at_109 rfl rfl ?_
      refine own_iload 112 rfl at_110 rfl ?_
      obtain ⟨c520, A520, q520, S520, N520, H520, G520⟩ := id V10
      refine own_aaload 113 rfl A520 rfl (inb_of S520 ⟨by decide, by decide⟩) (Has.at H520 (inb_of S520 ⟨by decide, by decide⟩) rfl) at_112 ?_
      refine own_callS 116 rfl 1 9 0 [(.ref w_UNSIGNED_LONG_LONG), (.ref w_BOOL)] [] (y := (⟨"com/example/counterpath/counterpath/cfa/Type", "common", "(Lcom/example/counterpath/counterpath/cfa/Type;Lcom/example/counterpath/counterpath/cfa/Type;)Lcom/example/counterpath/counterpath/cfa/Type;"⟩ : MethodName)) (hw _ (List.mem_of_getElem? (i := 27) rfl)) (hw _ (List.mem_of_getElem? (i := 28) rfl)) (hw _ (List.mem_of_getElem? (i := 3) rfl)) (hw _ (List.mem_of_getElem? (i := 29) rfl)) (by decide) (rm2 l Z a0 hw [] w_UNSIGNED_LONG_LONG w_BOOL (64 : Int32) (0 : Int32) (1 : Int32) (0 : Int32) w_BOOL w_SIGNED_CHAR w_UNSIGNED_CHAR w_SHORT w_UNSIGNED_SHORT w_INT w_UNSIGNED_INT w_LONG_LONG w_UNSIGNED_LONG_LONG h10 I (((((((((((E_w_UNSIGNED_LONG_LONG.ext O0.2).ext E1).wr W2).wr W3).wr W4).wr W5).wr W6).wr W7).wr W8).wr W9).wr W10) (((((((((((F_w_UNSIGNED_LONG_LONG_width.ext O0.2).ext E1).other W2 (Or.inl ne_w_UNSIGNED_LONG_LONG_b1)).other W3 (Or.inl ne_w_UNSIGNED_LONG_LONG_b1)).other W4 (Or.inl ne_w_UNSIGNED_LONG_LONG_b1)).other W5 (Or.inl ne_w_UNSIGNED_LONG_LONG_b1)).other W6 (Or.inl ne_w_UNSIGNED_LONG_LONG_b1)).other W7 (Or.inl ne_w_UNSIGNED_LONG_LONG_b1)).other W8 (Or.inl ne_w_UNSIGNED_LONG_LONG_b1)).other W9 (Or.inl ne_w_UNSIGNED_LONG_LONG_b1)).other W10 (Or.inl ne_w_UNSIGNED_LONG_LONG_b1)) (((((((((((F_w_UNSIGNED_LONG_LONG_signed.ext O0.2).ext E1).other W2 (Or.inl ne_w_UNSIGNED_LONG_LONG_b1)).other W3 (Or.inl ne_w_UNSIGNED_LONG_LONG_b1)).other W4 (Or.inl ne_w_UNSIGNED_LONG_LONG_b1)).other W5 (Or.inl ne_w_UNSIGNED_LONG_LONG_b1)).other W6 (Or.inl ne_w_UNSIGNED_LONG_LONG_b1)).other W7 (Or.inl ne_w_UNSIGNED_LONG_LONG_b1)).other W8 (Or.inl ne_w_UNSIGNED_LONG_LONG_b1)).other W9 (Or.inl ne_w_UNSIGNED_LONG_LONG_b1)).other W10 (Or.inl ne_w_UNSIGNED_LONG_LONG_b1)) (((((((((((E_w_BOOL.ext O0.2).ext E1).wr W2).wr W3).wr W4).wr W5).wr W6).wr W7).wr W8).wr W9).wr W10) (((((((((((F_w_BOOL_width.ext O0.2).ext E1).other W2 (Or.inl ne_w_BOOL_b1)).other W3 (Or.inl ne_w_BOOL_b1)).other W4 (Or.inl ne_w_BOOL_b1)).other W5 (Or.inl ne_w_BOOL_b1)).other W6 (Or.inl ne_w_BOOL_b1)).other W7 (Or.inl ne_w_BOOL_b1)).other W8 (Or.inl ne_w_BOOL_b1)).other W9 (Or.inl ne_w_BOOL_b1)).other W10 (Or.inl ne_w_BOOL_b1)) (((((((((((F_w_BOOL_signed.ext O0.2).ext E1).other W2 (Or.inl ne_w_BOOL_b1)).other W3 (Or.inl ne_w_BOOL_b1)).other W4 (Or.inl ne_w_BOOL_b1)).other W5 (Or.inl ne_w_BOOL_b1)).other W6 (Or.inl ne_w_BOOL_b1)).other W7 (Or.inl ne_w_BOOL_b1)).other W8 (Or.inl ne_w_BOOL_b1)).other W9 (Or.inl ne_w_BOOL_b1)).other W10 (Or.inl ne_w_BOOL_b1)) (by decide) (by decide)) at_113 rfl (lenOf own_pd2 rfl) rfl rfl rfl (by decide) (by decide) rfl rfl (by decide) (by decide) (own_kv fun v521 h521 q521 => ?_)
      obtain ⟨rfl, e521⟩ := q521
      rw [e521]
      rw [show own_com w_INT w_UNSIGNED_LONG_LONG (64 : Int32) (0 : Int32) w_BOOL (1 : Int32) (0 : Int32) = w_UNSIGNED_LONG_LONG from by simp [own_com]]
      refine own_aload 118 rfl at_116 rfl rfl ?_
      refine own_acmpNo 121 rfl at_118 rfl rfl (own_teq (rfl : ((.ref w_UNSIGNED_LONG_LONG) : Value) = (.ref w_UNSIGNED_LONG_LONG))).2 ?_
      refine own_iconst 122 rfl (1 : Int32) at_121 rfl ?_
      refine own_goto 126 at_122 (by decide) (by decide) ?_
      refine own_retN rfl (by simp) at_126 (by decide) (by decide) ?_
      exact ⟨_, rfl, rfl⟩
    · have hin_j := (rfl : (1 : Int) = 1)
      refine own_iloadN 81 rfl at_80 rfl ?_
      refine own_iconst 82 rfl (5 : Int32) at_81 rfl ?_
      refine own_callS 85 rfl 1 9 0 [(.int (8 : Int32)), (.int (5 : Int32))] [] (y := (⟨"java/lang/Math", "max", "(II)I"⟩ : MethodName)) (hw _ (List.mem_of_getElem? (i := 23) rfl)) (hw _ (List.mem_of_getElem? (i := 24) rfl)) (hw _ (List.mem_of_getElem? (i := 25) rfl)) (hw _ (List.mem_of_getElem? (i := 26) rfl)) (by decide) (rm1 l Z a0 hw [] (8 : Int32) (5 : Int32)  h10 ) at_82 rfl (lenOf own_pd1 rfl) rfl rfl rfl (by decide) (by decide) rfl rfl (by decide) (by decide) (own_kv fun v522 h522 q522 => ?_)
      obtain ⟨rfl, e522⟩ := q522
      rw [e522]
      rw [show (if (8 : Int32) < (5 : Int32) then (5 : Int32) else (8 : Int32)) = (8 : Int32) from by decide]
      refine own_istore 87 rfl #[.val (.int p1), .val (.int p2), .val (.ref b1), .val (.int (8 : Int32)), .val (.int (1 : Int32)), .val (.int (8 : Int32)), .unset, .unset] at_85 rfl ?_
      refine own_iload 89 rfl at_87 rfl ?_
      refine own_iconst 90 rfl (5 : Int32) at_89 rfl ?_
      refine own_callS 93 rfl 1 9 0 [(.int (1 : Int32)), (.int (5 : Int32))] [] (y := (⟨"java/lang/Math", "max", "(II)I"⟩ : MethodName)) (hw _ (List.mem_of_getElem? (i := 23) rfl)) (hw _ (List.mem_of_getElem? (i := 24) rfl)) (hw _ (List.mem_of_getElem? (i := 25) rfl)) (hw _ (List.mem_of_getElem? (i := 26) rfl)) (by decide) (rm1 l Z a0 hw [] (1 : Int32) (5 : Int32)  h10 ) at_90 rfl (lenOf own_pd1 rfl) rfl rfl rfl (by decide) (by decide) rfl rfl (by decide) (by decide) (own_kv fun v523 h523 q523 => ?_)
      obtain ⟨rfl, e523⟩ := q523
      rw [e523]
      rw [show (if (1 : Int32) < (5 : Int32) then (5 : Int32) else (1 : Int32)) = (5 : Int32) from by decide]
      refine own_istore 95 rfl #[.val (.int p1), .val (.int p2), .val (.ref b1), .val (.int (8 : Int32)), .val (.int (1 : Int32)), .val (.int (8 : Int32)), .val (.int (5 : Int32)), .unset] at_93 rfl ?_
      refine own_aloadN 96 rfl at_95 rfl rfl ?_
      refine own_iload 98 rfl at_96 rfl ?_
      refine own_iload 100 rfl at_98 rfl ?_
      refine own_callS 103 rfl 1 9 1 [(.int (8 : Int32)), (.int (5 : Int32))] [(.ref b1)] (y := (⟨"java/lang/Math", "max", "(II)I"⟩ : MethodName)) (hw _ (List.mem_of_getElem? (i := 23) rfl)) (hw _ (List.mem_of_getElem? (i := 24) rfl)) (hw _ (List.mem_of_getElem? (i := 25) rfl)) (hw _ (List.mem_of_getElem? (i := 26) rfl)) (by decide) (rm1 l Z a0 hw [] (8 : Int32) (5 : Int32)  h10 ) at_100 rfl (lenOf own_pd1 rfl) rfl rfl rfl (by decide) (by decide) rfl rfl (by decide) (by decide) (own_kv fun v524 h524 q524 => ?_)
      obtain ⟨rfl, e524⟩ := q524
      rw [e524]
      rw [show (if (8 : Int32) < (5 : Int32) then (5 : Int32) else (8 : Int32)) = (8 : Int32) from by decide]
      obtain ⟨c525, A525, q525, S525, N525, H525, G525⟩ := id V10
      refine own_aaload 104 rfl A525 rfl (inb_of S525 ⟨by decide, by decide⟩) (Has.at H525 (inb_of S525 ⟨by decide, by decide⟩) rfl) at_103 ?_
      refine own_astore 106 rfl #[.val (.int p1), .val (.int p2), .val (.ref b1), .val (.int (8 : Int32)), .val (.int (1 : Int32)), .val (.int (8 : Int32)), .val (.int (5 : Int32)), .val (.ref w_UNSIGNED_LONG_LONG)] at_104 rfl rfl ?_
      refine own_aloadN 107 rfl at_106 rfl rfl ?_
      refine own_iloadN 108 rfl at_107 rfl ?_
      obtain ⟨c526, A526, q526, S526, N526, H526, G526⟩ := id V10
      refine own_aaload 109 rfl A526 rfl (inb_of S526 ⟨by decide, by decide⟩) (Has.at H526 (inb_of S526 ⟨by decide, by decide⟩) rfl) at_108 ?_
      refine own_aloadN 110 rfl at_109 rfl rfl ?_
      refine own_iload 112 rfl at_110 rfl ?_
      obtain ⟨c527, A527, q527, S527, N527, H527, G527⟩ := id V10
      refine own_aaload 113 rfl A527 rfl (inb_of S527 ⟨by decide, by decide⟩) (Has.at H527 (inb_of S527 ⟨by decide, by decide⟩) rfl) at_112 ?_
      refine own_callS 116 rfl 1 9 0 [(.ref w_UNSIGNED_LONG_LONG), (.ref w_SIGNED_CHAR)] [] (y := (⟨"com/example/counterpath/counterpath/cfa/Type", "common", "(Lcom/example/counterpath/counterpath/cfa/Type;Lcom/example/counterpath/counterpath/cfa/Type;)Lcom/example/counterpath/counterpath/cfa/Type;"⟩ : MethodName)) (hw _ (List.mem_of_getElem? (i := 27) rfl)) (hw _ (List.mem_of_getElem? (i := 28) rfl)) (hw _ (List.mem_of_getElem? (i := 3) rfl)) (hw _ (List.mem_of_getElem? (i := 29) rfl)) (by decide) (rm2 l Z a0 hw [] w_UNSIGNED_LONG_LONG w_SIGNED_CHAR (64 : Int32) (0 : Int32) (8 : Int32) (1 : Int32) w_BOOL w_SIGNED_CHAR w_UNSIGNED_CHAR w_SHORT w_UNSIGNED_SHORT w_INT w_UNSIGNED_INT w_LONG_LONG w_UNSIGNED_LONG_LONG h10 I (((((((((((E_w_UNSIGNED_LONG_LONG.ext O0.2).ext E1).wr W2).wr W3).wr W4).wr W5).wr W6).wr W7).wr W8).wr W9).wr W10) (((((((((((F_w_UNSIGNED_LONG_LONG_width.ext O0.2).ext E1).other W2 (Or.inl ne_w_UNSIGNED_LONG_LONG_b1)).other W3 (Or.inl ne_w_UNSIGNED_LONG_LONG_b1)).other W4 (Or.inl ne_w_UNSIGNED_LONG_LONG_b1)).other W5 (Or.inl ne_w_UNSIGNED_LONG_LONG_b1)).other W6 (Or.inl ne_w_UNSIGNED_LONG_LONG_b1)).other W7 (Or.inl ne_w_UNSIGNED_LONG_LONG_b1)).other W8 (Or.inl ne_w_UNSIGNED_LONG_LONG_b1)).other W9 (Or.inl ne_w_UNSIGNED_LONG_LONG_b1)).other W10 (Or.inl ne_w_UNSIGNED_LONG_LONG_b1)) (((((((((((F_w_UNSIGNED_LONG_LONG_signed.ext O0.2).ext E1).other W2 (Or.inl ne_w_UNSIGNED_LONG_LONG_b1)).other W3 (Or.inl ne_w_UNSIGNED_LONG_LONG_b1)).other W4 (Or.inl ne_w_UNSIGNED_LONG_LONG_b1)).other W5 (Or.inl ne_w_UNSIGNED_LONG_LONG_b1)).other W6 (Or.inl ne_w_UNSIGNED_LONG_LONG_b1)).other W7 (Or.inl ne_w_UNSIGNED_LONG_LONG_b1)).other W8 (Or.inl ne_w_UNSIGNED_LONG_LONG_b1)).other W9 (Or.inl ne_w_UNSIGNED_LONG_LONG_b1)).other W10 (Or.inl ne_w_UNSIGNED_LONG_LONG_b1)) (((((((((((E_w_SIGNED_CHAR.ext O0.2).ext E1).wr W2).wr W3).wr W4).wr W5).wr W6).wr W7).wr W8).wr W9).wr W10) (((((((((((F_w_SIGNED_CHAR_width.ext O0.2).ext E1).other W2 (Or.inl ne_w_SIGNED_CHAR_b1)).other W3 (Or.inl ne_w_SIGNED_CHAR_b1)).other W4 (Or.inl ne_w_SIGNED_CHAR_b1)).other W5 (Or.inl ne_w_SIGNED_CHAR_b1)).other W6 (Or.inl ne_w_SIGNED_CHAR_b1)).other W7 (Or.inl ne_w_SIGNED_CHAR_b1)).other W8 (Or.inl ne_w_SIGNED_CHAR_b1)).other W9 (Or.inl ne_w_SIGNED_CHAR_b1)).other W10 (Or.inl ne_w_SIGNED_CHAR_b1)) (((((((((((F_w_SIGNED_CHAR_signed.ext O0.2).ext E1).other W2 (Or.inl ne_w_SIGNED_CHAR_b1)).other W3 (Or.inl ne_w_SIGNED_CHAR_b1)).other W4 (Or.inl ne_w_SIGNED_CHAR_b1)).other W5 (Or.inl ne_w_SIGNED_CHAR_b1)).other W6 (Or.inl ne_w_SIGNED_CHAR_b1)).other W7 (Or.inl ne_w_SIGNED_CHAR_b1)).other W8 (Or.inl ne_w_SIGNED_CHAR_b1)).other W9 (Or.inl ne_w_SIGNED_CHAR_b1)).other W10 (Or.inl ne_w_SIGNED_CHAR_b1)) (by decide) (by decide)) at_113 rfl (lenOf own_pd2 rfl) rfl rfl rfl (by decide) (by decide) rfl rfl (by decide) (by decide) (own_kv fun v528 h528 q528 => ?_)
      obtain ⟨rfl, e528⟩ := q528
      rw [e528]
      rw [show own_com w_INT w_UNSIGNED_LONG_LONG (64 : Int32) (0 : Int32) w_SIGNED_CHAR (8 : Int32) (1 : Int32) = w_UNSIGNED_LONG_LONG from by simp [own_com]]
      refine own_aload 118 rfl at_116 rfl rfl ?_
      refine own_acmpNo 121 rfl at_118 rfl rfl (own_teq (rfl : ((.ref w_UNSIGNED_LONG_LONG) : Value) = (.ref w_UNSIGNED_LONG_LONG))).2 ?_
      refine own_iconst 122 rfl (1 : Int32) at_121 rfl ?_
      refine own_goto 126 at_122 (by decide) (by decide) ?_
      refine own_retN rfl (by simp) at_126 (by decide) (by decide) ?_
      exact ⟨_, rfl, rfl⟩
    · have hin_j := (rfl : (2 : Int) = 2)
      refine own_iloadN 81 rfl at_80 rfl ?_
      refine own_iconst 82 rfl (5 : Int32) at_81 rfl ?_
      refine own_callS 85 rfl 1 9 0 [(.int (8 : Int32)), (.int (5 : Int32))] [] (y := (⟨"java/lang/Math", "max", "(II)I"⟩ : MethodName)) (hw _ (List.mem_of_getElem? (i := 23) rfl)) (hw _ (List.mem_of_getElem? (i := 24) rfl)) (hw _ (List.mem_of_getElem? (i := 25) rfl)) (hw _ (List.mem_of_getElem? (i := 26) rfl)) (by decide) (rm1 l Z a0 hw [] (8 : Int32) (5 : Int32)  h10 ) at_82 rfl (lenOf own_pd1 rfl) rfl rfl rfl (by decide) (by decide) rfl rfl (by decide) (by decide) (own_kv fun v529 h529 q529 => ?_)
      obtain ⟨rfl, e529⟩ := q529
      rw [e529]
      rw [show (if (8 : Int32) < (5 : Int32) then (5 : Int32) else (8 : Int32)) = (8 : Int32) from by decide]
      refine own_istore 87 rfl #[.val (.int p1), .val (.int p2), .val (.ref b1), .val (.int (8 : Int32)), .val (.int (2 : Int32)), .val (.int (8 : Int32)), .unset, .unset] at_85 rfl ?_
      refine own_iload 89 rfl at_87 rfl ?_
      refine own_iconst 90 rfl (5 : Int32) at_89 rfl ?_
      refine own_callS 93 rfl 1 9 0 [(.int (2 : Int32)), (.int (5 : Int32))] [] (y := (⟨"java/lang/Math", "max", "(II)I"⟩ : MethodName)) (hw _ (List.mem_of_getElem? (i := 23) rfl)) (hw _ (List.mem_of_getElem? (i := 24) rfl)) (hw _ (List.mem_of_getElem? (i := 25) rfl)) (hw _ (List.mem_of_getElem? (i := 26) rfl)) (by decide) (rm1 l Z a0 hw [] (2 : Int32) (5 : Int32)  h10 ) at_90 rfl (lenOf own_pd1 rfl) rfl rfl rfl (by decide) (by decide) rfl rfl (by decide) (by decide) (own_kv fun v530 h530 q530 => ?_)
      obtain ⟨rfl, e530⟩ := q530
      rw [e530]
      rw [show (if (2 : Int32) < (5 : Int32) then (5 : Int32) else (2 : Int32)) = (5 : Int32) from by decide]
      refine own_istore 95 rfl #[.val (.int p1), .val (.int p2), .val (.ref b1), .val (.int (8 : Int32)), .val (.int (2 : Int32)), .val (.int (8 : Int32)), .val (.int (5 : Int32)), .unset] at_93 rfl ?_
      refine own_aloadN 96 rfl at_95 rfl rfl ?_
      refine own_iload 98 rfl at_96 rfl ?_
      refine own_iload 100 rfl at_98 rfl ?_
      refine own_callS 103 rfl 1 9 1 [(.int (8 : Int32)), (.int (5 : Int32))] [(.ref b1)] (y := (⟨"java/lang/Math", "max", "(II)I"⟩ : MethodName)) (hw _ (List.mem_of_getElem? (i := 23) rfl)) (hw _ (List.mem_of_getElem? (i := 24) rfl)) (hw _ (List.mem_of_getElem? (i := 25) rfl)) (hw _ (List.mem_of_getElem? (i := 26) rfl)) (by decide) (rm1 l Z a0 hw [] (8 : Int32) (5 : Int32)  h10 ) at_100 rfl (lenOf own_pd1 rfl) rfl rfl rfl (by decide) (by decide) rfl rfl (by decide) (by decide) (own_kv fun v531 h531 q531 => ?_)
      obtain ⟨rfl, e531⟩ := q531
      rw [e531]
      rw [show (if (8 : Int32) < (5 : Int32) then (5 : Int32) else (8 : Int32)) = (8 : Int32) from by decide]
      obtain ⟨c532, A532, q532, S532, N532, H532, G532⟩ := id V10
      refine own_aaload 104 rfl A532 rfl (inb_of S532 ⟨by decide, by decide⟩) (Has.at H532 (inb_of S532 ⟨by decide, by decide⟩) rfl) at_103 ?_
      refine own_astore 106 rfl #[.val (.int p1), .val (.int p2), .val (.ref b1), .val (.int (8 : Int32)), .val (.int (2 : Int32)), .val (.int (8 : Int32)), .val (.int (5 : Int32)), .val (.ref w_UNSIGNED_LONG_LONG)] at_104 rfl rfl ?_
      refine own_aloadN 107 rfl at_106 rfl rfl ?_
      refine own_iloadN 108 rfl at_107 rfl ?_
      obtain ⟨c533, A533, q533, S533, N533, H533, G533⟩ := id V10
      refine own_aaload 109 rfl A533 rfl (inb_of S533 ⟨by decide, by decide⟩) (Has.at H533 (inb_of S533 ⟨by decide, by decide⟩) rfl) at_108 ?_
      refine own_aloadN 110 rfl at_109 rfl rfl ?_
      refine own_iload 112 rfl at_110 rfl ?_
      obtain ⟨c534, A534, q534, S534, N534, H534, G534⟩ := id V10
      refine own_aaload 113 rfl A534 rfl (inb_of S534 ⟨by decide, by decide⟩) (Has.at H534 (inb_of S534 ⟨by decide, by decide⟩) rfl) at_112 ?_
      refine own_callS 116 rfl 1 9 0 [(.ref w_UNSIGNED_LONG_LONG), (.ref w_UNSIGNED_CHAR)] [] (y := (⟨"com/example/counterpath/counterpath/cfa/Type", "common", "(Lcom/example/counterpath/counterpath/cfa/Type;Lcom/example/counterpath/counterpath/cfa/Type;)Lcom/example/counterpath/counterpath/cfa/Type;"⟩ : MethodName)) (hw _ (List.mem_of_getElem? (i := 27) rfl)) (hw _ (List.mem_of_getElem? (i := 28) rfl)) (hw _ (List.mem_of_getElem? (i := 3) rfl)) (hw _ (List.mem_of_getElem? (i := 29) rfl)) (by decide) (rm2 l Z a0 hw [] w_UNSIGNED_LONG_LONG w_UNSIGNED_CHAR (64 : Int32) (0 : Int32) (8 : Int32) (0 : Int32) w_BOOL w_SIGNED_CHAR w_UNSIGNED_CHAR w_SHORT w_UNSIGNED_SHORT w_INT w_UNSIGNED_INT w_LONG_LONG w_UNSIGNED_LONG_LONG h10 I (((((((((((E_w_UNSIGNED_LONG_LONG.ext O0.2).ext E1).wr W2).wr W3).wr W4).wr W5).wr W6).wr W7).wr W8).wr W9).wr W10) (((((((((((F_w_UNSIGNED_LONG_LONG_width.ext O0.2).ext E1).other W2 (Or.inl ne_w_UNSIGNED_LONG_LONG_b1)).other W3 (Or.inl ne_w_UNSIGNED_LONG_LONG_b1)).other W4 (Or.inl ne_w_UNSIGNED_LONG_LONG_b1)).other W5 (Or.inl ne_w_UNSIGNED_LONG_LONG_b1)).other W6 (Or.inl ne_w_UNSIGNED_LONG_LONG_b1)).other W7 (Or.inl ne_w_UNSIGNED_LONG_LONG_b1)).other W8 (Or.inl ne_w_UNSIGNED_LONG_LONG_b1)).other W9 (Or.inl ne_w_UNSIGNED_LONG_LONG_b1)).other W10 (Or.inl ne_w_UNSIGNED_LONG_LONG_b1)) (((((((((((F_w_UNSIGNED_LONG_LONG_signed.ext O0.2).ext E1).other W2 (Or.inl ne_w_UNSIGNED_LONG_LONG_b1)).other W3 (Or.inl ne_w_UNSIGNED_LONG_LONG_b1)).other W4 (Or.inl ne_w_UNSIGNED_LONG_LONG_b1)).other W5 (Or.inl ne_w_UNSIGNED_LONG_LONG_b1)).other W6 (Or.inl ne_w_UNSIGNED_LONG_LONG_b1)).other W7 (Or.inl ne_w_UNSIGNED_LONG_LONG_b1)).other W8 (Or.inl ne_w_UNSIGNED_LONG_LONG_b1)).other W9 (Or.inl ne_w_UNSIGNED_LONG_LONG_b1)).other W10 (Or.inl ne_w_UNSIGNED_LONG_LONG_b1)) (((((((((((E_w_UNSIGNED_CHAR.ext O0.2).ext E1).wr W2).wr W3).wr W4).wr W5).wr W6).wr W7).wr W8).wr W9).wr W10) (((((((((((F_w_UNSIGNED_CHAR_width.ext O0.2).ext E1).other W2 (Or.inl ne_w_UNSIGNED_CHAR_b1)).other W3 (Or.inl ne_w_UNSIGNED_CHAR_b1)).other W4 (Or.inl ne_w_UNSIGNED_CHAR_b1)).other W5 (Or.inl ne_w_UNSIGNED_CHAR_b1)).other W6 (Or.inl ne_w_UNSIGNED_CHAR_b1)).other W7 (Or.inl ne_w_UNSIGNED_CHAR_b1)).other W8 (Or.inl ne_w_UNSIGNED_CHAR_b1)).other W9 (Or.inl ne_w_UNSIGNED_CHAR_b1)).other W10 (Or.inl ne_w_UNSIGNED_CHAR_b1)) (((((((((((F_w_UNSIGNED_CHAR_signed.ext O0.2).ext E1).other W2 (Or.inl ne_w_UNSIGNED_CHAR_b1)).other W3 (Or.inl ne_w_UNSIGNED_CHAR_b1)).other W4 (Or.inl ne_w_UNSIGNED_CHAR_b1)).other W5 (Or.inl ne_w_UNSIGNED_CHAR_b1)).other W6 (Or.inl ne_w_UNSIGNED_CHAR_b1)).other W7 (Or.inl ne_w_UNSIGNED_CHAR_b1)).other W8 (Or.inl ne_w_UNSIGNED_CHAR_b1)).other W9 (Or.inl ne_w_UNSIGNED_CHAR_b1)).other W10 (Or.inl ne_w_UNSIGNED_CHAR_b1)) (by decide) (by decide)) at_113 rfl (lenOf own_pd2 rfl) rfl rfl rfl (by decide) (by decide) rfl rfl (by decide) (by decide) (own_kv fun v535 h535 q535 => ?_)
      obtain ⟨rfl, e535⟩ := q535
      rw [e535]
      rw [show own_com w_INT w_UNSIGNED_LONG_LONG (64 : Int32) (0 : Int32) w_UNSIGNED_CHAR (8 : Int32) (0 : Int32) = w_UNSIGNED_LONG_LONG from by simp [own_com]]
      refine own_aload 118 rfl at_116 rfl rfl ?_
      refine own_acmpNo 121 rfl at_118 rfl rfl (own_teq (rfl : ((.ref w_UNSIGNED_LONG_LONG) : Value) = (.ref w_UNSIGNED_LONG_LONG))).2 ?_
      refine own_iconst 122 rfl (1 : Int32) at_121 rfl ?_
      refine own_goto 126 at_122 (by decide) (by decide) ?_
      refine own_retN rfl (by simp) at_126 (by decide) (by decide) ?_
      exact ⟨_, rfl, rfl⟩
    · have hin_j := (rfl : (3 : Int) = 3)
      refine own_iloadN 81 rfl at_80 rfl ?_
      refine own_iconst 82 rfl (5 : Int32) at_81 rfl ?_
      refine own_callS 85 rfl 1 9 0 [(.int (8 : Int32)), (.int (5 : Int32))] [] (y := (⟨"java/lang/Math", "max", "(II)I"⟩ : MethodName)) (hw _ (List.mem_of_getElem? (i := 23) rfl)) (hw _ (List.mem_of_getElem? (i := 24) rfl)) (hw _ (List.mem_of_getElem? (i := 25) rfl)) (hw _ (List.mem_of_getElem? (i := 26) rfl)) (by decide) (rm1 l Z a0 hw [] (8 : Int32) (5 : Int32)  h10 ) at_82 rfl (lenOf own_pd1 rfl) rfl rfl rfl (by decide) (by decide) rfl rfl (by decide) (by decide) (own_kv fun v536 h536 q536 => ?_)
      obtain ⟨rfl, e536⟩ := q536
      rw [e536]
      rw [show (if (8 : Int32) < (5 : Int32) then (5 : Int32) else (8 : Int32)) = (8 : Int32) from by decide]
      refine own_istore 87 rfl #[.val (.int p1), .val (.int p2), .val (.ref b1), .val (.int (8 : Int32)), .val (.int (3 : Int32)), .val (.int (8 : Int32)), .unset, .unset] at_85 rfl ?_
      refine own_iload 89 rfl at_87 rfl ?_
      refine own_iconst 90 rfl (5 : Int32) at_89 rfl ?_
      refine own_callS 93 rfl 1 9 0 [(.int (3 : Int32)), (.int (5 : Int32))] [] (y := (⟨"java/lang/Math", "max", "(II)I"⟩ : MethodName)) (hw _ (List.mem_of_getElem? (i := 23) rfl)) (hw _ (List.mem_of_getElem? (i := 24) rfl)) (hw _ (List.mem_of_getElem? (i := 25) rfl)) (hw _ (List.mem_of_getElem? (i := 26) rfl)) (by decide) (rm1 l Z a0 hw [] (3 : Int32) (5 : Int32)  h10 ) at_90 rfl (lenOf own_pd1 rfl) rfl rfl rfl (by decide) (by decide) rfl rfl (by decide) (by decide) (own_kv fun v537 h537 q537 => ?_)
      obtain ⟨rfl, e537⟩ := q537
      rw [e537]
      rw [show (if (3 : Int32) < (5 : Int32) then (5 : Int32) else (3 : Int32)) = (5 : Int32) from by decide]
      refine own_istore 95 rfl #[.val (.int p1), .val (.int p2), .val (.ref b1), .val (.int (8 : Int32)), .val (.int (3 : Int32)), .val (.int (8 : Int32)), .val (.int (5 : Int32)), .unset] at_93 rfl ?_
      refine own_aloadN 96 rfl at_95 rfl rfl ?_
      refine own_iload 98 rfl at_96 rfl ?_
      refine own_iload 100 rfl at_98 rfl ?_
      refine own_callS 103 rfl 1 9 1 [(.int (8 : Int32)), (.int (5 : Int32))] [(.ref b1)] (y := (⟨"java/lang/Math", "max", "(II)I"⟩ : MethodName)) (hw _ (List.mem_of_getElem? (i := 23) rfl)) (hw _ (List.mem_of_getElem? (i := 24) rfl)) (hw _ (List.mem_of_getElem? (i := 25) rfl)) (hw _ (List.mem_of_getElem? (i := 26) rfl)) (by decide) (rm1 l Z a0 hw [] (8 : Int32) (5 : Int32)  h10 ) at_100 rfl (lenOf own_pd1 rfl) rfl rfl rfl (by decide) (by decide) rfl rfl (by decide) (by decide) (own_kv fun v538 h538 q538 => ?_)
      obtain ⟨rfl, e538⟩ := q538
      rw [e538]
      rw [show (if (8 : Int32) < (5 : Int32) then (5 : Int32) else (8 : Int32)) = (8 : Int32) from by decide]
      obtain ⟨c539, A539, q539, S539, N539, H539, G539⟩ := id V10
      refine own_aaload 104 rfl A539 rfl (inb_of S539 ⟨by decide, by decide⟩) (Has.at H539 (inb_of S539 ⟨by decide, by decide⟩) rfl) at_103 ?_
      refine own_astore 106 rfl #[.val (.int p1), .val (.int p2), .val (.ref b1), .val (.int (8 : Int32)), .val (.int (3 : Int32)), .val (.int (8 : Int32)), .val (.int (5 : Int32)), .val (.ref w_UNSIGNED_LONG_LONG)] at_104 rfl rfl ?_
      refine own_aloadN 107 rfl at_106 rfl rfl ?_
      refine own_iloadN 108 rfl at_107 rfl ?_
      obtain ⟨c540, A540, q540, S540, N540, H540, G540⟩ := id V10
      refine own_aaload 109 rfl A540 rfl (inb_of S540 ⟨by decide, by decide⟩) (Has.at H540 (inb_of S540 ⟨by decide, by decide⟩) rfl) at_108 ?_
      refine own_aloadN 110 rfl at_109 rfl rfl ?_
      refine own_iload 112 rfl at_110 rfl ?_
      obtain ⟨c541, A541, q541, S541, N541, H541, G541⟩ := id V10
      refine own_aaload 113 rfl A541 rfl (inb_of S541 ⟨by decide, by decide⟩) (Has.at H541 (inb_of S541 ⟨by decide, by decide⟩) rfl) at_112 ?_
      refine own_callS 116 rfl 1 9 0 [(.ref w_UNSIGNED_LONG_LONG), (.ref w_SHORT)] [] (y := (⟨"com/example/counterpath/counterpath/cfa/Type", "common", "(Lcom/example/counterpath/counterpath/cfa/Type;Lcom/example/counterpath/counterpath/cfa/Type;)Lcom/example/counterpath/counterpath/cfa/Type;"⟩ : MethodName)) (hw _ (List.mem_of_getElem? (i := 27) rfl)) (hw _ (List.mem_of_getElem? (i := 28) rfl)) (hw _ (List.mem_of_getElem? (i := 3) rfl)) (hw _ (List.mem_of_getElem? (i := 29) rfl)) (by decide) (rm2 l Z a0 hw [] w_UNSIGNED_LONG_LONG w_SHORT (64 : Int32) (0 : Int32) (16 : Int32) (1 : Int32) w_BOOL w_SIGNED_CHAR w_UNSIGNED_CHAR w_SHORT w_UNSIGNED_SHORT w_INT w_UNSIGNED_INT w_LONG_LONG w_UNSIGNED_LONG_LONG h10 I (((((((((((E_w_UNSIGNED_LONG_LONG.ext O0.2).ext E1).wr W2).wr W3).wr W4).wr W5).wr W6).wr W7).wr W8).wr W9).wr W10) (((((((((((F_w_UNSIGNED_LONG_LONG_width.ext O0.2).ext E1).other W2 (Or.inl ne_w_UNSIGNED_LONG_LONG_b1)).other W3 (Or.inl ne_w_UNSIGNED_LONG_LONG_b1)).other W4 (Or.inl ne_w_UNSIGNED_LONG_LONG_b1)).other W5 (Or.inl ne_w_UNSIGNED_LONG_LONG_b1)).other W6 (Or.inl ne_w_UNSIGNED_LONG_LONG_b1)).other W7 (Or.inl ne_w_UNSIGNED_LONG_LONG_b1)).other W8 (Or.inl ne_w_UNSIGNED_LONG_LONG_b1)).other W9 (Or.inl ne_w_UNSIGNED_LONG_LONG_b1)).other W10 (Or.inl ne_w_UNSIGNED_LONG_LONG_b1)) (((((((((((F_w_UNSIGNED_LONG_LONG_signed.ext O0.2).ext E1).other W2 (Or.inl ne_w_UNSIGNED_LONG_LONG_b1)).other W3 (Or.inl ne_w_UNSIGNED_LONG_LONG_b1)).other W4 (Or.inl ne_w_UNSIGNED_LONG_LONG_b1)).other W5 (Or.inl ne_w_UNSIGNED_LONG_LONG_b1)).other W6 (Or.inl ne_w_UNSIGNED_LONG_LONG_b1)).other W7 (Or.inl ne_w_UNSIGNED_LONG_LONG_b1)).other W8 (Or.inl ne_w_UNSIGNED_LONG_LONG_b1)).other W9 (Or.inl ne_w_UNSIGNED_LONG_LONG_b1)).other W10 (Or.inl ne_w_UNSIGNED_LONG_LONG_b1)) (((((((((((E_w_SHORT.ext O0.2).ext E1).wr W2).wr W3).wr W4).wr W5).wr W6).wr W7).wr W8).wr W9).wr W10) (((((((((((F_w_SHORT_width.ext O0.2).ext E1).other W2 (Or.inl ne_w_SHORT_b1)).other W3 (Or.inl ne_w_SHORT_b1)).other W4 (Or.inl ne_w_SHORT_b1)).other W5 (Or.inl ne_w_SHORT_b1)).other W6 (Or.inl ne_w_SHORT_b1)).other W7 (Or.inl ne_w_SHORT_b1)).other W8 (Or.inl ne_w_SHORT_b1)).other W9 (Or.inl ne_w_SHORT_b1)).other W10 (Or.inl ne_w_SHORT_b1)) (((((((((((F_w_SHORT_signed.ext O0.2).ext E1).other W2 (Or.inl ne_w_SHORT_b1)).other W3 (Or.inl ne_w_SHORT_b1)).other W4 (Or.inl ne_w_SHORT_b1)).other W5 (Or.inl ne_w_SHORT_b1)).other W6 (Or.inl ne_w_SHORT_b1)).other W7 (Or.inl ne_w_SHORT_b1)).other W8 (Or.inl ne_w_SHORT_b1)).other W9 (Or.inl ne_w_SHORT_b1)).other W10 (Or.inl ne_w_SHORT_b1)) (by decide) (by decide)) at_113 rfl (lenOf own_pd2 rfl) rfl rfl rfl (by decide) (by decide) rfl rfl (by decide) (by decide) (own_kv fun v542 h542 q542 => ?_)
      obtain ⟨rfl, e542⟩ := q542
      rw [e542]
      rw [show own_com w_INT w_UNSIGNED_LONG_LONG (64 : Int32) (0 : Int32) w_SHORT (16 : Int32) (1 : Int32) = w_UNSIGNED_LONG_LONG from by simp [own_com]]
      refine own_aload 118 rfl at_116 rfl rfl ?_
      refine own_acmpNo 121 rfl at_118 rfl rfl (own_teq (rfl : ((.ref w_UNSIGNED_LONG_LONG) : Value) = (.ref w_UNSIGNED_LONG_LONG))).2 ?_
      refine own_iconst 122 rfl (1 : Int32) at_121 rfl ?_
      refine own_goto 126 at_122 (by decide) (by decide) ?_
      refine own_retN rfl (by simp) at_126 (by decide) (by decide) ?_
      exact ⟨_, rfl, rfl⟩
    · have hin_j := (rfl : (4 : Int) = 4)
      refine own_iloadN 81 rfl at_80 rfl ?_
      refine own_iconst 82 rfl (5 : Int32) at_81 rfl ?_
      refine own_callS 85 rfl 1 9 0 [(.int (8 : Int32)), (.int (5 : Int32))] [] (y := (⟨"java/lang/Math", "max", "(II)I"⟩ : MethodName)) (hw _ (List.mem_of_getElem? (i := 23) rfl)) (hw _ (List.mem_of_getElem? (i := 24) rfl)) (hw _ (List.mem_of_getElem? (i := 25) rfl)) (hw _ (List.mem_of_getElem? (i := 26) rfl)) (by decide) (rm1 l Z a0 hw [] (8 : Int32) (5 : Int32)  h10 ) at_82 rfl (lenOf own_pd1 rfl) rfl rfl rfl (by decide) (by decide) rfl rfl (by decide) (by decide) (own_kv fun v543 h543 q543 => ?_)
      obtain ⟨rfl, e543⟩ := q543
      rw [e543]
      rw [show (if (8 : Int32) < (5 : Int32) then (5 : Int32) else (8 : Int32)) = (8 : Int32) from by decide]
      refine own_istore 87 rfl #[.val (.int p1), .val (.int p2), .val (.ref b1), .val (.int (8 : Int32)), .val (.int (4 : Int32)), .val (.int (8 : Int32)), .unset, .unset] at_85 rfl ?_
      refine own_iload 89 rfl at_87 rfl ?_
      refine own_iconst 90 rfl (5 : Int32) at_89 rfl ?_
      refine own_callS 93 rfl 1 9 0 [(.int (4 : Int32)), (.int (5 : Int32))] [] (y := (⟨"java/lang/Math", "max", "(II)I"⟩ : MethodName)) (hw _ (List.mem_of_getElem? (i := 23) rfl)) (hw _ (List.mem_of_getElem? (i := 24) rfl)) (hw _ (List.mem_of_getElem? (i := 25) rfl)) (hw _ (List.mem_of_getElem? (i := 26) rfl)) (by decide) (rm1 l Z a0 hw [] (4 : Int32) (5 : Int32)  h10 ) at_90 rfl (lenOf own_pd1 rfl) rfl rfl rfl (by decide) (by decide) rfl rfl (by decide) (by decide) (own_kv fun v544 h544 q544 => ?_)
      obtain ⟨rfl, e544⟩ := q544
      rw [e544]
      rw [show (if (4 : Int32) < (5 : Int32) then (5 : Int32) else (4 : Int32)) = (5 : Int32) from by decide]
      refine own_istore 95 rfl #[.val (.int p1), .val (.int p2), .val (.ref b1), .val (.int (8 : Int32)), .val (.int (4 : Int32)), .val (.int (8 : Int32)), .val (.int (5 : Int32)), .unset] at_93 rfl ?_
      refine own_aloadN 96 rfl at_95 rfl rfl ?_
      refine own_iload 98 rfl at_96 rfl ?_
      refine own_iload 100 rfl at_98 rfl ?_
      refine own_callS 103 rfl 1 9 1 [(.int (8 : Int32)), (.int (5 : Int32))] [(.ref b1)] (y := (⟨"java/lang/Math", "max", "(II)I"⟩ : MethodName)) (hw _ (List.mem_of_getElem? (i := 23) rfl)) (hw _ (List.mem_of_getElem? (i := 24) rfl)) (hw _ (List.mem_of_getElem? (i := 25) rfl)) (hw _ (List.mem_of_getElem? (i := 26) rfl)) (by decide) (rm1 l Z a0 hw [] (8 : Int32) (5 : Int32)  h10 ) at_100 rfl (lenOf own_pd1 rfl) rfl rfl rfl (by decide) (by decide) rfl rfl (by decide) (by decide) (own_kv fun v545 h545 q545 => ?_)
      obtain ⟨rfl, e545⟩ := q545
      rw [e545]
      rw [show (if (8 : Int32) < (5 : Int32) then (5 : Int32) else (8 : Int32)) = (8 : Int32) from by decide]
      obtain ⟨c546, A546, q546, S546, N546, H546, G546⟩ := id V10
      refine own_aaload 104 rfl A546 rfl (inb_of S546 ⟨by decide, by decide⟩) (Has.at H546 (inb_of S546 ⟨by decide, by decide⟩) rfl) at_103 ?_
      refine own_astore 106 rfl #[.val (.int p1), .val (.int p2), .val (.ref b1), .val (.int (8 : Int32)), .val (.int (4 : Int32)), .val (.int (8 : Int32)), .val (.int (5 : Int32)), .val (.ref w_UNSIGNED_LONG_LONG)] at_104 rfl rfl ?_
      refine own_aloadN 107 rfl at_106 rfl rfl ?_
      refine own_iloadN 108 rfl at_107 rfl ?_
      obtain ⟨c547, A547, q547, S547, N547, H547, G547⟩ := id V10
      refine own_aaload 109 rfl A547 rfl (inb_of S547 ⟨by decide, by decide⟩) (Has.at H547 (inb_of S547 ⟨by decide, by decide⟩) rfl) at_108 ?_
      refine own_aloadN 110 rfl at_109 rfl rfl ?_
      refine own_iload 112 rfl at_110 rfl ?_
      obtain ⟨c548, A548, q548, S548, N548, H548, G548⟩ := id V10
      refine own_aaload 113 rfl A548 rfl (inb_of S548 ⟨by decide, by decide⟩) (Has.at H548 (inb_of S548 ⟨by decide, by decide⟩) rfl) at_112 ?_
      refine own_callS 116 rfl 1 9 0 [(.ref w_UNSIGNED_LONG_LONG), (.ref w_UNSIGNED_SHORT)] [] (y := (⟨"com/example/counterpath/counterpath/cfa/Type", "common", "(Lcom/example/counterpath/counterpath/cfa/Type;Lcom/example/counterpath/counterpath/cfa/Type;)Lcom/example/counterpath/counterpath/cfa/Type;"⟩ : MethodName)) (hw _ (List.mem_of_getElem? (i := 27) rfl)) (hw _ (List.mem_of_getElem? (i := 28) rfl)) (hw _ (List.mem_of_getElem? (i := 3) rfl)) (hw _ (List.mem_of_getElem? (i := 29) rfl)) (by decide) (rm2 l Z a0 hw [] w_UNSIGNED_LONG_LONG w_UNSIGNED_SHORT (64 : Int32) (0 : Int32) (16 : Int32) (0 : Int32) w_BOOL w_SIGNED_CHAR w_UNSIGNED_CHAR w_SHORT w_UNSIGNED_SHORT w_INT w_UNSIGNED_INT w_LONG_LONG w_UNSIGNED_LONG_LONG h10 I (((((((((((E_w_UNSIGNED_LONG_LONG.ext O0.2).ext E1).wr W2).wr W3).wr W4).wr W5).wr W6).wr W7).wr W8).wr W9).wr W10) (((((((((((F_w_UNSIGNED_LONG_LONG_width.ext O0.2).ext E1).other W2 (Or.inl ne_w_UNSIGNED_LONG_LONG_b1)).other W3 (Or.inl ne_w_UNSIGNED_LONG_LONG_b1)).other W4 (Or.inl ne_w_UNSIGNED_LONG_LONG_b1)).other W5 (Or.inl ne_w_UNSIGNED_LONG_LONG_b1)).other W6 (Or.inl ne_w_UNSIGNED_LONG_LONG_b1)).other W7 (Or.inl ne_w_UNSIGNED_LONG_LONG_b1)).other W8 (Or.inl ne_w_UNSIGNED_LONG_LONG_b1)).other W9 (Or.inl ne_w_UNSIGNED_LONG_LONG_b1)).other W10 (Or.inl ne_w_UNSIGNED_LONG_LONG_b1)) (((((((((((F_w_UNSIGNED_LONG_LONG_signed.ext O0.2).ext E1).other W2 (Or.inl ne_w_UNSIGNED_LONG_LONG_b1)).other W3 (Or.inl ne_w_UNSIGNED_LONG_LONG_b1)).other W4 (Or.inl ne_w_UNSIGNED_LONG_LONG_b1)).other W5 (Or.inl ne_w_UNSIGNED_LONG_LONG_b1)).other W6 (Or.inl ne_w_UNSIGNED_LONG_LONG_b1)).other W7 (Or.inl ne_w_UNSIGNED_LONG_LONG_b1)).other W8 (Or.inl ne_w_UNSIGNED_LONG_LONG_b1)).other W9 (Or.inl ne_w_UNSIGNED_LONG_LONG_b1)).other W10 (Or.inl ne_w_UNSIGNED_LONG_LONG_b1)) (((((((((((E_w_UNSIGNED_SHORT.ext O0.2).ext E1).wr W2).wr W3).wr W4).wr W5).wr W6).wr W7).wr W8).wr W9).wr W10) (((((((((((F_w_UNSIGNED_SHORT_width.ext O0.2).ext E1).other W2 (Or.inl ne_w_UNSIGNED_SHORT_b1)).other W3 (Or.inl ne_w_UNSIGNED_SHORT_b1)).other W4 (Or.inl ne_w_UNSIGNED_SHORT_b1)).other W5 (Or.inl ne_w_UNSIGNED_SHORT_b1)).other W6 (Or.inl ne_w_UNSIGNED_SHORT_b1)).other W7 (Or.inl ne_w_UNSIGNED_SHORT_b1)).other W8 (Or.inl ne_w_UNSIGNED_SHORT_b1)).other W9 (Or.inl ne_w_UNSIGNED_SHORT_b1)).other W10 (Or.inl ne_w_UNSIGNED_SHORT_b1)) (((((((((((F_w_UNSIGNED_SHORT_signed.ext O0.2).ext E1).other W2 (Or.inl ne_w_UNSIGNED_SHORT_b1)).other W3 (Or.inl ne_w_UNSIGNED_SHORT_b1)).other W4 (Or.inl ne_w_UNSIGNED_SHORT_b1)).other W5 (Or.inl ne_w_UNSIGNED_SHORT_b1)).other W6 (Or.inl ne_w_UNSIGNED_SHORT_b1)).other W7 (Or.inl ne_w_UNSIGNED_SHORT_b1)).other W8 (Or.inl ne_w_UNSIGNED_SHORT_b1)).other W9 (Or.inl ne_w_UNSIGNED_SHORT_b1)).other W10 (Or.inl ne_w_UNSIGNED_SHORT_b1)) (by decide) (by decide)) at_113 rfl (lenOf own_pd2 rfl) rfl rfl rfl (by decide) (by decide) rfl rfl (by decide) (by decide) (own_kv fun v549 h549 q549 => ?_)
      obtain ⟨rfl, e549⟩ := q549
      rw [e549]
      rw [show own_com w_INT w_UNSIGNED_LONG_LONG (64 : Int32) (0 : Int32) w_UNSIGNED_SHORT (16 : Int32) (0 : Int32) = w_UNSIGNED_LONG_LONG from by simp [own_com]]
      refine own_aload 118 rfl at_116 rfl rfl ?_
      refine own_acmpNo 121 rfl at_118 rfl rfl (own_teq (rfl : ((.ref w_UNSIGNED_LONG_LONG) : Value) = (.ref w_UNSIGNED_LONG_LONG))).2 ?_
      refine own_iconst 122 rfl (1 : Int32) at_121 rfl ?_
      refine own_goto 126 at_122 (by decide) (by decide) ?_
      refine own_retN rfl (by simp) at_126 (by decide) (by decide) ?_
      exact ⟨_, rfl, rfl⟩
    · have hin_j := (rfl : (5 : Int) = 5)
      refine own_iloadN 81 rfl at_80 rfl ?_
      refine own_iconst 82 rfl (5 : Int32) at_81 rfl ?_
      refine own_callS 85 rfl 1 9 0 [(.int (8 : Int32)), (.int (5 : Int32))] [] (y := (⟨"java/lang/Math", "max", "(II)I"⟩ : MethodName)) (hw _ (List.mem_of_getElem? (i := 23) rfl)) (hw _ (List.mem_of_getElem? (i := 24) rfl)) (hw _ (List.mem_of_getElem? (i := 25) rfl)) (hw _ (List.mem_of_getElem? (i := 26) rfl)) (by decide) (rm1 l Z a0 hw [] (8 : Int32) (5 : Int32)  h10 ) at_82 rfl (lenOf own_pd1 rfl) rfl rfl rfl (by decide) (by decide) rfl rfl (by decide) (by decide) (own_kv fun v550 h550 q550 => ?_)
      obtain ⟨rfl, e550⟩ := q550
      rw [e550]
      rw [show (if (8 : Int32) < (5 : Int32) then (5 : Int32) else (8 : Int32)) = (8 : Int32) from by decide]
      refine own_istore 87 rfl #[.val (.int p1), .val (.int p2), .val (.ref b1), .val (.int (8 : Int32)), .val (.int (5 : Int32)), .val (.int (8 : Int32)), .unset, .unset] at_85 rfl ?_
      refine own_iload 89 rfl at_87 rfl ?_
      refine own_iconst 90 rfl (5 : Int32) at_89 rfl ?_
      refine own_callS 93 rfl 1 9 0 [(.int (5 : Int32)), (.int (5 : Int32))] [] (y := (⟨"java/lang/Math", "max", "(II)I"⟩ : MethodName)) (hw _ (List.mem_of_getElem? (i := 23) rfl)) (hw _ (List.mem_of_getElem? (i := 24) rfl)) (hw _ (List.mem_of_getElem? (i := 25) rfl)) (hw _ (List.mem_of_getElem? (i := 26) rfl)) (by decide) (rm1 l Z a0 hw [] (5 : Int32) (5 : Int32)  h10 ) at_90 rfl (lenOf own_pd1 rfl) rfl rfl rfl (by decide) (by decide) rfl rfl (by decide) (by decide) (own_kv fun v551 h551 q551 => ?_)
      obtain ⟨rfl, e551⟩ := q551
      rw [e551]
      rw [show (if (5 : Int32) < (5 : Int32) then (5 : Int32) else (5 : Int32)) = (5 : Int32) from by decide]
      refine own_istore 95 rfl #[.val (.int p1), .val (.int p2), .val (.ref b1), .val (.int (8 : Int32)), .val (.int (5 : Int32)), .val (.int (8 : Int32)), .val (.int (5 : Int32)), .unset] at_93 rfl ?_
      refine own_aloadN 96 rfl at_95 rfl rfl ?_
      refine own_iload 98 rfl at_96 rfl ?_
      refine own_iload 100 rfl at_98 rfl ?_
      refine own_callS 103 rfl 1 9 1 [(.int (8 : Int32)), (.int (5 : Int32))] [(.ref b1)] (y := (⟨"java/lang/Math", "max", "(II)I"⟩ : MethodName)) (hw _ (List.mem_of_getElem? (i := 23) rfl)) (hw _ (List.mem_of_getElem? (i := 24) rfl)) (hw _ (List.mem_of_getElem? (i := 25) rfl)) (hw _ (List.mem_of_getElem? (i := 26) rfl)) (by decide) (rm1 l Z a0 hw [] (8 : Int32) (5 : Int32)  h10 ) at_100 rfl (lenOf own_pd1 rfl) rfl rfl rfl (by decide) (by decide) rfl rfl (by decide) (by decide) (own_kv fun v552 h552 q552 => ?_)
      obtain ⟨rfl, e552⟩ := q552
      rw [e552]
      rw [show (if (8 : Int32) < (5 : Int32) then (5 : Int32) else (8 : Int32)) = (8 : Int32) from by decide]
      obtain ⟨c553, A553, q553, S553, N553, H553, G553⟩ := id V10
      refine own_aaload 104 rfl A553 rfl (inb_of S553 ⟨by decide, by decide⟩) (Has.at H553 (inb_of S553 ⟨by decide, by decide⟩) rfl) at_103 ?_
      refine own_astore 106 rfl #[.val (.int p1), .val (.int p2), .val (.ref b1), .val (.int (8 : Int32)), .val (.int (5 : Int32)), .val (.int (8 : Int32)), .val (.int (5 : Int32)), .val (.ref w_UNSIGNED_LONG_LONG)] at_104 rfl rfl ?_
      refine own_aloadN 107 rfl at_106 rfl rfl ?_
      refine own_iloadN 108 rfl at_107 rfl ?_
      obtain ⟨c554, A554, q554, S554, N554, H554, G554⟩ := id V10
      refine own_aaload 109 rfl A554 rfl (inb_of S554 ⟨by decide, by decide⟩) (Has.at H554 (inb_of S554 ⟨by decide, by decide⟩) rfl) at_108 ?_
      refine own_aloadN 110 rfl at_109 rfl rfl ?_
      refine own_iload 112 rfl at_110 rfl ?_
      obtain ⟨c555, A555, q555, S555, N555, H555, G555⟩ := id V10
      refine own_aaload 113 rfl A555 rfl (inb_of S555 ⟨by decide, by decide⟩) (Has.at H555 (inb_of S555 ⟨by decide, by decide⟩) rfl) at_112 ?_
      refine own_callS 116 rfl 1 9 0 [(.ref w_UNSIGNED_LONG_LONG), (.ref w_INT)] [] (y := (⟨"com/example/counterpath/counterpath/cfa/Type", "common", "(Lcom/example/counterpath/counterpath/cfa/Type;Lcom/example/counterpath/counterpath/cfa/Type;)Lcom/example/counterpath/counterpath/cfa/Type;"⟩ : MethodName)) (hw _ (List.mem_of_getElem? (i := 27) rfl)) (hw _ (List.mem_of_getElem? (i := 28) rfl)) (hw _ (List.mem_of_getElem? (i := 3) rfl)) (hw _ (List.mem_of_getElem? (i := 29) rfl)) (by decide) (rm2 l Z a0 hw [] w_UNSIGNED_LONG_LONG w_INT (64 : Int32) (0 : Int32) (32 : Int32) (1 : Int32) w_BOOL w_SIGNED_CHAR w_UNSIGNED_CHAR w_SHORT w_UNSIGNED_SHORT w_INT w_UNSIGNED_INT w_LONG_LONG w_UNSIGNED_LONG_LONG h10 I (((((((((((E_w_UNSIGNED_LONG_LONG.ext O0.2).ext E1).wr W2).wr W3).wr W4).wr W5).wr W6).wr W7).wr W8).wr W9).wr W10) (((((((((((F_w_UNSIGNED_LONG_LONG_width.ext O0.2).ext E1).other W2 (Or.inl ne_w_UNSIGNED_LONG_LONG_b1)).other W3 (Or.inl ne_w_UNSIGNED_LONG_LONG_b1)).other W4 (Or.inl ne_w_UNSIGNED_LONG_LONG_b1)).other W5 (Or.inl ne_w_UNSIGNED_LONG_LONG_b1)).other W6 (Or.inl ne_w_UNSIGNED_LONG_LONG_b1)).other W7 (Or.inl ne_w_UNSIGNED_LONG_LONG_b1)).other W8 (Or.inl ne_w_UNSIGNED_LONG_LONG_b1)).other W9 (Or.inl ne_w_UNSIGNED_LONG_LONG_b1)).other W10 (Or.inl ne_w_UNSIGNED_LONG_LONG_b1)) (((((((((((F_w_UNSIGNED_LONG_LONG_signed.ext O0.2).ext E1).other W2 (Or.inl ne_w_UNSIGNED_LONG_LONG_b1)).other W3 (Or.inl ne_w_UNSIGNED_LONG_LONG_b1)).other W4 (Or.inl ne_w_UNSIGNED_LONG_LONG_b1)).other W5 (Or.inl ne_w_UNSIGNED_LONG_LONG_b1)).other W6 (Or.inl ne_w_UNSIGNED_LONG_LONG_b1)).other W7 (Or.inl ne_w_UNSIGNED_LONG_LONG_b1)).other W8 (Or.inl ne_w_UNSIGNED_LONG_LONG_b1)).other W9 (Or.inl ne_w_UNSIGNED_LONG_LONG_b1)).other W10 (Or.inl ne_w_UNSIGNED_LONG_LONG_b1)) (((((((((((E_w_INT.ext O0.2).ext E1).wr W2).wr W3).wr W4).wr W5).wr W6).wr W7).wr W8).wr W9).wr W10) (((((((((((F_w_INT_width.ext O0.2).ext E1).other W2 (Or.inl ne_w_INT_b1)).other W3 (Or.inl ne_w_INT_b1)).other W4 (Or.inl ne_w_INT_b1)).other W5 (Or.inl ne_w_INT_b1)).other W6 (Or.inl ne_w_INT_b1)).other W7 (Or.inl ne_w_INT_b1)).other W8 (Or.inl ne_w_INT_b1)).other W9 (Or.inl ne_w_INT_b1)).other W10 (Or.inl ne_w_INT_b1)) (((((((((((F_w_INT_signed.ext O0.2).ext E1).other W2 (Or.inl ne_w_INT_b1)).other W3 (Or.inl ne_w_INT_b1)).other W4 (Or.inl ne_w_INT_b1)).other W5 (Or.inl ne_w_INT_b1)).other W6 (Or.inl ne_w_INT_b1)).other W7 (Or.inl ne_w_INT_b1)).other W8 (Or.inl ne_w_INT_b1)).other W9 (Or.inl ne_w_INT_b1)).other W10 (Or.inl ne_w_INT_b1)) (by decide) (by decide)) at_113 rfl (lenOf own_pd2 rfl) rfl rfl rfl (by decide) (by decide) rfl rfl (by decide) (by decide) (own_kv fun v556 h556 q556 => ?_)
      obtain ⟨rfl, e556⟩ := q556
      rw [e556]
      rw [show own_com w_INT w_UNSIGNED_LONG_LONG (64 : Int32) (0 : Int32) w_INT (32 : Int32) (1 : Int32) = w_UNSIGNED_LONG_LONG from by simp [own_com]]
      refine own_aload 118 rfl at_116 rfl rfl ?_
      refine own_acmpNo 121 rfl at_118 rfl rfl (own_teq (rfl : ((.ref w_UNSIGNED_LONG_LONG) : Value) = (.ref w_UNSIGNED_LONG_LONG))).2 ?_
      refine own_iconst 122 rfl (1 : Int32) at_121 rfl ?_
      refine own_goto 126 at_122 (by decide) (by decide) ?_
      refine own_retN rfl (by simp) at_126 (by decide) (by decide) ?_
      exact ⟨_, rfl, rfl⟩
    · have hin_j := (rfl : (6 : Int) = 6)
      refine own_iloadN 81 rfl at_80 rfl ?_
      refine own_iconst 82 rfl (5 : Int32) at_81 rfl ?_
      refine own_callS 85 rfl 1 9 0 [(.int (8 : Int32)), (.int (5 : Int32))] [] (y := (⟨"java/lang/Math", "max", "(II)I"⟩ : MethodName)) (hw _ (List.mem_of_getElem? (i := 23) rfl)) (hw _ (List.mem_of_getElem? (i := 24) rfl)) (hw _ (List.mem_of_getElem? (i := 25) rfl)) (hw _ (List.mem_of_getElem? (i := 26) rfl)) (by decide) (rm1 l Z a0 hw [] (8 : Int32) (5 : Int32)  h10 ) at_82 rfl (lenOf own_pd1 rfl) rfl rfl rfl (by decide) (by decide) rfl rfl (by decide) (by decide) (own_kv fun v557 h557 q557 => ?_)
      obtain ⟨rfl, e557⟩ := q557
      rw [e557]
      rw [show (if (8 : Int32) < (5 : Int32) then (5 : Int32) else (8 : Int32)) = (8 : Int32) from by decide]
      refine own_istore 87 rfl #[.val (.int p1), .val (.int p2), .val (.ref b1), .val (.int (8 : Int32)), .val (.int (6 : Int32)), .val (.int (8 : Int32)), .unset, .unset] at_85 rfl ?_
      refine own_iload 89 rfl at_87 rfl ?_
      refine own_iconst 90 rfl (5 : Int32) at_89 rfl ?_
      refine own_callS 93 rfl 1 9 0 [(.int (6 : Int32)), (.int (5 : Int32))] [] (y := (⟨"java/lang/Math", "max", "(II)I"⟩ : MethodName)) (hw _ (List.mem_of_getElem? (i := 23) rfl)) (hw _ (List.mem_of_getElem? (i := 24) rfl)) (hw _ (List.mem_of_getElem? (i := 25) rfl)) (hw _ (List.mem_of_getElem? (i := 26) rfl)) (by decide) (rm1 l Z a0 hw [] (6 : Int32) (5 : Int32)  h10 ) at_90 rfl (lenOf own_pd1 rfl) rfl rfl rfl (by decide) (by decide) rfl rfl (by decide) (by decide) (own_kv fun v558 h558 q558 => ?_)
      obtain ⟨rfl, e558⟩ := q558
      rw [e558]
      rw [show (if (6 : Int32) < (5 : Int32) then (5 : Int32) else (6 : Int32)) = (6 : Int32) from by decide]
      refine own_istore 95 rfl #[.val (.int p1), .val (.int p2), .val (.ref b1), .val (.int (8 : Int32)), .val (.int (6 : Int32)), .val (.int (8 : Int32)), .val (.int (6 : Int32)), .unset] at_93 rfl ?_
      refine own_aloadN 96 rfl at_95 rfl rfl ?_
      refine own_iload 98 rfl at_96 rfl ?_
      refine own_iload 100 rfl at_98 rfl ?_
      refine own_callS 103 rfl 1 9 1 [(.int (8 : Int32)), (.int (6 : Int32))] [(.ref b1)] (y := (⟨"java/lang/Math", "max", "(II)I"⟩ : MethodName)) (hw _ (List.mem_of_getElem? (i := 23) rfl)) (hw _ (List.mem_of_getElem? (i := 24) rfl)) (hw _ (List.mem_of_getElem? (i := 25) rfl)) (hw _ (List.mem_of_getElem? (i := 26) rfl)) (by decide) (rm1 l Z a0 hw [] (8 : Int32) (6 : Int32)  h10 ) at_100 rfl (lenOf own_pd1 rfl) rfl rfl rfl (by decide) (by decide) rfl rfl (by decide) (by decide) (own_kv fun v559 h559 q559 => ?_)
      obtain ⟨rfl, e559⟩ := q559
      rw [e559]
      rw [show (if (8 : Int32) < (6 : Int32) then (6 : Int32) else (8 : Int32)) = (8 : Int32) from by decide]
      obtain ⟨c560, A560, q560, S560, N560, H560, G560⟩ := id V10
      refine own_aaload 104 rfl A560 rfl (inb_of S560 ⟨by decide, by decide⟩) (Has.at H560 (inb_of S560 ⟨by decide, by decide⟩) rfl) at_103 ?_
      refine own_astore 106 rfl #[.val (.int p1), .val (.int p2), .val (.ref b1), .val (.int (8 : Int32)), .val (.int (6 : Int32)), .val (.int (8 : Int32)), .val (.int (6 : Int32)), .val (.ref w_UNSIGNED_LONG_LONG)] at_104 rfl rfl ?_
      refine own_aloadN 107 rfl at_106 rfl rfl ?_
      refine own_iloadN 108 rfl at_107 rfl ?_
      obtain ⟨c561, A561, q561, S561, N561, H561, G561⟩ := id V10
      refine own_aaload 109 rfl A561 rfl (inb_of S561 ⟨by decide, by decide⟩) (Has.at H561 (inb_of S561 ⟨by decide, by decide⟩) rfl) at_108 ?_
      refine own_aloadN 110 rfl at_109 rfl rfl ?_
      refine own_iload 112 rfl at_110 rfl ?_
      obtain ⟨c562, A562, q562, S562, N562, H562, G562⟩ := id V10
      refine own_aaload 113 rfl A562 rfl (inb_of S562 ⟨by decide, by decide⟩) (Has.at H562 (inb_of S562 ⟨by decide, by decide⟩) rfl) at_112 ?_
      refine own_callS 116 rfl 1 9 0 [(.ref w_UNSIGNED_LONG_LONG), (.ref w_UNSIGNED_INT)] [] (y := (⟨"com/example/counterpath/counterpath/cfa/Type", "common", "(Lcom/example/counterpath/counterpath/cfa/Type;Lcom/example/counterpath/counterpath/cfa/Type;)Lcom/example/counterpath/counterpath/cfa/Type;"⟩ : MethodName)) (hw _ (List.mem_of_getElem? (i := 27) rfl)) (hw _ (List.mem_of_getElem? (i := 28) rfl)) (hw _ (List.mem_of_getElem? (i := 3) rfl)) (hw _ (List.mem_of_getElem? (i := 29) rfl)) (by decide) (rm2 l Z a0 hw [] w_UNSIGNED_LONG_LONG w_UNSIGNED_INT (64 : Int32) (0 : Int32) (32 : Int32) (0 : Int32) w_BOOL w_SIGNED_CHAR w_UNSIGNED_CHAR w_SHORT w_UNSIGNED_SHORT w_INT w_UNSIGNED_INT w_LONG_LONG w_UNSIGNED_LONG_LONG h10 I (((((((((((E_w_UNSIGNED_LONG_LONG.ext O0.2).ext E1).wr W2).wr W3).wr W4).wr W5).wr W6).wr W7).wr W8).wr W9).wr W10) (((((((((((F_w_UNSIGNED_LONG_LONG_width.ext O0.2).ext E1).other W2 (Or.inl ne_w_UNSIGNED_LONG_LONG_b1)).other W3 (Or.inl ne_w_UNSIGNED_LONG_LONG_b1)).other W4 (Or.inl ne_w_UNSIGNED_LONG_LONG_b1)).other W5 (Or.inl ne_w_UNSIGNED_LONG_LONG_b1)).other W6 (Or.inl ne_w_UNSIGNED_LONG_LONG_b1)).other W7 (Or.inl ne_w_UNSIGNED_LONG_LONG_b1)).other W8 (Or.inl ne_w_UNSIGNED_LONG_LONG_b1)).other W9 (Or.inl ne_w_UNSIGNED_LONG_LONG_b1)).other W10 (Or.inl ne_w_UNSIGNED_LONG_LONG_b1)) (((((((((((F_w_UNSIGNED_LONG_LONG_signed.ext O0.2).ext E1).other W2 (Or.inl ne_w_UNSIGNED_LONG_LONG_b1)).other W3 (Or.inl ne_w_UNSIGNED_LONG_LONG_b1)).other W4 (Or.inl ne_w_UNSIGNED_LONG_LONG_b1)).other W5 (Or.inl ne_w_UNSIGNED_LONG_LONG_b1)).other W6 (Or.inl ne_w_UNSIGNED_LONG_LONG_b1)).other W7 (Or.inl ne_w_UNSIGNED_LONG_LONG_b1)).other W8 (Or.inl ne_w_UNSIGNED_LONG_LONG_b1)).other W9 (Or.inl ne_w_UNSIGNED_LONG_LONG_b1)).other W10 (Or.inl ne_w_UNSIGNED_LONG_LONG_b1)) (((((((((((E_w_UNSIGNED_INT.ext O0.2).ext E1).wr W2).wr W3).wr W4).wr W5).wr W6).wr W7).wr W8).wr W9).wr W10) (((((((((((F_w_UNSIGNED_INT_width.ext O0.2).ext E1).other W2 (Or.inl ne_w_UNSIGNED_INT_b1)).other W3 (Or.inl ne_w_UNSIGNED_INT_b1)).other W4 (Or.inl ne_w_UNSIGNED_INT_b1)).other W5 (Or.inl ne_w_UNSIGNED_INT_b1)).other W6 (Or.inl ne_w_UNSIGNED_INT_b1)).other W7 (Or.inl ne_w_UNSIGNED_INT_b1)).other W8 (Or.inl ne_w_UNSIGNED_INT_b1)).other W9 (Or.inl ne_w_UNSIGNED_INT_b1)).other W10 (Or.inl ne_w_UNSIGNED_INT_b1)) (((((((((((F_w_UNSIGNED_INT_signed.ext O0.2).ext E1).other W2 (Or.inl ne_w_UNSIGNED_INT_b1)).other W3 (Or.inl ne_w_UNSIGNED_INT_b1)).other W4 (Or.inl ne_w_UNSIGNED_INT_b1)).other W5 (Or.inl ne_w_UNSIGNED_INT_b1)).other W6 (Or.inl ne_w_UNSIGNED_INT_b1)).other W7 (Or.inl ne_w_UNSIGNED_INT_b1)).other W8 (Or.inl ne_w_UNSIGNED_INT_b1)).other W9 (Or.inl ne_w_UNSIGNED_INT_b1)).other W10 (Or.inl ne_w_UNSIGNED_INT_b1)) (by decide) (by decide)) at_113 rfl (lenOf own_pd2 rfl) rfl rfl rfl (by decide) (by decide) rfl rfl (by decide) (by decide) (own_kv fun v563 h563 q563 => ?_)
      obtain ⟨rfl, e563⟩ := q563
      rw [e563]
      rw [show own_com w_INT w_UNSIGNED_LONG_LONG (64 : Int32) (0 : Int32) w_UNSIGNED_INT (32 : Int32) (0 : Int32) = w_UNSIGNED_LONG_LONG from by simp [own_com]]
      refine own_aload 118 rfl at_116 rfl rfl ?_
      refine own_acmpNo 121 rfl at_118 rfl rfl (own_teq (rfl : ((.ref w_UNSIGNED_LONG_LONG) : Value) = (.ref w_UNSIGNED_LONG_LONG))).2 ?_
      refine own_iconst 122 rfl (1 : Int32) at_121 rfl ?_
      refine own_goto 126 at_122 (by decide) (by decide) ?_
      refine own_retN rfl (by simp) at_126 (by decide) (by decide) ?_
      exact ⟨_, rfl, rfl⟩
    · have hin_j := (rfl : (7 : Int) = 7)
      refine own_iloadN 81 rfl at_80 rfl ?_
      refine own_iconst 82 rfl (5 : Int32) at_81 rfl ?_
      refine own_callS 85 rfl 1 9 0 [(.int (8 : Int32)), (.int (5 : Int32))] [] (y := (⟨"java/lang/Math", "max", "(II)I"⟩ : MethodName)) (hw _ (List.mem_of_getElem? (i := 23) rfl)) (hw _ (List.mem_of_getElem? (i := 24) rfl)) (hw _ (List.mem_of_getElem? (i := 25) rfl)) (hw _ (List.mem_of_getElem? (i := 26) rfl)) (by decide) (rm1 l Z a0 hw [] (8 : Int32) (5 : Int32)  h10 ) at_82 rfl (lenOf own_pd1 rfl) rfl rfl rfl (by decide) (by decide) rfl rfl (by decide) (by decide) (own_kv fun v564 h564 q564 => ?_)
      obtain ⟨rfl, e564⟩ := q564
      rw [e564]
      rw [show (if (8 : Int32) < (5 : Int32) then (5 : Int32) else (8 : Int32)) = (8 : Int32) from by decide]
      refine own_istore 87 rfl #[.val (.int p1), .val (.int p2), .val (.ref b1), .val (.int (8 : Int32)), .val (.int (7 : Int32)), .val (.int (8 : Int32)), .unset, .unset] at_85 rfl ?_
      refine own_iload 89 rfl at_87 rfl ?_
      refine own_iconst 90 rfl (5 : Int32) at_89 rfl ?_
      refine own_callS 93 rfl 1 9 0 [(.int (7 : Int32)), (.int (5 : Int32))] [] (y := (⟨"java/lang/Math", "max", "(II)I"⟩ : MethodName)) (hw _ (List.mem_of_getElem? (i := 23) rfl)) (hw _ (List.mem_of_getElem? (i := 24) rfl)) (hw _ (List.mem_of_getElem? (i := 25) rfl)) (hw _ (List.mem_of_getElem? (i := 26) rfl)) (by decide) (rm1 l Z a0 hw [] (7 : Int32) (5 : Int32)  h10 ) at_90 rfl (lenOf own_pd1 rfl) rfl rfl rfl (by decide) (by decide) rfl rfl (by decide) (by decide) (own_kv fun v565 h565 q565 => ?_)
      obtain ⟨rfl, e565⟩ := q565
      rw [e565]
      rw [show (if (7 : Int32) < (5 : Int32) then (5 : Int32) else (7 : Int32)) = (7 : Int32) from by decide]
      refine own_istore 95 rfl #[.val (.int p1), .val (.int p2), .val (.ref b1), .val (.int (8 : Int32)), .val (.int (7 : Int32)), .val (.int (8 : Int32)), .val (.int (7 : Int32)), .unset] at_93 rfl ?_
      refine own_aloadN 96 rfl at_95 rfl rfl ?_
      refine own_iload 98 rfl at_96 rfl ?_
      refine own_iload 100 rfl at_98 rfl ?_
      refine own_callS 103 rfl 1 9 1 [(.int (8 : Int32)), (.int (7 : Int32))] [(.ref b1)] (y := (⟨"java/lang/Math", "max", "(II)I"⟩ : MethodName)) (hw _ (List.mem_of_getElem? (i := 23) rfl)) (hw _ (List.mem_of_getElem? (i := 24) rfl)) (hw _ (List.mem_of_getElem? (i := 25) rfl)) (hw _ (List.mem_of_getElem? (i := 26) rfl)) (by decide) (rm1 l Z a0 hw [] (8 : Int32) (7 : Int32)  h10 ) at_100 rfl (lenOf own_pd1 rfl) rfl rfl rfl (by decide) (by decide) rfl rfl (by decide) (by decide) (own_kv fun v566 h566 q566 => ?_)
      obtain ⟨rfl, e566⟩ := q566
      rw [e566]
      rw [show (if (8 : Int32) < (7 : Int32) then (7 : Int32) else (8 : Int32)) = (8 : Int32) from by decide]
      obtain ⟨c567, A567, q567, S567, N567, H567, G567⟩ := id V10
      refine own_aaload 104 rfl A567 rfl (inb_of S567 ⟨by decide, by decide⟩) (Has.at H567 (inb_of S567 ⟨by decide, by decide⟩) rfl) at_103 ?_
      refine own_astore 106 rfl #[.val (.int p1), .val (.int p2), .val (.ref b1), .val (.int (8 : Int32)), .val (.int (7 : Int32)), .val (.int (8 : Int32)), .val (.int (7 : Int32)), .val (.ref w_UNSIGNED_LONG_LONG)] at_104 rfl rfl ?_
      refine own_aloadN 107 rfl at_106 rfl rfl ?_
      refine own_iloadN 108 rfl at_107 rfl ?_
      obtain ⟨c568, A568, q568, S568, N568, H568, G568⟩ := id V10
      refine own_aaload 109 rfl A568 rfl (inb_of S568 ⟨by decide, by decide⟩) (Has.at H568 (inb_of S568 ⟨by decide, by decide⟩) rfl) at_108 ?_
      refine own_aloadN 110 rfl at_109 rfl rfl ?_
      refine own_iload 112 rfl at_110 rfl ?_
      obtain ⟨c569, A569, q569, S569, N569, H569, G569⟩ := id V10
      refine own_aaload 113 rfl A569 rfl (inb_of S569 ⟨by decide, by decide⟩) (Has.at H569 (inb_of S569 ⟨by decide, by decide⟩) rfl) at_112 ?_
      refine own_callS 116 rfl 1 9 0 [(.ref w_UNSIGNED_LONG_LONG), (.ref w_LONG_LONG)] [] (y := (⟨"com/example/counterpath/counterpath/cfa/Type", "common", "(Lcom/example/counterpath/counterpath/cfa/Type;Lcom/example/counterpath/counterpath/cfa/Type;)Lcom/example/counterpath/counterpath/cfa/Type;"⟩ : MethodName)) (hw _ (List.mem_of_getElem? (i := 27) rfl)) (hw _ (List.mem_of_getElem? (i := 28) rfl)) (hw _ (List.mem_of_getElem? (i := 3) rfl)) (hw _ (List.mem_of_getElem? (i := 29) rfl)) (by decide) (rm2 l Z a0 hw [] w_UNSIGNED_LONG_LONG w_LONG_LONG (64 : Int32) (0 : Int32) (64 : Int32) (1 : Int32) w_BOOL w_SIGNED_CHAR w_UNSIGNED_CHAR w_SHORT w_UNSIGNED_SHORT w_INT w_UNSIGNED_INT w_LONG_LONG w_UNSIGNED_LONG_LONG h10 I (((((((((((E_w_UNSIGNED_LONG_LONG.ext O0.2).ext E1).wr W2).wr W3).wr W4).wr W5).wr W6).wr W7).wr W8).wr W9).wr W10) (((((((((((F_w_UNSIGNED_LONG_LONG_width.ext O0.2).ext E1).other W2 (Or.inl ne_w_UNSIGNED_LONG_LONG_b1)).other W3 (Or.inl ne_w_UNSIGNED_LONG_LONG_b1)).other W4 (Or.inl ne_w_UNSIGNED_LONG_LONG_b1)).other W5 (Or.inl ne_w_UNSIGNED_LONG_LONG_b1)).other W6 (Or.inl ne_w_UNSIGNED_LONG_LONG_b1)).other W7 (Or.inl ne_w_UNSIGNED_LONG_LONG_b1)).other W8 (Or.inl ne_w_UNSIGNED_LONG_LONG_b1)).other W9 (Or.inl ne_w_UNSIGNED_LONG_LONG_b1)).other W10 (Or.inl ne_w_UNSIGNED_LONG_LONG_b1)) (((((((((((F_w_UNSIGNED_LONG_LONG_signed.ext O0.2).ext E1).other W2 (Or.inl ne_w_UNSIGNED_LONG_LONG_b1)).other W3 (Or.inl ne_w_UNSIGNED_LONG_LONG_b1)).other W4 (Or.inl ne_w_UNSIGNED_LONG_LONG_b1)).other W5 (Or.inl ne_w_UNSIGNED_LONG_LONG_b1)).other W6 (Or.inl ne_w_UNSIGNED_LONG_LONG_b1)).other W7 (Or.inl ne_w_UNSIGNED_LONG_LONG_b1)).other W8 (Or.inl ne_w_UNSIGNED_LONG_LONG_b1)).other W9 (Or.inl ne_w_UNSIGNED_LONG_LONG_b1)).other W10 (Or.inl ne_w_UNSIGNED_LONG_LONG_b1)) (((((((((((E_w_LONG_LONG.ext O0.2).ext E1).wr W2).wr W3).wr W4).wr W5).wr W6).wr W7).wr W8).wr W9).wr W10) (((((((((((F_w_LONG_LONG_width.ext O0.2).ext E1).other W2 (Or.inl ne_w_LONG_LONG_b1)).other W3 (Or.inl ne_w_LONG_LONG_b1)).other W4 (Or.inl ne_w_LONG_LONG_b1)).other W5 (Or.inl ne_w_LONG_LONG_b1)).other W6 (Or.inl ne_w_LONG_LONG_b1)).other W7 (Or.inl ne_w_LONG_LONG_b1)).other W8 (Or.inl ne_w_LONG_LONG_b1)).other W9 (Or.inl ne_w_LONG_LONG_b1)).other W10 (Or.inl ne_w_LONG_LONG_b1)) (((((((((((F_w_LONG_LONG_signed.ext O0.2).ext E1).other W2 (Or.inl ne_w_LONG_LONG_b1)).other W3 (Or.inl ne_w_LONG_LONG_b1)).other W4 (Or.inl ne_w_LONG_LONG_b1)).other W5 (Or.inl ne_w_LONG_LONG_b1)).other W6 (Or.inl ne_w_LONG_LONG_b1)).other W7 (Or.inl ne_w_LONG_LONG_b1)).other W8 (Or.inl ne_w_LONG_LONG_b1)).other W9 (Or.inl ne_w_LONG_LONG_b1)).other W10 (Or.inl ne_w_LONG_LONG_b1)) (by decide) (by decide)) at_113 rfl (lenOf own_pd2 rfl) rfl rfl rfl (by decide) (by decide) rfl rfl (by decide) (by decide) (own_kv fun v570 h570 q570 => ?_)
      obtain ⟨rfl, e570⟩ := q570
      rw [e570]
      rw [show own_com w_INT w_UNSIGNED_LONG_LONG (64 : Int32) (0 : Int32) w_LONG_LONG (64 : Int32) (1 : Int32) = w_UNSIGNED_LONG_LONG from by simp [own_com]]
      refine own_aload 118 rfl at_116 rfl rfl ?_
      refine own_acmpNo 121 rfl at_118 rfl rfl (own_teq (rfl : ((.ref w_UNSIGNED_LONG_LONG) : Value) = (.ref w_UNSIGNED_LONG_LONG))).2 ?_
      refine own_iconst 122 rfl (1 : Int32) at_121 rfl ?_
      refine own_goto 126 at_122 (by decide) (by decide) ?_
      refine own_retN rfl (by simp) at_126 (by decide) (by decide) ?_
      exact ⟨_, rfl, rfl⟩
    · have hin_j := (rfl : (8 : Int) = 8)
      refine own_iloadN 81 rfl at_80 rfl ?_
      refine own_iconst 82 rfl (5 : Int32) at_81 rfl ?_
      refine own_callS 85 rfl 1 9 0 [(.int (8 : Int32)), (.int (5 : Int32))] [] (y := (⟨"java/lang/Math", "max", "(II)I"⟩ : MethodName)) (hw _ (List.mem_of_getElem? (i := 23) rfl)) (hw _ (List.mem_of_getElem? (i := 24) rfl)) (hw _ (List.mem_of_getElem? (i := 25) rfl)) (hw _ (List.mem_of_getElem? (i := 26) rfl)) (by decide) (rm1 l Z a0 hw [] (8 : Int32) (5 : Int32)  h10 ) at_82 rfl (lenOf own_pd1 rfl) rfl rfl rfl (by decide) (by decide) rfl rfl (by decide) (by decide) (own_kv fun v571 h571 q571 => ?_)
      obtain ⟨rfl, e571⟩ := q571
      rw [e571]
      rw [show (if (8 : Int32) < (5 : Int32) then (5 : Int32) else (8 : Int32)) = (8 : Int32) from by decide]
      refine own_istore 87 rfl #[.val (.int p1), .val (.int p2), .val (.ref b1), .val (.int (8 : Int32)), .val (.int (8 : Int32)), .val (.int (8 : Int32)), .unset, .unset] at_85 rfl ?_
      refine own_iload 89 rfl at_87 rfl ?_
      refine own_iconst 90 rfl (5 : Int32) at_89 rfl ?_
      refine own_callS 93 rfl 1 9 0 [(.int (8 : Int32)), (.int (5 : Int32))] [] (y := (⟨"java/lang/Math", "max", "(II)I"⟩ : MethodName)) (hw _ (List.mem_of_getElem? (i := 23) rfl)) (hw _ (List.mem_of_getElem? (i := 24) rfl)) (hw _ (List.mem_of_getElem? (i := 25) rfl)) (hw _ (List.mem_of_getElem? (i := 26) rfl)) (by decide) (rm1 l Z a0 hw [] (8 : Int32) (5 : Int32)  h10 ) at_90 rfl (lenOf own_pd1 rfl) rfl rfl rfl (by decide) (by decide) rfl rfl (by decide) (by decide) (own_kv fun v572 h572 q572 => ?_)
      obtain ⟨rfl, e572⟩ := q572
      rw [e572]
      rw [show (if (8 : Int32) < (5 : Int32) then (5 : Int32) else (8 : Int32)) = (8 : Int32) from by decide]
      refine own_istore 95 rfl #[.val (.int p1), .val (.int p2), .val (.ref b1), .val (.int (8 : Int32)), .val (.int (8 : Int32)), .val (.int (8 : Int32)), .val (.int (8 : Int32)), .unset] at_93 rfl ?_
      refine own_aloadN 96 rfl at_95 rfl rfl ?_
      refine own_iload 98 rfl at_96 rfl ?_
      refine own_iload 100 rfl at_98 rfl ?_
      refine own_callS 103 rfl 1 9 1 [(.int (8 : Int32)), (.int (8 : Int32))] [(.ref b1)] (y := (⟨"java/lang/Math", "max", "(II)I"⟩ : MethodName)) (hw _ (List.mem_of_getElem? (i := 23) rfl)) (hw _ (List.mem_of_getElem? (i := 24) rfl)) (hw _ (List.mem_of_getElem? (i := 25) rfl)) (hw _ (List.mem_of_getElem? (i := 26) rfl)) (by decide) (rm1 l Z a0 hw [] (8 : Int32) (8 : Int32)  h10 ) at_100 rfl (lenOf own_pd1 rfl) rfl rfl rfl (by decide) (by decide) rfl rfl (by decide) (by decide) (own_kv fun v573 h573 q573 => ?_)
      obtain ⟨rfl, e573⟩ := q573
      rw [e573]
      rw [show (if (8 : Int32) < (8 : Int32) then (8 : Int32) else (8 : Int32)) = (8 : Int32) from by decide]
      obtain ⟨c574, A574, q574, S574, N574, H574, G574⟩ := id V10
      refine own_aaload 104 rfl A574 rfl (inb_of S574 ⟨by decide, by decide⟩) (Has.at H574 (inb_of S574 ⟨by decide, by decide⟩) rfl) at_103 ?_
      refine own_astore 106 rfl #[.val (.int p1), .val (.int p2), .val (.ref b1), .val (.int (8 : Int32)), .val (.int (8 : Int32)), .val (.int (8 : Int32)), .val (.int (8 : Int32)), .val (.ref w_UNSIGNED_LONG_LONG)] at_104 rfl rfl ?_
      refine own_aloadN 107 rfl at_106 rfl rfl ?_
      refine own_iloadN 108 rfl at_107 rfl ?_
      obtain ⟨c575, A575, q575, S575, N575, H575, G575⟩ := id V10
      refine own_aaload 109 rfl A575 rfl (inb_of S575 ⟨by decide, by decide⟩) (Has.at H575 (inb_of S575 ⟨by decide, by decide⟩) rfl) at_108 ?_
      refine own_aloadN 110 rfl at_109 rfl rfl ?_
      refine own_iload 112 rfl at_110 rfl ?_
      obtain ⟨c576, A576, q576, S576, N576, H576, G576⟩ := id V10
      refine own_aaload 113 rfl A576 rfl (inb_of S576 ⟨by decide, by decide⟩) (Has.at H576 (inb_of S576 ⟨by decide, by decide⟩) rfl) at_112 ?_
      refine own_callS 116 rfl 1 9 0 [(.ref w_UNSIGNED_LONG_LONG), (.ref w_UNSIGNED_LONG_LONG)] [] (y := (⟨"com/example/counterpath/counterpath/cfa/Type", "common", "(Lcom/example/counterpath/counterpath/cfa/Type;Lcom/example/counterpath/counterpath/cfa/Type;)Lcom/example/counterpath/counterpath/cfa/Type;"⟩ : MethodName)) (hw _ (List.mem_of_getElem? (i := 27) rfl)) (hw _ (List.mem_of_getElem? (i := 28) rfl)) (hw _ (List.mem_of_getElem? (i := 3) rfl)) (hw _ (List.mem_of_getElem? (i := 29) rfl)) (by decide) (rm2 l Z a0 hw [] w_UNSIGNED_LONG_LONG w_UNSIGNED_LONG_LONG (64 : Int32) (0 : Int32) (64 : Int32) (0 : Int32) w_BOOL w_SIGNED_CHAR w_UNSIGNED_CHAR w_SHORT w_UNSIGNED_SHORT w_INT w_UNSIGNED_INT w_LONG_LONG w_UNSIGNED_LONG_LONG h10 I (((((((((((E_w_UNSIGNED_LONG_LONG.ext O0.2).ext E1).wr W2).wr W3).wr W4).wr W5).wr W6).wr W7).wr W8).wr W9).wr W10) (((((((((((F_w_UNSIGNED_LONG_LONG_width.ext O0.2).ext E1).other W2 (Or.inl ne_w_UNSIGNED_LONG_LONG_b1)).other W3 (Or.inl ne_w_UNSIGNED_LONG_LONG_b1)).other W4 (Or.inl ne_w_UNSIGNED_LONG_LONG_b1)).other W5 (Or.inl ne_w_UNSIGNED_LONG_LONG_b1)).other W6 (Or.inl ne_w_UNSIGNED_LONG_LONG_b1)).other W7 (Or.inl ne_w_UNSIGNED_LONG_LONG_b1)).other W8 (Or.inl ne_w_UNSIGNED_LONG_LONG_b1)).other W9 (Or.inl ne_w_UNSIGNED_LONG_LONG_b1)).other W10 (Or.inl ne_w_UNSIGNED_LONG_LONG_b1)) (((((((((((F_w_UNSIGNED_LONG_LONG_signed.ext O0.2).ext E1).other W2 (Or.inl ne_w_UNSIGNED_LONG_LONG_b1)).other W3 (Or.inl ne_w_UNSIGNED_LONG_LONG_b1)).other W4 (Or.inl ne_w_UNSIGNED_LONG_LONG_b1)).other W5 (Or.inl ne_w_UNSIGNED_LONG_LONG_b1)).other W6 (Or.inl ne_w_UNSIGNED_LONG_LONG_b1)).other W7 (Or.inl ne_w_UNSIGNED_LONG_LONG_b1)).other W8 (Or.inl ne_w_UNSIGNED_LONG_LONG_b1)).other W9 (Or.inl ne_w_UNSIGNED_LONG_LONG_b1)).other W10 (Or.inl ne_w_UNSIGNED_LONG_LONG_b1)) (((((((((((E_w_UNSIGNED_LONG_LONG.ext O0.2).ext E1).wr W2).wr W3).wr W4).wr W5).wr W6).wr W7).wr W8).wr W9).wr W10) (((((((((((F_w_UNSIGNED_LONG_LONG_width.ext O0.2).ext E1).other W2 (Or.inl ne_w_UNSIGNED_LONG_LONG_b1)).other W3 (Or.inl ne_w_UNSIGNED_LONG_LONG_b1)).other W4 (Or.inl ne_w_UNSIGNED_LONG_LONG_b1)).other W5 (Or.inl ne_w_UNSIGNED_LONG_LONG_b1)).other W6 (Or.inl ne_w_UNSIGNED_LONG_LONG_b1)).other W7 (Or.inl ne_w_UNSIGNED_LONG_LONG_b1)).other W8 (Or.inl ne_w_UNSIGNED_LONG_LONG_b1)).other W9 (Or.inl ne_w_UNSIGNED_LONG_LONG_b1)).other W10 (Or.inl ne_w_UNSIGNED_LONG_LONG_b1)) (((((((((((F_w_UNSIGNED_LONG_LONG_signed.ext O0.2).ext E1).other W2 (Or.inl ne_w_UNSIGNED_LONG_LONG_b1)).other W3 (Or.inl ne_w_UNSIGNED_LONG_LONG_b1)).other W4 (Or.inl ne_w_UNSIGNED_LONG_LONG_b1)).other W5 (Or.inl ne_w_UNSIGNED_LONG_LONG_b1)).other W6 (Or.inl ne_w_UNSIGNED_LONG_LONG_b1)).other W7 (Or.inl ne_w_UNSIGNED_LONG_LONG_b1)).other W8 (Or.inl ne_w_UNSIGNED_LONG_LONG_b1)).other W9 (Or.inl ne_w_UNSIGNED_LONG_LONG_b1)).other W10 (Or.inl ne_w_UNSIGNED_LONG_LONG_b1)) (by decide) (by decide)) at_113 rfl (lenOf own_pd2 rfl) rfl rfl rfl (by decide) (by decide) rfl rfl (by decide) (by decide) (own_kv fun v577 h577 q577 => ?_)
      obtain ⟨rfl, e577⟩ := q577
      rw [e577]
      rw [show own_com w_INT w_UNSIGNED_LONG_LONG (64 : Int32) (0 : Int32) w_UNSIGNED_LONG_LONG (64 : Int32) (0 : Int32) = w_UNSIGNED_LONG_LONG from by simp [own_com]]
      refine own_aload 118 rfl at_116 rfl rfl ?_
      refine own_acmpNo 121 rfl at_118 rfl rfl (own_teq (rfl : ((.ref w_UNSIGNED_LONG_LONG) : Value) = (.ref w_UNSIGNED_LONG_LONG))).2 ?_
      refine own_iconst 122 rfl (1 : Int32) at_121 rfl ?_
      refine own_goto 126 at_122 (by decide) (by decide) ?_
      refine own_retN rfl (by simp) at_126 (by decide) (by decide) ?_
      exact ⟨_, rfl, rfl⟩
set_option maxRecDepth 65536 in
set_option maxHeartbeats 40000000 in
theorem comes_1 {Post : Tables → Env → Array Value → State → Outcome → State → Prop} (hpost : ∀ tb e args s v u, (limb_1_1.after args s (.returned v) u = true ∧ limb_1_2.after args s (.returned v) u = true ∧ True) → FrameEnd s (.returned v) u (Jvm.fieldLocs frame_1_writes args s ++ Jvm.arrayLocs frame_1_arrays args s ++ Jvm.staticLocs frame_1_statics s) 16 128 → Post tb e args s (.returned v) u) :
    ArmFor flags0 classFile x code maxLocals ret World_1 tables_1 room_1 Calls_1 rest_1 Pre_1 Post := by
  intro l hfl _ _ p e ha hc hk s m args below hf hA hF happ hP
  obtain ⟨hcalls, hrest, hpre⟩ := hP
  obtain ⟨-, -, -, hnamed, -, -, -, hat⟩ := (Spec.applies_iff hf).mp happ
  obtain ⟨hg, hn⟩ := and_e (Cond.before_iff.mp (show (Jvm.Cond.and given_1 narrow_1).before args s = true from hpre))
  obtain ⟨g0, gr0⟩ := and_e hg
  obtain ⟨g1, gr1⟩ := and_e gr0
  have g2 := gr1
  obtain ⟨w0, w1, rfl⟩ : ∃ w0 w1 : Value, args = #[w0, w1] := by
    have hs : args.size = 2 := by simpa [Cond.value, given_1] using g0
    obtain ⟨L⟩ := args
    match L, hs with
    | [w0, w1], _ => exact ⟨w0, w1, rfl⟩
  have hw := fun d (hd : d ∈ tables_1) => atoms_spec (ws := Jvm.Cond.code x code maxLocals ret :: tables_1) hat d (List.mem_cons_of_mem _ hd)
  have hfit : Fit s := fun {y c} hc i hi => by
    obtain ⟨ha, rfl⟩ := Array.getElem?_eq_some_iff.mp hc
    have q := List.all_eq_true.mp ((Array.all_eq_true_iff_forall_mem.mp hF) _ (Array.getElem_mem ha)) i (List.mem_range.mpr hi)
    simpa [Array.getElem?_eq_getElem hi] using q
  obtain ⟨i0, ei0⟩ := is_v g1
  obtain rfl : w0 = (.int i0) := Option.some.inj ei0
  obtain ⟨i1, ei1⟩ := is_v g2
  obtain rfl : w1 = (.int i1) := Option.some.inj ei1
  obtain ⟨n0, r0⟩ := and_e hn
  obtain ⟨n1, r1⟩ := and_e r0
  obtain ⟨n2, r2⟩ := and_e r1
  obtain ⟨n3, r3⟩ := and_e r2
  obtain ⟨n4, r4⟩ := and_e r3
  obtain ⟨n5, r5⟩ := and_e r4
  obtain ⟨n6, r6⟩ := and_e r5
  obtain ⟨n7, r7⟩ := and_e r6
  obtain ⟨n8, r8⟩ := and_e r7
  obtain ⟨n9, r9⟩ := and_e r8
  obtain ⟨n10, r10⟩ := and_e r9
  obtain ⟨n11, r11⟩ := and_e r10
  obtain ⟨n12, r12⟩ := and_e r11
  obtain ⟨n13, r13⟩ := and_e r12
  obtain ⟨n14, r14⟩ := and_e r13
  obtain ⟨n15, r15⟩ := and_e r14
  obtain ⟨n16, r16⟩ := and_e r15
  obtain ⟨n17, r17⟩ := and_e r16
  obtain ⟨n18, r18⟩ := and_e r17
  obtain ⟨n19, r19⟩ := and_e r18
  obtain ⟨n20, r20⟩ := and_e r19
  obtain ⟨n21, r21⟩ := and_e r20
  obtain ⟨n22, r22⟩ := and_e r21
  obtain ⟨n23, r23⟩ := and_e r22
  obtain ⟨n24, r24⟩ := and_e r23
  obtain ⟨n25, r25⟩ := and_e r24
  have n26 := r25
  obtain ⟨w_BOOL, ev_w_BOOL⟩ := exa_v n0
  have S_w_BOOL : Sta s s.heap "com/example/counterpath/counterpath/cfa/Type" "BOOL" "Lcom/example/counterpath/counterpath/cfa/Type;" (.ref w_BOOL) := Sta.start ev_w_BOOL (Or.inr ⟨(hw _ (List.mem_of_getElem? (i := 3) rfl)), (hw _ (List.mem_of_getElem? (i := 4) rfl))⟩)
  have E_w_BOOL : Exa s s.heap w_BOOL "com/example/counterpath/counterpath/cfa/Type" := Exa.start ev_w_BOOL n0
  obtain ⟨w_SIGNED_CHAR, ev_w_SIGNED_CHAR⟩ := exa_v n1
  have S_w_SIGNED_CHAR : Sta s s.heap "com/example/counterpath/counterpath/cfa/Type" "SIGNED_CHAR" "Lcom/example/counterpath/counterpath/cfa/Type;" (.ref w_SIGNED_CHAR) := Sta.start ev_w_SIGNED_CHAR (Or.inr ⟨(hw _ (List.mem_of_getElem? (i := 3) rfl)), (hw _ (List.mem_of_getElem? (i := 7) rfl))⟩)
  have E_w_SIGNED_CHAR : Exa s s.heap w_SIGNED_CHAR "com/example/counterpath/counterpath/cfa/Type" := Exa.start ev_w_SIGNED_CHAR n1
  obtain ⟨w_UNSIGNED_CHAR, ev_w_UNSIGNED_CHAR⟩ := exa_v n2
  have S_w_UNSIGNED_CHAR : Sta s s.heap "com/example/counterpath/counterpath/cfa/Type" "UNSIGNED_CHAR" "Lcom/example/counterpath/counterpath/cfa/Type;" (.ref w_UNSIGNED_CHAR) := Sta.start ev_w_UNSIGNED_CHAR (Or.inr ⟨(hw _ (List.mem_of_getElem? (i := 3) rfl)), (hw _ (List.mem_of_getElem? (i := 9) rfl))⟩)
  have E_w_UNSIGNED_CHAR : Exa s s.heap w_UNSIGNED_CHAR "com/example/counterpath/counterpath/cfa/Type" := Exa.start ev_w_UNSIGNED_CHAR n2
  obtain ⟨w_SHORT, ev_w_SHORT⟩ := exa_v n3
  have S_w_SHORT : Sta s s.heap "com/example/counterpath/counterpath/cfa/Type" "SHORT" "Lcom/example/counterpath/counterpath/cfa/Type;" (.ref w_SHORT) := Sta.start ev_w_SHORT (Or.inr ⟨(hw _ (List.mem_of_getElem? (i := 3) rfl)), (hw _ (List.mem_of_getElem? (i := 11) rfl))⟩)
  have E_w_SHORT : Exa s s.heap w_SHORT "com/example/counterpath/counterpath/cfa/Type" := Exa.start ev_w_SHORT n3
  obtain ⟨w_UNSIGNED_SHORT, ev_w_UNSIGNED_SHORT⟩ := exa_v n4
  have S_w_UNSIGNED_SHORT : Sta s s.heap "com/example/counterpath/counterpath/cfa/Type" "UNSIGNED_SHORT" "Lcom/example/counterpath/counterpath/cfa/Type;" (.ref w_UNSIGNED_SHORT) := Sta.start ev_w_UNSIGNED_SHORT (Or.inr ⟨(hw _ (List.mem_of_getElem? (i := 3) rfl)), (hw _ (List.mem_of_getElem? (i := 13) rfl))⟩)
  have E_w_UNSIGNED_SHORT : Exa s s.heap w_UNSIGNED_SHORT "com/example/counterpath/counterpath/cfa/Type" := Exa.start ev_w_UNSIGNED_SHORT n4
  obtain ⟨w_INT, ev_w_INT⟩ := exa_v n5
  have S_w_INT : Sta s s.heap "com/example/counterpath/counterpath/cfa/Type" "INT" "Lcom/example/counterpath/counterpath/cfa/Type;" (.ref w_INT) := Sta.start ev_w_INT (Or.inr ⟨(hw _ (List.mem_of_getElem? (i := 3) rfl)), (hw _ (List.mem_of_getElem? (i := 15) rfl))⟩)
  have E_w_INT : Exa s s.heap w_INT "com/example/counterpath/counterpath/cfa/Type" := Exa.start ev_w_INT n5
  obtain ⟨w_UNSIGNED_INT, ev_w_UNSIGNED_INT⟩ := exa_v n6
  have S_w_UNSIGNED_INT : Sta s s.heap "com/example/counterpath/counterpath/cfa/Type" "UNSIGNED_INT" "Lcom/example/counterpath/counterpath/cfa/Type;" (.ref w_UNSIGNED_INT) := Sta.start ev_w_UNSIGNED_INT (Or.inr ⟨(hw _ (List.mem_of_getElem? (i := 3) rfl)), (hw _ (List.mem_of_getElem? (i := 17) rfl))⟩)
  have E_w_UNSIGNED_INT : Exa s s.heap w_UNSIGNED_INT "com/example/counterpath/counterpath/cfa/Type" := Exa.start ev_w_UNSIGNED_INT n6
  obtain ⟨w_LONG_LONG, ev_w_LONG_LONG⟩ := exa_v n7
  have S_w_LONG_LONG : Sta s s.heap "com/example/counterpath/counterpath/cfa/Type" "LONG_LONG" "Lcom/example/counterpath/counterpath/cfa/Type;" (.ref w_LONG_LONG) := Sta.start ev_w_LONG_LONG (Or.inr ⟨(hw _ (List.mem_of_getElem? (i := 3) rfl)), (hw _ (List.mem_of_getElem? (i := 19) rfl))⟩)
  have E_w_LONG_LONG : Exa s s.heap w_LONG_LONG "com/example/counterpath/counterpath/cfa/Type" := Exa.start ev_w_LONG_LONG n7
  obtain ⟨w_UNSIGNED_LONG_LONG, ev_w_UNSIGNED_LONG_LONG⟩ := exa_v n8
  have S_w_UNSIGNED_LONG_LONG : Sta s s.heap "com/example/counterpath/counterpath/cfa/Type" "UNSIGNED_LONG_LONG" "Lcom/example/counterpath/counterpath/cfa/Type;" (.ref w_UNSIGNED_LONG_LONG) := Sta.start ev_w_UNSIGNED_LONG_LONG (Or.inr ⟨(hw _ (List.mem_of_getElem? (i := 3) rfl)), (hw _ (List.mem_of_getElem? (i := 21) rfl))⟩)
  have E_w_UNSIGNED_LONG_LONG : Exa s s.heap w_UNSIGNED_LONG_LONG "com/example/counterpath/counterpath/cfa/Type" := Exa.start ev_w_UNSIGNED_LONG_LONG n8
  have F_w_BOOL_width : Fld s s.heap w_BOOL "com/example/counterpath/counterpath/cfa/Type" "width" "I" (.int (1 : Int32)) := Fld.start (by rw [← fld_at ev_w_BOOL]; exact own_eqI n9)
  have F_w_INT_width : Fld s s.heap w_INT "com/example/counterpath/counterpath/cfa/Type" "width" "I" (.int (32 : Int32)) := Fld.start (by rw [← fld_at ev_w_INT]; exact own_eqI n10)
  have F_w_SHORT_width : Fld s s.heap w_SHORT "com/example/counterpath/counterpath/cfa/Type" "width" "I" (.int (16 : Int32)) := Fld.start (by rw [← fld_at ev_w_SHORT]; exact own_eqI n11)
  have F_w_INT_signed : Fld s s.heap w_INT "com/example/counterpath/counterpath/cfa/Type" "signed" "Z" (.int (1 : Int32)) := Fld.start (by rw [← fld_at ev_w_INT]; exact own_eqI n12)
  have F_w_SIGNED_CHAR_width : Fld s s.heap w_SIGNED_CHAR "com/example/counterpath/counterpath/cfa/Type" "width" "I" (.int (8 : Int32)) := Fld.start (by rw [← fld_at ev_w_SIGNED_CHAR]; exact own_eqI n13)
  have F_w_UNSIGNED_CHAR_width : Fld s s.heap w_UNSIGNED_CHAR "com/example/counterpath/counterpath/cfa/Type" "width" "I" (.int (8 : Int32)) := Fld.start (by rw [← fld_at ev_w_UNSIGNED_CHAR]; exact own_eqI n14)
  have F_w_UNSIGNED_SHORT_width : Fld s s.heap w_UNSIGNED_SHORT "com/example/counterpath/counterpath/cfa/Type" "width" "I" (.int (16 : Int32)) := Fld.start (by rw [← fld_at ev_w_UNSIGNED_SHORT]; exact own_eqI n15)
  have F_w_UNSIGNED_INT_width : Fld s s.heap w_UNSIGNED_INT "com/example/counterpath/counterpath/cfa/Type" "width" "I" (.int (32 : Int32)) := Fld.start (by rw [← fld_at ev_w_UNSIGNED_INT]; exact own_eqI n16)
  have F_w_UNSIGNED_INT_signed : Fld s s.heap w_UNSIGNED_INT "com/example/counterpath/counterpath/cfa/Type" "signed" "Z" (.int (0 : Int32)) := Fld.start (by rw [← fld_at ev_w_UNSIGNED_INT]; exact own_eqI n17)
  have F_w_UNSIGNED_LONG_LONG_width : Fld s s.heap w_UNSIGNED_LONG_LONG "com/example/counterpath/counterpath/cfa/Type" "width" "I" (.int (64 : Int32)) := Fld.start (by rw [← fld_at ev_w_UNSIGNED_LONG_LONG]; exact own_eqI n18)
  have F_w_UNSIGNED_LONG_LONG_signed : Fld s s.heap w_UNSIGNED_LONG_LONG "com/example/counterpath/counterpath/cfa/Type" "signed" "Z" (.int (0 : Int32)) := Fld.start (by rw [← fld_at ev_w_UNSIGNED_LONG_LONG]; exact own_eqI n19)
  have F_w_LONG_LONG_width : Fld s s.heap w_LONG_LONG "com/example/counterpath/counterpath/cfa/Type" "width" "I" (.int (64 : Int32)) := Fld.start (by rw [← fld_at ev_w_LONG_LONG]; exact own_eqI n20)
  have F_w_LONG_LONG_signed : Fld s s.heap w_LONG_LONG "com/example/counterpath/counterpath/cfa/Type" "signed" "Z" (.int (1 : Int32)) := Fld.start (by rw [← fld_at ev_w_LONG_LONG]; exact own_eqI n21)
  have F_w_BOOL_signed : Fld s s.heap w_BOOL "com/example/counterpath/counterpath/cfa/Type" "signed" "Z" (.int (0 : Int32)) := Fld.start (by rw [← fld_at ev_w_BOOL]; exact own_eqI n22)
  have F_w_SIGNED_CHAR_signed : Fld s s.heap w_SIGNED_CHAR "com/example/counterpath/counterpath/cfa/Type" "signed" "Z" (.int (1 : Int32)) := Fld.start (by rw [← fld_at ev_w_SIGNED_CHAR]; exact own_eqI n23)
  have F_w_UNSIGNED_CHAR_signed : Fld s s.heap w_UNSIGNED_CHAR "com/example/counterpath/counterpath/cfa/Type" "signed" "Z" (.int (0 : Int32)) := Fld.start (by rw [← fld_at ev_w_UNSIGNED_CHAR]; exact own_eqI n24)
  have F_w_SHORT_signed : Fld s s.heap w_SHORT "com/example/counterpath/counterpath/cfa/Type" "signed" "Z" (.int (1 : Int32)) := Fld.start (by rw [← fld_at ev_w_SHORT]; exact own_eqI n25)
  have F_w_UNSIGNED_SHORT_signed : Fld s s.heap w_UNSIGNED_SHORT "com/example/counterpath/counterpath/cfa/Type" "signed" "Z" (.int (0 : Int32)) := Fld.start (by rw [← fld_at ev_w_UNSIGNED_SHORT]; exact own_eqI n26)
  obtain ⟨n', o, h1, h2, h3, _, L, rfl, ⟨⟨_, rfl, rfl⟩, N, -⟩, hq⟩ := rm0 l s _ hw tables_1 i0 i1 w_BOOL w_SIGNED_CHAR w_UNSIGNED_CHAR w_SHORT w_UNSIGNED_SHORT w_INT w_UNSIGNED_INT w_LONG_LONG w_UNSIGNED_LONG_LONG s.heap (show own_Ini s w_BOOL w_SIGNED_CHAR w_UNSIGNED_CHAR w_SHORT w_UNSIGNED_SHORT w_INT w_UNSIGNED_INT w_LONG_LONG w_UNSIGNED_LONG_LONG from ⟨S_w_BOOL, E_w_BOOL, S_w_SIGNED_CHAR, E_w_SIGNED_CHAR, S_w_UNSIGNED_CHAR, E_w_UNSIGNED_CHAR, S_w_SHORT, E_w_SHORT, S_w_UNSIGNED_SHORT, E_w_UNSIGNED_SHORT, S_w_INT, E_w_INT, S_w_UNSIGNED_INT, E_w_UNSIGNED_INT, S_w_LONG_LONG, E_w_LONG_LONG, S_w_UNSIGNED_LONG_LONG, E_w_UNSIGNED_LONG_LONG, F_w_BOOL_width, F_w_INT_width, F_w_SHORT_width, F_w_INT_signed, F_w_SIGNED_CHAR_width, F_w_UNSIGNED_CHAR_width, F_w_UNSIGNED_SHORT_width, F_w_UNSIGNED_INT_width, F_w_UNSIGNED_INT_signed, F_w_UNSIGNED_LONG_LONG_width, F_w_UNSIGNED_LONG_LONG_signed, F_w_LONG_LONG_width, F_w_LONG_LONG_signed, F_w_BOOL_signed, F_w_SIGNED_CHAR_signed, F_w_UNSIGNED_CHAR_signed, F_w_SHORT_signed, F_w_UNSIGNED_SHORT_signed⟩) (Old.start s) p e ha hc hk s m _ below hf ((Spec.applies_iff_loose hf).mp happ).1 ⟨rfl, State.Warmed39.refl s, rfl⟩ trivial
  refine ⟨n', _, h1, h2, h3, hpost _ _ _ _ _ _ ⟨Cond.after_iff.mpr rfl, Cond.after_iff.mpr (eq_i res_at (Term.int_eval (1)) rfl), trivial⟩ ⟨hq.1, hq.2.1, (hq.2.2.sift fun y hy => Or.inr (N y hy)).mono (by decide) (by decide)⟩⟩
theorem main_1_1 : Claimed_1_1 := comes_1 fun _ _ _ _ _ _ h hF => ⟨h.1, hF⟩
theorem main_1_2 : Claimed_1_2 := comes_1 fun _ _ _ _ _ _ h hF => ⟨h.2.1, hF⟩
end Jvm.Pilot.@@N@@
namespace Jvm.Pilot.@@N@@
open Jvm Jvm.ClassFile Sem Op Lib Jvm.Free Jvm.Stand Jvm.Pilot.@@N@@.Jvm.D
/-! MADE BY PROGRAM (witnessworld.py) out of the Statement's table words and the real class files: 14 classes; the members and pool entries that the words name. The judged class is class 1, her method 1. -/
namespace start1
open Jvm.ClassFile
def u (s : String) : CpInfo := .utf8 (stringToUtf16 s)
/-- a pool by its gaps: so many unusable entries, then the entry; so many at the end -/
def gap : Nat → List CpInfo → List CpInfo
  | 0, r => r
  | n + 1, r => .unusable :: gap n r
def poolList (es : List (Nat × CpInfo)) (last : Nat) : List CpInfo := es.foldr (fun e r => gap e.1 (e.2 :: r)) (gap last [])
def pool (es : List (Nat × CpInfo)) (last : Nat) : Array CpInfo := ⟨poolList es last⟩
def fileOf (pool : Array CpInfo) (this : Nat) (attrs : Array Attribute := #[]) (ms : Array MethodInfo := #[]) (fl : Nat := 33) (sup : Nat := 0) (ifs : Array Nat := #[]) (fds : Array FieldInfo := #[]) : ClassFile where
  minorVersion := 0
  majorVersion := 65
  constantPool := pool
  accessFlags := fl
  thisClass := this
  superClass := sup
  interfaces := ifs
  fields := fds
  methods := ms
  attributes := attrs
def plain (name : String) (sup : Option ClassId) : Class where
  name := name
  kind := .ordinary
  loader := none
  accessFlags := 33
  super := sup
  interfaces := #[]
  cf := none
  fields := #[]
  methods := #[]
  instanceTypes := #[]
  staticTypes := #[]
  resolved := #[]
  callSites := []
  init := .initialized
  statics := none
  mirror := none

def pool0 : Array CpInfo := pool [(5, u "<init>"), (0, u "()V"), (1, .class_ 10), (1, u "java/lang/Object")] 113

def k0m0 : Method := { name := "<init>", desc := "()V", sig := { parameters := [], returnType := none }, accessFlags := 1, code := none }
/-- java/lang/Object -/
def k0 : Class := { plain "java/lang/Object" none with
  accessFlags := 33
  interfaces := #[]
  cf := some (fileOf pool0 8 #[] #[{ accessFlags := 1, nameIndex := 5, descriptorIndex := 6, attributes := #[] }] 33 0 #[] #[])
  fields := #[]
  methods := #[k0m0]
  instanceTypes := #[]
  staticTypes := #[]
  resolved := Array.replicate 124 none
  statics := none }

def pool1 : Array CpInfo := pool [(2, .class_ 4), (1, u "java/lang/Object"), (0, u "<init>"), (0, u "()V"), (0, .class_ 8), (0, u "com/example/counterpath/counterpath/cfa/Type"), (0, .fieldref 7 10), (0, .nameAndType 11 12), (0, u "BOOL"), (0, u "Lcom/example/counterpath/counterpath/cfa/Type;"), (0, .fieldref 7 14), (0, .nameAndType 15 12), (0, u "SIGNED_CHAR"), (0, .fieldref 7 17), (0, .nameAndType 18 12), (0, u "UNSIGNED_CHAR"), (0, .fieldref 7 20), (0, .nameAndType 21 12), (0, u "SHORT"), (0, .fieldref 7 23), (0, .nameAndType 24 12), (0, u "UNSIGNED_SHORT"), (0, .fieldref 7 26), (0, .nameAndType 27 12), (0, u "INT"), (0, .fieldref 7 29), (0, .nameAndType 30 12), (0, u "UNSIGNED_INT"), (0, .fieldref 7 32), (0, .nameAndType 33 12), (0, u "LONG_LONG"), (0, .fieldref 7 35), (0, .nameAndType 36 12), (0, u "UNSIGNED_LONG_LONG"), (0, .integer 2147483647), (0, .methodref 39 40), (0, .class_ 41), (0, .nameAndType 42 43), (0, u "java/lang/Math"), (0, u "max"), (0, u "(II)I"), (0, .methodref 7 45), (0, .nameAndType 46 47), (0, u "common"), (0, u "(Lcom/example/counterpath/counterpath/cfa/Type;Lcom/example/counterpath/counterpath/cfa/Type;)Lcom/example/counterpath/counterpath/cfa/Type;"), (0, .class_ 49), (0, u "com/example/counterpath/counterpath/cfa/TypeCommonPinLaw"), (2, u "law"), (0, u "(II)Z")] 5

def k1m0 : Method := { name := "<init>", desc := "()V", sig := { parameters := [], returnType := none }, accessFlags := 1, code := none }
def k1c1 : Code := { maxStack := 4, maxLocals := 8, code := code, exceptionTable := #[], attributes := #[] }
def k1m1 : Method := { name := "law", desc := "(II)Z", sig := { parameters := [.int, .int], returnType := some .boolean }, accessFlags := 9, code := some k1c1 }
/-- com/example/counterpath/counterpath/cfa/TypeCommonPinLaw -/
def k1 : Class := { plain "com/example/counterpath/counterpath/cfa/TypeCommonPinLaw" (some 0) with
  accessFlags := 49
  interfaces := #[]
  cf := some (fileOf pool1 48 #[] #[{ accessFlags := 1, nameIndex := 5, descriptorIndex := 6, attributes := #[] }, { accessFlags := 9, nameIndex := 52, descriptorIndex := 53, attributes := #[] }] 49 2 #[] #[])
  fields := #[]
  methods := #[k1m0, k1m1]
  instanceTypes := #[]
  staticTypes := #[]
  resolved := Array.replicate 59 none
  statics := none }

def pool2 : Array CpInfo := pool [(1, .class_ 2), (0, u "java/lang/constant/Constable"), (0, .class_ 4), (0, u "java/lang/Object")] 6

/-- java/lang/constant/Constable -/
def k2 : Class := { plain "java/lang/constant/Constable" (some 0) with
  accessFlags := 1537
  interfaces := #[]
  cf := some (fileOf pool2 1 #[] #[] 1537 3 #[] #[])
  fields := #[]
  methods := #[]
  instanceTypes := #[]
  staticTypes := #[]
  resolved := Array.replicate 11 none
  statics := none }

def pool3 : Array CpInfo := pool [(1, .class_ 2), (0, u "java/lang/Comparable"), (0, .class_ 4), (0, u "java/lang/Object")] 7

/-- java/lang/Comparable -/
def k3 : Class := { plain "java/lang/Comparable" (some 0) with
  accessFlags := 1537
  interfaces := #[]
  cf := some (fileOf pool3 1 #[] #[] 1537 3 #[] #[])
  fields := #[]
  methods := #[]
  instanceTypes := #[]
  staticTypes := #[]
  resolved := Array.replicate 12 none
  statics := none }

def pool4 : Array CpInfo := pool [(1, .class_ 2), (0, u "java/io/Serializable"), (0, .class_ 4), (0, u "java/lang/Object")] 2

/-- java/io/Serializable -/
def k4 : Class := { plain "java/io/Serializable" (some 0) with
  accessFlags := 1537
  interfaces := #[]
  cf := some (fileOf pool4 1 #[] #[] 1537 3 #[] #[])
  fields := #[]
  methods := #[]
  instanceTypes := #[]
  staticTypes := #[]
  resolved := Array.replicate 7 none
  statics := none }

def pool5 : Array CpInfo := pool [(2, .class_ 4), (1, u "java/lang/Enum"), (0, u "name"), (0, u "Ljava/lang/String;"), (2, u "ordinal"), (0, u "I"), (1, .class_ 14), (1, u "java/lang/Object"), (4, u "hash"), (86, .class_ 108), (1, u "java/lang/Enum$EnumDesc"), (2, .class_ 112), (0, u "java/lang/constant/Constable"), (0, .class_ 114), (0, u "java/lang/Comparable"), (0, .class_ 116), (0, u "java/io/Serializable")] 87

/-- java/lang/Enum -/
def k5 : Class := { plain "java/lang/Enum" (some 0) with
  accessFlags := 1057
  interfaces := #[2, 3, 4]
  cf := some (fileOf pool5 2 #[.nestMembers #[106]] #[] 1057 12 #[111, 113, 115] #[{ accessFlags := 18, nameIndex := 5, descriptorIndex := 6, attributes := #[] }, { accessFlags := 18, nameIndex := 9, descriptorIndex := 10, attributes := #[] }, { accessFlags := 2, nameIndex := 19, descriptorIndex := 10, attributes := #[] }])
  fields := #[{ name := "name", type := (.object "java/lang/String"), accessFlags := 18, slot := 0, constantValue := 0 }, { name := "ordinal", type := .int, accessFlags := 18, slot := 1, constantValue := 0 }, { name := "hash", type := .int, accessFlags := 2, slot := 2, constantValue := 0 }]
  methods := #[]
  instanceTypes := #[(.object "java/lang/String"), .int, .int]
  staticTypes := #[]
  resolved := Array.replicate 204 none
  statics := none }

def pool6 : Array CpInfo := pool [(1, .class_ 2), (0, u "com/example/counterpath/counterpath/cfa/Type"), (2, u "BOOL"), (0, u "Lcom/example/counterpath/counterpath/cfa/Type;"), (2, u "SIGNED_CHAR"), (2, u "UNSIGNED_CHAR"), (2, u "SHORT"), (2, u "UNSIGNED_SHORT"), (0, .fieldref 1 20), (0, .nameAndType 21 6), (0, u "INT"), (2, u "UNSIGNED_INT"), (2, u "LONG_LONG"), (2, u "UNSIGNED_LONG_LONG"), (2, u "$VALUES"), (0, u "[Lcom/example/counterpath/counterpath/cfa/Type;"), (6, .class_ 43), (1, u "java/lang/Enum"), (8, u "spelling"), (0, u "Ljava/lang/String;"), (0, .fieldref 1 55), (0, .nameAndType 56 57), (0, u "width"), (0, u "I"), (0, .fieldref 1 59), (0, .nameAndType 60 61), (0, u "signed"), (0, u "Z"), (5, u "Ljava/math/BigInteger;"), (13, u "min"), (6, u "max"), (14, .methodref 1 104), (0, .nameAndType 105 106), (0, u "promoted"), (0, u "()Lcom/example/counterpath/counterpath/cfa/Type;"), (50, u "common"), (0, u "(Lcom/example/counterpath/counterpath/cfa/Type;Lcom/example/counterpath/counterpath/cfa/Type;)Lcom/example/counterpath/counterpath/cfa/Type;")] 5

def k6c0 : Code := { maxStack := 2, maxLocals := 1, code := prog_22_method_11_code, exceptionTable := #[], attributes := #[] }
def k6m0 : Method := { name := "promoted", desc := "()Lcom/example/counterpath/counterpath/cfa/Type;", sig := { parameters := [], returnType := some (.object "com/example/counterpath/counterpath/cfa/Type") }, accessFlags := 1, code := some k6c0 }
def k6c1 : Code := { maxStack := 2, maxLocals := 7, code := prog_22_method_12_code, exceptionTable := #[], attributes := #[] }
def k6m1 : Method := { name := "common", desc := "(Lcom/example/counterpath/counterpath/cfa/Type;Lcom/example/counterpath/counterpath/cfa/Type;)Lcom/example/counterpath/counterpath/cfa/Type;", sig := { parameters := [(.object "com/example/counterpath/counterpath/cfa/Type"), (.object "com/example/counterpath/counterpath/cfa/Type")], returnType := some (.object "com/example/counterpath/counterpath/cfa/Type") }, accessFlags := 9, code := some k6c1 }
/-- com/example/counterpath/counterpath/cfa/Type -/
def k6 : Class := { plain "com/example/counterpath/counterpath/cfa/Type" (some 5) with
  accessFlags := 16433
  interfaces := #[]
  cf := some (fileOf pool6 1 #[] #[{ accessFlags := 1, nameIndex := 105, descriptorIndex := 106, attributes := #[] }, { accessFlags := 9, nameIndex := 157, descriptorIndex := 158, attributes := #[] }] 16433 41 #[] #[{ accessFlags := 16409, nameIndex := 5, descriptorIndex := 6, attributes := #[] }, { accessFlags := 16409, nameIndex := 9, descriptorIndex := 6, attributes := #[] }, { accessFlags := 16409, nameIndex := 12, descriptorIndex := 6, attributes := #[] }, { accessFlags := 16409, nameIndex := 15, descriptorIndex := 6, attributes := #[] }, { accessFlags := 16409, nameIndex := 18, descriptorIndex := 6, attributes := #[] }, { accessFlags := 16409, nameIndex := 21, descriptorIndex := 6, attributes := #[] }, { accessFlags := 16409, nameIndex := 24, descriptorIndex := 6, attributes := #[] }, { accessFlags := 16409, nameIndex := 27, descriptorIndex := 6, attributes := #[] }, { accessFlags := 16409, nameIndex := 30, descriptorIndex := 6, attributes := #[] }, { accessFlags := 18, nameIndex := 52, descriptorIndex := 53, attributes := #[] }, { accessFlags := 18, nameIndex := 56, descriptorIndex := 57, attributes := #[] }, { accessFlags := 18, nameIndex := 60, descriptorIndex := 61, attributes := #[] }, { accessFlags := 18, nameIndex := 81, descriptorIndex := 67, attributes := #[] }, { accessFlags := 18, nameIndex := 88, descriptorIndex := 67, attributes := #[] }, { accessFlags := 4122, nameIndex := 33, descriptorIndex := 34, attributes := #[] }])
  fields := #[{ name := "BOOL", type := (.object "com/example/counterpath/counterpath/cfa/Type"), accessFlags := 16409, slot := 0, constantValue := 0 }, { name := "SIGNED_CHAR", type := (.object "com/example/counterpath/counterpath/cfa/Type"), accessFlags := 16409, slot := 1, constantValue := 0 }, { name := "UNSIGNED_CHAR", type := (.object "com/example/counterpath/counterpath/cfa/Type"), accessFlags := 16409, slot := 2, constantValue := 0 }, { name := "SHORT", type := (.object "com/example/counterpath/counterpath/cfa/Type"), accessFlags := 16409, slot := 3, constantValue := 0 }, { name := "UNSIGNED_SHORT", type := (.object "com/example/counterpath/counterpath/cfa/Type"), accessFlags := 16409, slot := 4, constantValue := 0 }, { name := "INT", type := (.object "com/example/counterpath/counterpath/cfa/Type"), accessFlags := 16409, slot := 5, constantValue := 0 }, { name := "UNSIGNED_INT", type := (.object "com/example/counterpath/counterpath/cfa/Type"), accessFlags := 16409, slot := 6, constantValue := 0 }, { name := "LONG_LONG", type := (.object "com/example/counterpath/counterpath/cfa/Type"), accessFlags := 16409, slot := 7, constantValue := 0 }, { name := "UNSIGNED_LONG_LONG", type := (.object "com/example/counterpath/counterpath/cfa/Type"), accessFlags := 16409, slot := 8, constantValue := 0 }, { name := "spelling", type := (.object "java/lang/String"), accessFlags := 18, slot := 3, constantValue := 0 }, { name := "width", type := .int, accessFlags := 18, slot := 4, constantValue := 0 }, { name := "signed", type := .boolean, accessFlags := 18, slot := 5, constantValue := 0 }, { name := "min", type := (.object "java/math/BigInteger"), accessFlags := 18, slot := 6, constantValue := 0 }, { name := "max", type := (.object "java/math/BigInteger"), accessFlags := 18, slot := 7, constantValue := 0 }, { name := "$VALUES", type := (.array (.object "com/example/counterpath/counterpath/cfa/Type")), accessFlags := 4122, slot := 9, constantValue := 0 }]
  methods := #[k6m0, k6m1]
  instanceTypes := #[(.object "java/lang/String"), .int, .int, (.object "java/lang/String"), .int, .boolean, (.object "java/math/BigInteger"), (.object "java/math/BigInteger")]
  staticTypes := #[(.object "com/example/counterpath/counterpath/cfa/Type"), (.object "com/example/counterpath/counterpath/cfa/Type"), (.object "com/example/counterpath/counterpath/cfa/Type"), (.object "com/example/counterpath/counterpath/cfa/Type"), (.object "com/example/counterpath/counterpath/cfa/Type"), (.object "com/example/counterpath/counterpath/cfa/Type"), (.object "com/example/counterpath/counterpath/cfa/Type"), (.object "com/example/counterpath/counterpath/cfa/Type"), (.object "com/example/counterpath/counterpath/cfa/Type"), (.array (.object "com/example/counterpath/counterpath/cfa/Type"))]
  resolved := Array.replicate 164 none
  statics := some 0 }

def pool7 : Array CpInfo := pool [(1, .class_ 2), (0, u "java/lang/Math"), (1, .class_ 6), (1, u "java/lang/Object"), (0, u "<init>"), (0, u "()V"), (89, .class_ 100), (1, u "java/lang/Math$RandomNumberGeneratorHolder"), (71, u "negativeZeroFloatBits"), (0, u "J"), (2, u "negativeZeroDoubleBits"), (21, u "max"), (46, u "$assertionsDisabled"), (0, u "Z"), (88, u "(II)I"), (2, u "twoToTheDoubleScaleDown"), (0, u "D"), (4, u "twoToTheDoubleScaleUp"), (9, u "E"), (3, u "PI"), (2, u "TAU"), (2, u "DEGREES_TO_RADIANS"), (0, u "RADIANS_TO_DEGREES")] 94

def k7m0 : Method := { name := "<init>", desc := "()V", sig := { parameters := [], returnType := none }, accessFlags := 2, code := none }
def k7c1 : Code := { maxStack := 2, maxLocals := 2, code := jdk_29_method_65_code, exceptionTable := #[], attributes := #[] }
def k7m1 : Method := { name := "max", desc := "(II)I", sig := { parameters := [.int, .int], returnType := some .int }, accessFlags := 9, code := some k7c1 }
/-- java/lang/Math -/
def k7 : Class := { plain "java/lang/Math" (some 0) with
  accessFlags := 49
  interfaces := #[]
  cf := some (fileOf pool7 1 #[.nestMembers #[98]] #[{ accessFlags := 2, nameIndex := 7, descriptorIndex := 8, attributes := #[] }, { accessFlags := 9, nameIndex := 198, descriptorIndex := 335, attributes := #[] }] 49 4 #[] #[{ accessFlags := 25, nameIndex := 354, descriptorIndex := 339, attributes := #[] }, { accessFlags := 25, nameIndex := 358, descriptorIndex := 339, attributes := #[] }, { accessFlags := 25, nameIndex := 361, descriptorIndex := 339, attributes := #[] }, { accessFlags := 26, nameIndex := 364, descriptorIndex := 339, attributes := #[] }, { accessFlags := 26, nameIndex := 365, descriptorIndex := 339, attributes := #[] }, { accessFlags := 26, nameIndex := 172, descriptorIndex := 173, attributes := #[] }, { accessFlags := 26, nameIndex := 176, descriptorIndex := 173, attributes := #[] }, { accessFlags := 8, nameIndex := 344, descriptorIndex := 339, attributes := #[] }, { accessFlags := 8, nameIndex := 338, descriptorIndex := 339, attributes := #[] }, { accessFlags := 4120, nameIndex := 245, descriptorIndex := 246, attributes := #[] }])
  fields := #[{ name := "E", type := .double, accessFlags := 25, slot := 0, constantValue := 0 }, { name := "PI", type := .double, accessFlags := 25, slot := 1, constantValue := 0 }, { name := "TAU", type := .double, accessFlags := 25, slot := 2, constantValue := 0 }, { name := "DEGREES_TO_RADIANS", type := .double, accessFlags := 26, slot := 3, constantValue := 0 }, { name := "RADIANS_TO_DEGREES", type := .double, accessFlags := 26, slot := 4, constantValue := 0 }, { name := "negativeZeroFloatBits", type := .long, accessFlags := 26, slot := 5, constantValue := 0 }, { name := "negativeZeroDoubleBits", type := .long, accessFlags := 26, slot := 6, constantValue := 0 }, { name := "twoToTheDoubleScaleUp", type := .double, accessFlags := 8, slot := 7, constantValue := 0 }, { name := "twoToTheDoubleScaleDown", type := .double, accessFlags := 8, slot := 8, constantValue := 0 }, { name := "$assertionsDisabled", type := .boolean, accessFlags := 4120, slot := 9, constantValue := 0 }]
  methods := #[k7m0, k7m1]
  instanceTypes := #[]
  staticTypes := #[.double, .double, .double, .double, .double, .long, .long, .double, .double, .boolean]
  resolved := Array.replicate 460 none
  statics := none }

def pool8 : Array CpInfo := pool [(1, u "java/lang/Cloneable"), (0, .class_ 1), (0, u "java/lang/Object"), (0, .class_ 3)] 3

/-- java/lang/Cloneable -/
def k8 : Class := { plain "java/lang/Cloneable" (some 0) with
  accessFlags := 1537
  interfaces := #[]
  cf := some (fileOf pool8 2 #[] #[] 1537 4 #[] #[])
  fields := #[]
  methods := #[]
  instanceTypes := #[]
  staticTypes := #[]
  resolved := Array.replicate 8 none
  statics := none }

/-- the primitive byte -/
def k9 : Class := { plain "byte" none with kind := .primitive 'B', accessFlags := 0x411 }
/-- [B -/
def k10 : Class := { plain "[B" (some 0) with kind := .array 9 .byte, interfaces := #[8, 4], accessFlags := 1041 }

/-- the primitive int -/
def k11 : Class := { plain "int" none with kind := .primitive 'I', accessFlags := 0x411 }
/-- [I -/
def k12 : Class := { plain "[I" (some 0) with kind := .array 11 .int, interfaces := #[8, 4], accessFlags := 1041 }

/-- [Lcom/example/counterpath/counterpath/cfa/Type; -/
def k13 : Class := { plain "[Lcom/example/counterpath/counterpath/cfa/Type;" (some 0) with kind := .array 6 (.object "com/example/counterpath/counterpath/cfa/Type"), interfaces := #[8, 4], accessFlags := 1041 }

def heap : Heap := #[{ cls := 6, slots := #[.ref 1, .ref 2, .ref 3, .ref 4, .ref 5, .ref 6, .ref 7, .ref 8, .ref 9, .null], vm := .statics 6 },
  { cls := 6, slots := #[.null, .int 0, .int 0, .null, .int 1, .int 0, .null, .null], vm := .none },
  { cls := 6, slots := #[.null, .int 0, .int 0, .null, .int 8, .int 1, .null, .null], vm := .none },
  { cls := 6, slots := #[.null, .int 0, .int 0, .null, .int 8, .int 0, .null, .null], vm := .none },
  { cls := 6, slots := #[.null, .int 0, .int 0, .null, .int 16, .int 1, .null, .null], vm := .none },
  { cls := 6, slots := #[.null, .int 0, .int 0, .null, .int 16, .int 0, .null, .null], vm := .none },
  { cls := 6, slots := #[.null, .int 0, .int 0, .null, .int 32, .int 1, .null, .null], vm := .none },
  { cls := 6, slots := #[.null, .int 0, .int 0, .null, .int 32, .int 0, .null, .null], vm := .none },
  { cls := 6, slots := #[.null, .int 0, .int 0, .null, .int 64, .int 1, .null, .null], vm := .none },
  { cls := 6, slots := #[.null, .int 0, .int 0, .null, .int 64, .int 0, .null, .null], vm := .none }]
def classes : Array Class := #[k0, k1, k2, k3, k4, k5, k6, k7, k8, k9, k10, k11, k12, k13]
def interned : List (Array UInt16 × Addr) := []
def slotsUsed : Nat := 82
def theMethod : MethodId := ⟨1, 1⟩
def args0 : Array Value := #[.int 5, .int 1]
def aboutOver (below : List Frame) : State where
  vm := { classes := classes, interned := interned.toArray }
  heap := heap
  slotsUsed := slotsUsed
  threads := #[{ frames := .invoking theMethod args0 :: below }]
def below0 : List Frame := [.native { method := ⟨0, 0⟩, args := #[] }]
def about1 : State := aboutOver below0
def p0 : Program := .bare "" "" ""
def e0 : Env := launch0.env 0 0 0
theorem w_frames : about1.frames = Frame.invoking theMethod args0 :: below0 := rfl
set_option maxRecDepth 65536 in
theorem w_args : argsFit about1.vm theMethod args0 = true := by decide +kernel
set_option maxRecDepth 65536 in
theorem w_heap : heapFits about1 = true := by decide +kernel
set_option maxRecDepth 65536 in
theorem w_runnable : about1.curStatus? = some .runnable := by decide +kernel
set_option maxRecDepth 65536 in
theorem w_alone : about1.alone = true := by decide +kernel
set_option maxRecDepth 65536 in
theorem w_named : about1.methodNamed? x = some theMethod := by decide +kernel
set_option maxRecDepth 65536 in
theorem w_hears : about1.hears theMethod below0 = true := by decide +kernel
set_option maxRecDepth 65536 in
theorem w_ripe : about1.ripe theMethod args0 below0 = true := by decide +kernel
theorem w_running : about1.status = .running := rfl
set_option maxRecDepth 65536 in
theorem w_room : about1.hasRoom e0.platform room_1 = true :=
  launch0.hasRoom_least _ room_1 (by decide +kernel) (by decide +kernel) (by decide +kernel) (by decide +kernel) (by decide +kernel) (by decide +kernel)
theorem allAtoms_all (ts : List Jvm.Cond) (a : Array Jvm.Value) (st : Jvm.State) : (allAtoms ts).before a st = ts.all (fun c => c.before a st) := by
  induction ts with
  | nil => rfl
  | cons c t ih =>
    show (Jvm.Cond.and c (allAtoms t)).before a st = _
    rw [Jvm.Cond.before_and, ih, List.all_cons]
def words1 : List Jvm.Cond := Jvm.Cond.code x code maxLocals ret :: tables_1
/-- a 'code' word, met by the world's own term for the bytes: nothing is compared byte by byte -/
theorem code_word {y : MethodName} {bytes : ByteArray} {mx : Nat} {rt : Option FieldType} {a : Array Value} {s : State} {m : MethodId} {meth : Method} {c : Code} (h1 : s.methodNamed? y = some m) (h2 : s.vm.method? m = some meth) (h3 : meth.code = some c) (h4 : c.code = bytes)
    (h5 : (c.maxLocals == mx && c.exceptionTable.isEmpty && decide (c.maxStack ≤ mostOperands) && decide (meth.sig.returnType = rt) && !meth.locks && decide (parseMethodDescriptor y.desc = some meth.sig)) = true) : (Jvm.Cond.code y bytes mx rt).before a s = true := by
  simp only [Bool.and_eq_true, beq_iff_eq, Bool.not_eq_true', decide_eq_true_eq] at h5
  obtain ⟨⟨⟨⟨⟨g1, g2⟩, g3⟩, g4⟩, g5⟩, g6⟩ := h5
  simp [Cond.before, Cond.holds, Cond.value, h1, h2, h3, h4, g1, g2, g3, g4, g5, g6]
def isCode : Jvm.Cond → Bool
  | .code _ _ _ _ => true
  | _ => false
theorem all_split {L : List Jvm.Cond} {P : Jvm.Cond → Bool} (h1 : L.all (fun c => isCode c || P c) = true) (h2 : ∀ c ∈ L.filter isCode, P c = true) : L.all P = true := by
  refine List.all_eq_true.mpr fun c hc => ?_
  have h := List.all_eq_true.mp h1 c hc
  rcases Bool.eq_false_or_eq_true (isCode c) with hi | hi
  · exact h2 c (List.mem_filter.mpr ⟨hc, hi⟩)
  · simpa [hi] using h
set_option maxRecDepth 65536 in
theorem w_c0 : (Jvm.Cond.code x code maxLocals ret).before args0 about1 = true := code_word (m := ⟨1, 1⟩) (meth := k1m1) (c := k1c1) (by decide +kernel) rfl rfl rfl (by decide +kernel)
set_option maxRecDepth 65536 in
theorem w_c1 : (Jvm.Cond.code ({ cls := "java/lang/Math", name := "max", desc := "(II)I" } : Jvm.MethodName) jdk_29_method_65_code (2 : Nat) (Option.some Jvm.ClassFile.FieldType.int)).before args0 about1 = true := code_word (m := ⟨7, 1⟩) (meth := k7m1) (c := k7c1) (by decide +kernel) rfl rfl rfl (by decide +kernel)
set_option maxRecDepth 65536 in
theorem w_c2 : (Jvm.Cond.code ({ cls := "com/example/counterpath/counterpath/cfa/Type", name := "common", desc := "(Lcom/example/counterpath/counterpath/cfa/Type;Lcom/example/counterpath/counterpath/cfa/Type;)Lcom/example/counterpath/counterpath/cfa/Type;" } : Jvm.MethodName) prog_22_method_12_code (7 : Nat) (Option.some (Jvm.ClassFile.FieldType.object "com/example/counterpath/counterpath/cfa/Type"))).before args0 about1 = true := code_word (m := ⟨6, 1⟩) (meth := k6m1) (c := k6c1) (by decide +kernel) rfl rfl rfl (by decide +kernel)
set_option maxRecDepth 65536 in
theorem w_c3 : (Jvm.Cond.code ({ cls := "com/example/counterpath/counterpath/cfa/Type", name := "promoted", desc := "()Lcom/example/counterpath/counterpath/cfa/Type;" } : Jvm.MethodName) prog_22_method_11_code (1 : Nat) (Option.some (Jvm.ClassFile.FieldType.object "com/example/counterpath/counterpath/cfa/Type"))).before args0 about1 = true := code_word (m := ⟨6, 0⟩) (meth := k6m0) (c := k6c0) (by decide +kernel) rfl rfl rfl (by decide +kernel)
def codes1 : List Jvm.Cond := [Jvm.Cond.code x code maxLocals ret, Jvm.Cond.code ({ cls := "java/lang/Math", name := "max", desc := "(II)I" } : Jvm.MethodName) jdk_29_method_65_code (2 : Nat) (Option.some Jvm.ClassFile.FieldType.int), Jvm.Cond.code ({ cls := "com/example/counterpath/counterpath/cfa/Type", name := "common", desc := "(Lcom/example/counterpath/counterpath/cfa/Type;Lcom/example/counterpath/counterpath/cfa/Type;)Lcom/example/counterpath/counterpath/cfa/Type;" } : Jvm.MethodName) prog_22_method_12_code (7 : Nat) (Option.some (Jvm.ClassFile.FieldType.object "com/example/counterpath/counterpath/cfa/Type")), Jvm.Cond.code ({ cls := "com/example/counterpath/counterpath/cfa/Type", name := "promoted", desc := "()Lcom/example/counterpath/counterpath/cfa/Type;" } : Jvm.MethodName) prog_22_method_11_code (1 : Nat) (Option.some (Jvm.ClassFile.FieldType.object "com/example/counterpath/counterpath/cfa/Type"))]
set_option maxRecDepth 65536 in
theorem codes_eq : words1.filter isCode = codes1 := rfl
theorem w_codes : ∀ c ∈ words1.filter isCode, c.before args0 about1 = true := by
  rw [codes_eq]
  intro c hc
  simp only [codes1, List.mem_cons, List.not_mem_nil, or_false] at hc
  rcases hc with rfl | rfl | rfl | rfl
  · exact w_c0
  · exact w_c1
  · exact w_c2
  · exact w_c3
set_option maxRecDepth 65536 in
theorem w_t1 : (words1.take 24).all (fun c => isCode c || c.before args0 about1) = true := by decide +kernel
set_option maxRecDepth 65536 in
theorem w_t2 : (words1.drop 24).all (fun c => isCode c || c.before args0 about1) = true := by decide +kernel
theorem w_tables : (allAtoms (Jvm.Cond.code x code maxLocals ret :: tables_1)).before args0 about1 = true := by
  rw [allAtoms_all]
  show words1.all (fun c => c.before args0 about1) = true
  refine all_split ?_ w_codes
  rw [← List.take_append_drop 24 words1, List.all_append, w_t1, w_t2]
  rfl
set_option maxRecDepth 65536 in
theorem w_case : (Jvm.Cond.and given_1 narrow_1).before args0 about1 = true := by decide +kernel
theorem w_applies : (headSpec (Jvm.Cond.code x code maxLocals ret :: tables_1) room_1).applies x e0.platform about1 = true :=
  (Spec.applies_iff w_frames).mpr ⟨w_running, w_runnable, w_alone, w_named, w_hears, w_ripe, w_room, w_tables⟩
theorem atStart : AtStart classFile x code maxLocals ret World_1 tables_1 room_1 Calls_1 rest_1 Pre_1 launch0 p0 e0 about1 theMethod args0 below0 :=
  ⟨lists_1, trivial, launch0.admits_env _ _ _, launch0.least_env, fairChoices_fair.cas, fairChoices_fair.clock, w_frames, w_args, w_heap, w_applies, trivial, trivial, w_case⟩
end start1
theorem witness_1 : WitnessClaimed_1 := ⟨start1.p0, start1.e0, start1.about1, start1.theMethod, start1.args0, start1.below0, start1.atStart⟩
end Jvm.Pilot.@@N@@
