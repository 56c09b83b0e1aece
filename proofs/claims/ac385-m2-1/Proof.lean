import JvmDerived
import JvmDerived.Pilot.@@N@@Statement
import JvmDerived.Pilot.@@N@@Code
set_option linter.unusedVariables false
set_option linter.unusedSimpArgs false
namespace Jvm.Pilot.@@N@@
open Jvm Jvm.ClassFile Sem Op Lib Jvm.Free Jvm.Stand Jvm.LawKit Jvm.RoadKit Bundle Jvm.Pilot.@@N@@.Jvm.D
section Own
variable {p : Program} {l : Launch} {e : Env} {R : Room} {s : State} {m : MethodId} {args : Array Value} {below : List Frame} {meth : Method} {c : Code} {bytes : ByteArray} {mx : Nat} {rt : Option FieldType} {own nm : String} {Z : State} {Q : Option Value → Heap → Prop} {pc : Nat} {ls : Array Slot} {st : List Value} {h : Heap} {cs sl : Nat} {a0 : Array Value}
/-- from A the invocation comes back, and what it leaves is as Q says; nothing old is written -/
def own_G (p : Program) (e : Env) (s : State) (below : List Frame) (Z : State) (Q : Option Value → Heap → Prop) (cs sl : Nat) (A : State) : Prop :=
  ∃ s₂ o, Steps p.tables e below A s₂ ∧ s₂.status = .running ∧ Ended s₂ below o ∧ ∃ v L, o = .returned v ∧ (Q v s₂.heap ∧ Fr Z.heap.size L ∧ Old Z Z.heap.size s₂.heap) ∧ FrameEnd s o s₂ L cs sl
theorem own_go {A B : State} (f : ∀ t, Steps p.tables e below B t → Steps p.tables e below A t) (k : own_G p e s below Z Q cs sl B) : own_G p e s below Z Q cs sl A := by
  obtain ⟨t, o, h1, h2⟩ := k
  exact ⟨t, o, f t h1, h2⟩
/-- the run, wherever it stands in this body with this pc, these locals, this stack and this heap, comes back as Q says -/
def own_K (p : Program) (l : Launch) (e : Env) (R : Room) (s : State) (m : MethodId) (args : Array Value) (below : List Frame) (meth : Method) (c : Code) (bytes : ByteArray) (mx : Nat) (rt : Option FieldType) (own nm : String) (Z : State) (Q : Option Value → Heap → Prop)
    (pc : Nat) (ls : Array Slot) (st : List Value) (h : Heap) (cs sl : Nat) : Prop :=
  ∀ (T : State) (L : List Loc), p.tables.exec = Jvm.exec → c.code = bytes → c.maxLocals = mx → meth.sig.returnType = rt → meth.locks = false → s.vm.findClass own = some m.cls → meth.name = nm → Z.Warmed39 s.vm →
    Stand p l e R s m args below meth c T L cs sl → T.heap = h → Fr Z.heap.size L → Old Z Z.heap.size h → own_G p e s below Z Q R.cells R.slots (T.setTop (mkF m pc ls st))
/-- a body's contract, asked at the heap h0 -/
def own_Met (l : Launch) (Z : State) (y : MethodName) (bytes : ByteArray) (mx : Nat) (rt : Option FieldType) (ws : List Jvm.Cond) (rm : Room) (as : Array Value) (h0 : Heap) (Q : Option Value → Heap → Prop) : Prop :=
  Old Z Z.heap.size h0 → MetFree l y (head1 (Jvm.Cond.code y bytes mx rt :: ws) rm) (fun a U => a = as ∧ Z.Warmed39 U.vm ∧ U.heap = h0) (fun _ _ _ _ _ => True)
    (fun _ U o U' => ∃ v L, o = .returned v ∧ (Q v U'.heap ∧ Fr Z.heap.size L ∧ Old Z Z.heap.size U'.heap) ∧ FrameEnd U o U' L rm.cells rm.slots)
def own_some (Qv : Value → Heap → Prop) : Option Value → Heap → Prop := fun v h => ∃ x, v = some x ∧ Qv x h
def own_none (Qn : Heap → Prop) : Option Value → Heap → Prop := fun v h => v = none ∧ Qn h
theorem own_met {y : MethodName} {ws : List Jvm.Cond} {rm : Room} {as : Array Value} {h0 : Heap} {ls0 : Array Slot} (pn : plainFor y = true) (hef : ∀ m, entryFrame m as mx = mkF m 0 ls0 [])
    (body : ∀ p e s m below meth c, own_K p l e rm s m as below meth c bytes mx rt y.cls y.name Z Q 0 ls0 [] h0 0 0) : own_Met l Z y bytes mx rt ws rm as h0 Q := by
  intro O
  refine MetFree.of_bodySF pn hisR ?_
  intro p e s m args below meth c s₁ Bd hml0 hP hK
  obtain ⟨rfl, hZ, hh⟩ := hP
  have X0 : Stand p l e rm s m _ below meth c s₁ [] 0 0 := Stand.of_body Bd
  have e0 : s₁.heap = h0 := by rw [← hh, Bd.state]; rfl
  obtain ⟨t, o, h1, h2⟩ := body p e s m below meth c s₁ [] Bd.exec Bd.bytes hml0 Bd.returns Bd.notSynchronized (findClass_of_methodNamed Bd.named) (name_of_methodNamed Bd.named Bd.method).1 hZ X0 e0 (Fr.nil _) O
  exact ⟨t, o, castTop (hef m) h1, h2⟩
theorem own_old (k : Old Z Z.heap.size h → own_K p l e R s m args below meth c bytes mx rt own nm Z Q pc ls st h cs sl) : own_K p l e R s m args below meth c bytes mx rt own nm Z Q pc ls st h cs sl := fun T L a b c d e' f g i j n o q => k q T L a b c d e' f g i j n o q
theorem own_more {cs' sl' : Nat} (h1 : cs ≤ cs') (h2 : sl ≤ sl') (k : own_K p l e R s m args below meth c bytes mx rt own nm Z Q pc ls st h cs' sl') : own_K p l e R s m args below meth c bytes mx rt own nm Z Q pc ls st h cs sl := fun T L a b c d e' f g i X n o q =>
  k T L a b c d e' f g i ⟨X.admits, X.cas, X.clock, X.frames, X.room, X.hears, X.method, X.code, X.here, X.tail, X.warmed, X.limits, X.bytes, X.same.mono h1 h2⟩ n o q
/-- one plain step -/
theorem own_xs {r : Except ClassFile.DecodeError (ClassFile.Instr × Nat)} {pc' : Nat} {ls' : Array Slot} {st' : List Value} (hd : decode bytes pc = r)
    (k : own_K p l e R s m args below meth c bytes mx rt own nm Z Q pc' ls' st' h cs sl)
    (f : ∀ (T t : State), At T m c below → p.tables.exec = Jvm.exec → decode c.code pc = r → Steps p.tables e below (T.setTop (mkF m pc' ls' st')) t → Steps p.tables e below (T.setTop (mkF m pc ls st)) t) : own_K p l e R s m args below meth c bytes mx rt own nm Z Q pc ls st h cs sl := fun T L hx hby hml hrt hlk hown hnm hZ X eT N O =>
  own_go (fun t q => f T t X.here hx (hb hby hd) q) (k T L hx hby hml hrt hlk hown hnm hZ X eT N O)
theorem own_nop {A : Prop} (h : A) : A := h
-- loads and stores
theorem own_iloadN (pc' : Nat) (hp : pc + 1 = pc') {k : Fin 4} {v : Int32} (hd : decode bytes pc = .ok (.iload_n k, 1)) (hl : ls[k.val]? = some (.val (.int v))) (q : own_K p l e R s m args below meth c bytes mx rt own nm Z Q pc' ls (.int v :: st) h cs sl) : own_K p l e R s m args below meth c bytes mx rt own nm Z Q pc ls st h cs sl := by subst hp; exact own_xs hd q (fun T t ha hx hd => XS.iloadN (g := mkF m pc ls st) ha hx rfl hd hl)
theorem own_iload (pc' : Nat) (hp : pc + 2 = pc') {k : Nat} {v : Int32} (hd : decode bytes pc = .ok (.iload k, 2)) (hl : ls[k]? = some (.val (.int v))) (q : own_K p l e R s m args below meth c bytes mx rt own nm Z Q pc' ls (.int v :: st) h cs sl) : own_K p l e R s m args below meth c bytes mx rt own nm Z Q pc ls st h cs sl := by subst hp; exact own_xs hd q (fun T t ha hx hd => XS.iload (g := mkF m pc ls st) ha hx rfl hd hl)
theorem own_lloadN (pc' : Nat) (hp : pc + 1 = pc') {k : Fin 4} {v : Int64} (hd : decode bytes pc = .ok (.lload_n k, 1)) (hl : ls[k.val]? = some (.val (.long v))) (q : own_K p l e R s m args below meth c bytes mx rt own nm Z Q pc' ls (.long v :: st) h cs sl) : own_K p l e R s m args below meth c bytes mx rt own nm Z Q pc ls st h cs sl := by subst hp; exact own_xs hd q (fun T t ha hx hd => XS.lloadN (g := mkF m pc ls st) ha hx rfl hd hl)
theorem own_lload (pc' : Nat) (hp : pc + 2 = pc') {k : Nat} {v : Int64} (hd : decode bytes pc = .ok (.lload k, 2)) (hl : ls[k]? = some (.val (.long v))) (q : own_K p l e R s m args below meth c bytes mx rt own nm Z Q pc' ls (.long v :: st) h cs sl) : own_K p l e R s m args below meth c bytes mx rt own nm Z Q pc ls st h cs sl := by subst hp; exact own_xs hd q (fun T t ha hx hd => XS.lload (g := mkF m pc ls st) ha hx rfl hd hl)
theorem own_aloadN (pc' : Nat) (hp : pc + 1 = pc') {k : Fin 4} {v : Value} (hd : decode bytes pc = .ok (.aload_n k, 1)) (hl : ls[k.val]? = some (.val v)) (hv : v.isRef = true) (q : own_K p l e R s m args below meth c bytes mx rt own nm Z Q pc' ls (v :: st) h cs sl) : own_K p l e R s m args below meth c bytes mx rt own nm Z Q pc ls st h cs sl := by subst hp; exact own_xs hd q (fun T t ha hx hd => XS.aloadN (g := mkF m pc ls st) ha hx rfl hd hl hv)
theorem own_aload (pc' : Nat) (hp : pc + 2 = pc') {k : Nat} {v : Value} (hd : decode bytes pc = .ok (.aload k, 2)) (hl : ls[k]? = some (.val v)) (hv : v.isRef = true) (q : own_K p l e R s m args below meth c bytes mx rt own nm Z Q pc' ls (v :: st) h cs sl) : own_K p l e R s m args below meth c bytes mx rt own nm Z Q pc ls st h cs sl := by subst hp; exact own_xs hd q (fun T t ha hx hd => XS.aload (g := mkF m pc ls st) ha hx rfl hd hl hv)
theorem own_istoreN (pc' : Nat) (hp : pc + 1 = pc') (ls' : Array Slot) {k : Fin 4} {v : Int32} (hd : decode bytes pc = .ok (.istore_n k, 1)) (hl : storeLocals ls k.val (.int v) = some ls') (q : own_K p l e R s m args below meth c bytes mx rt own nm Z Q pc' ls' st h cs sl) : own_K p l e R s m args below meth c bytes mx rt own nm Z Q pc ls (.int v :: st) h cs sl := by subst hp; exact own_xs hd q (fun T t ha hx hd => XS.istoreN (g := mkF m pc ls (.int v :: st)) ha hx rfl hd rfl hl)
theorem own_istore (pc' : Nat) (hp : pc + 2 = pc') (ls' : Array Slot) {k : Nat} {v : Int32} (hd : decode bytes pc = .ok (.istore k, 2)) (hl : storeLocals ls k (.int v) = some ls') (q : own_K p l e R s m args below meth c bytes mx rt own nm Z Q pc' ls' st h cs sl) : own_K p l e R s m args below meth c bytes mx rt own nm Z Q pc ls (.int v :: st) h cs sl := by subst hp; exact own_xs hd q (fun T t ha hx hd => XS.istore (g := mkF m pc ls (.int v :: st)) ha hx rfl hd rfl hl)
theorem own_lstoreN (pc' : Nat) (hp : pc + 1 = pc') (ls' : Array Slot) {k : Fin 4} {v : Int64} (hd : decode bytes pc = .ok (.lstore_n k, 1)) (hl : storeLocals ls k.val (.long v) = some ls') (q : own_K p l e R s m args below meth c bytes mx rt own nm Z Q pc' ls' st h cs sl) : own_K p l e R s m args below meth c bytes mx rt own nm Z Q pc ls (.long v :: st) h cs sl := by subst hp; exact own_xs hd q (fun T t ha hx hd => XS.lstoreN (g := mkF m pc ls (.long v :: st)) ha hx rfl hd rfl hl)
theorem own_lstore (pc' : Nat) (hp : pc + 2 = pc') (ls' : Array Slot) {k : Nat} {v : Int64} (hd : decode bytes pc = .ok (.lstore k, 2)) (hl : storeLocals ls k (.long v) = some ls') (q : own_K p l e R s m args below meth c bytes mx rt own nm Z Q pc' ls' st h cs sl) : own_K p l e R s m args below meth c bytes mx rt own nm Z Q pc ls (.long v :: st) h cs sl := by subst hp; exact own_xs hd q (fun T t ha hx hd => XS.lstore (g := mkF m pc ls (.long v :: st)) ha hx rfl hd rfl hl)
theorem own_astoreN (pc' : Nat) (hp : pc + 1 = pc') (ls' : Array Slot) {k : Fin 4} {v : Value} (hd : decode bytes pc = .ok (.astore_n k, 1)) (hv : v.isRef = true) (hl : storeLocals ls k.val v = some ls') (q : own_K p l e R s m args below meth c bytes mx rt own nm Z Q pc' ls' st h cs sl) : own_K p l e R s m args below meth c bytes mx rt own nm Z Q pc ls (v :: st) h cs sl := by subst hp; exact own_xs hd q (fun T t ha hx hd => XS.astoreN (g := mkF m pc ls (v :: st)) ha hx rfl hd rfl hv hl)
theorem own_astore (pc' : Nat) (hp : pc + 2 = pc') (ls' : Array Slot) {k : Nat} {v : Value} (hd : decode bytes pc = .ok (.astore k, 2)) (hv : v.isRef = true) (hl : storeLocals ls k v = some ls') (q : own_K p l e R s m args below meth c bytes mx rt own nm Z Q pc' ls' st h cs sl) : own_K p l e R s m args below meth c bytes mx rt own nm Z Q pc ls (v :: st) h cs sl := by subst hp; exact own_xs hd q (fun T t ha hx hd => XS.astore (g := mkF m pc ls (v :: st)) ha hx rfl hd rfl hv hl)
theorem own_iinc (pc' : Nat) (hp : pc + 3 = pc') (ls' : Array Slot) {k : Nat} {i : Int} {x : Int32} (v : Int32) (hd : decode bytes pc = .ok (.iinc k i, 3)) (hv : Int32.ofInt i = v) (hl : ls[k]? = some (.val (.int x))) (hl' : storeLocals ls k (.int (x + v)) = some ls') (q : own_K p l e R s m args below meth c bytes mx rt own nm Z Q pc' ls' st h cs sl) : own_K p l e R s m args below meth c bytes mx rt own nm Z Q pc ls st h cs sl := by subst hp; subst hv; exact own_xs hd q (fun T t ha hx hd => XS.iinc (g := mkF m pc ls st) ha hx rfl hd hl hl')
-- constants
theorem own_iconst (pc' : Nat) (hp : pc + 1 = pc') (v : Int32) {i : Int} (hd : decode bytes pc = .ok (.iconst i, 1)) (hv : Int32.ofInt i = v) (q : own_K p l e R s m args below meth c bytes mx rt own nm Z Q pc' ls (.int v :: st) h cs sl) : own_K p l e R s m args below meth c bytes mx rt own nm Z Q pc ls st h cs sl := by subst hp; subst hv; exact own_xs hd q (fun T t ha hx hd => XS.iconst (g := mkF m pc ls st) ha hx rfl hd)
theorem own_bipush (pc' : Nat) (hp : pc + 2 = pc') (v : Int32) {i : Int} (hd : decode bytes pc = .ok (.bipush i, 2)) (hv : (Int8.ofInt i).toInt32 = v) (q : own_K p l e R s m args below meth c bytes mx rt own nm Z Q pc' ls (.int v :: st) h cs sl) : own_K p l e R s m args below meth c bytes mx rt own nm Z Q pc ls st h cs sl := by subst hp; subst hv; exact own_xs hd q (fun T t ha hx hd => XS.bipush (g := mkF m pc ls st) ha hx rfl hd)
theorem own_sipush (pc' : Nat) (hp : pc + 3 = pc') (v : Int32) {i : Int} (hd : decode bytes pc = .ok (.sipush i, 3)) (hv : (Int16.ofInt i).toInt32 = v) (q : own_K p l e R s m args below meth c bytes mx rt own nm Z Q pc' ls (.int v :: st) h cs sl) : own_K p l e R s m args below meth c bytes mx rt own nm Z Q pc ls st h cs sl := by subst hp; subst hv; exact own_xs hd q (fun T t ha hx hd => XS.sipush (g := mkF m pc ls st) ha hx rfl hd)
theorem own_lconst (pc' : Nat) (hp : pc + 1 = pc') (v : Int64) {i : Fin 2} (hd : decode bytes pc = .ok (.lconst i, 1)) (hv : Int64.ofNat i = v) (q : own_K p l e R s m args below meth c bytes mx rt own nm Z Q pc' ls (.long v :: st) h cs sl) : own_K p l e R s m args below meth c bytes mx rt own nm Z Q pc ls st h cs sl := by subst hp; subst hv; exact own_xs hd q (fun T t ha hx hd => XT.lconst (g := mkF m pc ls st) ha hx rfl hd)
theorem own_aconstNull (pc' : Nat) (hp : pc + 1 = pc') (hd : decode bytes pc = .ok (.aconst_null, 1)) (q : own_K p l e R s m args below meth c bytes mx rt own nm Z Q pc' ls (.null :: st) h cs sl) : own_K p l e R s m args below meth c bytes mx rt own nm Z Q pc ls st h cs sl := by subst hp; exact own_xs hd q (fun T t ha hx hd => XS.aconstNull (g := mkF m pc ls st) ha hx rfl hd)
theorem own_ldcInt (pc' : Nat) (hp : pc + 2 = pc') {v : Int32} {index : Nat} (w : (Jvm.Cond.constant own index v).before a0 Z = true) (hd : decode bytes pc = .ok (.ldc index, 2)) (q : own_K p l e R s m args below meth c bytes mx rt own nm Z Q pc' ls (.int v :: st) h cs sl) : own_K p l e R s m args below meth c bytes mx rt own nm Z Q pc ls st h cs sl := fun T L hx hby hml hrt hlk hown hnm hZ X eT N O => by
  subst hp; exact own_go (X.ldcInt hx hown (mvT hZ w) (g := mkF m pc ls st) rfl (hb hby hd)) (q T L hx hby hml hrt hlk hown hnm hZ X eT N O)
theorem own_ldc2Long (pc' : Nat) (hp : pc + 3 = pc') {v : Int64} {index : Nat} (w : (Jvm.Cond.constantLong own index v).before a0 Z = true) (hd : decode bytes pc = .ok (.ldc2_w index, 3)) (q : own_K p l e R s m args below meth c bytes mx rt own nm Z Q pc' ls (.long v :: st) h cs sl) : own_K p l e R s m args below meth c bytes mx rt own nm Z Q pc ls st h cs sl := fun T L hx hby hml hrt hlk hown hnm hZ X eT N O => by
  subst hp; exact own_go (X.ldc2Long hx hown (mvT hZ w) (g := mkF m pc ls st) rfl (hb hby hd)) (q T L hx hby hml hrt hlk hown hnm hZ X eT N O)
theorem own_ldcFloat (pc' : Nat) (hp : pc + 2 = pc') {b : UInt32} {index : Nat} (w : (Jvm.Cond.constantFloat own index b).before a0 Z = true) (hd : decode bytes pc = .ok (.ldc index, 2)) (q : own_K p l e R s m args below meth c bytes mx rt own nm Z Q pc' ls (.float b :: st) h cs sl) : own_K p l e R s m args below meth c bytes mx rt own nm Z Q pc ls st h cs sl := fun T L hx hby hml hrt hlk hown hnm hZ X eT N O => by
  subst hp; exact own_go (X.ldcFloatC hx hown (mvT hZ w) (g := mkF m pc ls st) rfl (hb hby hd)) (q T L hx hby hml hrt hlk hown hnm hZ X eT N O)
-- arithmetic
theorem own_iadd (pc' : Nat) (hp : pc + 1 = pc') {x y : Int32} (hd : decode bytes pc = .ok (.iadd, 1)) (q : own_K p l e R s m args below meth c bytes mx rt own nm Z Q pc' ls (.int (x + y) :: st) h cs sl) : own_K p l e R s m args below meth c bytes mx rt own nm Z Q pc ls (.int y :: .int x :: st) h cs sl := by subst hp; exact own_xs hd q (fun T t ha hx hd => XS.iadd (g := mkF m pc ls (.int y :: .int x :: st)) ha hx rfl hd rfl)
theorem own_isub (pc' : Nat) (hp : pc + 1 = pc') {x y : Int32} (hd : decode bytes pc = .ok (.isub, 1)) (q : own_K p l e R s m args below meth c bytes mx rt own nm Z Q pc' ls (.int (x - y) :: st) h cs sl) : own_K p l e R s m args below meth c bytes mx rt own nm Z Q pc ls (.int y :: .int x :: st) h cs sl := by subst hp; exact own_xs hd q (fun T t ha hx hd => XS.isub (g := mkF m pc ls (.int y :: .int x :: st)) ha hx rfl hd rfl)
theorem own_imul (pc' : Nat) (hp : pc + 1 = pc') {x y : Int32} (hd : decode bytes pc = .ok (.imul, 1)) (q : own_K p l e R s m args below meth c bytes mx rt own nm Z Q pc' ls (.int (x * y) :: st) h cs sl) : own_K p l e R s m args below meth c bytes mx rt own nm Z Q pc ls (.int y :: .int x :: st) h cs sl := by subst hp; exact own_xs hd q (fun T t ha hx hd => XS.imul (g := mkF m pc ls (.int y :: .int x :: st)) ha hx rfl hd rfl)
theorem own_iand (pc' : Nat) (hp : pc + 1 = pc') {x y : Int32} (hd : decode bytes pc = .ok (.iand, 1)) (q : own_K p l e R s m args below meth c bytes mx rt own nm Z Q pc' ls (.int (x &&& y) :: st) h cs sl) : own_K p l e R s m args below meth c bytes mx rt own nm Z Q pc ls (.int y :: .int x :: st) h cs sl := by subst hp; exact own_xs hd q (fun T t ha hx hd => XS.iand (g := mkF m pc ls (.int y :: .int x :: st)) ha hx rfl hd rfl)
theorem own_ior (pc' : Nat) (hp : pc + 1 = pc') {x y : Int32} (hd : decode bytes pc = .ok (.ior, 1)) (q : own_K p l e R s m args below meth c bytes mx rt own nm Z Q pc' ls (.int (x ||| y) :: st) h cs sl) : own_K p l e R s m args below meth c bytes mx rt own nm Z Q pc ls (.int y :: .int x :: st) h cs sl := by subst hp; exact own_xs hd q (fun T t ha hx hd => XS.ior (g := mkF m pc ls (.int y :: .int x :: st)) ha hx rfl hd rfl)
theorem own_ixor (pc' : Nat) (hp : pc + 1 = pc') {x y : Int32} (hd : decode bytes pc = .ok (.ixor, 1)) (q : own_K p l e R s m args below meth c bytes mx rt own nm Z Q pc' ls (.int (x ^^^ y) :: st) h cs sl) : own_K p l e R s m args below meth c bytes mx rt own nm Z Q pc ls (.int y :: .int x :: st) h cs sl := by subst hp; exact own_xs hd q (fun T t ha hx hd => XS.ixor (g := mkF m pc ls (.int y :: .int x :: st)) ha hx rfl hd rfl)
theorem own_idiv (pc' : Nat) (hp : pc + 1 = pc') {x y : Int32} (hd : decode bytes pc = .ok (.idiv, 1)) (hy : y ≠ 0) (q : own_K p l e R s m args below meth c bytes mx rt own nm Z Q pc' ls (.int (x / y) :: st) h cs sl) : own_K p l e R s m args below meth c bytes mx rt own nm Z Q pc ls (.int y :: .int x :: st) h cs sl := by subst hp; exact own_xs hd q (fun T t ha hx hd => XS.idiv (g := mkF m pc ls (.int y :: .int x :: st)) ha hx rfl hd rfl hy)
theorem own_irem (pc' : Nat) (hp : pc + 1 = pc') {x y : Int32} (hd : decode bytes pc = .ok (.irem, 1)) (hy : y ≠ 0) (q : own_K p l e R s m args below meth c bytes mx rt own nm Z Q pc' ls (.int (x % y) :: st) h cs sl) : own_K p l e R s m args below meth c bytes mx rt own nm Z Q pc ls (.int y :: .int x :: st) h cs sl := fun T L hx hby hml hrt hlk hown hnm hZ X eT N O => by
  subst hp; exact own_go (fun t k => iremM (g := mkF m pc ls (.int y :: .int x :: st)) X hx rfl (hb hby hd) rfl hy k) (q T L hx hby hml hrt hlk hown hnm hZ X eT N O)
theorem own_ineg (pc' : Nat) (hp : pc + 1 = pc') {x : Int32} (hd : decode bytes pc = .ok (.ineg, 1)) (q : own_K p l e R s m args below meth c bytes mx rt own nm Z Q pc' ls (.int (-x) :: st) h cs sl) : own_K p l e R s m args below meth c bytes mx rt own nm Z Q pc ls (.int x :: st) h cs sl := by subst hp; exact own_xs hd q (fun T t ha hx hd => XS.ineg (g := mkF m pc ls (.int x :: st)) ha hx rfl hd rfl)
theorem own_ishl (pc' : Nat) (hp : pc + 1 = pc') {x y : Int32} (hd : decode bytes pc = .ok (.ishl, 1)) (q : own_K p l e R s m args below meth c bytes mx rt own nm Z Q pc' ls (.int (x <<< (y &&& 31)) :: st) h cs sl) : own_K p l e R s m args below meth c bytes mx rt own nm Z Q pc ls (.int y :: .int x :: st) h cs sl := by subst hp; exact own_xs hd q (fun T t ha hx hd => XS.ishl (g := mkF m pc ls (.int y :: .int x :: st)) ha hx rfl hd rfl)
theorem own_ishr (pc' : Nat) (hp : pc + 1 = pc') {x y : Int32} (hd : decode bytes pc = .ok (.ishr, 1)) (q : own_K p l e R s m args below meth c bytes mx rt own nm Z Q pc' ls (.int (x >>> (y &&& 31)) :: st) h cs sl) : own_K p l e R s m args below meth c bytes mx rt own nm Z Q pc ls (.int y :: .int x :: st) h cs sl := by subst hp; exact own_xs hd q (fun T t ha hx hd => XS.ishr (g := mkF m pc ls (.int y :: .int x :: st)) ha hx rfl hd rfl)
theorem own_iushr (pc' : Nat) (hp : pc + 1 = pc') {x y : Int32} (hd : decode bytes pc = .ok (.iushr, 1)) (q : own_K p l e R s m args below meth c bytes mx rt own nm Z Q pc' ls (.int ((x.toUInt32 >>> (y &&& 31).toUInt32).toInt32) :: st) h cs sl) : own_K p l e R s m args below meth c bytes mx rt own nm Z Q pc ls (.int y :: .int x :: st) h cs sl := by subst hp; exact own_xs hd q (fun T t ha hx hd => XS.iushr (g := mkF m pc ls (.int y :: .int x :: st)) ha hx rfl hd rfl)
theorem own_i2l (pc' : Nat) (hp : pc + 1 = pc') {x : Int32} (hd : decode bytes pc = .ok (.i2l, 1)) (q : own_K p l e R s m args below meth c bytes mx rt own nm Z Q pc' ls (.long x.toInt64 :: st) h cs sl) : own_K p l e R s m args below meth c bytes mx rt own nm Z Q pc ls (.int x :: st) h cs sl := by subst hp; exact own_xs hd q (fun T t ha hx hd => XS.i2l (g := mkF m pc ls (.int x :: st)) ha hx rfl hd rfl)
theorem own_l2i (pc' : Nat) (hp : pc + 1 = pc') {x : Int64} (hd : decode bytes pc = .ok (.l2i, 1)) (q : own_K p l e R s m args below meth c bytes mx rt own nm Z Q pc' ls (.int x.toInt32 :: st) h cs sl) : own_K p l e R s m args below meth c bytes mx rt own nm Z Q pc ls (.long x :: st) h cs sl := by subst hp; exact own_xs hd q (fun T t ha hx hd => XS.l2i (g := mkF m pc ls (.long x :: st)) ha hx rfl hd rfl)
theorem own_i2b (pc' : Nat) (hp : pc + 1 = pc') {x : Int32} (hd : decode bytes pc = .ok (.i2b, 1)) (q : own_K p l e R s m args below meth c bytes mx rt own nm Z Q pc' ls (.int x.toInt8.toInt32 :: st) h cs sl) : own_K p l e R s m args below meth c bytes mx rt own nm Z Q pc ls (.int x :: st) h cs sl := by subst hp; exact own_xs hd q (fun T t ha hx hd => XS.i2b (g := mkF m pc ls (.int x :: st)) ha hx rfl hd rfl)
theorem own_i2c (pc' : Nat) (hp : pc + 1 = pc') {x : Int32} (hd : decode bytes pc = .ok (.i2c, 1)) (q : own_K p l e R s m args below meth c bytes mx rt own nm Z Q pc' ls (.int x.toUInt32.toUInt16.toUInt32.toInt32 :: st) h cs sl) : own_K p l e R s m args below meth c bytes mx rt own nm Z Q pc ls (.int x :: st) h cs sl := by subst hp; exact own_xs hd q (fun T t ha hx hd => XS.i2c (g := mkF m pc ls (.int x :: st)) ha hx rfl hd rfl)
theorem own_ladd (pc' : Nat) (hp : pc + 1 = pc') {x y : Int64} (hd : decode bytes pc = .ok (.ladd, 1)) (q : own_K p l e R s m args below meth c bytes mx rt own nm Z Q pc' ls (.long (x + y) :: st) h cs sl) : own_K p l e R s m args below meth c bytes mx rt own nm Z Q pc ls (.long y :: .long x :: st) h cs sl := by subst hp; exact own_xs hd q (fun T t ha hx hd => XS.ladd (g := mkF m pc ls (.long y :: .long x :: st)) ha hx rfl hd rfl)
theorem own_lsub (pc' : Nat) (hp : pc + 1 = pc') {x y : Int64} (hd : decode bytes pc = .ok (.lsub, 1)) (q : own_K p l e R s m args below meth c bytes mx rt own nm Z Q pc' ls (.long (x - y) :: st) h cs sl) : own_K p l e R s m args below meth c bytes mx rt own nm Z Q pc ls (.long y :: .long x :: st) h cs sl := by subst hp; exact own_xs hd q (fun T t ha hx hd => XS.lsub (g := mkF m pc ls (.long y :: .long x :: st)) ha hx rfl hd rfl)
theorem own_lmul (pc' : Nat) (hp : pc + 1 = pc') {x y : Int64} (hd : decode bytes pc = .ok (.lmul, 1)) (q : own_K p l e R s m args below meth c bytes mx rt own nm Z Q pc' ls (.long (x * y) :: st) h cs sl) : own_K p l e R s m args below meth c bytes mx rt own nm Z Q pc ls (.long y :: .long x :: st) h cs sl := by subst hp; exact own_xs hd q (fun T t ha hx hd => XS.lmul (g := mkF m pc ls (.long y :: .long x :: st)) ha hx rfl hd rfl)
theorem own_land (pc' : Nat) (hp : pc + 1 = pc') {x y : Int64} (hd : decode bytes pc = .ok (.land, 1)) (q : own_K p l e R s m args below meth c bytes mx rt own nm Z Q pc' ls (.long (x &&& y) :: st) h cs sl) : own_K p l e R s m args below meth c bytes mx rt own nm Z Q pc ls (.long y :: .long x :: st) h cs sl := by subst hp; exact own_xs hd q (fun T t ha hx hd => XS.land (g := mkF m pc ls (.long y :: .long x :: st)) ha hx rfl hd rfl)
theorem own_lxor (pc' : Nat) (hp : pc + 1 = pc') {x y : Int64} (hd : decode bytes pc = .ok (.lxor, 1)) (q : own_K p l e R s m args below meth c bytes mx rt own nm Z Q pc' ls (.long (x ^^^ y) :: st) h cs sl) : own_K p l e R s m args below meth c bytes mx rt own nm Z Q pc ls (.long y :: .long x :: st) h cs sl := by subst hp; exact own_xs hd q (fun T t ha hx hd => XS.lxor (g := mkF m pc ls (.long y :: .long x :: st)) ha hx rfl hd rfl)
theorem own_ldiv (pc' : Nat) (hp : pc + 1 = pc') {x y : Int64} (hd : decode bytes pc = .ok (.ldiv, 1)) (hy : y ≠ 0) (q : own_K p l e R s m args below meth c bytes mx rt own nm Z Q pc' ls (.long (x / y) :: st) h cs sl) : own_K p l e R s m args below meth c bytes mx rt own nm Z Q pc ls (.long y :: .long x :: st) h cs sl := by subst hp; exact own_xs hd q (fun T t ha hx hd => XS.ldiv (g := mkF m pc ls (.long y :: .long x :: st)) ha hx rfl hd rfl hy)
theorem own_lrem (pc' : Nat) (hp : pc + 1 = pc') {x y : Int64} (hd : decode bytes pc = .ok (.lrem, 1)) (hy : y ≠ 0) (q : own_K p l e R s m args below meth c bytes mx rt own nm Z Q pc' ls (.long (x % y) :: st) h cs sl) : own_K p l e R s m args below meth c bytes mx rt own nm Z Q pc ls (.long y :: .long x :: st) h cs sl := by subst hp; rw [← lrem_mod] at q; exact own_xs hd q (fun T t ha hx hd => XT.lrem (g := mkF m pc ls (.long y :: .long x :: st)) ha hx rfl hd rfl hy)
theorem own_lneg (pc' : Nat) (hp : pc + 1 = pc') {x : Int64} (hd : decode bytes pc = .ok (.lneg, 1)) (q : own_K p l e R s m args below meth c bytes mx rt own nm Z Q pc' ls (.long (-x) :: st) h cs sl) : own_K p l e R s m args below meth c bytes mx rt own nm Z Q pc ls (.long x :: st) h cs sl := by subst hp; exact own_xs hd q (fun T t ha hx hd => XS.lneg (g := mkF m pc ls (.long x :: st)) ha hx rfl hd rfl)
theorem own_lcmp (pc' : Nat) (hp : pc + 1 = pc') {x y : Int64} (hd : decode bytes pc = .ok (.lcmp, 1)) (q : own_K p l e R s m args below meth c bytes mx rt own nm Z Q pc' ls (.int (lcmpW x y) :: st) h cs sl) : own_K p l e R s m args below meth c bytes mx rt own nm Z Q pc ls (.long y :: .long x :: st) h cs sl := by subst hp; exact own_xs hd q (fun T t ha hx hd => XS.lcmp (g := mkF m pc ls (.long y :: .long x :: st)) ha hx rfl hd rfl)
-- the stack
theorem own_dup (pc' : Nat) (hp : pc + 1 = pc') {x : Value} (hd : decode bytes pc = .ok (.dup, 1)) (hc : x.category = 1) (q : own_K p l e R s m args below meth c bytes mx rt own nm Z Q pc' ls (x :: x :: st) h cs sl) : own_K p l e R s m args below meth c bytes mx rt own nm Z Q pc ls (x :: st) h cs sl := by subst hp; exact own_xs hd q (fun T t ha hx hd => XS.dup (g := mkF m pc ls (x :: st)) ha hx rfl hd rfl hc)
theorem own_pop (pc' : Nat) (hp : pc + 1 = pc') {x : Value} (hd : decode bytes pc = .ok (.pop, 1)) (hc : x.category = 1) (q : own_K p l e R s m args below meth c bytes mx rt own nm Z Q pc' ls st h cs sl) : own_K p l e R s m args below meth c bytes mx rt own nm Z Q pc ls (x :: st) h cs sl := by subst hp; exact own_xs hd q (fun T t ha hx hd => XS.pop (g := mkF m pc ls (x :: st)) ha hx rfl hd rfl hc)
theorem own_dupX1 (pc' : Nat) (hp : pc + 1 = pc') {x y : Value} (hd : decode bytes pc = .ok (.dup_x1, 1)) (hc : x.category = 1) (hc' : y.category = 1) (q : own_K p l e R s m args below meth c bytes mx rt own nm Z Q pc' ls (x :: y :: x :: st) h cs sl) : own_K p l e R s m args below meth c bytes mx rt own nm Z Q pc ls (x :: y :: st) h cs sl := by subst hp; exact own_xs hd q (fun T t ha hx hd => XT.dupX1 (g := mkF m pc ls (x :: y :: st)) ha hx rfl hd rfl hc hc')
theorem own_dup2 (pc' : Nat) (hp : pc + 1 = pc') {x y : Value} (hd : decode bytes pc = .ok (.dup2, 1)) (hc : x.category = 1) (hc' : y.category = 1) (q : own_K p l e R s m args below meth c bytes mx rt own nm Z Q pc' ls (x :: y :: x :: y :: st) h cs sl) : own_K p l e R s m args below meth c bytes mx rt own nm Z Q pc ls (x :: y :: st) h cs sl := by subst hp; exact own_xs hd q (fun T t ha hx hd => XT.dup2 (g := mkF m pc ls (x :: y :: st)) ha hx rfl hd rfl hc hc')
-- branches
theorem own_goto (pc' : Nat) {o : Int} (hd : decode bytes pc = .ok (.goto o, 3)) (ho : 0 ≤ (pc : Int) + o) (hp : ((pc : Int) + o).toNat = pc') (q : own_K p l e R s m args below meth c bytes mx rt own nm Z Q pc' ls st h cs sl) : own_K p l e R s m args below meth c bytes mx rt own nm Z Q pc ls st h cs sl := own_xs hd q (fun T t ha hx hd => XS.goto (g := mkF m pc ls st) ha hx rfl rfl hd ho hp)
theorem own_ifYes (pc' : Nat) {cd : ClassFile.Cond} {x : Int32} {o : Int} (hd : decode bytes pc = .ok (.ifCond cd o, 3)) (hc : if_icmp.holds cd x 0 = true) (ho : 0 ≤ (pc : Int) + o) (hp : ((pc : Int) + o).toNat = pc') (q : own_K p l e R s m args below meth c bytes mx rt own nm Z Q pc' ls st h cs sl) : own_K p l e R s m args below meth c bytes mx rt own nm Z Q pc ls (.int x :: st) h cs sl := own_xs hd q (fun T t ha hx hd => XS.ifYes (g := mkF m pc ls (.int x :: st)) ha hx rfl rfl hd rfl ((if0 _ _).trans hc) ho hp)
theorem own_ifNo (pc' : Nat) (hp : pc + 3 = pc') {cd : ClassFile.Cond} {x : Int32} {o : Int} (hd : decode bytes pc = .ok (.ifCond cd o, 3)) (hc : if_icmp.holds cd x 0 = false) (q : own_K p l e R s m args below meth c bytes mx rt own nm Z Q pc' ls st h cs sl) : own_K p l e R s m args below meth c bytes mx rt own nm Z Q pc ls (.int x :: st) h cs sl := by subst hp; exact own_xs hd q (fun T t ha hx hd => XS.ifNo (g := mkF m pc ls (.int x :: st)) ha hx rfl hd rfl ((if0 _ _).trans hc))
theorem own_icmpYes (pc' : Nat) {cd : ClassFile.Cond} {x y : Int32} {o : Int} (hd : decode bytes pc = .ok (.if_icmp cd o, 3)) (hc : if_icmp.holds cd x y = true) (ho : 0 ≤ (pc : Int) + o) (hp : ((pc : Int) + o).toNat = pc') (q : own_K p l e R s m args below meth c bytes mx rt own nm Z Q pc' ls st h cs sl) : own_K p l e R s m args below meth c bytes mx rt own nm Z Q pc ls (.int y :: .int x :: st) h cs sl := own_xs hd q (fun T t ha hx hd => XS.icmpYes (g := mkF m pc ls (.int y :: .int x :: st)) ha hx rfl rfl hd rfl hc ho hp)
theorem own_icmpNo (pc' : Nat) (hp : pc + 3 = pc') {cd : ClassFile.Cond} {x y : Int32} {o : Int} (hd : decode bytes pc = .ok (.if_icmp cd o, 3)) (hc : if_icmp.holds cd x y = false) (q : own_K p l e R s m args below meth c bytes mx rt own nm Z Q pc' ls st h cs sl) : own_K p l e R s m args below meth c bytes mx rt own nm Z Q pc ls (.int y :: .int x :: st) h cs sl := by subst hp; exact own_xs hd q (fun T t ha hx hd => XS.icmpNo (g := mkF m pc ls (.int y :: .int x :: st)) ha hx rfl hd rfl hc)
theorem own_acmpYes (pc' : Nat) {cd : ClassFile.ACond} {x y : Value} {o : Int} (hd : decode bytes pc = .ok (.if_acmp cd o, 3)) (hx' : x.isRef = true) (hy' : y.isRef = true) (hc : XT.acmp cd x y = true) (ho : 0 ≤ (pc : Int) + o) (hp : ((pc : Int) + o).toNat = pc') (q : own_K p l e R s m args below meth c bytes mx rt own nm Z Q pc' ls st h cs sl) : own_K p l e R s m args below meth c bytes mx rt own nm Z Q pc ls (y :: x :: st) h cs sl := own_xs hd q (fun T t ha hx hd => XT.acmpYes (g := mkF m pc ls (y :: x :: st)) ha hx rfl rfl hd rfl hx' hy' hc ho hp)
theorem own_acmpNo (pc' : Nat) (hp : pc + 3 = pc') {cd : ClassFile.ACond} {x y : Value} {o : Int} (hd : decode bytes pc = .ok (.if_acmp cd o, 3)) (hx' : x.isRef = true) (hy' : y.isRef = true) (hc : XT.acmp cd x y = false) (q : own_K p l e R s m args below meth c bytes mx rt own nm Z Q pc' ls st h cs sl) : own_K p l e R s m args below meth c bytes mx rt own nm Z Q pc ls (y :: x :: st) h cs sl := by subst hp; exact own_xs hd q (fun T t ha hx hd => XT.acmpNo (g := mkF m pc ls (y :: x :: st)) ha hx rfl hd rfl hx' hy' hc)
theorem own_teq {x y : Value} (q : x = y) : XT.acmp .eq x y = true ∧ XT.acmp .ne x y = false := ⟨decide_eq_true q, decide_eq_false fun f => f q⟩
theorem own_feq {x y : Value} (q : ¬ x = y) : XT.acmp .eq x y = false ∧ XT.acmp .ne x y = true := ⟨decide_eq_false q, decide_eq_true q⟩
theorem own_ifnullYes (pc' : Nat) {o : Int} (hd : decode bytes pc = .ok (.ifnull o, 3)) (ho : 0 ≤ (pc : Int) + o) (hp : ((pc : Int) + o).toNat = pc') (q : own_K p l e R s m args below meth c bytes mx rt own nm Z Q pc' ls st h cs sl) : own_K p l e R s m args below meth c bytes mx rt own nm Z Q pc ls (.null :: st) h cs sl := own_xs hd q (fun T t ha hx hd => XS.ifnullYes (g := mkF m pc ls (.null :: st)) ha hx rfl rfl hd rfl ho hp)
theorem own_ifnullNo (pc' : Nat) (hp : pc + 3 = pc') {b : Addr} {o : Int} (hd : decode bytes pc = .ok (.ifnull o, 3)) (q : own_K p l e R s m args below meth c bytes mx rt own nm Z Q pc' ls st h cs sl) : own_K p l e R s m args below meth c bytes mx rt own nm Z Q pc ls (.ref b :: st) h cs sl := by subst hp; exact own_xs hd q (fun T t ha hx hd => XS.ifnullNo (g := mkF m pc ls (.ref b :: st)) ha hx rfl hd rfl)
theorem own_ifnonnullYes (pc' : Nat) {b : Addr} {o : Int} (hd : decode bytes pc = .ok (.ifnonnull o, 3)) (ho : 0 ≤ (pc : Int) + o) (hp : ((pc : Int) + o).toNat = pc') (q : own_K p l e R s m args below meth c bytes mx rt own nm Z Q pc' ls st h cs sl) : own_K p l e R s m args below meth c bytes mx rt own nm Z Q pc ls (.ref b :: st) h cs sl := own_xs hd q (fun T t ha hx hd => XT.ifnonnullYes (g := mkF m pc ls (.ref b :: st)) ha hx rfl rfl hd rfl ho hp)
theorem own_ifnonnullNo (pc' : Nat) (hp : pc + 3 = pc') {o : Int} (hd : decode bytes pc = .ok (.ifnonnull o, 3)) (q : own_K p l e R s m args below meth c bytes mx rt own nm Z Q pc' ls st h cs sl) : own_K p l e R s m args below meth c bytes mx rt own nm Z Q pc ls (.null :: st) h cs sl := by subst hp; exact own_xs hd q (fun T t ha hx hd => XT.ifnonnullNo (g := mkF m pc ls (.null :: st)) ha hx rfl hd rfl)
-- fields
theorem own_getF (pc' : Nat) (hp : pc + 3 = pc') {R0 O n d host : String} {index : Nat} (w : (Jvm.Cond.fieldLink own index R0 n d).before a0 Z = true ∨ (Jvm.Cond.fieldLinkNest own index R0 n d host).before a0 Z = true) (via : Via Z R0 O n d) {a : Addr} {v : Value} (F : Fld Z h a O n d v) (hd : decode bytes pc = .ok (.getfield index, 3))
    (q : own_K p l e R s m args below meth c bytes mx rt own nm Z Q pc' ls (v :: st) h cs sl) : own_K p l e R s m args below meth c bytes mx rt own nm Z Q pc ls (.ref a :: st) h cs sl := fun T L hx hby hml hrt hlk hown hnm hZ X eT N O' => by
  subst hp
  obtain ⟨T', X', e', s'⟩ := getF X hx hZ hown w via eT F (g := mkF m pc ls (.ref a :: st)) rfl rfl (hb hby hd)
  exact own_go s' (q T' L hx hby hml hrt hlk hown hnm hZ X' e' N O')
theorem own_getS (pc' : Nat) (hp : pc + 3 = pc') {R0 O n d host : String} {index : Nat} (w : (Jvm.Cond.fieldLink own index R0 n d).before a0 Z = true ∨ (Jvm.Cond.fieldLinkNest own index R0 n d host).before a0 Z = true) (via : Via Z R0 O n d) {v : Value} (F : Sta Z Z.heap O n d v) (hd : decode bytes pc = .ok (.getstatic index, 3))
    (q : own_K p l e R s m args below meth c bytes mx rt own nm Z Q pc' ls (v :: st) h cs sl) : own_K p l e R s m args below meth c bytes mx rt own nm Z Q pc ls st h cs sl := fun T L hx hby hml hrt hlk hown hnm hZ X eT N O' => by
  subst hp
  obtain ⟨T', X', e', s'⟩ := getS2 X hx hZ hown w via eT (F.ext O'.2) (g := mkF m pc ls st) rfl (hb hby hd)
  exact own_go s' (q T' L hx hby hml hrt hlk hown hnm hZ X' e' N O')
theorem own_putF (pc' : Nat) (hp : pc + 3 = pc') {R0 O n d host C : String} {index kk : Nat} {ty : FieldType} (w : (Jvm.Cond.fieldLink own index R0 n d).before a0 Z = true ∨ (Jvm.Cond.fieldLinkNest own index R0 n d host).before a0 Z = true) (via : Via Z R0 O n d) {a : Addr} {v old : Value} (ga : Z.heap.size ≤ a) (F : Fld Z h a O n d old) (E : Exa Z h a C)
    (L0 : (Jvm.Cond.lays C O n d).before a0 Z = true ∨ ((Jvm.Cond.laysFinal C O n d).before a0 Z = true ∧ own = O ∧ nm = "<init>")) (wi : (Jvm.Cond.instantiable C kk).before a0 Z = true) (hty : parseFieldDescriptor d = some ty) (hn : narrow ty v = v) (hf : fits ty v = true) (hd : decode bytes pc = .ok (.putfield index, 3))
    (q : ∀ h', Wr h h' a (Jvm.RoadKit.slotOf Z O n d) v → own_K p l e R s m args below meth c bytes mx rt own nm Z Q pc' ls st h' cs sl) : own_K p l e R s m args below meth c bytes mx rt own nm Z Q pc ls (v :: .ref a :: st) h cs sl := fun T L hx hby hml hrt hlk hown hnm hZ X eT N O' => by
  subst hp
  obtain ⟨T', h', X', e', W', s'⟩ := putF X hx hZ hown w via eT F E (L0.imp id fun u => ⟨u.1, u.2.1, hnm.trans u.2.2⟩) wi hty hn hf (g := mkF m pc ls (v :: .ref a :: st)) rfl rfl (hb hby hd)
  exact own_go s' (q h' W' T' _ hx hby hml hrt hlk hown hnm hZ X' e' (Fr.snoc X' N ga) (O'.wr W' ga))
-- objects and arrays
theorem own_newO (pc' : Nat) (hp : pc + 3 = pc') (cs' sl' : Nat) {C : String} {index n : Nat} (w : (Jvm.Cond.classLink own index C).before a0 Z = true) (wi : (Jvm.Cond.instantiable C n).before a0 Z = true) (wz : (Jvm.Cond.initialized C).before a0 Z = true) (hd : decode bytes pc = .ok (.new index, 3)) (hcs : cs + 1 = cs') (hsl : sl + n = sl') (hc : cs' ≤ R.cells) (hl : sl' ≤ R.slots)
    (q : ∀ h' (a : Addr), a = h.size → Z.heap.size ≤ a → Ext h h' → Exa Z h' a C → (∀ {O nm d : String} {ty : FieldType}, Laid Z a0 C O nm d → parseFieldDescriptor d = some ty → Fld Z h' a O nm d (defaultValue ty)) → own_K p l e R s m args below meth c bytes mx rt own nm Z Q pc' ls (.ref a :: st) h' cs' sl') : own_K p l e R s m args below meth c bytes mx rt own nm Z Q pc ls st h cs sl := fun T L hx hby hml hrt hlk hown hnm hZ X eT N O' => by
  subst hp; subst hcs; subst hsl
  obtain ⟨T', h', X', e', E', A', D', -, s'⟩ := newO X hx hZ hown w wi wz eT (g := mkF m pc ls st) rfl (hb hby hd) hc hl
  exact own_go s' (q h' _ rfl O'.2.1 E' A' D' T' _ hx hby hml hrt hlk hown hnm hZ X' e' N (O'.ext E'))
theorem own_newP (pc' : Nat) (hp : pc + 2 = pc') (cs' sl' cap : Nat) (ad : String) {aty : ArrayType} (had : "[" ++ (newarray.typeOf aty).toString = ad) (w : (Jvm.Cond.arrayClass (newarray.typeOf aty)).before a0 Z = true) (hd : decode bytes pc = .ok (.newarray aty, 2)) {n : Int32} (hn : ¬ n < 0) (hcap : n.toNatClampNeg ≤ cap) (hb' : cap * 8 ≤ 536870912) (hcs : cs + 1 = cs') (hsl : sl + cap = sl') (hc : cs' ≤ R.cells) (hl : sl' ≤ R.slots)
    (q : ∀ h' (a : Addr) k, a = h.size → Z.heap.size ≤ a → Ext h h' → Arv Z h' a k (newarray.typeOf aty) n [] (defaultValue (newarray.typeOf aty)) → Exa Z h' a ad → own_K p l e R s m args below meth c bytes mx rt own nm Z Q pc' ls (.ref a :: st) h' cs' sl') : own_K p l e R s m args below meth c bytes mx rt own nm Z Q pc ls (.int n :: st) h cs sl := fun T L hx hby hml hrt hlk hown hnm hZ X eT N O' => by
  subst hp; subst hcs; subst hsl
  obtain ⟨T', h', cA, X', e', E', A', C', s'⟩ := newPE X hx hZ w eT (g := mkF m pc ls (.int n :: st)) rfl (hb hby hd) rfl hn hcap hb' hc hl had
  exact own_go s' (q h' _ cA rfl O'.2.1 E' (Arv.new A' hn) C' T' _ hx hby hml hrt hlk hown hnm hZ X' e' N (O'.ext E'))
theorem own_newR (pc' : Nat) (hp : pc + 3 = pc') (cs' sl' cap : Nat) {C : String} {index : Nat} (w1 : (Jvm.Cond.classLink own index C).before a0 Z = true) (w2 : (Jvm.Cond.arrayOver (.object C)).before a0 Z = true) (hd : decode bytes pc = .ok (.anewarray index, 3)) {n : Int32} (hn : ¬ n < 0) (hcap : n.toNatClampNeg ≤ cap) (hb' : cap * 8 ≤ 536870912) (hcs : cs + 1 = cs') (hsl : sl + cap = sl') (hc : cs' ≤ R.cells) (hl : sl' ≤ R.slots)
    (q : ∀ h' (a : Addr) k, a = h.size → Z.heap.size ≤ a → Ext h h' → Arv Z h' a k (.object C) n [] .null → Ovr Z k C → own_K p l e R s m args below meth c bytes mx rt own nm Z Q pc' ls (.ref a :: st) h' cs' sl') : own_K p l e R s m args below meth c bytes mx rt own nm Z Q pc ls (.int n :: st) h cs sl := fun T L hx hby hml hrt hlk hown hnm hZ X eT N O' => by
  subst hp; subst hcs; subst hsl
  obtain ⟨T', h', cA, X', e', E', A', V', s'⟩ := newR X hx hZ hown w1 w2 eT (g := mkF m pc ls (.int n :: st)) rfl (hb hby hd) rfl hn hcap hb' hc hl
  exact own_go s' (q h' _ cA rfl O'.2.1 E' (Arv.new A' hn) V' T' _ hx hby hml hrt hlk hown hnm hZ X' e' N (O'.ext E'))
theorem own_initO (pc' : Nat) (hp : pc + 3 = pc') {index : Nat} (w1 : (Jvm.Cond.methodLink own index Lib.objectInit).before a0 Z = true) (w2 : (Jvm.Cond.instanceMethod Lib.objectInit).before a0 Z = true) (w3 : (Jvm.Cond.code Lib.objectInit ⟨#[0xb1]⟩ 1 none).before a0 Z = true) {a : Addr} (hd : decode bytes pc = .ok (.invokespecial index, 3)) (hls : ls.size = mx) (hf : 1 ≤ R.frames) (W : Nat) (hW : (st.map fun v => v.category).sum ≤ W) (hl : W + 12 ≤ R.locals)
    (q : own_K p l e R s m args below meth c bytes mx rt own nm Z Q pc' ls st h cs sl) : own_K p l e R s m args below meth c bytes mx rt own nm Z Q pc ls (.ref a :: st) h cs sl := fun T L hx hby hml hrt hlk hown hnm hZ X eT N O' => by
  subst hp
  obtain ⟨T', X', e', s'⟩ := initO X hx hZ hown w1 w2 w3 eT (g := mkF m pc ls (.ref a :: st)) rfl (hls.trans hml.symm) rfl (hb hby hd) hf (W := W) (by simpa using hW) hl
  exact own_go s' (q T' L hx hby hml hrt hlk hown hnm hZ X' e' N O')
theorem own_alen (pc' : Nat) (hp : pc + 1 = pc') {a : Addr} {cl : Cell} {ty : FieldType} (A : Arr Z h a cl ty) (n : Int32) (hn : cl.slots.size.toInt32 = n) (hd : decode bytes pc = .ok (.arraylength, 1))
    (q : own_K p l e R s m args below meth c bytes mx rt own nm Z Q pc' ls (.int n :: st) h cs sl) : own_K p l e R s m args below meth c bytes mx rt own nm Z Q pc ls (.ref a :: st) h cs sl := fun T L hx hby hml hrt hlk hown hnm hZ X eT N O' => by
  subst hp; subst hn
  exact own_go (X.arraylength hx (by rw [eT]; exact A.1) (State.isArrayOf_alike hZ.alike A.2.1) (g := mkF m pc ls (.ref a :: st)) rfl rfl (hb hby hd)) (q T L hx hby hml hrt hlk hown hnm hZ X eT N O')
theorem own_iaload (pc' : Nat) (hp : pc + 1 = pc') {a : Addr} {cl : Cell} {j : Int32} {v : Value} (A : Arr Z h a cl .int) (hin : ¬ (j < 0 ∨ cl.slots.size ≤ j.toNatClampNeg)) (hv : cl.slots[j.toNatClampNeg]? = some v) (hd : decode bytes pc = .ok (.iaload, 1))
    (q : own_K p l e R s m args below meth c bytes mx rt own nm Z Q pc' ls (v :: st) h cs sl) : own_K p l e R s m args below meth c bytes mx rt own nm Z Q pc ls (.int j :: .ref a :: st) h cs sl := fun T L hx hby hml hrt hlk hown hnm hZ X eT N O' => by
  subst hp
  exact own_go (X.iaload hx (by rw [eT]; exact A.1) (State.isArrayOf_alike hZ.alike A.2.1) A.2.2 hin hv (g := mkF m pc ls (.int j :: .ref a :: st)) rfl rfl (hb hby hd)) (q T L hx hby hml hrt hlk hown hnm hZ X eT N O')
theorem own_laload (pc' : Nat) (hp : pc + 1 = pc') {a : Addr} {cl : Cell} {j : Int32} {v : Value} (A : Arr Z h a cl .long) (hin : ¬ (j < 0 ∨ cl.slots.size ≤ j.toNatClampNeg)) (hv : cl.slots[j.toNatClampNeg]? = some v) (hd : decode bytes pc = .ok (.laload, 1))
    (q : own_K p l e R s m args below meth c bytes mx rt own nm Z Q pc' ls (v :: st) h cs sl) : own_K p l e R s m args below meth c bytes mx rt own nm Z Q pc ls (.int j :: .ref a :: st) h cs sl := fun T L hx hby hml hrt hlk hown hnm hZ X eT N O' => by
  subst hp
  exact own_go (X.laload hx (by rw [eT]; exact A.1) (State.isArrayOf_alike hZ.alike A.2.1) A.2.2 hin hv (g := mkF m pc ls (.int j :: .ref a :: st)) rfl rfl (hb hby hd)) (q T L hx hby hml hrt hlk hown hnm hZ X eT N O')
theorem own_baload (pc' : Nat) (hp : pc + 1 = pc') {a : Addr} {cl : Cell} {j : Int32} {v : Value} (A : Arr Z h a cl .byte) (hin : ¬ (j < 0 ∨ cl.slots.size ≤ j.toNatClampNeg)) (hv : cl.slots[j.toNatClampNeg]? = some v) (hd : decode bytes pc = .ok (.baload, 1))
    (q : own_K p l e R s m args below meth c bytes mx rt own nm Z Q pc' ls (v :: st) h cs sl) : own_K p l e R s m args below meth c bytes mx rt own nm Z Q pc ls (.int j :: .ref a :: st) h cs sl := fun T L hx hby hml hrt hlk hown hnm hZ X eT N O' => by
  subst hp
  exact own_go (X.baloadBytes hx (by rw [eT]; exact A.1) (State.isArrayOf_alike hZ.alike A.2.1) A.2.2 hin hv (g := mkF m pc ls (.int j :: .ref a :: st)) rfl rfl (hb hby hd)) (q T L hx hby hml hrt hlk hown hnm hZ X eT N O')
theorem own_zaload (pc' : Nat) (hp : pc + 1 = pc') {a : Addr} {cl : Cell} {j : Int32} {v : Value} (A : Arr Z h a cl .boolean) (hin : ¬ (j < 0 ∨ cl.slots.size ≤ j.toNatClampNeg)) (hv : cl.slots[j.toNatClampNeg]? = some v) (hd : decode bytes pc = .ok (.baload, 1))
    (q : own_K p l e R s m args below meth c bytes mx rt own nm Z Q pc' ls (v :: st) h cs sl) : own_K p l e R s m args below meth c bytes mx rt own nm Z Q pc ls (.int j :: .ref a :: st) h cs sl := fun T L hx hby hml hrt hlk hown hnm hZ X eT N O' => by
  subst hp
  exact own_go (X.baloadBooleans hx (by rw [eT]; exact A.1) (State.isArrayOf_alike hZ.alike A.2.1) A.2.2 hin hv (g := mkF m pc ls (.int j :: .ref a :: st)) rfl rfl (hb hby hd)) (q T L hx hby hml hrt hlk hown hnm hZ X eT N O')
theorem own_aaload (pc' : Nat) (hp : pc + 1 = pc') {a : Addr} {cl : Cell} {j : Int32} {v : Value} {ty : FieldType} (A : Arr Z h a cl ty) (hty : ty.isReference = true) (hin : ¬ (j < 0 ∨ cl.slots.size ≤ j.toNatClampNeg)) (hv : cl.slots[j.toNatClampNeg]? = some v) (hd : decode bytes pc = .ok (.aaload, 1))
    (q : own_K p l e R s m args below meth c bytes mx rt own nm Z Q pc' ls (v :: st) h cs sl) : own_K p l e R s m args below meth c bytes mx rt own nm Z Q pc ls (.int j :: .ref a :: st) h cs sl := fun T L hx hby hml hrt hlk hown hnm hZ X eT N O' => by
  subst hp
  exact own_go (X.aaload hx (by rw [eT]; exact A.1) (State.isArrayOf_alike hZ.alike A.2.1) hty A.2.2 hin hv (g := mkF m pc ls (.int j :: .ref a :: st)) rfl rfl (hb hby hd)) (q T L hx hby hml hrt hlk hown hnm hZ X eT N O')
theorem own_iastore (pc' : Nat) (hp : pc + 1 = pc') {a : Addr} {cl : Cell} {j x : Int32} (ga : Z.heap.size ≤ a) (A : Arr Z h a cl .int) (hin : ¬ (j < 0 ∨ cl.slots.size ≤ j.toNatClampNeg)) (hd : decode bytes pc = .ok (.iastore, 1))
    (q : ∀ h', Wr h h' a j.toNatClampNeg (.int x) → own_K p l e R s m args below meth c bytes mx rt own nm Z Q pc' ls st h' cs sl) : own_K p l e R s m args below meth c bytes mx rt own nm Z Q pc ls (.int x :: .int j :: .ref a :: st) h cs sl := fun T L hx hby hml hrt hlk hown hnm hZ X eT N O' => by
  subst hp
  obtain ⟨T', h', X', e', W', s'⟩ := stI X hx hZ eT A hin (g := mkF m pc ls (.int x :: .int j :: .ref a :: st)) rfl rfl (hb hby hd)
  exact own_go s' (q h' W' T' _ hx hby hml hrt hlk hown hnm hZ X' e' (Fr.snoc X' N ga) (O'.wr W' ga))
theorem own_lastore (pc' : Nat) (hp : pc + 1 = pc') {a : Addr} {cl : Cell} {j : Int32} {x : Int64} (ga : Z.heap.size ≤ a) (A : Arr Z h a cl .long) (hin : ¬ (j < 0 ∨ cl.slots.size ≤ j.toNatClampNeg)) (hd : decode bytes pc = .ok (.lastore, 1))
    (q : ∀ h', Wr h h' a j.toNatClampNeg (.long x) → own_K p l e R s m args below meth c bytes mx rt own nm Z Q pc' ls st h' cs sl) : own_K p l e R s m args below meth c bytes mx rt own nm Z Q pc ls (.long x :: .int j :: .ref a :: st) h cs sl := fun T L hx hby hml hrt hlk hown hnm hZ X eT N O' => by
  subst hp
  obtain ⟨T', h', X', e', W', s'⟩ := stJ X hx hZ eT A hin (g := mkF m pc ls (.long x :: .int j :: .ref a :: st)) rfl rfl (hb hby hd)
  exact own_go s' (q h' W' T' _ hx hby hml hrt hlk hown hnm hZ X' e' (Fr.snoc X' N ga) (O'.wr W' ga))
theorem own_bastore (pc' : Nat) (hp : pc + 1 = pc') {a : Addr} {cl : Cell} {j x : Int32} (ga : Z.heap.size ≤ a) (A : Arr Z h a cl .byte) (hin : ¬ (j < 0 ∨ cl.slots.size ≤ j.toNatClampNeg)) (hd : decode bytes pc = .ok (.bastore, 1))
    (q : ∀ h', Wr h h' a j.toNatClampNeg (.int (nar .byte x)) → own_K p l e R s m args below meth c bytes mx rt own nm Z Q pc' ls st h' cs sl) : own_K p l e R s m args below meth c bytes mx rt own nm Z Q pc ls (.int x :: .int j :: .ref a :: st) h cs sl := fun T L hx hby hml hrt hlk hown hnm hZ X eT N O' => by
  subst hp
  obtain ⟨T', h', X', e', W', s'⟩ := stB X hx hZ eT A hin (g := mkF m pc ls (.int x :: .int j :: .ref a :: st)) rfl rfl (hb hby hd)
  exact own_go s' (q h' W' T' _ hx hby hml hrt hlk hown hnm hZ X' e' (Fr.snoc X' N ga) (O'.wr W' ga))
theorem own_aastore (pc' : Nat) (hp : pc + 1 = pc') {a : Addr} {cl : Cell} {j : Int32} {v : Value} {ty : FieldType} (ga : Z.heap.size ≤ a) (A : Arr Z h a cl ty) (hty : ty.isReference = true) (F : Sto Z h a v) (hin : ¬ (j < 0 ∨ cl.slots.size ≤ j.toNatClampNeg)) (hd : decode bytes pc = .ok (.aastore, 1))
    (q : ∀ h', Wr h h' a j.toNatClampNeg v → own_K p l e R s m args below meth c bytes mx rt own nm Z Q pc' ls st h' cs sl) : own_K p l e R s m args below meth c bytes mx rt own nm Z Q pc ls (v :: .int j :: .ref a :: st) h cs sl := fun T L hx hby hml hrt hlk hown hnm hZ X eT N O' => by
  subst hp
  obtain ⟨T', h', X', e', W', s'⟩ := stR X hx hZ eT A hin hty F (g := mkF m pc ls (v :: .int j :: .ref a :: st)) rfl rfl (hb hby hd)
  exact own_go s' (q h' W' T' _ hx hby hml hrt hlk hown hnm hZ X' e' (Fr.snoc X' N ga) (O'.wr W' ga))
theorem own_cast (pc' : Nat) (hp : pc + 3 = pc') {C : String} {index : Nat} (w : (Jvm.Cond.classLink own index C).before a0 Z = true) {a : Addr} (F : Ins Z h a C true) (hd : decode bytes pc = .ok (.checkcast index, 3))
    (q : own_K p l e R s m args below meth c bytes mx rt own nm Z Q pc' ls (.ref a :: st) h cs sl) : own_K p l e R s m args below meth c bytes mx rt own nm Z Q pc ls (.ref a :: st) h cs sl := fun T L hx hby hml hrt hlk hown hnm hZ X eT N O' => by
  subst hp
  obtain ⟨T', X', e', s'⟩ := castY X hx hZ hown w eT F (g := mkF m pc ls (.ref a :: st)) rfl rfl (hb hby hd)
  exact own_go s' (q T' L hx hby hml hrt hlk hown hnm hZ X' e' N O')
theorem own_castNull (pc' : Nat) (hp : pc + 3 = pc') {index : Nat} (hd : decode bytes pc = .ok (.checkcast index, 3))
    (q : own_K p l e R s m args below meth c bytes mx rt own nm Z Q pc' ls (.null :: st) h cs sl) : own_K p l e R s m args below meth c bytes mx rt own nm Z Q pc ls (.null :: st) h cs sl := fun T L hx hby hml hrt hlk hown hnm hZ X eT N O' => by
  subst hp
  exact own_go (X.checkcastNull hx (g := mkF m pc ls (.null :: st)) rfl rfl (hb hby hd)) (q T L hx hby hml hrt hlk hown hnm hZ X eT N O')
theorem own_clone (pc' : Nat) (hp : pc + 3 = pc') (cs' sl' cap W : Nat) {ad : String} {index : Nat} {k : ClassId} {ty : FieldType} {z : Int32} {vs : List Value} {dv : Value} {a : Addr}
    (w1 : (Jvm.Cond.methodLink own index ⟨ad, "clone", "()Ljava/lang/Object;"⟩).before a0 Z = true) (w2 : (Jvm.Cond.sameMethod ad "java/lang/Object" "clone" "()Ljava/lang/Object;").before a0 Z = true) (w3 : (Jvm.Cond.native ⟨"java/lang/Object", "clone", "()Ljava/lang/Object;"⟩).before a0 Z = true)
    (w4 : (Jvm.Cond.instanceMethod ⟨"java/lang/Object", "clone", "()Ljava/lang/Object;"⟩).before a0 Z = true) (w5 : (Jvm.Cond.selects ad ⟨ad, "clone", "()Ljava/lang/Object;"⟩ ⟨"java/lang/Object", "clone", "()Ljava/lang/Object;"⟩).before a0 Z = true) (w6 : (Jvm.Cond.castable ad "java/lang/Cloneable").before a0 Z = true)
    (F : Arv Z h a k ty z vs dv) (E : Exa Z h a ad) (hcap : z.toNatClampNeg ≤ cap) (hd : decode bytes pc = .ok (.invokevirtual index, 3)) (hls : ls.size = mx) (hf : 1 ≤ R.frames) (hW : (st.map fun v => v.category).sum = W) (hl : W + 14 ≤ R.locals) (hcs : cs + 1 = cs') (hsl : sl + cap = sl') (hc : cs' ≤ R.cells) (hs : sl' ≤ R.slots)
    (q : ∀ h' (b : Addr), b = h.size → Z.heap.size ≤ b → Ext h h' → Arv Z h' b k ty z vs dv → Exa Z h' b ad → own_K p l e R s m args below meth c bytes mx rt own nm Z Q pc' ls (.ref b :: st) h' cs' sl') : own_K p l e R s m args below meth c bytes mx rt own nm Z Q pc ls (.ref a :: st) h cs sl := fun T L hx hby hml hrt hlk hown hnm hZ X eT N O' => by
  subst hp; subst hcs; subst hsl
  obtain ⟨T', h', X', e', E', A', C', s'⟩ := cloneH X hx hZ hown w1 w2 w3 w4 w5 w6 eT F.arh E (g := mkF m pc ls (.ref a :: st)) rfl (hls.trans hml.symm) rfl (hb hby hd) hf (W := W) (by show 2 * 0 + _ ≤ _; omega) hl hcap hc hs
  exact own_go s' (q h' _ rfl O'.2.1 E' A' C' T' _ hx hby hml hrt hlk hown hnm hZ X' e' N (O'.ext E'))
-- leaving
theorem own_out {t : FieldType} {v : Value} {pc : Nat} {T : State} {L : List Loc} (X : Stand p l e R s m args below meth c T L cs sl) (hrt : meth.sig.returnType = some t) (hlk : meth.locks = false)
    (f : ∀ fs, (∀ (f : JFrame) (acts : List Action), f.method = m → f.locked = none → f.entered = [] → (doReturn e (T.setTop f) acts (some v)).1 = T.setFrames fs) → Steps p.tables e below (T.setTop (mkF m pc ls st)) (T.setFrames fs)) (hc : cs ≤ R.cells) (hs : sl ≤ R.slots) (N : Fr Z.heap.size L) (O : Old Z Z.heap.size T.heap) (q : Q (some v) T.heap) :
    own_G p e s below Z Q R.cells R.slots (T.setTop (mkF m pc ls st)) := by
  obtain ⟨fs, hr, hrun, hended, hW, hsame⟩ := X.leave (v := some v) (fun h => by rw [hrt] at h; cases h) hlk
  exact ⟨_, _, f fs hr, hrun, hended, _, _, rfl, ⟨q, N, O⟩, ⟨_, rfl⟩, hW, hsame.mono hc hs⟩
theorem own_retI {v : Int32} (hr : rt = some .int) (hd : decode bytes pc = .ok (.ireturn, 1)) (hc : cs ≤ R.cells) (hs : sl ≤ R.slots) (q : Q (some (.int v)) h) : own_K p l e R s m args below meth c bytes mx rt own nm Z Q pc ls (.int v :: st) h cs sl := fun T L hx hby hml hrt hlk hown hnm hZ X eT N O' => by
  subst eT
  exact own_out X (hrt.trans hr) hlk (fun fs k => retOut X hx (hrt.trans hr) rfl (Or.inl ⟨rfl, Or.inl rfl, _, rfl⟩) (hb hby hd) k) hc hs N O' q
theorem own_retN {v : Int32} {t : FieldType} (hr : rt = some t) (ht : t = .boolean ∨ t = .byte ∨ t = .char ∨ t = .short) (hd : decode bytes pc = .ok (.ireturn, 1)) (hc : cs ≤ R.cells) (hs : sl ≤ R.slots) (q : Q (some (.int (nar t v))) h) : own_K p l e R s m args below meth c bytes mx rt own nm Z Q pc ls (.int v :: st) h cs sl := fun T L hx hby hml hrt hlk hown hnm hZ X eT N O' => by
  subst eT
  exact own_out X (hrt.trans hr) hlk (fun fs k => retN X hx (hrt.trans hr) ht (hb hby hd) k) hc hs N O' q
theorem own_retJ {v : Int64} (hr : rt = some .long) (hd : decode bytes pc = .ok (.lreturn, 1)) (hc : cs ≤ R.cells) (hs : sl ≤ R.slots) (q : Q (some (.long v)) h) : own_K p l e R s m args below meth c bytes mx rt own nm Z Q pc ls (.long v :: st) h cs sl := fun T L hx hby hml hrt hlk hown hnm hZ X eT N O' => by
  subst eT
  exact own_out X (hrt.trans hr) hlk (fun fs k => retOut X hx (hrt.trans hr) rfl (Or.inr (Or.inl ⟨rfl, rfl, _, rfl⟩)) (hb hby hd) k) hc hs N O' q
theorem own_narR {t : FieldType} {v : Value} (ht : t.isReference = true) (hv : v.isRef = true) : narrow t v = v := by
  rcases ref_cases hv with rfl | ⟨_, rfl⟩ <;> cases t <;> first | rfl | cases ht
theorem own_retA {v : Value} {t : FieldType} (hr : rt = some t) (ht : t.isReference = true) (hv : v.isRef = true) (hd : decode bytes pc = .ok (.areturn, 1)) (hc : cs ≤ R.cells) (hs : sl ≤ R.slots) (q : Q (some v) h) : own_K p l e R s m args below meth c bytes mx rt own nm Z Q pc ls (v :: st) h cs sl := fun T L hx hby hml hrt hlk hown hnm hZ X eT N O' => by
  subst eT
  exact own_out X (hrt.trans hr) hlk (fun fs k => retOut X hx (hrt.trans hr) (own_narR ht hv) (Or.inr (Or.inr (Or.inr (Or.inr ⟨rfl, ht, hv⟩)))) (hb hby hd) k) hc hs N O' q
theorem own_ret (hr : rt = none) (hd : decode bytes pc = .ok (.return_, 1)) (hc : cs ≤ R.cells) (hs : sl ≤ R.slots) (q : Q none h) : own_K p l e R s m args below meth c bytes mx rt own nm Z Q pc ls [] h cs sl := fun T L hx hby hml hrt hlk hown hnm hZ X eT N O' => by
  subst eT
  obtain ⟨fs, hr', hrun, hended, hW, hsame⟩ := X.leave (v := none) (fun _ => rfl) hlk
  exact ⟨_, _, X.returnOut hx (hrt.trans hr) (hb hby hd) hr', hrun, hended, _, _, rfl, ⟨q, N, O'⟩, ⟨_, rfl⟩, hW, hsame.mono hc hs⟩
-- calls
theorem own_back {y : MethodName} {b' : ByteArray} {mx' : Nat} {rt' : Option FieldType} {rm' : Room} {as' : Array Value} {Q' : Option Value → Heap → Prop} {W : Nat} (hZ : Z.Warmed39 s.vm) (O : Old Z Z.heap.size h) (hM : own_Met l Z y b' mx' rt' [] rm' as' h Q') (w4 : (Jvm.Cond.code y b' mx' rt').before a0 Z = true) (w3 : (Jvm.Cond.initialized y.cls).before a0 Z = true)
    (hf : rm'.frames + 1 ≤ R.frames) (hl : W + (mx' + 11) + rm'.locals ≤ R.locals) {len : Nat} :
    Back l R p e below s args y len W (fun A a => a = as' ∧ A.U.heap = h ∧ A.cells + rm'.cells ≤ R.cells ∧ A.slots + rm'.slots ≤ R.slots)
      (fun A _ v B => ∃ L, (Q' v B.U.heap ∧ Fr Z.heap.size L ∧ Old Z Z.heap.size B.U.heap) ∧ B.locs = A.locs ++ L ∧ B.cells = A.cells + rm'.cells ∧ B.slots = A.slots + rm'.slots) :=
  backOf (Q := fun v h' L => Q' v h' ∧ Fr Z.heap.size L ∧ Old Z Z.heap.size h') (hM O) hZ w4 w3 hf hl
theorem own_callS (pc' : Nat) (hp : pc + 3 = pc') (cs' sl' W : Nat) (argsL rest : List Value) {index : Nat} {y : MethodName} {b' : ByteArray} {mx' : Nat} {rt' : Option FieldType} {rm' : Room} {as' : Array Value} {Q' : Option Value → Heap → Prop}
    (w1 : (Jvm.Cond.methodLink own index y).before a0 Z = true) (w2 : (Jvm.Cond.static y).before a0 Z = true) (w3 : (Jvm.Cond.initialized y.cls).before a0 Z = true) (w4 : (Jvm.Cond.code y b' mx' rt').before a0 Z = true) (hy : y.cls ≠ "java/lang/invoke/MethodHandle" ∧ y.cls ≠ "java/lang/invoke/VarHandle")
    (hM : own_Met l Z y b' mx' rt' [] rm' as' h Q') (hd : decode bytes pc = .ok (.invokestatic index, 3)) (hls : ls.size = mx) (hlen : ∀ sig, parseMethodDescriptor y.desc = some sig → argsL.length = sig.parameters.length) (has : argsL.toArray = as') (hst : st = argsL.reverse ++ rest) (hW : (rest.map fun v => v.category).sum = W)
    (hf : rm'.frames + 1 ≤ R.frames) (hl : W + (mx' + 11) + rm'.locals ≤ R.locals) (hcs : cs + rm'.cells = cs') (hsl : sl + rm'.slots = sl') (hc : cs' ≤ R.cells) (hs : sl' ≤ R.slots)
    (k : ∀ v h', Q' v h' → own_K p l e R s m args below meth c bytes mx rt own nm Z Q pc' ls (v.toList ++ rest) h' cs' sl') : own_K p l e R s m args below meth c bytes mx rt own nm Z Q pc ls st h cs sl := fun T L hx hby hml hrt hlk hown hnm hZ X eT N O' => by
  subst hp; subst hcs; subst hsl; subst hst; subst has; subst eT
  obtain ⟨v, _, ⟨T2, L2, k2, n2⟩, -, X2, ⟨Lc2, ⟨hQ2, N2, O2⟩, l2, y2, z2⟩, st2⟩ := Jvm.LawKit.callS X hx (y := y) hown (mvT hZ w1) (mvT hZ w2) (mvT hZ w3) (mvT hZ w4) hy (own_back (W := W) hZ O' hM w4 w3 hf hl) (g := mkF m pc ls (argsL.reverse ++ rest)) rfl (hls.trans hml.symm) (argsL := argsL) (rest := rest) hlen rfl (by show 2 * 0 + _ ≤ _; omega) (hb hby hd) (fun _ _ => ⟨rfl, rfl, hc, hs⟩)
  dsimp only [Pt.U, Pt.locs, Pt.cells, Pt.slots] at X2 l2 y2 z2 st2 hQ2 O2
  subst l2 y2 z2
  exact own_go st2 (k v _ hQ2 T2 _ hx hby hml hrt hlk hown hnm hZ X2 rfl (N.app N2) O2)
theorem own_callV (pc' : Nat) (hp : pc + 3 = pc') (cs' sl' W : Nat) (argsL rest : List Value) {index : Nat} {C : String} {y z : MethodName} {b' : ByteArray} {mx' : Nat} {rt' : Option FieldType} {rm' : Room} {as' : Array Value} {Q' : Option Value → Heap → Prop} {a : Addr}
    (w1 : (Jvm.Cond.methodLink own index y).before a0 Z = true) (w2 : (Jvm.Cond.declares y).before a0 Z = true) (hnf : ∀ {u : State}, Z.Warmed39 u.vm → NotFace u y) (w5 : (Jvm.Cond.selects C y z).before a0 Z = true) (w6 : (Jvm.Cond.instanceMethod z).before a0 Z = true) (w3 : (Jvm.Cond.initialized z.cls).before a0 Z = true) (w4 : (Jvm.Cond.code z b' mx' rt').before a0 Z = true) (hy : y.cls ≠ "java/lang/invoke/MethodHandle" ∧ y.cls ≠ "java/lang/invoke/VarHandle")
    (E : Exa Z h a C) (hM : own_Met l Z z b' mx' rt' [] rm' as' h Q') (hd : decode bytes pc = .ok (.invokevirtual index, 3)) (hls : ls.size = mx) (hlen : ∀ sig, parseMethodDescriptor y.desc = some sig → argsL.length = sig.parameters.length) (has : (.ref a :: argsL).toArray = as') (hst : st = argsL.reverse ++ .ref a :: rest) (hW : (rest.map fun v => v.category).sum = W)
    (hf : rm'.frames + 1 ≤ R.frames) (hl : W + (mx' + 11) + rm'.locals ≤ R.locals) (hcs : cs + rm'.cells = cs') (hsl : sl + rm'.slots = sl') (hc : cs' ≤ R.cells) (hs : sl' ≤ R.slots)
    (k : ∀ v h', Q' v h' → own_K p l e R s m args below meth c bytes mx rt own nm Z Q pc' ls (v.toList ++ rest) h' cs' sl') : own_K p l e R s m args below meth c bytes mx rt own nm Z Q pc ls st h cs sl := fun T L hx hby hml hrt hlk hown hnm hZ X eT N O' => by
  subst hp; subst hcs; subst hsl; subst hst; subst has; subst eT
  obtain ⟨cq, kq, qa, qb, qc⟩ := isOf hZ rfl E
  obtain ⟨v, _, ⟨T2, L2, k2, n2⟩, -, X2, ⟨Lc2, ⟨hQ2, N2, O2⟩, l2, y2, z2⟩, st2⟩ := X.virtualBack hx (y := y) (z := z) hown (mvT hZ w1) (mvT hZ w2) (hnf hZ) (mvT hZ w5) (mvT hZ w6) hy (own_back (W := W) hZ O' hM w4 w3 hf hl) qa qc (g := mkF m pc ls (argsL.reverse ++ .ref a :: rest)) rfl (hls.trans hml.symm) (Steps.refl _) (argsL := argsL) (rest := rest) hlen rfl (by show 2 * 0 + _ ≤ _; omega) (hb hby hd) (fun _ _ => ⟨rfl, rfl, hc, hs⟩)
  dsimp only [Pt.U, Pt.locs, Pt.cells, Pt.slots] at X2 l2 y2 z2 st2 hQ2 O2
  subst l2 y2 z2
  exact own_go (fun t q => st2.trans q) (k v _ hQ2 T2 _ hx hby hml hrt hlk hown hnm hZ X2 rfl (N.app N2) O2)
theorem own_callF (pc' : Nat) (hp : pc + 5 = pc') (cs' sl' W : Nat) (argsL rest : List Value) {index count : Nat} {C : String} {y z : MethodName} {b' : ByteArray} {mx' : Nat} {rt' : Option FieldType} {rm' : Room} {as' : Array Value} {Q' : Option Value → Heap → Prop} {a : Addr}
    (w1 : (Jvm.Cond.methodLink own index y).before a0 Z = true) (w2 : (Jvm.Cond.declares y).before a0 Z = true) (w7 : (Jvm.Cond.interfaceMethod y.cls y.cls y.name y.desc).before a0 Z = true) (w7k : ((Jvm.Cond.interfaceMethod y.cls y.cls y.name y.desc).onTables && (Jvm.Cond.interfaceMethod y.cls y.cls y.name y.desc).keepsFace) = true) (w5 : (Jvm.Cond.selects C y z).before a0 Z = true) (w6 : (Jvm.Cond.instanceMethod z).before a0 Z = true) (w8 : (Jvm.Cond.publicMethod z).before a0 Z = true) (w9 : (Jvm.Cond.unhidden C y.name y.desc).before a0 Z = true) (w10 : (Jvm.Cond.castable C y.cls).before a0 Z = true) (w3 : (Jvm.Cond.initialized z.cls).before a0 Z = true) (w4 : (Jvm.Cond.code z b' mx' rt').before a0 Z = true) (hy : y.cls ≠ "java/lang/invoke/MethodHandle" ∧ y.cls ≠ "java/lang/invoke/VarHandle")
    (E : Exa Z h a C) (hM : own_Met l Z z b' mx' rt' [] rm' as' h Q') (hd : decode bytes pc = .ok (.invokeinterface index count, 5)) (hls : ls.size = mx) (hlen : ∀ sig, parseMethodDescriptor y.desc = some sig → argsL.length = sig.parameters.length) (has : (.ref a :: argsL).toArray = as') (hst : st = argsL.reverse ++ .ref a :: rest) (hW : (rest.map fun v => v.category).sum = W)
    (hf : rm'.frames + 1 ≤ R.frames) (hl : W + (mx' + 11) + rm'.locals ≤ R.locals) (hcs : cs + rm'.cells = cs') (hsl : sl + rm'.slots = sl') (hc : cs' ≤ R.cells) (hs : sl' ≤ R.slots)
    (k : ∀ v h', Q' v h' → own_K p l e R s m args below meth c bytes mx rt own nm Z Q pc' ls (v.toList ++ rest) h' cs' sl') : own_K p l e R s m args below meth c bytes mx rt own nm Z Q pc ls st h cs sl := fun T L hx hby hml hrt hlk hown hnm hZ X eT N O' => by
  subst hp; subst hcs; subst hsl; subst hst; subst has; subst eT
  obtain ⟨cq, kq, qa, qb, qc⟩ := isOf hZ rfl E
  obtain ⟨v, _, ⟨T2, L2, k2, n2⟩, -, X2, ⟨Lc2, ⟨hQ2, N2, O2⟩, l2, y2, z2⟩, st2⟩ := X.interfaceBack hx (xi := y) (y := z) hown (mvT hZ w1) (mvT hZ w2) (mvT hZ w7 w7k) (mvT hZ w5) (mvT hZ w6) (mvT hZ w8) (mvT hZ w9) (mvT hZ w10) hy (own_back (W := W) hZ O' hM w4 w3 hf hl) qa qb qc (g := mkF m pc ls (argsL.reverse ++ .ref a :: rest)) rfl (hls.trans hml.symm) (Steps.refl _) (argsL := argsL) (rest := rest) hlen rfl (by show 2 * 0 + _ ≤ _; omega) (hb hby hd) (fun _ _ => ⟨rfl, rfl, hc, hs⟩)
  dsimp only [Pt.U, Pt.locs, Pt.cells, Pt.slots] at X2 l2 y2 z2 st2 hQ2 O2
  subst l2 y2 z2
  exact own_go (fun t q => st2.trans q) (k v _ hQ2 T2 _ hx hby hml hrt hlk hown hnm hZ X2 rfl (N.app N2) O2)
theorem own_callI (pc' : Nat) (hp : pc + 3 = pc') (cs' sl' W : Nat) (argsL rest : List Value) {index : Nat} {y : MethodName} {b' : ByteArray} {mx' : Nat} {rm' : Room} {as' : Array Value} {Q' : Option Value → Heap → Prop} {a : Addr} (hy1 : y.name = "<init>")
    (w1 : (Jvm.Cond.methodLink own index y).before a0 Z = true) (w6 : (Jvm.Cond.instanceMethod y).before a0 Z = true) (w3 : (Jvm.Cond.initialized y.cls).before a0 Z = true) (w4 : (Jvm.Cond.code y b' mx' none).before a0 Z = true) (hy : y.cls ≠ "java/lang/invoke/MethodHandle" ∧ y.cls ≠ "java/lang/invoke/VarHandle")
    (hM : own_Met l Z y b' mx' none [] rm' as' h Q') (hd : decode bytes pc = .ok (.invokespecial index, 3)) (hls : ls.size = mx) (hlen : ∀ sig, parseMethodDescriptor y.desc = some sig → argsL.length = sig.parameters.length) (has : (.ref a :: argsL).toArray = as') (hst : st = argsL.reverse ++ .ref a :: rest) (hW : (rest.map fun v => v.category).sum = W)
    (hf : rm'.frames + 1 ≤ R.frames) (hl : W + (mx' + 11) + rm'.locals ≤ R.locals) (hcs : cs + rm'.cells = cs') (hsl : sl + rm'.slots = sl') (hc : cs' ≤ R.cells) (hs : sl' ≤ R.slots)
    (k : ∀ v h', Q' v h' → own_K p l e R s m args below meth c bytes mx rt own nm Z Q pc' ls (v.toList ++ rest) h' cs' sl') : own_K p l e R s m args below meth c bytes mx rt own nm Z Q pc ls st h cs sl := fun T L hx hby hml hrt hlk hown hnm hZ X eT N O' => by
  subst hp; subst hcs; subst hsl; subst hst; subst has; subst eT
  obtain ⟨v, _, ⟨T2, L2, k2, n2⟩, -, X2, ⟨Lc2, ⟨hQ2, N2, O2⟩, l2, y2, z2⟩, st2⟩ := X.specialBack hx (y := y) hy1 hown (mvT hZ w1) (mvT hZ w6) (mvT hZ w4) hy (own_back (W := W) hZ O' hM w4 w3 hf hl) (g := mkF m pc ls (argsL.reverse ++ .ref a :: rest)) rfl (hls.trans hml.symm) (Steps.refl _) (a := a) (argsL := argsL) (rest := rest) hlen rfl (by show 2 * 0 + _ ≤ _; omega) (hb hby hd) (fun _ _ => ⟨rfl, rfl, hc, hs⟩)
  dsimp only [Pt.U, Pt.locs, Pt.cells, Pt.slots] at X2 l2 y2 z2 st2 hQ2 O2
  subst l2 y2 z2
  exact own_go (fun t q => st2.trans q) (k v _ hQ2 T2 _ hx hby hml hrt hlk hown hnm hZ X2 rfl (N.app N2) O2)
theorem own_callP (pc' : Nat) (hp : pc + 3 = pc') (cs' sl' W : Nat) (argsL rest : List Value) {index : Nat} {C : String} {y : MethodName} {b' : ByteArray} {mx' : Nat} {rt' : Option FieldType} {rm' : Room} {as' : Array Value} {Q' : Option Value → Heap → Prop} {a : Addr}
    (w1 : (Jvm.Cond.methodLink own index y).before a0 Z = true) (w6 : (Jvm.Cond.instanceMethod y).before a0 Z = true) (w5 : (Jvm.Cond.selects y.cls y y).before a0 Z = true) (w7 : (Jvm.Cond.privateMethod y).before a0 Z = true) (w3 : (Jvm.Cond.initialized y.cls).before a0 Z = true) (w4 : (Jvm.Cond.code y b' mx' rt').before a0 Z = true) (hy : y.cls ≠ "java/lang/invoke/MethodHandle" ∧ y.cls ≠ "java/lang/invoke/VarHandle")
    (E : Exa Z h a C) (hM : own_Met l Z y b' mx' rt' [] rm' as' h Q') (hd : decode bytes pc = .ok (.invokevirtual index, 3)) (hls : ls.size = mx) (hlen : ∀ sig, parseMethodDescriptor y.desc = some sig → argsL.length = sig.parameters.length) (has : (.ref a :: argsL).toArray = as') (hst : st = argsL.reverse ++ .ref a :: rest) (hW : (rest.map fun v => v.category).sum = W)
    (hf : rm'.frames + 1 ≤ R.frames) (hl : W + (mx' + 11) + rm'.locals ≤ R.locals) (hcs : cs + rm'.cells = cs') (hsl : sl + rm'.slots = sl') (hc : cs' ≤ R.cells) (hs : sl' ≤ R.slots)
    (k : ∀ v h', Q' v h' → own_K p l e R s m args below meth c bytes mx rt own nm Z Q pc' ls (v.toList ++ rest) h' cs' sl') : own_K p l e R s m args below meth c bytes mx rt own nm Z Q pc ls st h cs sl := fun T L hx hby hml hrt hlk hown hnm hZ X eT N O' => by
  subst hp; subst hcs; subst hsl; subst hst; subst has; subst eT
  obtain ⟨cq, qa, qb⟩ := E.cell
  obtain ⟨v, _, ⟨T2, L2, k2, n2⟩, -, X2, ⟨Lc2, ⟨hQ2, N2, O2⟩, l2, y2, z2⟩, st2⟩ := X.privateBack hx (y := y) hown (mvT hZ w1) (mvT hZ w6) (mvT hZ w5) (Cond.privateMethod_at (mvP hZ w7 (args := #[]))) (mvT hZ w4) hy (own_back (W := W) hZ O' hM w4 w3 hf hl) (g := mkF m pc ls (argsL.reverse ++ .ref a :: rest)) rfl (hls.trans hml.symm) (Steps.refl _) (a := a) qa qb (argsL := argsL) (rest := rest) hlen rfl (by show 2 * 0 + _ ≤ _; omega) (hb hby hd) (fun _ _ => ⟨rfl, rfl, hc, hs⟩)
  dsimp only [Pt.U, Pt.locs, Pt.cells, Pt.slots] at X2 l2 y2 z2 st2 hQ2 O2
  subst l2 y2 z2
  exact own_go (fun t q => st2.trans q) (k v _ hQ2 T2 _ hx hby hml hrt hlk hown hnm hZ X2 rfl (N.app N2) O2)
theorem own_kv {rest : List Value} {Qv : Value → Heap → Prop} (k : ∀ x h', Qv x h' → own_K p l e R s m args below meth c bytes mx rt own nm Z Q pc ls (x :: rest) h' cs sl) : ∀ v h', own_some Qv v h' → own_K p l e R s m args below meth c bytes mx rt own nm Z Q pc ls (v.toList ++ rest) h' cs sl := by
  intro v h' hq
  obtain ⟨x, rfl, hq⟩ := hq
  exact k x h' hq
theorem own_k0 {rest : List Value} {Qn : Heap → Prop} (k : ∀ h', Qn h' → own_K p l e R s m args below meth c bytes mx rt own nm Z Q pc ls rest h' cs sl) : ∀ v h', own_none Qn v h' → own_K p l e R s m args below meth c bytes mx rt own nm Z Q pc ls (v.toList ++ rest) h' cs sl := by
  intro v h' hq
  obtain ⟨rfl, hq⟩ := hq
  exact k h' hq
theorem own_getFR (pc' : Nat) (hp : pc + 3 = pc') {O n d : String} {index : Nat} (w : (Jvm.Cond.fieldRef own index O n d).before a0 Z = true) {a : Addr} {v : Value} (F : Fld Z h a O n d v) (hd : decode bytes pc = .ok (.getfield index, 3))
    (q : own_K p l e R s m args below meth c bytes mx rt own nm Z Q pc' ls (v :: st) h cs sl) : own_K p l e R s m args below meth c bytes mx rt own nm Z Q pc ls (.ref a :: st) h cs sl := fun T L hx hby hml hrt hlk hown hnm hZ X eT N O' => by
  subst hp
  have hT : Z.Warmed39 T.vm := wtrans hZ X.warmed
  have hcur : (Z.setVm T.vm).vm.findClass own = some m.cls := by
    show T.vm.findClass own = _
    rw [X.warmed.alike.findClass]; exact hown
  obtain ⟨c1, k1, i1, f1, e1, rdy⟩ := Cond.fieldRef_spec hcur (Cond.fieldRef_warmed39 hT w)
  obtain ⟨cell, cf, k, i, f, g1, g2, g3, g4, g5, g6, g7⟩ := F
  obtain ⟨k', q1, q2⟩ := State.fieldFound?_setVm (s := Z) hT.alike g2
  cases e1.symm.trans q1
  exact own_go (fun t k => (X.getfieldR hx (g := mkF m pc ls (.ref a :: st)) rfl rdy g3 rfl (by rw [eT]; exact g1) g4 g7 (hb hby hd) (Steps.refl _)).trans k) (q T L hx hby hml hrt hlk hown hnm hZ X eT N O')
theorem own_callQ (pc' : Nat) (hp : pc + 3 = pc') (cs' sl' W : Nat) (argsL rest : List Value) {index : Nat} {C C2 : String} {y y2 : MethodName} {b' : ByteArray} {mx' : Nat} {rt' : Option FieldType} {rm' : Room} {as' : Array Value} {Q' : Option Value → Heap → Prop} {a : Addr}
    (w1 : (Jvm.Cond.methodLink own index y).before a0 Z = true) (w6 : (Jvm.Cond.instanceMethod y).before a0 Z = true) (w5 : (Jvm.Cond.selects C2 y2 y2).before a0 Z = true) (w8 : (Jvm.Cond.instanceMethod y2).before a0 Z = true) (hc2 : y2.cls = y.cls) (w7 : (Jvm.Cond.privateMethod y).before a0 Z = true) (w3 : (Jvm.Cond.initialized y.cls).before a0 Z = true) (w4 : (Jvm.Cond.code y b' mx' rt').before a0 Z = true) (hy : y.cls ≠ "java/lang/invoke/MethodHandle" ∧ y.cls ≠ "java/lang/invoke/VarHandle")
    (E : Exa Z h a C) (hM : own_Met l Z y b' mx' rt' [] rm' as' h Q') (hd : decode bytes pc = .ok (.invokevirtual index, 3)) (hls : ls.size = mx) (hlen : ∀ sig, parseMethodDescriptor y.desc = some sig → argsL.length = sig.parameters.length) (has : (.ref a :: argsL).toArray = as') (hst : st = argsL.reverse ++ .ref a :: rest) (hW : (rest.map fun v => v.category).sum = W)
    (hf : rm'.frames + 1 ≤ R.frames) (hl : W + (mx' + 11) + rm'.locals ≤ R.locals) (hcs : cs + rm'.cells = cs') (hsl : sl + rm'.slots = sl') (hc : cs' ≤ R.cells) (hs : sl' ≤ R.slots)
    (k : ∀ v h', Q' v h' → own_K p l e R s m args below meth c bytes mx rt own nm Z Q pc' ls (v.toList ++ rest) h' cs' sl') : own_K p l e R s m args below meth c bytes mx rt own nm Z Q pc ls st h cs sl := fun T L hx hby hml hrt hlk hown hnm hZ X eT N O' => by
  subst hp; subst hcs; subst hsl; subst hst; subst has; subst eT
  obtain ⟨cq, qa, qb⟩ := E.cell
  have hpr := Cond.privateMethod_at (mvP hZ w7 (args := args))
  obtain ⟨r0, mt, hn2, -⟩ := Cond.instanceMethod_spec (mvT (args := args) hZ w8)
  obtain ⟨kk, hk1, hk2⟩ := notFace_of_selects (args := args) (mvT hZ w5) r0 hn2
  have hse : (Jvm.Cond.selects y.cls y y).before args s = true := selects_self_of_private (hc2 ▸ findClass_of_methodNamed hn2) hk1 hk2 hpr (mvT hZ w6) hy
  obtain ⟨v, _, ⟨T2, L2, k2, n2⟩, -, X2, ⟨Lc2, ⟨hQ2, N2, O2⟩, l2, y2, z2⟩, st2⟩ := X.privateBack hx (y := y) hown (mvT hZ w1) (mvT hZ w6) hse hpr (mvT hZ w4) hy (own_back (W := W) hZ O' hM w4 w3 hf hl) (g := mkF m pc ls (argsL.reverse ++ .ref a :: rest)) rfl (hls.trans hml.symm) (Steps.refl _) (a := a) qa qb (argsL := argsL) (rest := rest) hlen rfl (by show 2 * 0 + _ ≤ _; omega) (hb hby hd) (fun _ _ => ⟨rfl, rfl, hc, hs⟩)
  dsimp only [Pt.U, Pt.locs, Pt.cells, Pt.slots] at X2 l2 y2 z2 st2 hQ2 O2
  subst l2 y2 z2
  exact own_go (fun t q => st2.trans q) (k v _ hQ2 T2 _ hx hby hml hrt hlk hown hnm hZ X2 rfl (N.app N2) O2)
-- a case's words
theorem own_eqI {t : Term} {k : Int32} {o : Option Outcome} {idx : List Nat} {first : State} (hq : (Jvm.Cond.eq t (.int k)).value args first o s idx = some true) : t.eval args first o idx s = some (.int k) := by
  simp only [Jvm.Cond.value, Term.eval] at hq
  cases ht : t.eval args first o idx s with
  | none => simp [ht] at hq
  | some x => cases x <;> simp [ht] at hq ⊢; exact hq
theorem own_eqR {t u : Term} {a : Addr} {o : Option Outcome} {idx : List Nat} {first : State} (hq : (Jvm.Cond.eq t u).value args first o s idx = some true) (hu : u.eval args first o idx s = some (.ref a)) : t.eval args first o idx s = some (.ref a) := by
  simp only [Jvm.Cond.value, hu] at hq
  cases ht : t.eval args first o idx s with
  | none => simp [ht] at hq
  | some x => cases x <;> simp [ht] at hq ⊢; exact hq
theorem own_fold {f : Nat → Option Bool} : ∀ (L : List Nat) (acc : Option Bool), L.foldl (fun acc i => match acc with | some true => f i | x => x) acc = some true → acc = some true ∧ ∀ i ∈ L, f i = some true
  | [], acc, hq => ⟨hq, fun _ q => nomatch q⟩
  | a :: L, acc, hq => by
    obtain ⟨h1, h2⟩ := own_fold L _ hq
    rcases acc with _ | _ | _
    · cases h1
    · cases h1
    · exact ⟨rfl, fun i hi => (List.mem_cons.mp hi).elim (fun q => q ▸ h1) (h2 i)⟩
theorem own_all {t : Term} {cd : Jvm.Cond} {o : Option Outcome} {idx : List Nat} {first : State} {a : Addr} {cell : Cell} (hq : (Jvm.Cond.all t cd).value args first o s idx = some true) (ht : t.eval args first o idx s = some (.ref a)) (ha : s.arrayAt? a = some cell) : ∀ i, i < cell.slots.size → cd.value args first o s (i :: idx) = some true := by
  simp only [Jvm.Cond.value, ht, ha] at hq
  exact fun i hi => (own_fold _ _ hq).2 i (List.mem_range.mpr hi)
theorem own_len {t : Term} {n : Int32} {o : Option Outcome} {idx : List Nat} {first : State} {a : Addr} {cell : Cell} (hq : (Term.length t).eval args first o idx s = some (.int n)) (ht : t.eval args first o idx s = some (.ref a)) (ha : s.arrayAt? a = some cell) : cell.slots.size.toInt32 = n ∧ cell.slots.size < 2 ^ 31 := by
  simp only [Term.eval, ht, ha, Option.bind_eq_bind, Option.bind_some] at hq
  split at hq
  · rename_i hl
    exact ⟨by simpa using hq, hl⟩
  · cases hq
theorem own_elem {t : Term} {j : Int32} {v : Value} {o : Option Outcome} {idx : List Nat} {first : State} {a : Addr} {cell : Cell} (hq : (Term.elem t (.int j)).eval args first o idx s = some v) (ht : t.eval args first o idx s = some (.ref a)) (ha : s.heap[a]? = some cell) : cell.slots[j.toNatClampNeg]? = some v :=
  (elem_in hq ht rfl ha).2
-- ints as integers
theorem own_lt {x y : Int32} (h : x < y) : x.toInt < y.toInt := Int32.lt_iff_toInt_lt.mp h
theorem own_nlt {x y : Int32} (h : ¬ x < y) : y.toInt ≤ x.toInt := Int.not_lt.mp fun q => h (Int32.lt_iff_toInt_lt.mpr q)
theorem own_eq {x y : Int32} (h : x = y) : x.toInt = y.toInt := congrArg _ h
theorem own_neq {x y : Int32} (h : ¬ x = y) : ¬ x.toInt = y.toInt := fun q => h (Int32.toInt_inj.mp q)
theorem own_lt' {x y : Int32} (h : x.toInt < y.toInt) : x < y := Int32.lt_iff_toInt_lt.mpr h
theorem own_nlt' {x y : Int32} (h : y.toInt ≤ x.toInt) : ¬ x < y := fun q => Int.not_lt.mpr h (Int32.lt_iff_toInt_lt.mp q)
theorem own_eq' {x y : Int32} (h : x.toInt = y.toInt) : x = y := Int32.toInt_inj.mp h
theorem own_neq' {x y : Int32} (h : ¬ x.toInt = y.toInt) : ¬ x = y := fun q => h (congrArg _ q)
theorem own_ltL {x y : Int64} (h : x < y) : x.toInt < y.toInt := Int64.lt_iff_toInt_lt.mp h
theorem own_nltL {x y : Int64} (h : ¬ x < y) : y.toInt ≤ x.toInt := Int.not_lt.mp fun q => h (Int64.lt_iff_toInt_lt.mpr q)
theorem own_eqL {x y : Int64} (h : x = y) : x.toInt = y.toInt := congrArg _ h
theorem own_neqL {x y : Int64} (h : ¬ x = y) : ¬ x.toInt = y.toInt := fun q => h (Int64.toInt_inj.mp q)
theorem own_ltL' {x y : Int64} (h : x.toInt < y.toInt) : x < y := Int64.lt_iff_toInt_lt.mpr h
theorem own_nltL' {x y : Int64} (h : y.toInt ≤ x.toInt) : ¬ x < y := fun q => Int.not_lt.mpr h (Int64.lt_iff_toInt_lt.mp q)
theorem own_eqL' {x y : Int64} (h : x.toInt = y.toInt) : x = y := Int64.toInt_inj.mp h
theorem own_neqL' {x y : Int64} (h : ¬ x.toInt = y.toInt) : ¬ x = y := fun q => h (congrArg _ q)
end Own
def own_Ini (Z : State) (w_V1 : Addr) (w_UNCHECKED : Addr) (w_V4 : Addr) (w_CHECKED : Addr) (w_V2 : Addr) (w_V5 : Addr) (w_V7 : Addr) (w_TRAILED : Addr) (w_V6 : Addr) (w_V3 : Addr) : Prop := (Sta Z Z.heap "com/example/restitch/restitch/store/JournalFormat" "V1" "Lcom/example/restitch/restitch/store/JournalFormat;" (.ref w_V1)) ∧ (Exa Z Z.heap w_V1 "com/example/restitch/restitch/store/JournalFormat") ∧ (Sta Z Z.heap "com/example/restitch/restitch/store/JournalFormat$Frame" "UNCHECKED" "Lcom/example/restitch/restitch/store/JournalFormat$Frame;" (.ref w_UNCHECKED)) ∧ (Exa Z Z.heap w_UNCHECKED "com/example/restitch/restitch/store/JournalFormat$Frame") ∧ (Fld Z Z.heap w_V1 "com/example/restitch/restitch/store/JournalFormat" "frame" "Lcom/example/restitch/restitch/store/JournalFormat$Frame;" (.ref w_UNCHECKED)) ∧ (Fld Z Z.heap w_UNCHECKED "com/example/restitch/restitch/store/JournalFormat$Frame" "checked" "Z" (.int (0 : Int32))) ∧ (Fld Z Z.heap w_UNCHECKED "com/example/restitch/restitch/store/JournalFormat$Frame" "trailed" "Z" (.int (0 : Int32))) ∧ (Sta Z Z.heap "com/example/restitch/restitch/store/JournalFormat" "V4" "Lcom/example/restitch/restitch/store/JournalFormat;" (.ref w_V4)) ∧ (Exa Z Z.heap w_V4 "com/example/restitch/restitch/store/JournalFormat") ∧ (Sta Z Z.heap "com/example/restitch/restitch/store/JournalFormat$Frame" "CHECKED" "Lcom/example/restitch/restitch/store/JournalFormat$Frame;" (.ref w_CHECKED)) ∧ (Exa Z Z.heap w_CHECKED "com/example/restitch/restitch/store/JournalFormat$Frame") ∧ (Fld Z Z.heap w_V4 "com/example/restitch/restitch/store/JournalFormat" "frame" "Lcom/example/restitch/restitch/store/JournalFormat$Frame;" (.ref w_CHECKED)) ∧ (Fld Z Z.heap w_CHECKED "com/example/restitch/restitch/store/JournalFormat$Frame" "checked" "Z" (.int (1 : Int32))) ∧ (Fld Z Z.heap w_CHECKED "com/example/restitch/restitch/store/JournalFormat$Frame" "trailed" "Z" (.int (0 : Int32))) ∧ (Sta Z Z.heap "com/example/restitch/restitch/store/JournalFormat" "V2" "Lcom/example/restitch/restitch/store/JournalFormat;" (.ref w_V2)) ∧ (Exa Z Z.heap w_V2 "com/example/restitch/restitch/store/JournalFormat") ∧ (Fld Z Z.heap w_V2 "com/example/restitch/restitch/store/JournalFormat" "frame" "Lcom/example/restitch/restitch/store/JournalFormat$Frame;" (.ref w_CHECKED)) ∧ (Sta Z Z.heap "com/example/restitch/restitch/store/JournalFormat" "V5" "Lcom/example/restitch/restitch/store/JournalFormat;" (.ref w_V5)) ∧ (Exa Z Z.heap w_V5 "com/example/restitch/restitch/store/JournalFormat") ∧ (Fld Z Z.heap w_V5 "com/example/restitch/restitch/store/JournalFormat" "frame" "Lcom/example/restitch/restitch/store/JournalFormat$Frame;" (.ref w_CHECKED)) ∧ (Sta Z Z.heap "com/example/restitch/restitch/store/JournalFormat" "V7" "Lcom/example/restitch/restitch/store/JournalFormat;" (.ref w_V7)) ∧ (Exa Z Z.heap w_V7 "com/example/restitch/restitch/store/JournalFormat") ∧ (Sta Z Z.heap "com/example/restitch/restitch/store/JournalFormat$Frame" "TRAILED" "Lcom/example/restitch/restitch/store/JournalFormat$Frame;" (.ref w_TRAILED)) ∧ (Exa Z Z.heap w_TRAILED "com/example/restitch/restitch/store/JournalFormat$Frame") ∧ (Fld Z Z.heap w_V7 "com/example/restitch/restitch/store/JournalFormat" "frame" "Lcom/example/restitch/restitch/store/JournalFormat$Frame;" (.ref w_TRAILED)) ∧ (Fld Z Z.heap w_TRAILED "com/example/restitch/restitch/store/JournalFormat$Frame" "checked" "Z" (.int (1 : Int32))) ∧ (Fld Z Z.heap w_TRAILED "com/example/restitch/restitch/store/JournalFormat$Frame" "trailed" "Z" (.int (1 : Int32))) ∧ (Sta Z Z.heap "com/example/restitch/restitch/store/JournalFormat" "V6" "Lcom/example/restitch/restitch/store/JournalFormat;" (.ref w_V6)) ∧ (Exa Z Z.heap w_V6 "com/example/restitch/restitch/store/JournalFormat") ∧ (Fld Z Z.heap w_V6 "com/example/restitch/restitch/store/JournalFormat" "frame" "Lcom/example/restitch/restitch/store/JournalFormat$Frame;" (.ref w_TRAILED)) ∧ (Sta Z Z.heap "com/example/restitch/restitch/store/JournalFormat" "V3" "Lcom/example/restitch/restitch/store/JournalFormat;" (.ref w_V3)) ∧ (Exa Z Z.heap w_V3 "com/example/restitch/restitch/store/JournalFormat") ∧ (Fld Z Z.heap w_V3 "com/example/restitch/restitch/store/JournalFormat" "frame" "Lcom/example/restitch/restitch/store/JournalFormat$Frame;" (.ref w_CHECKED))
theorem d2_0 : decode prog_135_method_13_code 0 = .ok (.aload_n 0, 1) := by decide +kernel
theorem d2_1 : decode prog_135_method_13_code 1 = .ok (.getfield 52, 3) := by decide +kernel
theorem d2_4 : decode prog_135_method_13_code 4 = .ok (.getfield 106, 3) := by decide +kernel
theorem d2_7 : decode prog_135_method_13_code 7 = .ok (.ifCond .eq 8, 3) := by decide +kernel
theorem d2_15 : decode prog_135_method_13_code 15 = .ok (.bipush 8, 2) := by decide +kernel
theorem d2_17 : decode prog_135_method_13_code 17 = .ok (.ireturn, 1) := by decide +kernel
theorem d2_10 : decode prog_135_method_13_code 10 = .ok (.bipush 12, 2) := by decide +kernel
theorem d2_12 : decode prog_135_method_13_code 12 = .ok (.goto 5, 3) := by decide +kernel
theorem own_pf0 : plainFor (⟨"com/example/restitch/restitch/store/JournalFormat", "header", "()I"⟩ : MethodName) = true := by first | exact plainFor_of_name (by first | (simp [plainName, overriddenIn]; done) | decide +kernel) | decide +kernel
set_option maxRecDepth 65536 in
set_option maxHeartbeats 40000000 in
theorem rm2 (l : Launch) (Z : State) (a0 : Array Value) (hw : ∀ d ∈ tables_1, d.before a0 Z = true) (ws : List Jvm.Cond) (p1 : Addr) (b1 : Addr) (x1 : Int32) (h0 : Heap) (F1 : Fld Z h0 p1 "com/example/restitch/restitch/store/JournalFormat" "frame" "Lcom/example/restitch/restitch/store/JournalFormat$Frame;" (.ref b1)) (F2 : Fld Z h0 b1 "com/example/restitch/restitch/store/JournalFormat$Frame" "checked" "Z" (.int x1)) :
    own_Met l Z (⟨"com/example/restitch/restitch/store/JournalFormat", "header", "()I"⟩ : MethodName) prog_135_method_13_code 1 (some .int) ws ({ frames := 0, cells := 0, slots := 0, locals := 0 } : Room) #[(.ref p1)] h0 (own_some (fun v h => v = .int (if x1 = 0 then 8 else 12) ∧ h = h0)) := by
  refine own_met (ls0 := #[.val (.ref p1)]) own_pf0 (fun m => by first | rfl | (simp [entryFrame, mkF, argsToLocals, Value.category, maxLocals]; done)) ?_
  intro p e s m below meth c
  refine own_old (fun O0 => ?_)
  refine own_aloadN 1 rfl d2_0 rfl rfl ?_
  refine own_getF 4 rfl (host := "") (Or.inl (hw _ (List.mem_of_getElem? (i := 13) rfl))) Via.refl F1 d2_1 ?_
  refine own_getFR 7 rfl (hw _ (List.mem_of_getElem? (i := 17) rfl)) F2 d2_4 ?_
  by_cases hc7 : x1 = (0 : Int32)
  · have ihc7 : x1.toInt = (0 : Int) := own_eq hc7
    refine own_ifYes 15 d2_7 (teq hc7).1 (by decide) (by decide) ?_
    refine own_bipush 17 rfl (8 : Int32) d2_15 rfl ?_
    refine own_retI rfl d2_17 (by decide) (by decide) ?_
    exact ⟨_, rfl, by simp [hc7], rfl⟩
  · have ihc7 : ¬ x1.toInt = (0 : Int) := own_neq hc7
    refine own_ifNo 10 rfl d2_7 (feq hc7).1 ?_
    refine own_bipush 12 rfl (12 : Int32) d2_10 rfl ?_
    refine own_goto 17 d2_12 (by decide) (by decide) ?_
    refine own_retI rfl d2_17 (by decide) (by decide) ?_
    exact ⟨_, rfl, by simp [hc7], rfl⟩
theorem d3_0 : decode prog_135_method_14_code 0 = .ok (.aload_n 0, 1) := by decide +kernel
theorem d3_1 : decode prog_135_method_14_code 1 = .ok (.getfield 52, 3) := by decide +kernel
theorem d3_4 : decode prog_135_method_14_code 4 = .ok (.getfield 112, 3) := by decide +kernel
theorem d3_7 : decode prog_135_method_14_code 7 = .ok (.ifCond .eq 7, 3) := by decide +kernel
theorem d3_14 : decode prog_135_method_14_code 14 = .ok (.iconst 0, 1) := by decide +kernel
theorem d3_15 : decode prog_135_method_14_code 15 = .ok (.ireturn, 1) := by decide +kernel
theorem d3_10 : decode prog_135_method_14_code 10 = .ok (.iconst 1, 1) := by decide +kernel
theorem d3_11 : decode prog_135_method_14_code 11 = .ok (.goto 4, 3) := by decide +kernel
theorem own_pf1 : plainFor (⟨"com/example/restitch/restitch/store/JournalFormat", "trailer", "()I"⟩ : MethodName) = true := by first | exact plainFor_of_name (by first | (simp [plainName, overriddenIn]; done) | decide +kernel) | decide +kernel
set_option maxRecDepth 65536 in
set_option maxHeartbeats 40000000 in
theorem rm3 (l : Launch) (Z : State) (a0 : Array Value) (hw : ∀ d ∈ tables_1, d.before a0 Z = true) (ws : List Jvm.Cond) (p1 : Addr) (b1 : Addr) (x1 : Int32) (h0 : Heap) (F1 : Fld Z h0 p1 "com/example/restitch/restitch/store/JournalFormat" "frame" "Lcom/example/restitch/restitch/store/JournalFormat$Frame;" (.ref b1)) (F2 : Fld Z h0 b1 "com/example/restitch/restitch/store/JournalFormat$Frame" "trailed" "Z" (.int x1)) :
    own_Met l Z (⟨"com/example/restitch/restitch/store/JournalFormat", "trailer", "()I"⟩ : MethodName) prog_135_method_14_code 1 (some .int) ws ({ frames := 0, cells := 0, slots := 0, locals := 0 } : Room) #[(.ref p1)] h0 (own_some (fun v h => v = .int (if x1 = 0 then 0 else 1) ∧ h = h0)) := by
  refine own_met (ls0 := #[.val (.ref p1)]) own_pf1 (fun m => by first | rfl | (simp [entryFrame, mkF, argsToLocals, Value.category, maxLocals]; done)) ?_
  intro p e s m below meth c
  refine own_old (fun O0 => ?_)
  refine own_aloadN 1 rfl d3_0 rfl rfl ?_
  refine own_getF 4 rfl (host := "") (Or.inl (hw _ (List.mem_of_getElem? (i := 13) rfl))) Via.refl F1 d3_1 ?_
  refine own_getFR 7 rfl (hw _ (List.mem_of_getElem? (i := 23) rfl)) F2 d3_4 ?_
  by_cases hc7 : x1 = (0 : Int32)
  · have ihc7 : x1.toInt = (0 : Int) := own_eq hc7
    refine own_ifYes 14 d3_7 (teq hc7).1 (by decide) (by decide) ?_
    refine own_iconst 15 rfl (0 : Int32) d3_14 rfl ?_
    refine own_retI rfl d3_15 (by decide) (by decide) ?_
    exact ⟨_, rfl, by simp [hc7], rfl⟩
  · have ihc7 : ¬ x1.toInt = (0 : Int) := own_neq hc7
    refine own_ifNo 10 rfl d3_7 (feq hc7).1 ?_
    refine own_iconst 11 rfl (1 : Int32) d3_10 rfl ?_
    refine own_goto 15 d3_11 (by decide) (by decide) ?_
    refine own_retI rfl d3_15 (by decide) (by decide) ?_
    exact ⟨_, rfl, by simp [hc7], rfl⟩
theorem d1_0 : decode prog_135_method_12_code 0 = .ok (.aload_n 0, 1) := by decide +kernel
theorem d1_1 : decode prog_135_method_12_code 1 = .ok (.invokevirtual 99, 3) := by decide +kernel
theorem own_pd0 : parseMethodDescriptor "()I" = some ⟨[], some .int⟩ := by decide +kernel
theorem d1_4 : decode prog_135_method_12_code 4 = .ok (.iload_n 1, 1) := by decide +kernel
theorem d1_5 : decode prog_135_method_12_code 5 = .ok (.iadd, 1) := by decide +kernel
theorem d1_6 : decode prog_135_method_12_code 6 = .ok (.aload_n 0, 1) := by decide +kernel
theorem d1_7 : decode prog_135_method_12_code 7 = .ok (.invokevirtual 103, 3) := by decide +kernel
theorem d1_10 : decode prog_135_method_12_code 10 = .ok (.iadd, 1) := by decide +kernel
theorem d1_11 : decode prog_135_method_12_code 11 = .ok (.ireturn, 1) := by decide +kernel
theorem own_pf2 : plainFor (⟨"com/example/restitch/restitch/store/JournalFormat", "recordLength", "(I)I"⟩ : MethodName) = true := by first | exact plainFor_of_name (by first | (simp [plainName, overriddenIn]; done) | decide +kernel) | decide +kernel
set_option maxRecDepth 65536 in
set_option maxHeartbeats 40000000 in
theorem rm1 (l : Launch) (Z : State) (a0 : Array Value) (hw : ∀ d ∈ tables_1, d.before a0 Z = true) (ws : List Jvm.Cond) (p1 : Addr) (p2 : Int32) (b1 : Addr) (x1 x2 : Int32) (h0 : Heap) (E1 : Exa Z h0 p1 "com/example/restitch/restitch/store/JournalFormat") (F1 : Fld Z h0 p1 "com/example/restitch/restitch/store/JournalFormat" "frame" "Lcom/example/restitch/restitch/store/JournalFormat$Frame;" (.ref b1)) (F2 : Fld Z h0 b1 "com/example/restitch/restitch/store/JournalFormat$Frame" "checked" "Z" (.int x1)) (F3 : Fld Z h0 b1 "com/example/restitch/restitch/store/JournalFormat$Frame" "trailed" "Z" (.int x2)) :
    own_Met l Z (⟨"com/example/restitch/restitch/store/JournalFormat", "recordLength", "(I)I"⟩ : MethodName) prog_135_method_12_code 2 (some .int) ws ({ frames := 1, cells := 0, slots := 0, locals := 13 } : Room) #[(.ref p1), (.int p2)] h0 (own_some (fun v h => v = .int ((if x1 = 0 then (8 : Int32) else 12) + p2 + (if x2 = 0 then (0 : Int32) else 1)) ∧ h = h0)) := by
  refine own_met (ls0 := #[.val (.ref p1), .val (.int p2)]) own_pf2 (fun m => by first | rfl | (simp [entryFrame, mkF, argsToLocals, Value.category, maxLocals]; done)) ?_
  intro p e s m below meth c
  refine own_old (fun O0 => ?_)
  refine own_aloadN 1 rfl d1_0 rfl rfl ?_
  refine own_callQ 4 rfl 0 0 0 [] [] (y := (⟨"com/example/restitch/restitch/store/JournalFormat", "header", "()I"⟩ : MethodName)) (y2 := (⟨"com/example/restitch/restitch/store/JournalFormat", "recordLength", "(I)I"⟩ : MethodName)) (hw _ (List.mem_of_getElem? (i := 9) rfl)) (hw _ (List.mem_of_getElem? (i := 10) rfl)) (hw _ (List.mem_of_getElem? (i := 7) rfl)) (hw _ (List.mem_of_getElem? (i := 6) rfl)) rfl (hw _ (List.mem_of_getElem? (i := 11) rfl)) (hw _ (List.mem_of_getElem? (i := 2) rfl)) (hw _ (List.mem_of_getElem? (i := 12) rfl)) (by decide) E1 (rm2 l Z a0 hw [] p1 b1 x1 h0 F1 F2) d1_1 rfl (lenOf own_pd0 rfl) rfl rfl rfl (by decide) (by decide) rfl rfl (by decide) (by decide) (own_kv fun v1 h1 q1 => ?_)
  obtain ⟨rfl, e1⟩ := q1
  rw [e1]
  refine own_iloadN 5 rfl d1_4 rfl ?_
  refine own_iadd 6 rfl d1_5 ?_
  refine own_aloadN 7 rfl d1_6 rfl rfl ?_
  refine own_callQ 10 rfl 0 0 1 [] [(.int ((if x1 = 0 then (8 : Int32) else 12) + p2))] (y := (⟨"com/example/restitch/restitch/store/JournalFormat", "trailer", "()I"⟩ : MethodName)) (y2 := (⟨"com/example/restitch/restitch/store/JournalFormat", "recordLength", "(I)I"⟩ : MethodName)) (hw _ (List.mem_of_getElem? (i := 19) rfl)) (hw _ (List.mem_of_getElem? (i := 20) rfl)) (hw _ (List.mem_of_getElem? (i := 7) rfl)) (hw _ (List.mem_of_getElem? (i := 6) rfl)) rfl (hw _ (List.mem_of_getElem? (i := 21) rfl)) (hw _ (List.mem_of_getElem? (i := 2) rfl)) (hw _ (List.mem_of_getElem? (i := 22) rfl)) (by decide) E1 (rm3 l Z a0 hw [] p1 b1 x2 h0 F1 F3) d1_7 rfl (lenOf own_pd0 rfl) rfl rfl rfl (by decide) (by decide) rfl rfl (by decide) (by decide) (own_kv fun v2 h2 q2 => ?_)
  obtain ⟨rfl, e2⟩ := q2
  rw [e2]
  refine own_iadd 11 rfl d1_10 ?_
  refine own_retI rfl d1_11 (by decide) (by decide) ?_
  exact ⟨_, rfl, rfl, rfl⟩
theorem own_pd1 : parseMethodDescriptor "(I)I" = some ⟨[.int], some .int⟩ := by decide +kernel
theorem own_pf3 : plainFor (⟨"com/example/restitch/restitch/store/JournalFormatRecordLengthPinLaw", "law", "(II)Z"⟩ : MethodName) = true := by first | exact plainFor_of_name (by first | (simp [plainName, overriddenIn]; done) | decide +kernel) | decide +kernel
set_option maxRecDepth 65536 in
set_option maxHeartbeats 40000000 in
theorem rm0 (l : Launch) (Z : State) (a0 : Array Value) (hw : ∀ d ∈ tables_1, d.before a0 Z = true) (ws : List Jvm.Cond) (p1 : Int32) (p2 : Int32) (w_V1 : Addr) (w_UNCHECKED : Addr) (w_V4 : Addr) (w_CHECKED : Addr) (w_V2 : Addr) (w_V5 : Addr) (w_V7 : Addr) (w_TRAILED : Addr) (w_V6 : Addr) (w_V3 : Addr) (h0 : Heap) (I : own_Ini Z w_V1 w_UNCHECKED w_V4 w_CHECKED w_V2 w_V5 w_V7 w_TRAILED w_V6 w_V3)  :
    own_Met l Z x code maxLocals ret ws room_1 #[(.int p1), (.int p2)] h0 (own_some (fun v h => v = .int 1)) := by
  have I' := I
  obtain ⟨S_w_V1, E_w_V1, S_w_UNCHECKED, E_w_UNCHECKED, F_w_V1_frame, F_w_UNCHECKED_checked, F_w_UNCHECKED_trailed, S_w_V4, E_w_V4, S_w_CHECKED, E_w_CHECKED, F_w_V4_frame, F_w_CHECKED_checked, F_w_CHECKED_trailed, S_w_V2, E_w_V2, F_w_V2_frame, S_w_V5, E_w_V5, F_w_V5_frame, S_w_V7, E_w_V7, S_w_TRAILED, E_w_TRAILED, F_w_V7_frame, F_w_TRAILED_checked, F_w_TRAILED_trailed, S_w_V6, E_w_V6, F_w_V6_frame, S_w_V3, E_w_V3, F_w_V3_frame⟩ := I'
  refine own_met (ls0 := #[.val (.int p1), .val (.int p2), .unset, .unset, .unset]) own_pf3 (fun m => by first | rfl | (simp [entryFrame, mkF, argsToLocals, Value.category, maxLocals]; done)) ?_
  intro p e s m below meth c
  refine own_old (fun O0 => ?_)
  refine own_iloadN 1 rfl at_0 rfl ?_
  refine own_ldcInt 3 rfl (hw _ (List.mem_of_getElem? (i := 0) rfl)) at_1 ?_
  refine own_iand 4 rfl at_3 ?_
  refine own_bipush 6 rfl (7 : Int32) at_4 rfl ?_
  refine own_irem 7 rfl at_6 (by decide) ?_
  have c1 := c_mask p1 2147483647 31 (by decide) (by decide)
  have c2 := (c_irem (p1 &&& (2147483647 : Int32)) 7 7 rfl).1 (by rw [c1]; omega)
  generalize hK : ((p1 &&& (2147483647 : Int32)) % (7 : Int32)) = k
  rw [hK, c1] at c2
  have kb : 0 ≤ k.toInt ∧ k.toInt < 7 := by omega
  refine own_istoreN 8 rfl #[.val (.int p1), .val (.int p2), .val (.int k), .unset, .unset] at_7 rfl ?_
  refine own_iloadN 9 rfl at_8 rfl ?_
  by_cases hc9 : k = (0 : Int32)
  · have ihc9 : k.toInt = (0 : Int) := own_eq hc9
    refine own_ifNo 12 rfl at_9 (teq hc9).2 ?_
    refine own_getS 15 rfl (host := "") (Or.inl (hw _ (List.mem_of_getElem? (i := 1) rfl))) Via.refl S_w_V1 at_12 ?_
    refine own_astoreN 16 rfl #[.val (.int p1), .val (.int p2), .val (.int k), .val (.ref w_V1), .unset] at_15 rfl rfl ?_
    refine own_bipush 18 rfl (8 : Int32) at_16 rfl ?_
    refine own_istore 20 rfl #[.val (.int p1), .val (.int p2), .val (.int k), .val (.ref w_V1), .val (.int (8 : Int32))] at_18 rfl ?_
    refine own_goto 111 at_20 (by decide) (by decide) ?_
    refine own_aloadN 112 rfl at_111 rfl rfl ?_
    refine own_iloadN 113 rfl at_112 rfl ?_
    refine own_callV 116 rfl 0 0 0 [(.int p2)] [] (y := (⟨"com/example/restitch/restitch/store/JournalFormat", "recordLength", "(I)I"⟩ : MethodName)) (z := (⟨"com/example/restitch/restitch/store/JournalFormat", "recordLength", "(I)I"⟩ : MethodName)) (hw _ (List.mem_of_getElem? (i := 4) rfl)) (hw _ (List.mem_of_getElem? (i := 5) rfl)) (fun hZ => notFace_of_selects (args := #[]) (mvT hZ (hw _ (List.mem_of_getElem? (i := 7) rfl)))) (hw _ (List.mem_of_getElem? (i := 7) rfl)) (hw _ (List.mem_of_getElem? (i := 6) rfl)) (hw _ (List.mem_of_getElem? (i := 2) rfl)) (hw _ (List.mem_of_getElem? (i := 8) rfl)) (by decide) (E_w_V1.ext O0.2) (rm1 l Z a0 hw [] w_V1 p2 w_UNCHECKED (0 : Int32) (0 : Int32) h0 (E_w_V1.ext O0.2) (F_w_V1_frame.ext O0.2) (F_w_UNCHECKED_checked.ext O0.2) (F_w_UNCHECKED_trailed.ext O0.2)) at_113 rfl (lenOf own_pd1 rfl) rfl rfl rfl (by decide) (by decide) rfl rfl (by decide) (by decide) (own_kv fun v1 h1 q1 => ?_)
    obtain ⟨rfl, e1⟩ := q1
    rw [e1]
    refine own_iloadN 117 rfl at_116 rfl ?_
    refine own_iload 119 rfl at_117 rfl ?_
    refine own_iadd 120 rfl at_119 ?_
    have ihc120 : ((if (0 : Int32) = 0 then (8 : Int32) else 12) + p2 + (if (0 : Int32) = 0 then (0 : Int32) else 1)).toInt = (p2 + (8 : Int32)).toInt := own_eq (by simp; first | rfl | (rw [Int32.add_comm]; done) | (rw [Int32.add_comm 12, Int32.add_assoc]; rfl))
    have hc120 : ((if (0 : Int32) = 0 then (8 : Int32) else 12) + p2 + (if (0 : Int32) = 0 then (0 : Int32) else 1)) = (p2 + (8 : Int32)) := own_eq' ihc120
    refine own_icmpNo 123 rfl at_120 (teq hc120).2 ?_
    refine own_iconst 124 rfl (1 : Int32) at_123 rfl ?_
    refine own_goto 128 at_124 (by decide) (by decide) ?_
    refine own_retN rfl (by simp) at_128 (by decide) (by decide) ?_
    exact ⟨_, rfl, rfl⟩
  · have ihc9 : ¬ k.toInt = (0 : Int) := own_neq hc9
    refine own_ifYes 23 at_9 (feq hc9).2 (by decide) (by decide) ?_
    refine own_iloadN 24 rfl at_23 rfl ?_
    refine own_iconst 25 rfl (1 : Int32) at_24 rfl ?_
    by_cases hc25 : k = (1 : Int32)
    · have ihc25 : k.toInt = (1 : Int) := own_eq hc25
      refine own_icmpNo 28 rfl at_25 (teq hc25).2 ?_
      refine own_getS 31 rfl (host := "") (Or.inl (hw _ (List.mem_of_getElem? (i := 28) rfl))) Via.refl S_w_V2 at_28 ?_
      refine own_astoreN 32 rfl #[.val (.int p1), .val (.int p2), .val (.int k), .val (.ref w_V2), .unset] at_31 rfl rfl ?_
      refine own_bipush 34 rfl (12 : Int32) at_32 rfl ?_
      refine own_istore 36 rfl #[.val (.int p1), .val (.int p2), .val (.int k), .val (.ref w_V2), .val (.int (12 : Int32))] at_34 rfl ?_
      refine own_goto 111 at_36 (by decide) (by decide) ?_
      refine own_aloadN 112 rfl at_111 rfl rfl ?_
      refine own_iloadN 113 rfl at_112 rfl ?_
      refine own_callV 116 rfl 0 0 0 [(.int p2)] [] (y := (⟨"com/example/restitch/restitch/store/JournalFormat", "recordLength", "(I)I"⟩ : MethodName)) (z := (⟨"com/example/restitch/restitch/store/JournalFormat", "recordLength", "(I)I"⟩ : MethodName)) (hw _ (List.mem_of_getElem? (i := 4) rfl)) (hw _ (List.mem_of_getElem? (i := 5) rfl)) (fun hZ => notFace_of_selects (args := #[]) (mvT hZ (hw _ (List.mem_of_getElem? (i := 7) rfl)))) (hw _ (List.mem_of_getElem? (i := 7) rfl)) (hw _ (List.mem_of_getElem? (i := 6) rfl)) (hw _ (List.mem_of_getElem? (i := 2) rfl)) (hw _ (List.mem_of_getElem? (i := 8) rfl)) (by decide) (E_w_V2.ext O0.2) (rm1 l Z a0 hw [] w_V2 p2 w_CHECKED (1 : Int32) (0 : Int32) h0 (E_w_V2.ext O0.2) (F_w_V2_frame.ext O0.2) (F_w_CHECKED_checked.ext O0.2) (F_w_CHECKED_trailed.ext O0.2)) at_113 rfl (lenOf own_pd1 rfl) rfl rfl rfl (by decide) (by decide) rfl rfl (by decide) (by decide) (own_kv fun v2 h2 q2 => ?_)
      obtain ⟨rfl, e2⟩ := q2
      rw [e2]
      refine own_iloadN 117 rfl at_116 rfl ?_
      refine own_iload 119 rfl at_117 rfl ?_
      refine own_iadd 120 rfl at_119 ?_
      have ihc120 : ((if (1 : Int32) = 0 then (8 : Int32) else 12) + p2 + (if (0 : Int32) = 0 then (0 : Int32) else 1)).toInt = (p2 + (12 : Int32)).toInt := own_eq (by simp; first | rfl | (rw [Int32.add_comm]; done) | (rw [Int32.add_comm 12, Int32.add_assoc]; rfl))
      have hc120 : ((if (1 : Int32) = 0 then (8 : Int32) else 12) + p2 + (if (0 : Int32) = 0 then (0 : Int32) else 1)) = (p2 + (12 : Int32)) := own_eq' ihc120
      refine own_icmpNo 123 rfl at_120 (teq hc120).2 ?_
      refine own_iconst 124 rfl (1 : Int32) at_123 rfl ?_
      refine own_goto 128 at_124 (by decide) (by decide) ?_
      refine own_retN rfl (by simp) at_128 (by decide) (by decide) ?_
      exact ⟨_, rfl, rfl⟩
    · have ihc25 : ¬ k.toInt = (1 : Int) := own_neq hc25
      refine own_icmpYes 39 at_25 (feq hc25).2 (by decide) (by decide) ?_
      refine own_iloadN 40 rfl at_39 rfl ?_
      refine own_iconst 41 rfl (2 : Int32) at_40 rfl ?_
      by_cases hc41 : k = (2 : Int32)
      · have ihc41 : k.toInt = (2 : Int) := own_eq hc41
        refine own_icmpNo 44 rfl at_41 (teq hc41).2 ?_
        refine own_getS 47 rfl (host := "") (Or.inl (hw _ (List.mem_of_getElem? (i := 37) rfl))) Via.refl S_w_V3 at_44 ?_
        refine own_astoreN 48 rfl #[.val (.int p1), .val (.int p2), .val (.int k), .val (.ref w_V3), .unset] at_47 rfl rfl ?_
        refine own_bipush 50 rfl (12 : Int32) at_48 rfl ?_
        refine own_istore 52 rfl #[.val (.int p1), .val (.int p2), .val (.int k), .val (.ref w_V3), .val (.int (12 : Int32))] at_50 rfl ?_
        refine own_goto 111 at_52 (by decide) (by decide) ?_
        refine own_aloadN 112 rfl at_111 rfl rfl ?_
        refine own_iloadN 113 rfl at_112 rfl ?_
        refine own_callV 116 rfl 0 0 0 [(.int p2)] [] (y := (⟨"com/example/restitch/restitch/store/JournalFormat", "recordLength", "(I)I"⟩ : MethodName)) (z := (⟨"com/example/restitch/restitch/store/JournalFormat", "recordLength", "(I)I"⟩ : MethodName)) (hw _ (List.mem_of_getElem? (i := 4) rfl)) (hw _ (List.mem_of_getElem? (i := 5) rfl)) (fun hZ => notFace_of_selects (args := #[]) (mvT hZ (hw _ (List.mem_of_getElem? (i := 7) rfl)))) (hw _ (List.mem_of_getElem? (i := 7) rfl)) (hw _ (List.mem_of_getElem? (i := 6) rfl)) (hw _ (List.mem_of_getElem? (i := 2) rfl)) (hw _ (List.mem_of_getElem? (i := 8) rfl)) (by decide) (E_w_V3.ext O0.2) (rm1 l Z a0 hw [] w_V3 p2 w_CHECKED (1 : Int32) (0 : Int32) h0 (E_w_V3.ext O0.2) (F_w_V3_frame.ext O0.2) (F_w_CHECKED_checked.ext O0.2) (F_w_CHECKED_trailed.ext O0.2)) at_113 rfl (lenOf own_pd1 rfl) rfl rfl rfl (by decide) (by decide) rfl rfl (by decide) (by decide) (own_kv fun v3 h3 q3 => ?_)
        obtain ⟨rfl, e3⟩ := q3
        rw [e3]
        refine own_iloadN 117 rfl at_116 rfl ?_
        refine own_iload 119 rfl at_117 rfl ?_
        refine own_iadd 120 rfl at_119 ?_
        have ihc120 : ((if (1 : Int32) = 0 then (8 : Int32) else 12) + p2 + (if (0 : Int32) = 0 then (0 : Int32) else 1)).toInt = (p2 + (12 : Int32)).toInt := own_eq (by simp; first | rfl | (rw [Int32.add_comm]; done) | (rw [Int32.add_comm 12, Int32.add_assoc]; rfl))
        have hc120 : ((if (1 : Int32) = 0 then (8 : Int32) else 12) + p2 + (if (0 : Int32) = 0 then (0 : Int32) else 1)) = (p2 + (12 : Int32)) := own_eq' ihc120
        refine own_icmpNo 123 rfl at_120 (teq hc120).2 ?_
        refine own_iconst 124 rfl (1 : Int32) at_123 rfl ?_
        refine own_goto 128 at_124 (by decide) (by decide) ?_
        refine own_retN rfl (by simp) at_128 (by decide) (by decide) ?_
        exact ⟨_, rfl, rfl⟩
      · have ihc41 : ¬ k.toInt = (2 : Int) := own_neq hc41
        refine own_icmpYes 55 at_41 (feq hc41).2 (by decide) (by decide) ?_
        refine own_iloadN 56 rfl at_55 rfl ?_
        refine own_iconst 57 rfl (3 : Int32) at_56 rfl ?_
        by_cases hc57 : k = (3 : Int32)
        · have ihc57 : k.toInt = (3 : Int) := own_eq hc57
          refine own_icmpNo 60 rfl at_57 (teq hc57).2 ?_
          refine own_getS 63 rfl (host := "") (Or.inl (hw _ (List.mem_of_getElem? (i := 25) rfl))) Via.refl S_w_V4 at_60 ?_
          refine own_astoreN 64 rfl #[.val (.int p1), .val (.int p2), .val (.int k), .val (.ref w_V4), .unset] at_63 rfl rfl ?_
          refine own_bipush 66 rfl (12 : Int32) at_64 rfl ?_
          refine own_istore 68 rfl #[.val (.int p1), .val (.int p2), .val (.int k), .val (.ref w_V4), .val (.int (12 : Int32))] at_66 rfl ?_
          refine own_goto 111 at_68 (by decide) (by decide) ?_
          refine own_aloadN 112 rfl at_111 rfl rfl ?_
          refine own_iloadN 113 rfl at_112 rfl ?_
          refine own_callV 116 rfl 0 0 0 [(.int p2)] [] (y := (⟨"com/example/restitch/restitch/store/JournalFormat", "recordLength", "(I)I"⟩ : MethodName)) (z := (⟨"com/example/restitch/restitch/store/JournalFormat", "recordLength", "(I)I"⟩ : MethodName)) (hw _ (List.mem_of_getElem? (i := 4) rfl)) (hw _ (List.mem_of_getElem? (i := 5) rfl)) (fun hZ => notFace_of_selects (args := #[]) (mvT hZ (hw _ (List.mem_of_getElem? (i := 7) rfl)))) (hw _ (List.mem_of_getElem? (i := 7) rfl)) (hw _ (List.mem_of_getElem? (i := 6) rfl)) (hw _ (List.mem_of_getElem? (i := 2) rfl)) (hw _ (List.mem_of_getElem? (i := 8) rfl)) (by decide) (E_w_V4.ext O0.2) (rm1 l Z a0 hw [] w_V4 p2 w_CHECKED (1 : Int32) (0 : Int32) h0 (E_w_V4.ext O0.2) (F_w_V4_frame.ext O0.2) (F_w_CHECKED_checked.ext O0.2) (F_w_CHECKED_trailed.ext O0.2)) at_113 rfl (lenOf own_pd1 rfl) rfl rfl rfl (by decide) (by decide) rfl rfl (by decide) (by decide) (own_kv fun v4 h4 q4 => ?_)
          obtain ⟨rfl, e4⟩ := q4
          rw [e4]
          refine own_iloadN 117 rfl at_116 rfl ?_
          refine own_iload 119 rfl at_117 rfl ?_
          refine own_iadd 120 rfl at_119 ?_
          have ihc120 : ((if (1 : Int32) = 0 then (8 : Int32) else 12) + p2 + (if (0 : Int32) = 0 then (0 : Int32) else 1)).toInt = (p2 + (12 : Int32)).toInt := own_eq (by simp; first | rfl | (rw [Int32.add_comm]; done) | (rw [Int32.add_comm 12, Int32.add_assoc]; rfl))
          have hc120 : ((if (1 : Int32) = 0 then (8 : Int32) else 12) + p2 + (if (0 : Int32) = 0 then (0 : Int32) else 1)) = (p2 + (12 : Int32)) := own_eq' ihc120
          refine own_icmpNo 123 rfl at_120 (teq hc120).2 ?_
          refine own_iconst 124 rfl (1 : Int32) at_123 rfl ?_
          refine own_goto 128 at_124 (by decide) (by decide) ?_
          refine own_retN rfl (by simp) at_128 (by decide) (by decide) ?_
          exact ⟨_, rfl, rfl⟩
        · have ihc57 : ¬ k.toInt = (3 : Int) := own_neq hc57
          refine own_icmpYes 71 at_57 (feq hc57).2 (by decide) (by decide) ?_
          refine own_iloadN 72 rfl at_71 rfl ?_
          refine own_iconst 73 rfl (4 : Int32) at_72 rfl ?_
          by_cases hc73 : k = (4 : Int32)
          · have ihc73 : k.toInt = (4 : Int) := own_eq hc73
            refine own_icmpNo 76 rfl at_73 (teq hc73).2 ?_
            refine own_getS 79 rfl (host := "") (Or.inl (hw _ (List.mem_of_getElem? (i := 30) rfl))) Via.refl S_w_V5 at_76 ?_
            refine own_astoreN 80 rfl #[.val (.int p1), .val (.int p2), .val (.int k), .val (.ref w_V5), .unset] at_79 rfl rfl ?_
            refine own_bipush 82 rfl (12 : Int32) at_80 rfl ?_
            refine own_istore 84 rfl #[.val (.int p1), .val (.int p2), .val (.int k), .val (.ref w_V5), .val (.int (12 : Int32))] at_82 rfl ?_
            refine own_goto 111 at_84 (by decide) (by decide) ?_
            refine own_aloadN 112 rfl at_111 rfl rfl ?_
            refine own_iloadN 113 rfl at_112 rfl ?_
            refine own_callV 116 rfl 0 0 0 [(.int p2)] [] (y := (⟨"com/example/restitch/restitch/store/JournalFormat", "recordLength", "(I)I"⟩ : MethodName)) (z := (⟨"com/example/restitch/restitch/store/JournalFormat", "recordLength", "(I)I"⟩ : MethodName)) (hw _ (List.mem_of_getElem? (i := 4) rfl)) (hw _ (List.mem_of_getElem? (i := 5) rfl)) (fun hZ => notFace_of_selects (args := #[]) (mvT hZ (hw _ (List.mem_of_getElem? (i := 7) rfl)))) (hw _ (List.mem_of_getElem? (i := 7) rfl)) (hw _ (List.mem_of_getElem? (i := 6) rfl)) (hw _ (List.mem_of_getElem? (i := 2) rfl)) (hw _ (List.mem_of_getElem? (i := 8) rfl)) (by decide) (E_w_V5.ext O0.2) (rm1 l Z a0 hw [] w_V5 p2 w_CHECKED (1 : Int32) (0 : Int32) h0 (E_w_V5.ext O0.2) (F_w_V5_frame.ext O0.2) (F_w_CHECKED_checked.ext O0.2) (F_w_CHECKED_trailed.ext O0.2)) at_113 rfl (lenOf own_pd1 rfl) rfl rfl rfl (by decide) (by decide) rfl rfl (by decide) (by decide) (own_kv fun v5 h5 q5 => ?_)
            obtain ⟨rfl, e5⟩ := q5
            rw [e5]
            refine own_iloadN 117 rfl at_116 rfl ?_
            refine own_iload 119 rfl at_117 rfl ?_
            refine own_iadd 120 rfl at_119 ?_
            have ihc120 : ((if (1 : Int32) = 0 then (8 : Int32) else 12) + p2 + (if (0 : Int32) = 0 then (0 : Int32) else 1)).toInt = (p2 + (12 : Int32)).toInt := own_eq (by simp; first | rfl | (rw [Int32.add_comm]; done) | (rw [Int32.add_comm 12, Int32.add_assoc]; rfl))
            have hc120 : ((if (1 : Int32) = 0 then (8 : Int32) else 12) + p2 + (if (0 : Int32) = 0 then (0 : Int32) else 1)) = (p2 + (12 : Int32)) := own_eq' ihc120
            refine own_icmpNo 123 rfl at_120 (teq hc120).2 ?_
            refine own_iconst 124 rfl (1 : Int32) at_123 rfl ?_
            refine own_goto 128 at_124 (by decide) (by decide) ?_
            refine own_retN rfl (by simp) at_128 (by decide) (by decide) ?_
            exact ⟨_, rfl, rfl⟩
          · have ihc73 : ¬ k.toInt = (4 : Int) := own_neq hc73
            refine own_icmpYes 87 at_73 (feq hc73).2 (by decide) (by decide) ?_
            refine own_iloadN 88 rfl at_87 rfl ?_
            refine own_iconst 89 rfl (5 : Int32) at_88 rfl ?_
            by_cases hc89 : k = (5 : Int32)
            · have ihc89 : k.toInt = (5 : Int) := own_eq hc89
              refine own_icmpNo 92 rfl at_89 (teq hc89).2 ?_
              refine own_getS 95 rfl (host := "") (Or.inl (hw _ (List.mem_of_getElem? (i := 35) rfl))) Via.refl S_w_V6 at_92 ?_
              refine own_astoreN 96 rfl #[.val (.int p1), .val (.int p2), .val (.int k), .val (.ref w_V6), .unset] at_95 rfl rfl ?_
              refine own_bipush 98 rfl (13 : Int32) at_96 rfl ?_
              refine own_istore 100 rfl #[.val (.int p1), .val (.int p2), .val (.int k), .val (.ref w_V6), .val (.int (13 : Int32))] at_98 rfl ?_
              refine own_goto 111 at_100 (by decide) (by decide) ?_
              refine own_aloadN 112 rfl at_111 rfl rfl ?_
              refine own_iloadN 113 rfl at_112 rfl ?_
              refine own_callV 116 rfl 0 0 0 [(.int p2)] [] (y := (⟨"com/example/restitch/restitch/store/JournalFormat", "recordLength", "(I)I"⟩ : MethodName)) (z := (⟨"com/example/restitch/restitch/store/JournalFormat", "recordLength", "(I)I"⟩ : MethodName)) (hw _ (List.mem_of_getElem? (i := 4) rfl)) (hw _ (List.mem_of_getElem? (i := 5) rfl)) (fun hZ => notFace_of_selects (args := #[]) (mvT hZ (hw _ (List.mem_of_getElem? (i := 7) rfl)))) (hw _ (List.mem_of_getElem? (i := 7) rfl)) (hw _ (List.mem_of_getElem? (i := 6) rfl)) (hw _ (List.mem_of_getElem? (i := 2) rfl)) (hw _ (List.mem_of_getElem? (i := 8) rfl)) (by decide) (E_w_V6.ext O0.2) (rm1 l Z a0 hw [] w_V6 p2 w_TRAILED (1 : Int32) (1 : Int32) h0 (E_w_V6.ext O0.2) (F_w_V6_frame.ext O0.2) (F_w_TRAILED_checked.ext O0.2) (F_w_TRAILED_trailed.ext O0.2)) at_113 rfl (lenOf own_pd1 rfl) rfl rfl rfl (by decide) (by decide) rfl rfl (by decide) (by decide) (own_kv fun v6 h6 q6 => ?_)
              obtain ⟨rfl, e6⟩ := q6
              rw [e6]
              refine own_iloadN 117 rfl at_116 rfl ?_
              refine own_iload 119 rfl at_117 rfl ?_
              refine own_iadd 120 rfl at_119 ?_
              have ihc120 : ((if (1 : Int32) = 0 then (8 : Int32) else 12) + p2 + (if (1 : Int32) = 0 then (0 : Int32) else 1)).toInt = (p2 + (13 : Int32)).toInt := own_eq (by simp; first | rfl | (rw [Int32.add_comm]; done) | (rw [Int32.add_comm 12, Int32.add_assoc]; rfl))
              have hc120 : ((if (1 : Int32) = 0 then (8 : Int32) else 12) + p2 + (if (1 : Int32) = 0 then (0 : Int32) else 1)) = (p2 + (13 : Int32)) := own_eq' ihc120
              refine own_icmpNo 123 rfl at_120 (teq hc120).2 ?_
              refine own_iconst 124 rfl (1 : Int32) at_123 rfl ?_
              refine own_goto 128 at_124 (by decide) (by decide) ?_
              refine own_retN rfl (by simp) at_128 (by decide) (by decide) ?_
              exact ⟨_, rfl, rfl⟩
            · have ihc89 : ¬ k.toInt = (5 : Int) := own_neq hc89
              refine own_icmpYes 103 at_89 (feq hc89).2 (by decide) (by decide) ?_
              refine own_getS 106 rfl (host := "") (Or.inl (hw _ (List.mem_of_getElem? (i := 32) rfl))) Via.refl S_w_V7 at_103 ?_
              refine own_astoreN 107 rfl #[.val (.int p1), .val (.int p2), .val (.int k), .val (.ref w_V7), .unset] at_106 rfl rfl ?_
              refine own_bipush 109 rfl (13 : Int32) at_107 rfl ?_
              refine own_istore 111 rfl #[.val (.int p1), .val (.int p2), .val (.int k), .val (.ref w_V7), .val (.int (13 : Int32))] at_109 rfl ?_
              refine own_aloadN 112 rfl at_111 rfl rfl ?_
              refine own_iloadN 113 rfl at_112 rfl ?_
              refine own_callV 116 rfl 0 0 0 [(.int p2)] [] (y := (⟨"com/example/restitch/restitch/store/JournalFormat", "recordLength", "(I)I"⟩ : MethodName)) (z := (⟨"com/example/restitch/restitch/store/JournalFormat", "recordLength", "(I)I"⟩ : MethodName)) (hw _ (List.mem_of_getElem? (i := 4) rfl)) (hw _ (List.mem_of_getElem? (i := 5) rfl)) (fun hZ => notFace_of_selects (args := #[]) (mvT hZ (hw _ (List.mem_of_getElem? (i := 7) rfl)))) (hw _ (List.mem_of_getElem? (i := 7) rfl)) (hw _ (List.mem_of_getElem? (i := 6) rfl)) (hw _ (List.mem_of_getElem? (i := 2) rfl)) (hw _ (List.mem_of_getElem? (i := 8) rfl)) (by decide) (E_w_V7.ext O0.2) (rm1 l Z a0 hw [] w_V7 p2 w_TRAILED (1 : Int32) (1 : Int32) h0 (E_w_V7.ext O0.2) (F_w_V7_frame.ext O0.2) (F_w_TRAILED_checked.ext O0.2) (F_w_TRAILED_trailed.ext O0.2)) at_113 rfl (lenOf own_pd1 rfl) rfl rfl rfl (by decide) (by decide) rfl rfl (by decide) (by decide) (own_kv fun v7 h7 q7 => ?_)
              obtain ⟨rfl, e7⟩ := q7
              rw [e7]
              refine own_iloadN 117 rfl at_116 rfl ?_
              refine own_iload 119 rfl at_117 rfl ?_
              refine own_iadd 120 rfl at_119 ?_
              have ihc120 : ((if (1 : Int32) = 0 then (8 : Int32) else 12) + p2 + (if (1 : Int32) = 0 then (0 : Int32) else 1)).toInt = (p2 + (13 : Int32)).toInt := own_eq (by simp; first | rfl | (rw [Int32.add_comm]; done) | (rw [Int32.add_comm 12, Int32.add_assoc]; rfl))
              have hc120 : ((if (1 : Int32) = 0 then (8 : Int32) else 12) + p2 + (if (1 : Int32) = 0 then (0 : Int32) else 1)) = (p2 + (13 : Int32)) := own_eq' ihc120
              refine own_icmpNo 123 rfl at_120 (teq hc120).2 ?_
              refine own_iconst 124 rfl (1 : Int32) at_123 rfl ?_
              refine own_goto 128 at_124 (by decide) (by decide) ?_
              refine own_retN rfl (by simp) at_128 (by decide) (by decide) ?_
              exact ⟨_, rfl, rfl⟩
set_option maxRecDepth 65536 in
set_option maxHeartbeats 40000000 in
theorem comes_1 {Post : Tables → Env → Array Value → State → Outcome → State → Prop} (hpost : ∀ tb e args s v u, (limb_1_1.after args s (.returned v) u = true ∧ limb_1_2.after args s (.returned v) u = true ∧ True) → FrameEnd s (.returned v) u (Jvm.fieldLocs frame_1_writes args s ++ Jvm.arrayLocs frame_1_arrays args s ++ Jvm.staticLocs frame_1_statics s) 0 0 → Post tb e args s (.returned v) u) :
    ArmFor flags0 classFile x code maxLocals ret World_1 tables_1 room_1 Calls_1 rest_1 Pre_1 Post := by
  intro l hfl _ _ p e ha hc hk s m args below hf hA hF happ hP
  obtain ⟨hcalls, hrest, hpre⟩ := hP
  obtain ⟨-, -, -, hnamed, -, -, -, hat⟩ := (Spec.applies_iff hf).mp happ
  obtain ⟨hg, hn⟩ := and_e (Cond.before_iff.mp (show (Jvm.Cond.and given_1 narrow_1).before args s = true from hpre))
  obtain ⟨g0, gr0⟩ := and_e hg
  obtain ⟨g1, gr1⟩ := and_e gr0
  have g2 := gr1
  obtain ⟨w0, w1, rfl⟩ : ∃ w0 w1 : Value, args = #[w0, w1] := by
    have hs : args.size = 2 := by simpa [Cond.value, given_1] using g0
    obtain ⟨L⟩ := args
    match L, hs with
    | [w0, w1], _ => exact ⟨w0, w1, rfl⟩
  have hw := fun d (hd : d ∈ tables_1) => atoms_spec (ws := Jvm.Cond.code x code maxLocals ret :: tables_1) hat d (List.mem_cons_of_mem _ hd)
  have hfit : Fit s := fun {y c} hc i hi => by
    obtain ⟨ha, rfl⟩ := Array.getElem?_eq_some_iff.mp hc
    have q := List.all_eq_true.mp ((Array.all_eq_true_iff_forall_mem.mp hF) _ (Array.getElem_mem ha)) i (List.mem_range.mpr hi)
    simpa [Array.getElem?_eq_getElem hi] using q
  obtain ⟨i0, ei0⟩ := is_v g1
  obtain rfl : w0 = (.int i0) := Option.some.inj ei0
  obtain ⟨i1, ei1⟩ := is_v g2
  obtain rfl : w1 = (.int i1) := Option.some.inj ei1
  obtain ⟨n0, r0⟩ := and_e hn
  obtain ⟨n1, r1⟩ := and_e r0
  obtain ⟨n2, r2⟩ := and_e r1
  obtain ⟨n3, r3⟩ := and_e r2
  obtain ⟨n4, r4⟩ := and_e r3
  obtain ⟨n5, r5⟩ := and_e r4
  obtain ⟨n6, r6⟩ := and_e r5
  obtain ⟨n7, r7⟩ := and_e r6
  obtain ⟨n8, r8⟩ := and_e r7
  obtain ⟨n9, r9⟩ := and_e r8
  obtain ⟨n10, r10⟩ := and_e r9
  obtain ⟨n11, r11⟩ := and_e r10
  obtain ⟨n12, r12⟩ := and_e r11
  obtain ⟨n13, r13⟩ := and_e r12
  obtain ⟨n14, r14⟩ := and_e r13
  obtain ⟨n15, r15⟩ := and_e r14
  obtain ⟨n16, r16⟩ := and_e r15
  obtain ⟨n17, r17⟩ := and_e r16
  obtain ⟨n18, r18⟩ := and_e r17
  obtain ⟨n19, r19⟩ := and_e r18
  obtain ⟨n20, r20⟩ := and_e r19
  obtain ⟨n21, r21⟩ := and_e r20
  have n22 := r21
  obtain ⟨w_V1, ev_w_V1⟩ := exa_v n0
  have S_w_V1 : Sta s s.heap "com/example/restitch/restitch/store/JournalFormat" "V1" "Lcom/example/restitch/restitch/store/JournalFormat;" (.ref w_V1) := Sta.start ev_w_V1 (Or.inr ⟨(hw _ (List.mem_of_getElem? (i := 2) rfl)), (hw _ (List.mem_of_getElem? (i := 3) rfl))⟩)
  have E_w_V1 : Exa s s.heap w_V1 "com/example/restitch/restitch/store/JournalFormat" := Exa.start ev_w_V1 n0
  obtain ⟨w_UNCHECKED, ev_w_UNCHECKED⟩ := exa_v n1
  have S_w_UNCHECKED : Sta s s.heap "com/example/restitch/restitch/store/JournalFormat$Frame" "UNCHECKED" "Lcom/example/restitch/restitch/store/JournalFormat$Frame;" (.ref w_UNCHECKED) := Sta.start ev_w_UNCHECKED (Or.inr ⟨(hw _ (List.mem_of_getElem? (i := 15) rfl)), (hw _ (List.mem_of_getElem? (i := 16) rfl))⟩)
  have E_w_UNCHECKED : Exa s s.heap w_UNCHECKED "com/example/restitch/restitch/store/JournalFormat$Frame" := Exa.start ev_w_UNCHECKED n1
  have F_w_V1_frame : Fld s s.heap w_V1 "com/example/restitch/restitch/store/JournalFormat" "frame" "Lcom/example/restitch/restitch/store/JournalFormat$Frame;" (.ref w_UNCHECKED) := Fld.start (by rw [← fld_at ev_w_V1]; exact own_eqR n2 ev_w_UNCHECKED)
  have F_w_UNCHECKED_checked : Fld s s.heap w_UNCHECKED "com/example/restitch/restitch/store/JournalFormat$Frame" "checked" "Z" (.int (0 : Int32)) := Fld.start (by rw [← fld_at ev_w_UNCHECKED]; exact own_eqI n3)
  have F_w_UNCHECKED_trailed : Fld s s.heap w_UNCHECKED "com/example/restitch/restitch/store/JournalFormat$Frame" "trailed" "Z" (.int (0 : Int32)) := Fld.start (by rw [← fld_at ev_w_UNCHECKED]; exact own_eqI n4)
  obtain ⟨w_V4, ev_w_V4⟩ := exa_v n5
  have S_w_V4 : Sta s s.heap "com/example/restitch/restitch/store/JournalFormat" "V4" "Lcom/example/restitch/restitch/store/JournalFormat;" (.ref w_V4) := Sta.start ev_w_V4 (Or.inr ⟨(hw _ (List.mem_of_getElem? (i := 2) rfl)), (hw _ (List.mem_of_getElem? (i := 26) rfl))⟩)
  have E_w_V4 : Exa s s.heap w_V4 "com/example/restitch/restitch/store/JournalFormat" := Exa.start ev_w_V4 n5
  obtain ⟨w_CHECKED, ev_w_CHECKED⟩ := exa_v n6
  have S_w_CHECKED : Sta s s.heap "com/example/restitch/restitch/store/JournalFormat$Frame" "CHECKED" "Lcom/example/restitch/restitch/store/JournalFormat$Frame;" (.ref w_CHECKED) := Sta.start ev_w_CHECKED (Or.inr ⟨(hw _ (List.mem_of_getElem? (i := 15) rfl)), (hw _ (List.mem_of_getElem? (i := 27) rfl))⟩)
  have E_w_CHECKED : Exa s s.heap w_CHECKED "com/example/restitch/restitch/store/JournalFormat$Frame" := Exa.start ev_w_CHECKED n6
  have F_w_V4_frame : Fld s s.heap w_V4 "com/example/restitch/restitch/store/JournalFormat" "frame" "Lcom/example/restitch/restitch/store/JournalFormat$Frame;" (.ref w_CHECKED) := Fld.start (by rw [← fld_at ev_w_V4]; exact own_eqR n7 ev_w_CHECKED)
  have F_w_CHECKED_checked : Fld s s.heap w_CHECKED "com/example/restitch/restitch/store/JournalFormat$Frame" "checked" "Z" (.int (1 : Int32)) := Fld.start (by rw [← fld_at ev_w_CHECKED]; exact own_eqI n8)
  have F_w_CHECKED_trailed : Fld s s.heap w_CHECKED "com/example/restitch/restitch/store/JournalFormat$Frame" "trailed" "Z" (.int (0 : Int32)) := Fld.start (by rw [← fld_at ev_w_CHECKED]; exact own_eqI n9)
  obtain ⟨w_V2, ev_w_V2⟩ := exa_v n10
  have S_w_V2 : Sta s s.heap "com/example/restitch/restitch/store/JournalFormat" "V2" "Lcom/example/restitch/restitch/store/JournalFormat;" (.ref w_V2) := Sta.start ev_w_V2 (Or.inr ⟨(hw _ (List.mem_of_getElem? (i := 2) rfl)), (hw _ (List.mem_of_getElem? (i := 29) rfl))⟩)
  have E_w_V2 : Exa s s.heap w_V2 "com/example/restitch/restitch/store/JournalFormat" := Exa.start ev_w_V2 n10
  have F_w_V2_frame : Fld s s.heap w_V2 "com/example/restitch/restitch/store/JournalFormat" "frame" "Lcom/example/restitch/restitch/store/JournalFormat$Frame;" (.ref w_CHECKED) := Fld.start (by rw [← fld_at ev_w_V2]; exact own_eqR n11 ev_w_CHECKED)
  obtain ⟨w_V5, ev_w_V5⟩ := exa_v n12
  have S_w_V5 : Sta s s.heap "com/example/restitch/restitch/store/JournalFormat" "V5" "Lcom/example/restitch/restitch/store/JournalFormat;" (.ref w_V5) := Sta.start ev_w_V5 (Or.inr ⟨(hw _ (List.mem_of_getElem? (i := 2) rfl)), (hw _ (List.mem_of_getElem? (i := 31) rfl))⟩)
  have E_w_V5 : Exa s s.heap w_V5 "com/example/restitch/restitch/store/JournalFormat" := Exa.start ev_w_V5 n12
  have F_w_V5_frame : Fld s s.heap w_V5 "com/example/restitch/restitch/store/JournalFormat" "frame" "Lcom/example/restitch/restitch/store/JournalFormat$Frame;" (.ref w_CHECKED) := Fld.start (by rw [← fld_at ev_w_V5]; exact own_eqR n13 ev_w_CHECKED)
  obtain ⟨w_V7, ev_w_V7⟩ := exa_v n14
  have S_w_V7 : Sta s s.heap "com/example/restitch/restitch/store/JournalFormat" "V7" "Lcom/example/restitch/restitch/store/JournalFormat;" (.ref w_V7) := Sta.start ev_w_V7 (Or.inr ⟨(hw _ (List.mem_of_getElem? (i := 2) rfl)), (hw _ (List.mem_of_getElem? (i := 33) rfl))⟩)
  have E_w_V7 : Exa s s.heap w_V7 "com/example/restitch/restitch/store/JournalFormat" := Exa.start ev_w_V7 n14
  obtain ⟨w_TRAILED, ev_w_TRAILED⟩ := exa_v n15
  have S_w_TRAILED : Sta s s.heap "com/example/restitch/restitch/store/JournalFormat$Frame" "TRAILED" "Lcom/example/restitch/restitch/store/JournalFormat$Frame;" (.ref w_TRAILED) := Sta.start ev_w_TRAILED (Or.inr ⟨(hw _ (List.mem_of_getElem? (i := 15) rfl)), (hw _ (List.mem_of_getElem? (i := 34) rfl))⟩)
  have E_w_TRAILED : Exa s s.heap w_TRAILED "com/example/restitch/restitch/store/JournalFormat$Frame" := Exa.start ev_w_TRAILED n15
  have F_w_V7_frame : Fld s s.heap w_V7 "com/example/restitch/restitch/store/JournalFormat" "frame" "Lcom/example/restitch/restitch/store/JournalFormat$Frame;" (.ref w_TRAILED) := Fld.start (by rw [← fld_at ev_w_V7]; exact own_eqR n16 ev_w_TRAILED)
  have F_w_TRAILED_checked : Fld s s.heap w_TRAILED "com/example/restitch/restitch/store/JournalFormat$Frame" "checked" "Z" (.int (1 : Int32)) := Fld.start (by rw [← fld_at ev_w_TRAILED]; exact own_eqI n17)
  have F_w_TRAILED_trailed : Fld s s.heap w_TRAILED "com/example/restitch/restitch/store/JournalFormat$Frame" "trailed" "Z" (.int (1 : Int32)) := Fld.start (by rw [← fld_at ev_w_TRAILED]; exact own_eqI n18)
  obtain ⟨w_V6, ev_w_V6⟩ := exa_v n19
  have S_w_V6 : Sta s s.heap "com/example/restitch/restitch/store/JournalFormat" "V6" "Lcom/example/restitch/restitch/store/JournalFormat;" (.ref w_V6) := Sta.start ev_w_V6 (Or.inr ⟨(hw _ (List.mem_of_getElem? (i := 2) rfl)), (hw _ (List.mem_of_getElem? (i := 36) rfl))⟩)
  have E_w_V6 : Exa s s.heap w_V6 "com/example/restitch/restitch/store/JournalFormat" := Exa.start ev_w_V6 n19
  have F_w_V6_frame : Fld s s.heap w_V6 "com/example/restitch/restitch/store/JournalFormat" "frame" "Lcom/example/restitch/restitch/store/JournalFormat$Frame;" (.ref w_TRAILED) := Fld.start (by rw [← fld_at ev_w_V6]; exact own_eqR n20 ev_w_TRAILED)
  obtain ⟨w_V3, ev_w_V3⟩ := exa_v n21
  have S_w_V3 : Sta s s.heap "com/example/restitch/restitch/store/JournalFormat" "V3" "Lcom/example/restitch/restitch/store/JournalFormat;" (.ref w_V3) := Sta.start ev_w_V3 (Or.inr ⟨(hw _ (List.mem_of_getElem? (i := 2) rfl)), (hw _ (List.mem_of_getElem? (i := 38) rfl))⟩)
  have E_w_V3 : Exa s s.heap w_V3 "com/example/restitch/restitch/store/JournalFormat" := Exa.start ev_w_V3 n21
  have F_w_V3_frame : Fld s s.heap w_V3 "com/example/restitch/restitch/store/JournalFormat" "frame" "Lcom/example/restitch/restitch/store/JournalFormat$Frame;" (.ref w_CHECKED) := Fld.start (by rw [← fld_at ev_w_V3]; exact own_eqR n22 ev_w_CHECKED)
  obtain ⟨n', o, h1, h2, h3, _, L, rfl, ⟨⟨_, rfl, rfl⟩, N, -⟩, hq⟩ := rm0 l s _ hw tables_1 i0 i1 w_V1 w_UNCHECKED w_V4 w_CHECKED w_V2 w_V5 w_V7 w_TRAILED w_V6 w_V3 s.heap (show own_Ini s w_V1 w_UNCHECKED w_V4 w_CHECKED w_V2 w_V5 w_V7 w_TRAILED w_V6 w_V3 from ⟨S_w_V1, E_w_V1, S_w_UNCHECKED, E_w_UNCHECKED, F_w_V1_frame, F_w_UNCHECKED_checked, F_w_UNCHECKED_trailed, S_w_V4, E_w_V4, S_w_CHECKED, E_w_CHECKED, F_w_V4_frame, F_w_CHECKED_checked, F_w_CHECKED_trailed, S_w_V2, E_w_V2, F_w_V2_frame, S_w_V5, E_w_V5, F_w_V5_frame, S_w_V7, E_w_V7, S_w_TRAILED, E_w_TRAILED, F_w_V7_frame, F_w_TRAILED_checked, F_w_TRAILED_trailed, S_w_V6, E_w_V6, F_w_V6_frame, S_w_V3, E_w_V3, F_w_V3_frame⟩) (Old.start s) p e ha hc hk s m _ below hf ((Spec.applies_iff_loose hf).mp happ).1 ⟨rfl, State.Warmed39.refl s, rfl⟩ trivial
  refine ⟨n', _, h1, h2, h3, hpost _ _ _ _ _ _ ⟨Cond.after_iff.mpr rfl, Cond.after_iff.mpr (eq_i res_at (Term.int_eval (1)) rfl), trivial⟩ ⟨hq.1, hq.2.1, (hq.2.2.sift fun y hy => Or.inr (N y hy)).mono (by decide) (by decide)⟩⟩
theorem main_1_1 : Claimed_1_1 := comes_1 fun _ _ _ _ _ _ h hF => ⟨h.1, hF⟩
theorem main_1_2 : Claimed_1_2 := comes_1 fun _ _ _ _ _ _ h hF => ⟨h.2.1, hF⟩
end Jvm.Pilot.@@N@@
namespace Jvm.Pilot.@@N@@
open Jvm Jvm.ClassFile Sem Op Lib Jvm.Free Jvm.Stand Jvm.Pilot.@@N@@.Jvm.D
/-! MADE BY PROGRAM (witnessworld.py) out of the Statement's table words and the real class files: 13 classes; the members and pool entries that the words name. The judged class is class 1, her method 1. -/
namespace start1
open Jvm.ClassFile
def u (s : String) : CpInfo := .utf8 (stringToUtf16 s)
/-- a pool by its gaps: so many unusable entries, then the entry; so many at the end -/
def gap : Nat → List CpInfo → List CpInfo
  | 0, r => r
  | n + 1, r => .unusable :: gap n r
def poolList (es : List (Nat × CpInfo)) (last : Nat) : List CpInfo := es.foldr (fun e r => gap e.1 (e.2 :: r)) (gap last [])
def pool (es : List (Nat × CpInfo)) (last : Nat) : Array CpInfo := ⟨poolList es last⟩
def fileOf (pool : Array CpInfo) (this : Nat) (attrs : Array Attribute := #[]) (ms : Array MethodInfo := #[]) (fl : Nat := 33) (sup : Nat := 0) (ifs : Array Nat := #[]) (fds : Array FieldInfo := #[]) : ClassFile where
  minorVersion := 0
  majorVersion := 65
  constantPool := pool
  accessFlags := fl
  thisClass := this
  superClass := sup
  interfaces := ifs
  fields := fds
  methods := ms
  attributes := attrs
def plain (name : String) (sup : Option ClassId) : Class where
  name := name
  kind := .ordinary
  loader := none
  accessFlags := 33
  super := sup
  interfaces := #[]
  cf := none
  fields := #[]
  methods := #[]
  instanceTypes := #[]
  staticTypes := #[]
  resolved := #[]
  callSites := []
  init := .initialized
  statics := none
  mirror := none

def pool0 : Array CpInfo := pool [(5, u "<init>"), (0, u "()V"), (1, .class_ 10), (1, u "java/lang/Object")] 113

def k0m0 : Method := { name := "<init>", desc := "()V", sig := { parameters := [], returnType := none }, accessFlags := 1, code := none }
/-- java/lang/Object -/
def k0 : Class := { plain "java/lang/Object" none with
  accessFlags := 33
  interfaces := #[]
  cf := some (fileOf pool0 8 #[] #[{ accessFlags := 1, nameIndex := 5, descriptorIndex := 6, attributes := #[] }] 33 0 #[] #[])
  fields := #[]
  methods := #[k0m0]
  instanceTypes := #[]
  staticTypes := #[]
  resolved := Array.replicate 124 none
  statics := none }

def pool1 : Array CpInfo := pool [(2, .class_ 4), (1, u "java/lang/Object"), (0, u "<init>"), (0, u "()V"), (0, .integer 2147483647), (0, .fieldref 9 10), (0, .class_ 11), (0, .nameAndType 12 13), (0, u "com/example/restitch/restitch/store/JournalFormat"), (0, u "V1"), (0, u "Lcom/example/restitch/restitch/store/JournalFormat;"), (0, .fieldref 9 15), (0, .nameAndType 16 13), (0, u "V2"), (0, .fieldref 9 18), (0, .nameAndType 19 13), (0, u "V3"), (0, .fieldref 9 21), (0, .nameAndType 22 13), (0, u "V4"), (0, .fieldref 9 24), (0, .nameAndType 25 13), (0, u "V5"), (0, .fieldref 9 27), (0, .nameAndType 28 13), (0, u "V6"), (0, .fieldref 9 30), (0, .nameAndType 31 13), (0, u "V7"), (0, .methodref 9 33), (0, .nameAndType 34 35), (0, u "recordLength"), (0, u "(I)I"), (0, .class_ 37), (0, u "com/example/restitch/restitch/store/JournalFormatRecordLengthPinLaw"), (2, u "law"), (0, u "(II)Z")] 3

def k1m0 : Method := { name := "<init>", desc := "()V", sig := { parameters := [], returnType := none }, accessFlags := 1, code := none }
def k1c1 : Code := { maxStack := 3, maxLocals := 5, code := code, exceptionTable := #[], attributes := #[] }
def k1m1 : Method := { name := "law", desc := "(II)Z", sig := { parameters := [.int, .int], returnType := some .boolean }, accessFlags := 9, code := some k1c1 }
/-- com/example/restitch/restitch/store/JournalFormatRecordLengthPinLaw -/
def k1 : Class := { plain "com/example/restitch/restitch/store/JournalFormatRecordLengthPinLaw" (some 0) with
  accessFlags := 49
  interfaces := #[]
  cf := some (fileOf pool1 36 #[] #[{ accessFlags := 1, nameIndex := 5, descriptorIndex := 6, attributes := #[] }, { accessFlags := 9, nameIndex := 40, descriptorIndex := 41, attributes := #[] }] 49 2 #[] #[])
  fields := #[]
  methods := #[k1m0, k1m1]
  instanceTypes := #[]
  staticTypes := #[]
  resolved := Array.replicate 45 none
  statics := none }

def pool2 : Array CpInfo := pool [(1, .class_ 2), (0, u "java/lang/constant/Constable"), (0, .class_ 4), (0, u "java/lang/Object")] 6

/-- java/lang/constant/Constable -/
def k2 : Class := { plain "java/lang/constant/Constable" (some 0) with
  accessFlags := 1537
  interfaces := #[]
  cf := some (fileOf pool2 1 #[] #[] 1537 3 #[] #[])
  fields := #[]
  methods := #[]
  instanceTypes := #[]
  staticTypes := #[]
  resolved := Array.replicate 11 none
  statics := none }

def pool3 : Array CpInfo := pool [(1, .class_ 2), (0, u "java/lang/Comparable"), (0, .class_ 4), (0, u "java/lang/Object")] 7

/-- java/lang/Comparable -/
def k3 : Class := { plain "java/lang/Comparable" (some 0) with
  accessFlags := 1537
  interfaces := #[]
  cf := some (fileOf pool3 1 #[] #[] 1537 3 #[] #[])
  fields := #[]
  methods := #[]
  instanceTypes := #[]
  staticTypes := #[]
  resolved := Array.replicate 12 none
  statics := none }

def pool4 : Array CpInfo := pool [(1, .class_ 2), (0, u "java/io/Serializable"), (0, .class_ 4), (0, u "java/lang/Object")] 2

/-- java/io/Serializable -/
def k4 : Class := { plain "java/io/Serializable" (some 0) with
  accessFlags := 1537
  interfaces := #[]
  cf := some (fileOf pool4 1 #[] #[] 1537 3 #[] #[])
  fields := #[]
  methods := #[]
  instanceTypes := #[]
  staticTypes := #[]
  resolved := Array.replicate 7 none
  statics := none }

def pool5 : Array CpInfo := pool [(2, .class_ 4), (1, u "java/lang/Enum"), (0, u "name"), (0, u "Ljava/lang/String;"), (2, u "ordinal"), (0, u "I"), (1, .class_ 14), (1, u "java/lang/Object"), (4, u "hash"), (86, .class_ 108), (1, u "java/lang/Enum$EnumDesc"), (2, .class_ 112), (0, u "java/lang/constant/Constable"), (0, .class_ 114), (0, u "java/lang/Comparable"), (0, .class_ 116), (0, u "java/io/Serializable")] 87

/-- java/lang/Enum -/
def k5 : Class := { plain "java/lang/Enum" (some 0) with
  accessFlags := 1057
  interfaces := #[2, 3, 4]
  cf := some (fileOf pool5 2 #[.nestMembers #[106]] #[] 1057 12 #[111, 113, 115] #[{ accessFlags := 18, nameIndex := 5, descriptorIndex := 6, attributes := #[] }, { accessFlags := 18, nameIndex := 9, descriptorIndex := 10, attributes := #[] }, { accessFlags := 2, nameIndex := 19, descriptorIndex := 10, attributes := #[] }])
  fields := #[{ name := "name", type := (.object "java/lang/String"), accessFlags := 18, slot := 0, constantValue := 0 }, { name := "ordinal", type := .int, accessFlags := 18, slot := 1, constantValue := 0 }, { name := "hash", type := .int, accessFlags := 2, slot := 2, constantValue := 0 }]
  methods := #[]
  instanceTypes := #[(.object "java/lang/String"), .int, .int]
  staticTypes := #[]
  resolved := Array.replicate 204 none
  statics := none }

def pool6 : Array CpInfo := pool [(1, .class_ 2), (0, u "com/example/restitch/restitch/store/JournalFormat"), (2, u "V1"), (0, u "Lcom/example/restitch/restitch/store/JournalFormat;"), (2, u "V2"), (2, u "V3"), (2, u "V4"), (2, u "V5"), (2, u "V6"), (2, u "V7"), (2, u "$VALUES"), (0, u "[Lcom/example/restitch/restitch/store/JournalFormat;"), (6, .class_ 37), (1, u "java/lang/Enum"), (8, u "version"), (0, u "I"), (2, u "magic"), (0, u "[B"), (0, .fieldref 1 53), (0, .nameAndType 54 55), (0, u "frame"), (0, u "Lcom/example/restitch/restitch/store/JournalFormat$Frame;"), (0, .class_ 57), (0, u "com/example/restitch/restitch/store/JournalFormat$Kept"), (8, u "kept"), (0, u "Ljava/util/Set;"), (31, .methodref 1 100), (0, .nameAndType 101 102), (0, u "header"), (0, u "()I"), (0, .methodref 1 104), (0, .nameAndType 105 102), (0, u "trailer"), (0, .fieldref 107 108), (0, .class_ 109), (0, .nameAndType 110 111), (0, u "com/example/restitch/restitch/store/JournalFormat$Frame"), (0, u "checked"), (0, u "Z"), (0, .fieldref 107 113), (0, .nameAndType 114 111), (0, u "trailed"), (4, u "recordLength"), (0, u "(I)I"), (142, u "LENGTH_AND_CHECKSUM"), (2, u "FRAME_CHECK"), (1, u "TRAILER"), (0, u "B")] 38

def k6c0 : Code := { maxStack := 2, maxLocals := 2, code := prog_135_method_12_code, exceptionTable := #[], attributes := #[] }
def k6m0 : Method := { name := "recordLength", desc := "(I)I", sig := { parameters := [.int], returnType := some .int }, accessFlags := 0, code := some k6c0 }
def k6c1 : Code := { maxStack := 1, maxLocals := 1, code := prog_135_method_13_code, exceptionTable := #[], attributes := #[] }
def k6m1 : Method := { name := "header", desc := "()I", sig := { parameters := [], returnType := some .int }, accessFlags := 2, code := some k6c1 }
def k6c2 : Code := { maxStack := 1, maxLocals := 1, code := prog_135_method_14_code, exceptionTable := #[], attributes := #[] }
def k6m2 : Method := { name := "trailer", desc := "()I", sig := { parameters := [], returnType := some .int }, accessFlags := 2, code := some k6c2 }
/-- com/example/restitch/restitch/store/JournalFormat -/
def k6 : Class := { plain "com/example/restitch/restitch/store/JournalFormat" (some 5) with
  accessFlags := 16432
  interfaces := #[]
  cf := some (fileOf pool6 1 #[.nestMembers #[56, 107]] #[{ accessFlags := 0, nameIndex := 119, descriptorIndex := 120, attributes := #[] }, { accessFlags := 2, nameIndex := 101, descriptorIndex := 102, attributes := #[] }, { accessFlags := 2, nameIndex := 105, descriptorIndex := 102, attributes := #[] }] 16432 35 #[] #[{ accessFlags := 16409, nameIndex := 5, descriptorIndex := 6, attributes := #[] }, { accessFlags := 16409, nameIndex := 9, descriptorIndex := 6, attributes := #[] }, { accessFlags := 16409, nameIndex := 12, descriptorIndex := 6, attributes := #[] }, { accessFlags := 16409, nameIndex := 15, descriptorIndex := 6, attributes := #[] }, { accessFlags := 16409, nameIndex := 18, descriptorIndex := 6, attributes := #[] }, { accessFlags := 16409, nameIndex := 21, descriptorIndex := 6, attributes := #[] }, { accessFlags := 16409, nameIndex := 24, descriptorIndex := 6, attributes := #[] }, { accessFlags := 26, nameIndex := 263, descriptorIndex := 47, attributes := #[] }, { accessFlags := 26, nameIndex := 266, descriptorIndex := 47, attributes := #[] }, { accessFlags := 26, nameIndex := 268, descriptorIndex := 269, attributes := #[] }, { accessFlags := 18, nameIndex := 46, descriptorIndex := 47, attributes := #[] }, { accessFlags := 18, nameIndex := 50, descriptorIndex := 51, attributes := #[] }, { accessFlags := 18, nameIndex := 54, descriptorIndex := 55, attributes := #[] }, { accessFlags := 18, nameIndex := 66, descriptorIndex := 67, attributes := #[] }, { accessFlags := 4122, nameIndex := 27, descriptorIndex := 28, attributes := #[] }])
  fields := #[{ name := "V1", type := (.object "com/example/restitch/restitch/store/JournalFormat"), accessFlags := 16409, slot := 0, constantValue := 0 }, { name := "V2", type := (.object "com/example/restitch/restitch/store/JournalFormat"), accessFlags := 16409, slot := 1, constantValue := 0 }, { name := "V3", type := (.object "com/example/restitch/restitch/store/JournalFormat"), accessFlags := 16409, slot := 2, constantValue := 0 }, { name := "V4", type := (.object "com/example/restitch/restitch/store/JournalFormat"), accessFlags := 16409, slot := 3, constantValue := 0 }, { name := "V5", type := (.object "com/example/restitch/restitch/store/JournalFormat"), accessFlags := 16409, slot := 4, constantValue := 0 }, { name := "V6", type := (.object "com/example/restitch/restitch/store/JournalFormat"), accessFlags := 16409, slot := 5, constantValue := 0 }, { name := "V7", type := (.object "com/example/restitch/restitch/store/JournalFormat"), accessFlags := 16409, slot := 6, constantValue := 0 }, { name := "LENGTH_AND_CHECKSUM", type := .int, accessFlags := 26, slot := 7, constantValue := 0 }, { name := "FRAME_CHECK", type := .int, accessFlags := 26, slot := 8, constantValue := 0 }, { name := "TRAILER", type := .byte, accessFlags := 26, slot := 9, constantValue := 0 }, { name := "version", type := .int, accessFlags := 18, slot := 3, constantValue := 0 }, { name := "magic", type := (.array .byte), accessFlags := 18, slot := 4, constantValue := 0 }, { name := "frame", type := (.object "com/example/restitch/restitch/store/JournalFormat$Frame"), accessFlags := 18, slot := 5, constantValue := 0 }, { name := "kept", type := (.object "java/util/Set"), accessFlags := 18, slot := 6, constantValue := 0 }, { name := "$VALUES", type := (.array (.object "com/example/restitch/restitch/store/JournalFormat")), accessFlags := 4122, slot := 10, constantValue := 0 }]
  methods := #[k6m0, k6m1, k6m2]
  instanceTypes := #[(.object "java/lang/String"), .int, .int, .int, (.array .byte), (.object "com/example/restitch/restitch/store/JournalFormat$Frame"), (.object "java/util/Set")]
  staticTypes := #[(.object "com/example/restitch/restitch/store/JournalFormat"), (.object "com/example/restitch/restitch/store/JournalFormat"), (.object "com/example/restitch/restitch/store/JournalFormat"), (.object "com/example/restitch/restitch/store/JournalFormat"), (.object "com/example/restitch/restitch/store/JournalFormat"), (.object "com/example/restitch/restitch/store/JournalFormat"), (.object "com/example/restitch/restitch/store/JournalFormat"), .int, .int, .byte, (.array (.object "com/example/restitch/restitch/store/JournalFormat"))]
  resolved := ((Array.replicate 308 none).set! 106 (some (.field 7 3))).set! 112 (some (.field 7 4))
  statics := some 0 }

def pool7 : Array CpInfo := pool [(1, .class_ 2), (0, u "com/example/restitch/restitch/store/JournalFormat$Frame"), (2, u "UNCHECKED"), (0, u "Lcom/example/restitch/restitch/store/JournalFormat$Frame;"), (2, u "CHECKED"), (2, u "TRAILED"), (2, u "$VALUES"), (0, u "[Lcom/example/restitch/restitch/store/JournalFormat$Frame;"), (6, .class_ 25), (1, u "java/lang/Enum"), (8, u "checked"), (0, u "Z"), (2, u "trailed"), (23, .class_ 63), (0, u "com/example/restitch/restitch/store/JournalFormat")] 2

/-- com/example/restitch/restitch/store/JournalFormat$Frame -/
def k7 : Class := { plain "com/example/restitch/restitch/store/JournalFormat$Frame" (some 5) with
  accessFlags := 16432
  interfaces := #[]
  cf := some (fileOf pool7 1 #[.nestHost 62] #[] 16432 23 #[] #[{ accessFlags := 16409, nameIndex := 5, descriptorIndex := 6, attributes := #[] }, { accessFlags := 16409, nameIndex := 9, descriptorIndex := 6, attributes := #[] }, { accessFlags := 16409, nameIndex := 12, descriptorIndex := 6, attributes := #[] }, { accessFlags := 18, nameIndex := 34, descriptorIndex := 35, attributes := #[] }, { accessFlags := 18, nameIndex := 38, descriptorIndex := 35, attributes := #[] }, { accessFlags := 4122, nameIndex := 15, descriptorIndex := 16, attributes := #[] }])
  fields := #[{ name := "UNCHECKED", type := (.object "com/example/restitch/restitch/store/JournalFormat$Frame"), accessFlags := 16409, slot := 0, constantValue := 0 }, { name := "CHECKED", type := (.object "com/example/restitch/restitch/store/JournalFormat$Frame"), accessFlags := 16409, slot := 1, constantValue := 0 }, { name := "TRAILED", type := (.object "com/example/restitch/restitch/store/JournalFormat$Frame"), accessFlags := 16409, slot := 2, constantValue := 0 }, { name := "checked", type := .boolean, accessFlags := 18, slot := 3, constantValue := 0 }, { name := "trailed", type := .boolean, accessFlags := 18, slot := 4, constantValue := 0 }, { name := "$VALUES", type := (.array (.object "com/example/restitch/restitch/store/JournalFormat$Frame")), accessFlags := 4122, slot := 3, constantValue := 0 }]
  methods := #[]
  instanceTypes := #[(.object "java/lang/String"), .int, .int, .boolean, .boolean]
  staticTypes := #[(.object "com/example/restitch/restitch/store/JournalFormat$Frame"), (.object "com/example/restitch/restitch/store/JournalFormat$Frame"), (.object "com/example/restitch/restitch/store/JournalFormat$Frame"), (.array (.object "com/example/restitch/restitch/store/JournalFormat$Frame"))]
  resolved := Array.replicate 66 none
  statics := some 1 }

def pool8 : Array CpInfo := pool [(1, u "java/lang/Cloneable"), (0, .class_ 1), (0, u "java/lang/Object"), (0, .class_ 3)] 3

/-- java/lang/Cloneable -/
def k8 : Class := { plain "java/lang/Cloneable" (some 0) with
  accessFlags := 1537
  interfaces := #[]
  cf := some (fileOf pool8 2 #[] #[] 1537 4 #[] #[])
  fields := #[]
  methods := #[]
  instanceTypes := #[]
  staticTypes := #[]
  resolved := Array.replicate 8 none
  statics := none }

/-- the primitive byte -/
def k9 : Class := { plain "byte" none with kind := .primitive 'B', accessFlags := 0x411 }
/-- [B -/
def k10 : Class := { plain "[B" (some 0) with kind := .array 9 .byte, interfaces := #[8, 4], accessFlags := 1041 }

/-- the primitive int -/
def k11 : Class := { plain "int" none with kind := .primitive 'I', accessFlags := 0x411 }
/-- [I -/
def k12 : Class := { plain "[I" (some 0) with kind := .array 11 .int, interfaces := #[8, 4], accessFlags := 1041 }

def heap : Heap := #[{ cls := 6, slots := #[.ref 2, .ref 6, .ref 11, .ref 4, .ref 7, .ref 10, .ref 8, .int 0, .int 0, .int 0, .null], vm := .statics 6 },
  { cls := 7, slots := #[.ref 3, .ref 5, .ref 9, .null], vm := .statics 7 },
  { cls := 6, slots := #[.null, .int 0, .int 0, .int 0, .null, .ref 3, .null], vm := .none },
  { cls := 7, slots := #[.null, .int 0, .int 0, .int 0, .int 0], vm := .none },
  { cls := 6, slots := #[.null, .int 0, .int 0, .int 0, .null, .ref 5, .null], vm := .none },
  { cls := 7, slots := #[.null, .int 0, .int 0, .int 1, .int 0], vm := .none },
  { cls := 6, slots := #[.null, .int 0, .int 0, .int 0, .null, .ref 5, .null], vm := .none },
  { cls := 6, slots := #[.null, .int 0, .int 0, .int 0, .null, .ref 5, .null], vm := .none },
  { cls := 6, slots := #[.null, .int 0, .int 0, .int 0, .null, .ref 9, .null], vm := .none },
  { cls := 7, slots := #[.null, .int 0, .int 0, .int 1, .int 1], vm := .none },
  { cls := 6, slots := #[.null, .int 0, .int 0, .int 0, .null, .ref 9, .null], vm := .none },
  { cls := 6, slots := #[.null, .int 0, .int 0, .int 0, .null, .ref 5, .null], vm := .none }]
def classes : Array Class := #[k0, k1, k2, k3, k4, k5, k6, k7, k8, k9, k10, k11, k12]
def interned : List (Array UInt16 × Addr) := []
def slotsUsed : Nat := 79
def theMethod : MethodId := ⟨1, 1⟩
def args0 : Array Value := #[.int 5, .int 1]
def aboutOver (below : List Frame) : State where
  vm := { classes := classes, interned := interned.toArray }
  heap := heap
  slotsUsed := slotsUsed
  threads := #[{ frames := .invoking theMethod args0 :: below }]
def below0 : List Frame := [.native { method := ⟨0, 0⟩, args := #[] }]
def about1 : State := aboutOver below0
def p0 : Program := .bare "" "" ""
def e0 : Env := launch0.env 0 0 0
theorem w_frames : about1.frames = Frame.invoking theMethod args0 :: below0 := rfl
set_option maxRecDepth 65536 in
theorem w_args : argsFit about1.vm theMethod args0 = true := by decide +kernel
set_option maxRecDepth 65536 in
theorem w_heap : heapFits about1 = true := by decide +kernel
set_option maxRecDepth 65536 in
theorem w_runnable : about1.curStatus? = some .runnable := by decide +kernel
set_option maxRecDepth 65536 in
theorem w_alone : about1.alone = true := by decide +kernel
set_option maxRecDepth 65536 in
theorem w_named : about1.methodNamed? x = some theMethod := by decide +kernel
set_option maxRecDepth 65536 in
theorem w_hears : about1.hears theMethod below0 = true := by decide +kernel
set_option maxRecDepth 65536 in
theorem w_ripe : about1.ripe theMethod args0 below0 = true := by decide +kernel
theorem w_running : about1.status = .running := rfl
set_option maxRecDepth 65536 in
theorem w_room : about1.hasRoom e0.platform room_1 = true :=
  launch0.hasRoom_least _ room_1 (by decide +kernel) (by decide +kernel) (by decide +kernel) (by decide +kernel) (by decide +kernel) (by decide +kernel)
theorem allAtoms_all (ts : List Jvm.Cond) (a : Array Jvm.Value) (st : Jvm.State) : (allAtoms ts).before a st = ts.all (fun c => c.before a st) := by
  induction ts with
  | nil => rfl
  | cons c t ih =>
    show (Jvm.Cond.and c (allAtoms t)).before a st = _
    rw [Jvm.Cond.before_and, ih, List.all_cons]
def words1 : List Jvm.Cond := Jvm.Cond.code x code maxLocals ret :: tables_1
/-- a 'code' word, met by the world's own term for the bytes: nothing is compared byte by byte -/
theorem code_word {y : MethodName} {bytes : ByteArray} {mx : Nat} {rt : Option FieldType} {a : Array Value} {s : State} {m : MethodId} {meth : Method} {c : Code} (h1 : s.methodNamed? y = some m) (h2 : s.vm.method? m = some meth) (h3 : meth.code = some c) (h4 : c.code = bytes)
    (h5 : (c.maxLocals == mx && c.exceptionTable.isEmpty && decide (c.maxStack ≤ mostOperands) && decide (meth.sig.returnType = rt) && !meth.locks && decide (parseMethodDescriptor y.desc = some meth.sig)) = true) : (Jvm.Cond.code y bytes mx rt).before a s = true := by
  simp only [Bool.and_eq_true, beq_iff_eq, Bool.not_eq_true', decide_eq_true_eq] at h5
  obtain ⟨⟨⟨⟨⟨g1, g2⟩, g3⟩, g4⟩, g5⟩, g6⟩ := h5
  simp [Cond.before, Cond.holds, Cond.value, h1, h2, h3, h4, g1, g2, g3, g4, g5, g6]
def isCode : Jvm.Cond → Bool
  | .code _ _ _ _ => true
  | _ => false
theorem all_split {L : List Jvm.Cond} {P : Jvm.Cond → Bool} (h1 : L.all (fun c => isCode c || P c) = true) (h2 : ∀ c ∈ L.filter isCode, P c = true) : L.all P = true := by
  refine List.all_eq_true.mpr fun c hc => ?_
  have h := List.all_eq_true.mp h1 c hc
  rcases Bool.eq_false_or_eq_true (isCode c) with hi | hi
  · exact h2 c (List.mem_filter.mpr ⟨hc, hi⟩)
  · simpa [hi] using h
set_option maxRecDepth 65536 in
theorem w_c0 : (Jvm.Cond.code x code maxLocals ret).before args0 about1 = true := code_word (m := ⟨1, 1⟩) (meth := k1m1) (c := k1c1) (by decide +kernel) rfl rfl rfl (by decide +kernel)
set_option maxRecDepth 65536 in
theorem w_c1 : (Jvm.Cond.code ({ cls := "com/example/restitch/restitch/store/JournalFormat", name := "recordLength", desc := "(I)I" } : Jvm.MethodName) prog_135_method_12_code (2 : Nat) (Option.some Jvm.ClassFile.FieldType.int)).before args0 about1 = true := code_word (m := ⟨6, 0⟩) (meth := k6m0) (c := k6c0) (by decide +kernel) rfl rfl rfl (by decide +kernel)
set_option maxRecDepth 65536 in
theorem w_c2 : (Jvm.Cond.code ({ cls := "com/example/restitch/restitch/store/JournalFormat", name := "header", desc := "()I" } : Jvm.MethodName) prog_135_method_13_code (1 : Nat) (Option.some Jvm.ClassFile.FieldType.int)).before args0 about1 = true := code_word (m := ⟨6, 1⟩) (meth := k6m1) (c := k6c1) (by decide +kernel) rfl rfl rfl (by decide +kernel)
set_option maxRecDepth 65536 in
theorem w_c3 : (Jvm.Cond.code ({ cls := "com/example/restitch/restitch/store/JournalFormat", name := "trailer", desc := "()I" } : Jvm.MethodName) prog_135_method_14_code (1 : Nat) (Option.some Jvm.ClassFile.FieldType.int)).before args0 about1 = true := code_word (m := ⟨6, 2⟩) (meth := k6m2) (c := k6c2) (by decide +kernel) rfl rfl rfl (by decide +kernel)
def codes1 : List Jvm.Cond := [Jvm.Cond.code x code maxLocals ret, Jvm.Cond.code ({ cls := "com/example/restitch/restitch/store/JournalFormat", name := "recordLength", desc := "(I)I" } : Jvm.MethodName) prog_135_method_12_code (2 : Nat) (Option.some Jvm.ClassFile.FieldType.int), Jvm.Cond.code ({ cls := "com/example/restitch/restitch/store/JournalFormat", name := "header", desc := "()I" } : Jvm.MethodName) prog_135_method_13_code (1 : Nat) (Option.some Jvm.ClassFile.FieldType.int), Jvm.Cond.code ({ cls := "com/example/restitch/restitch/store/JournalFormat", name := "trailer", desc := "()I" } : Jvm.MethodName) prog_135_method_14_code (1 : Nat) (Option.some Jvm.ClassFile.FieldType.int)]
set_option maxRecDepth 65536 in
theorem codes_eq : words1.filter isCode = codes1 := rfl
theorem w_codes : ∀ c ∈ words1.filter isCode, c.before args0 about1 = true := by
  rw [codes_eq]
  intro c hc
  simp only [codes1, List.mem_cons, List.not_mem_nil, or_false] at hc
  rcases hc with rfl | rfl | rfl | rfl
  · exact w_c0
  · exact w_c1
  · exact w_c2
  · exact w_c3
set_option maxRecDepth 65536 in
theorem w_t1 : (words1.take 24).all (fun c => isCode c || c.before args0 about1) = true := by decide +kernel
set_option maxRecDepth 65536 in
theorem w_t2 : (words1.drop 24).all (fun c => isCode c || c.before args0 about1) = true := by decide +kernel
theorem w_tables : (allAtoms (Jvm.Cond.code x code maxLocals ret :: tables_1)).before args0 about1 = true := by
  rw [allAtoms_all]
  show words1.all (fun c => c.before args0 about1) = true
  refine all_split ?_ w_codes
  rw [← List.take_append_drop 24 words1, List.all_append, w_t1, w_t2]
  rfl
set_option maxRecDepth 65536 in
theorem w_case : (Jvm.Cond.and given_1 narrow_1).before args0 about1 = true := by decide +kernel
theorem w_applies : (headSpec (Jvm.Cond.code x code maxLocals ret :: tables_1) room_1).applies x e0.platform about1 = true :=
  (Spec.applies_iff w_frames).mpr ⟨w_running, w_runnable, w_alone, w_named, w_hears, w_ripe, w_room, w_tables⟩
theorem atStart : AtStart classFile x code maxLocals ret World_1 tables_1 room_1 Calls_1 rest_1 Pre_1 launch0 p0 e0 about1 theMethod args0 below0 :=
  ⟨lists_1, trivial, launch0.admits_env _ _ _, launch0.least_env, fairChoices_fair.cas, fairChoices_fair.clock, w_frames, w_args, w_heap, w_applies, trivial, trivial, w_case⟩
end start1
theorem witness_1 : WitnessClaimed_1 := ⟨start1.p0, start1.e0, start1.about1, start1.theMethod, start1.args0, start1.below0, start1.atStart⟩
end Jvm.Pilot.@@N@@
