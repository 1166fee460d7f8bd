import JvmDerived
import JvmDerived.Pilot.@@N@@Statement
import JvmDerived.Pilot.@@N@@Code
set_option linter.unusedVariables false
set_option linter.unusedSimpArgs false
namespace Jvm.RoadKit
open Sem ClassFile Op Lib Jvm.Stand Jvm.Free Jvm.LawKit
section New
variable {p : Program} {l : Launch} {e : Env} {R : Room} {s : State} {m : MethodId} {args : Array Value} {below : List Frame} {meth : Method} {c : Code} {T : State} {locs : List Loc} {cells slots : Nat}
theorem retI (X : Stand p l e R s m args below meth c T locs cells slots) (hx : p.tables.exec = Jvm.exec) {pc : Nat} {Ls : Array Slot} {z : Int32} {rest : List Value} (hret : meth.sig.returnType = some .int) (hd : decode c.code pc = .ok (.ireturn, 1)) {fs : List Frame}
    (hl : ∀ (f : JFrame) (acts : List Action), f.method = m → f.locked = none → f.entered = [] → (doReturn e (T.setTop f) acts (some (.int z))).1 = T.setFrames fs) : Steps p.tables e below (T.setTop (mkF m pc Ls (.int z :: rest))) (T.setFrames fs) := by
  have hm' : T.vm.method? m = some meth := X.method'
  have hn : narrow .int (.int z) = .int z := rfl
  show Steps p.tables e below (T.setTop { method := m, pc := pc, locals := Ls, stack := _ :: rest, locked := none }) _
  jvm_step X.here [X.here.top, hx, hd, hm', hret, hn]
  first | (intro acts; rw [hl _ acts rfl rfl rfl]) | rw [hl _ _ rfl rfl rfl]
  exact Steps.refl _
end New
end Jvm.RoadKit
namespace Jvm.Pilot.@@N@@
namespace Own
open Jvm Jvm.ClassFile Sem Op Lib Jvm.Free Jvm.Stand Jvm.LawKit Jvm.RoadKit Bundle
/-- from this frame on the method comes to an end of which P holds -/
def Run (tb : Tables) (e : Env) (below : List Frame) (P : State → Prop) (T : State) (g : JFrame) : Prop := ∃ t, Steps tb e below (T.setTop g) t ∧ P t
theorem Run.of {tb : Tables} {e : Env} {below : List Frame} {P : State → Prop} {T T' : State} {g g' : JFrame} (st : ∀ target, Steps tb e below (T'.setTop g') target → Steps tb e below (T.setTop g) target) (k : Run tb e below P T' g') : Run tb e below P T g := by
  obtain ⟨t, h, hp⟩ := k; exact ⟨t, st _ h, hp⟩
theorem Run.tr {tb : Tables} {e : Env} {below : List Frame} {P : State → Prop} {T T' : State} {g g' : JFrame} (st : Steps tb e below (T.setTop g) (T'.setTop g')) (k : Run tb e below P T' g') : Run tb e below P T g := by
  obtain ⟨t, h, hp⟩ := k; exact ⟨t, st.trans h, hp⟩
/-- what is kept up while the heap grows and safe cells are written -/
def Cl (Z : State) (Inv : Heap → Prop) (Sf : Heap → Addr → Prop) : Prop :=
  (∀ (h h' : Heap) (ws : List Addr), Keep h h' ws → (∀ x ∈ ws, Sf h x) → Inv h → Inv h' ∧ ∀ x, Sf h x → Sf h' x) ∧
  (∀ (h : Heap) (x : Addr), h.size ≤ x → Sf h x) ∧
  (∀ (h : Heap) (x : Addr) (C : String), Exa Z h x C → C ≠ "java/lang/String" → C ≠ "[B" → Sf h x) ∧
  (∀ (h : Heap) (x : Addr) (c : Cell) (ty : FieldType), Arr Z h x c ty → ty ≠ .byte → Sf h x)
/-- where the walk of a body stands -/
def WP (p : Program) (l : Launch) (e : Env) (R : Room) (s : State) (m : MethodId) (args : Array Value) (below : List Frame) (meth : Method) (c : Code) (Z : State) (own mname : String) (bytes : ByteArray) (maxL : Nat) (ret : Option FieldType) (n0 : Nat) (Inv : Heap → Prop) (Sf : Heap → Addr → Prop) (T : State) (h : Heap) (locs : List Loc) (cells slots : Nat) : Prop :=
  Stand p l e R s m args below meth c T locs cells slots ∧ T.heap = h ∧ Z.Warmed39 s.vm ∧ s.vm.findClass own = some m.cls ∧ Fr n0 locs ∧ Old Z n0 h ∧ Inv h ∧ (p.tables.exec = Jvm.exec ∧ c.code = bytes ∧ c.maxLocals = maxL ∧ meth.sig.returnType = ret ∧ meth.locks = false ∧ meth.name = mname) ∧ Cl Z Inv Sf
theorem ext_keep {h h' : Heap} (E : Ext h h') : Keep h h' [] := (Keep.refl h []).ext E
theorem keep_id (h : Heap) : Keep h h [] := Keep.refl h []
theorem own_n {a b : Nat} (h : a < b) : a < b := h
theorem own_ne {a b : Nat} (h : a < b ∨ b < a) : a ≠ b := by omega
theorem own_ni {a b : Nat} (h : a ≠ b) : a < b ∨ b < a := by omega
theorem fr1 {k : Nat} {a : Addr} {sl : Nat} (q : k ≤ a) : Fr k [(⟨a, sl⟩ : Loc)] := fun y hy => by cases List.mem_singleton.mp hy; exact q
section Kit
variable {p : Program} {l : Launch} {e : Env} {R : Room} {s : State} {m : MethodId} {args : Array Value} {below : List Frame} {meth : Method} {c : Code} {Z : State} {own mname : String} {bytes : ByteArray} {maxL : Nat} {ret : Option FieldType} {n0 : Nat} {Inv : Heap → Prop} {Sf : Heap → Addr → Prop} {T : State} {h : Heap} {locs : List Loc} {cells slots : Nat} {a0 : Array Value} {P : State → Prop} {pc pc' : Nat} {Ls Ls' : Array Slot} {st : List Value}
theorem WP.hx (X : WP p l e R s m args below meth c Z own mname bytes maxL ret n0 Inv Sf T h locs cells slots) : p.tables.exec = Jvm.exec := X.2.2.2.2.2.2.2.1.1
theorem WP.hby (X : WP p l e R s m args below meth c Z own mname bytes maxL ret n0 Inv Sf T h locs cells slots) : c.code = bytes := X.2.2.2.2.2.2.2.1.2.1
theorem WP.hml (X : WP p l e R s m args below meth c Z own mname bytes maxL ret n0 Inv Sf T h locs cells slots) : c.maxLocals = maxL := X.2.2.2.2.2.2.2.1.2.2.1
theorem WP.hret (X : WP p l e R s m args below meth c Z own mname bytes maxL ret n0 Inv Sf T h locs cells slots) : meth.sig.returnType = ret := X.2.2.2.2.2.2.2.1.2.2.2.1
theorem WP.hlk (X : WP p l e R s m args below meth c Z own mname bytes maxL ret n0 Inv Sf T h locs cells slots) : meth.locks = false := X.2.2.2.2.2.2.2.1.2.2.2.2.1
theorem WP.hnm (X : WP p l e R s m args below meth c Z own mname bytes maxL ret n0 Inv Sf T h locs cells slots) : meth.name = mname := X.2.2.2.2.2.2.2.1.2.2.2.2.2
theorem WP.cl (X : WP p l e R s m args below meth c Z own mname bytes maxL ret n0 Inv Sf T h locs cells slots) : Cl Z Inv Sf := X.2.2.2.2.2.2.2.2
theorem WP.inv (X : WP p l e R s m args below meth c Z own mname bytes maxL ret n0 Inv Sf T h locs cells slots) : Inv h := X.2.2.2.2.2.2.1
theorem WP.old (X : WP p l e R s m args below meth c Z own mname bytes maxL ret n0 Inv Sf T h locs cells slots) : Old Z n0 h := X.2.2.2.2.2.1
theorem WP.n0le (X : WP p l e R s m args below meth c Z own mname bytes maxL ret n0 Inv Sf T h locs cells slots) : n0 ≤ h.size := X.old.1 ▸ X.old.2.1
theorem WP.fr (X : WP p l e R s m args below meth c Z own mname bytes maxL ret n0 Inv Sf T h locs cells slots) : Fr n0 locs := X.2.2.2.2.1
theorem WP.hown (X : WP p l e R s m args below meth c Z own mname bytes maxL ret n0 Inv Sf T h locs cells slots) : s.vm.findClass own = some m.cls := X.2.2.2.1
theorem WP.hZ (X : WP p l e R s m args below meth c Z own mname bytes maxL ret n0 Inv Sf T h locs cells slots) : Z.Warmed39 s.vm := X.2.2.1
theorem WP.eT (X : WP p l e R s m args below meth c Z own mname bytes maxL ret n0 Inv Sf T h locs cells slots) : T.heap = h := X.2.1
theorem WP.mv (X : WP p l e R s m args below meth c Z own mname bytes maxL ret n0 Inv Sf T h locs cells slots) {T' : State} {h' : Heap} {locs' : List Loc} {cells' slots' : Nat} (X' : Stand p l e R s m args below meth c T' locs' cells' slots') (e' : T'.heap = h') {ws : List Addr} (K : Keep h h' ws) (hs : ∀ x ∈ ws, Sf h x ∧ n0 ≤ x) (N : Fr n0 locs') : WP p l e R s m args below meth c Z own mname bytes maxL ret n0 Inv Sf T' h' locs' cells' slots' :=
  ⟨X', e', X.hZ, X.hown, N, X.old.keep K (fun x q => (hs x q).2), (X.cl.1 h h' ws K (fun x q => (hs x q).1) X.inv).1, X.2.2.2.2.2.2.2.1, X.cl⟩
theorem WP.same (X : WP p l e R s m args below meth c Z own mname bytes maxL ret n0 Inv Sf T h locs cells slots) {T' : State} (X' : Stand p l e R s m args below meth c T' locs cells slots) (e' : T'.heap = h) : WP p l e R s m args below meth c Z own mname bytes maxL ret n0 Inv Sf T' h locs cells slots := X.mv X' e' (keep_id h) (fun _ q => nomatch q) X.fr
theorem WP.up (X : WP p l e R s m args below meth c Z own mname bytes maxL ret n0 Inv Sf T h locs cells slots) {cells' slots' : Nat} (h1 : cells ≤ cells') (h2 : slots ≤ slots') : WP p l e R s m args below meth c Z own mname bytes maxL ret n0 Inv Sf T h locs cells' slots' :=
  ⟨⟨X.1.admits, X.1.cas, X.1.clock, X.1.frames, X.1.room, X.1.hears, X.1.method, X.1.code, X.1.here, X.1.tail, X.1.warmed, X.1.limits, X.1.bytes, X.1.same.mono h1 h2⟩, X.2⟩
/-- a safe cell stays safe -/
theorem WP.sf (X : WP p l e R s m args below meth c Z own mname bytes maxL ret n0 Inv Sf T h locs cells slots) {h' : Heap} {ws : List Addr} {x : Addr} (K : Keep h h' ws) (hs : ∀ x ∈ ws, Sf h x ∧ n0 ≤ x) (q : Sf h x) : Sf h' x := (X.cl.1 h h' ws K (fun x q => (hs x q).1) X.inv).2 x q
theorem WP.sfN (X : WP p l e R s m args below meth c Z own mname bytes maxL ret n0 Inv Sf T h locs cells slots) {x : Addr} (q : h.size ≤ x) : Sf h x := X.cl.2.1 h x q
theorem WP.sfE (X : WP p l e R s m args below meth c Z own mname bytes maxL ret n0 Inv Sf T h locs cells slots) {x : Addr} {C : String} (E : Exa Z h x C) (h1 : C ≠ "java/lang/String" := by decide) (h2 : C ≠ "[B" := by decide) : Sf h x := X.cl.2.2.1 h x C E h1 h2
theorem WP.sfA (X : WP p l e R s m args below meth c Z own mname bytes maxL ret n0 Inv Sf T h locs cells slots) {x : Addr} {k : ClassId} {ty : FieldType} {z : Int32} {vs : List Value} {d : Value} (A : Arv Z h x k ty z vs d) (h1 : ty ≠ .byte := by decide) : Sf h x := by
  obtain ⟨c, A, -⟩ := A; exact X.cl.2.2.2 h x c ty A h1

theorem k_aloadN (X : WP p l e R s m args below meth c Z own mname bytes maxL ret n0 Inv Sf T h locs cells slots) {k : Fin 4} {v : Value} (hd : decode bytes pc = .ok (.aload_n k, 1)) (hl : Ls[k.val]? = some (.val v)) (hv : v.isRef = true) (hp : pc + 1 = pc') (q : Run p.tables e below P T (mkF m pc' Ls (v :: st))) : Run p.tables e below P T (mkF m pc Ls (st)) := by
  subst hp; exact Run.of (fun _ k => XS.aloadN X.1.here X.hx rfl (hb X.hby hd) hl hv k) q
theorem k_aload (X : WP p l e R s m args below meth c Z own mname bytes maxL ret n0 Inv Sf T h locs cells slots) {k : Nat} {v : Value} (hd : decode bytes pc = .ok (.aload k, 2)) (hl : Ls[k]? = some (.val v)) (hv : v.isRef = true) (hp : pc + 2 = pc') (q : Run p.tables e below P T (mkF m pc' Ls (v :: st))) : Run p.tables e below P T (mkF m pc Ls (st)) := by
  subst hp; exact Run.of (fun _ k => XS.aload X.1.here X.hx rfl (hb X.hby hd) hl hv k) q
theorem k_iloadN (X : WP p l e R s m args below meth c Z own mname bytes maxL ret n0 Inv Sf T h locs cells slots) {k : Fin 4} {v : Int32} (hd : decode bytes pc = .ok (.iload_n k, 1)) (hl : Ls[k.val]? = some (.val (.int v))) (hp : pc + 1 = pc') (q : Run p.tables e below P T (mkF m pc' Ls (.int v :: st))) : Run p.tables e below P T (mkF m pc Ls (st)) := by
  subst hp; exact Run.of (fun _ k => XS.iloadN X.1.here X.hx rfl (hb X.hby hd) hl k) q
theorem k_iload (X : WP p l e R s m args below meth c Z own mname bytes maxL ret n0 Inv Sf T h locs cells slots) {k : Nat} {v : Int32} (hd : decode bytes pc = .ok (.iload k, 2)) (hl : Ls[k]? = some (.val (.int v))) (hp : pc + 2 = pc') (q : Run p.tables e below P T (mkF m pc' Ls (.int v :: st))) : Run p.tables e below P T (mkF m pc Ls (st)) := by
  subst hp; exact Run.of (fun _ k => XS.iload X.1.here X.hx rfl (hb X.hby hd) hl k) q
theorem k_astoreN (X : WP p l e R s m args below meth c Z own mname bytes maxL ret n0 Inv Sf T h locs cells slots) {k : Fin 4} {v : Value} (hd : decode bytes pc = .ok (.astore_n k, 1)) (hv : v.isRef = true) (hl : storeLocals Ls k.val v = some Ls') (hp : pc + 1 = pc') (q : Run p.tables e below P T (mkF m pc' Ls' (st))) : Run p.tables e below P T (mkF m pc Ls (v :: st)) := by
  subst hp; exact Run.of (fun _ k => XS.astoreN X.1.here X.hx rfl (hb X.hby hd) rfl hv hl k) q
theorem k_astore (X : WP p l e R s m args below meth c Z own mname bytes maxL ret n0 Inv Sf T h locs cells slots) {k : Nat} {v : Value} (hd : decode bytes pc = .ok (.astore k, 2)) (hv : v.isRef = true) (hl : storeLocals Ls k v = some Ls') (hp : pc + 2 = pc') (q : Run p.tables e below P T (mkF m pc' Ls' (st))) : Run p.tables e below P T (mkF m pc Ls (v :: st)) := by
  subst hp; exact Run.of (fun _ k => XS.astore X.1.here X.hx rfl (hb X.hby hd) rfl hv hl k) q
theorem k_istoreN (X : WP p l e R s m args below meth c Z own mname bytes maxL ret n0 Inv Sf T h locs cells slots) {k : Fin 4} {v : Int32} (hd : decode bytes pc = .ok (.istore_n k, 1)) (hl : storeLocals Ls k.val (.int v) = some Ls') (hp : pc + 1 = pc') (q : Run p.tables e below P T (mkF m pc' Ls' (st))) : Run p.tables e below P T (mkF m pc Ls (.int v :: st)) := by
  subst hp; exact Run.of (fun _ k => XS.istoreN X.1.here X.hx rfl (hb X.hby hd) rfl hl k) q
theorem k_istore (X : WP p l e R s m args below meth c Z own mname bytes maxL ret n0 Inv Sf T h locs cells slots) {k : Nat} {v : Int32} (hd : decode bytes pc = .ok (.istore k, 2)) (hl : storeLocals Ls k (.int v) = some Ls') (hp : pc + 2 = pc') (q : Run p.tables e below P T (mkF m pc' Ls' (st))) : Run p.tables e below P T (mkF m pc Ls (.int v :: st)) := by
  subst hp; exact Run.of (fun _ k => XS.istore X.1.here X.hx rfl (hb X.hby hd) rfl hl k) q
theorem k_iconst (X : WP p l e R s m args below meth c Z own mname bytes maxL ret n0 Inv Sf T h locs cells slots) {k : Int} {w : Int32} (hd : decode bytes pc = .ok (.iconst k, 1)) (hv : Int32.ofInt k = w) (hp : pc + 1 = pc') (q : Run p.tables e below P T (mkF m pc' Ls (.int w :: st))) : Run p.tables e below P T (mkF m pc Ls (st)) := by
  subst hp; subst hv; exact Run.of (fun _ k => XS.iconst X.1.here X.hx rfl (hb X.hby hd)  k) q
theorem k_bipush (X : WP p l e R s m args below meth c Z own mname bytes maxL ret n0 Inv Sf T h locs cells slots) {k : Int} {w : Int32} (hd : decode bytes pc = .ok (.bipush k, 2)) (hv : (Int8.ofInt k).toInt32 = w) (hp : pc + 2 = pc') (q : Run p.tables e below P T (mkF m pc' Ls (.int w :: st))) : Run p.tables e below P T (mkF m pc Ls (st)) := by
  subst hp; subst hv; exact Run.of (fun _ k => XS.bipush X.1.here X.hx rfl (hb X.hby hd)  k) q
theorem k_sipush (X : WP p l e R s m args below meth c Z own mname bytes maxL ret n0 Inv Sf T h locs cells slots) {k : Int} {w : Int32} (hd : decode bytes pc = .ok (.sipush k, 3)) (hv : (Int16.ofInt k).toInt32 = w) (hp : pc + 3 = pc') (q : Run p.tables e below P T (mkF m pc' Ls (.int w :: st))) : Run p.tables e below P T (mkF m pc Ls (st)) := by
  subst hp; subst hv; exact Run.of (fun _ k => XS.sipush X.1.here X.hx rfl (hb X.hby hd)  k) q
theorem k_aconstNull (X : WP p l e R s m args below meth c Z own mname bytes maxL ret n0 Inv Sf T h locs cells slots)  (hd : decode bytes pc = .ok (.aconst_null, 1))  (hp : pc + 1 = pc') (q : Run p.tables e below P T (mkF m pc' Ls (.null :: st))) : Run p.tables e below P T (mkF m pc Ls (st)) := by
  subst hp; exact Run.of (fun _ k => XS.aconstNull X.1.here X.hx rfl (hb X.hby hd)  k) q
theorem k_iadd (X : WP p l e R s m args below meth c Z own mname bytes maxL ret n0 Inv Sf T h locs cells slots) {x y w : Int32} (hd : decode bytes pc = .ok (.iadd, 1)) (hv : x + y = w) (hp : pc + 1 = pc') (q : Run p.tables e below P T (mkF m pc' Ls (.int w :: st))) : Run p.tables e below P T (mkF m pc Ls (.int y :: .int x :: st)) := by
  subst hp; subst hv; exact Run.of (fun _ k => XS.iadd X.1.here X.hx rfl (hb X.hby hd) rfl k) q
theorem k_isub (X : WP p l e R s m args below meth c Z own mname bytes maxL ret n0 Inv Sf T h locs cells slots) {x y w : Int32} (hd : decode bytes pc = .ok (.isub, 1)) (hv : x - y = w) (hp : pc + 1 = pc') (q : Run p.tables e below P T (mkF m pc' Ls (.int w :: st))) : Run p.tables e below P T (mkF m pc Ls (.int y :: .int x :: st)) := by
  subst hp; subst hv; exact Run.of (fun _ k => XS.isub X.1.here X.hx rfl (hb X.hby hd) rfl k) q
theorem k_imul (X : WP p l e R s m args below meth c Z own mname bytes maxL ret n0 Inv Sf T h locs cells slots) {x y w : Int32} (hd : decode bytes pc = .ok (.imul, 1)) (hv : x * y = w) (hp : pc + 1 = pc') (q : Run p.tables e below P T (mkF m pc' Ls (.int w :: st))) : Run p.tables e below P T (mkF m pc Ls (.int y :: .int x :: st)) := by
  subst hp; subst hv; exact Run.of (fun _ k => XS.imul X.1.here X.hx rfl (hb X.hby hd) rfl k) q
theorem k_iand (X : WP p l e R s m args below meth c Z own mname bytes maxL ret n0 Inv Sf T h locs cells slots) {x y w : Int32} (hd : decode bytes pc = .ok (.iand, 1)) (hv : x &&& y = w) (hp : pc + 1 = pc') (q : Run p.tables e below P T (mkF m pc' Ls (.int w :: st))) : Run p.tables e below P T (mkF m pc Ls (.int y :: .int x :: st)) := by
  subst hp; subst hv; exact Run.of (fun _ k => XS.iand X.1.here X.hx rfl (hb X.hby hd) rfl k) q
theorem k_ior (X : WP p l e R s m args below meth c Z own mname bytes maxL ret n0 Inv Sf T h locs cells slots) {x y w : Int32} (hd : decode bytes pc = .ok (.ior, 1)) (hv : x ||| y = w) (hp : pc + 1 = pc') (q : Run p.tables e below P T (mkF m pc' Ls (.int w :: st))) : Run p.tables e below P T (mkF m pc Ls (.int y :: .int x :: st)) := by
  subst hp; subst hv; exact Run.of (fun _ k => XS.ior X.1.here X.hx rfl (hb X.hby hd) rfl k) q
theorem k_ixor (X : WP p l e R s m args below meth c Z own mname bytes maxL ret n0 Inv Sf T h locs cells slots) {x y w : Int32} (hd : decode bytes pc = .ok (.ixor, 1)) (hv : x ^^^ y = w) (hp : pc + 1 = pc') (q : Run p.tables e below P T (mkF m pc' Ls (.int w :: st))) : Run p.tables e below P T (mkF m pc Ls (.int y :: .int x :: st)) := by
  subst hp; subst hv; exact Run.of (fun _ k => XS.ixor X.1.here X.hx rfl (hb X.hby hd) rfl k) q
theorem k_ishl (X : WP p l e R s m args below meth c Z own mname bytes maxL ret n0 Inv Sf T h locs cells slots) {x y w : Int32} (hd : decode bytes pc = .ok (.ishl, 1)) (hv : (x <<< (y &&& 31)) = w) (hp : pc + 1 = pc') (q : Run p.tables e below P T (mkF m pc' Ls (.int w :: st))) : Run p.tables e below P T (mkF m pc Ls (.int y :: .int x :: st)) := by
  subst hp; subst hv; exact Run.of (fun _ k => XS.ishl X.1.here X.hx rfl (hb X.hby hd) rfl k) q
theorem k_ishr (X : WP p l e R s m args below meth c Z own mname bytes maxL ret n0 Inv Sf T h locs cells slots) {x y w : Int32} (hd : decode bytes pc = .ok (.ishr, 1)) (hv : (x >>> (y &&& 31)) = w) (hp : pc + 1 = pc') (q : Run p.tables e below P T (mkF m pc' Ls (.int w :: st))) : Run p.tables e below P T (mkF m pc Ls (.int y :: .int x :: st)) := by
  subst hp; subst hv; exact Run.of (fun _ k => XS.ishr X.1.here X.hx rfl (hb X.hby hd) rfl k) q
theorem k_iushr (X : WP p l e R s m args below meth c Z own mname bytes maxL ret n0 Inv Sf T h locs cells slots) {x y w : Int32} (hd : decode bytes pc = .ok (.iushr, 1)) (hv : ((x.toUInt32 >>> (y &&& 31).toUInt32).toInt32) = w) (hp : pc + 1 = pc') (q : Run p.tables e below P T (mkF m pc' Ls (.int w :: st))) : Run p.tables e below P T (mkF m pc Ls (.int y :: .int x :: st)) := by
  subst hp; subst hv; exact Run.of (fun _ k => XS.iushr X.1.here X.hx rfl (hb X.hby hd) rfl k) q
theorem k_irem (X : WP p l e R s m args below meth c Z own mname bytes maxL ret n0 Inv Sf T h locs cells slots) {x y w : Int32} (hd : decode bytes pc = .ok (.irem, 1)) (hy : y ≠ 0) (hv : x - (x / y) * y = w) (hp : pc + 1 = pc') (q : Run p.tables e below P T (mkF m pc' Ls (.int w :: st))) : Run p.tables e below P T (mkF m pc Ls (.int y :: .int x :: st)) := by
  subst hp; subst hv; exact Run.of (fun _ k => XS.irem X.1.here X.hx rfl (hb X.hby hd) rfl hy k) q
theorem k_idiv (X : WP p l e R s m args below meth c Z own mname bytes maxL ret n0 Inv Sf T h locs cells slots) {x y w : Int32} (hd : decode bytes pc = .ok (.idiv, 1)) (hy : y ≠ 0) (hv : x / y = w) (hp : pc + 1 = pc') (q : Run p.tables e below P T (mkF m pc' Ls (.int w :: st))) : Run p.tables e below P T (mkF m pc Ls (.int y :: .int x :: st)) := by
  subst hp; subst hv; exact Run.of (fun _ k => XS.idiv X.1.here X.hx rfl (hb X.hby hd) rfl hy k) q
theorem k_ineg (X : WP p l e R s m args below meth c Z own mname bytes maxL ret n0 Inv Sf T h locs cells slots) {x w : Int32} (hd : decode bytes pc = .ok (.ineg, 1)) (hv : -x = w) (hp : pc + 1 = pc') (q : Run p.tables e below P T (mkF m pc' Ls (.int w :: st))) : Run p.tables e below P T (mkF m pc Ls (.int x :: st)) := by
  subst hp; subst hv; exact Run.of (fun _ k => XS.ineg X.1.here X.hx rfl (hb X.hby hd) rfl k) q
theorem k_i2c (X : WP p l e R s m args below meth c Z own mname bytes maxL ret n0 Inv Sf T h locs cells slots) {x w : Int32} (hd : decode bytes pc = .ok (.i2c, 1)) (hv : x.toUInt32.toUInt16.toUInt32.toInt32 = w) (hp : pc + 1 = pc') (q : Run p.tables e below P T (mkF m pc' Ls (.int w :: st))) : Run p.tables e below P T (mkF m pc Ls (.int x :: st)) := by
  subst hp; subst hv; exact Run.of (fun _ k => XS.i2c X.1.here X.hx rfl (hb X.hby hd) rfl k) q
theorem k_i2b (X : WP p l e R s m args below meth c Z own mname bytes maxL ret n0 Inv Sf T h locs cells slots) {x w : Int32} (hd : decode bytes pc = .ok (.i2b, 1)) (hv : x.toInt8.toInt32 = w) (hp : pc + 1 = pc') (q : Run p.tables e below P T (mkF m pc' Ls (.int w :: st))) : Run p.tables e below P T (mkF m pc Ls (.int x :: st)) := by
  subst hp; subst hv; exact Run.of (fun _ k => XS.i2b X.1.here X.hx rfl (hb X.hby hd) rfl k) q
theorem k_iinc (X : WP p l e R s m args below meth c Z own mname bytes maxL ret n0 Inv Sf T h locs cells slots) {k : Nat} {cst : Int} {x w : Int32} (hd : decode bytes pc = .ok (.iinc k cst, 3)) (hl : Ls[k]? = some (.val (.int x))) (hv : x + Int32.ofInt cst = w) (hl' : storeLocals Ls k (.int w) = some Ls') (hp : pc + 3 = pc') (q : Run p.tables e below P T (mkF m pc' Ls' (st))) : Run p.tables e below P T (mkF m pc Ls (st)) := by
  subst hp; subst hv; exact Run.of (fun _ k => XS.iinc X.1.here X.hx rfl (hb X.hby hd) hl hl' k) q
theorem k_dup (X : WP p l e R s m args below meth c Z own mname bytes maxL ret n0 Inv Sf T h locs cells slots) {v : Value} (hd : decode bytes pc = .ok (.dup, 1)) (hc : v.category = 1) (hp : pc + 1 = pc') (q : Run p.tables e below P T (mkF m pc' Ls (v :: v :: st))) : Run p.tables e below P T (mkF m pc Ls (v :: st)) := by
  subst hp; exact Run.of (fun _ k => XS.dup X.1.here X.hx rfl (hb X.hby hd) rfl hc k) q
theorem k_pop (X : WP p l e R s m args below meth c Z own mname bytes maxL ret n0 Inv Sf T h locs cells slots) {v : Value} (hd : decode bytes pc = .ok (.pop, 1)) (hc : v.category = 1) (hp : pc + 1 = pc') (q : Run p.tables e below P T (mkF m pc' Ls (st))) : Run p.tables e below P T (mkF m pc Ls (v :: st)) := by
  subst hp; exact Run.of (fun _ k => XS.pop X.1.here X.hx rfl (hb X.hby hd) rfl hc k) q
theorem k_goto (X : WP p l e R s m args below meth c Z own mname bytes maxL ret n0 Inv Sf T h locs cells slots) {o : Int} (hd : decode bytes pc = .ok (.goto o, 3))  (ho : 0 ≤ (pc : Int) + o) (hp : ((pc : Int) + o).toNat = pc') (q : Run p.tables e below P T (mkF m pc' Ls (st))) : Run p.tables e below P T (mkF m pc Ls (st)) := by
  exact Run.of (fun _ k => XS.goto X.1.here X.hx rfl (pc0 := pc) (pc' := pc') rfl (hb X.hby hd)  ho hp k) q
theorem k_ifYes (X : WP p l e R s m args below meth c Z own mname bytes maxL ret n0 Inv Sf T h locs cells slots) {cd : ClassFile.Cond} {o : Int} {x : Int32} (hd : decode bytes pc = .ok (.ifCond cd o, 3)) (hc : ifCond.holds cd x = true) (ho : 0 ≤ (pc : Int) + o) (hp : ((pc : Int) + o).toNat = pc') (q : Run p.tables e below P T (mkF m pc' Ls (st))) : Run p.tables e below P T (mkF m pc Ls (.int x :: st)) := by
  exact Run.of (fun _ k => XS.ifYes X.1.here X.hx rfl (pc0 := pc) (pc' := pc') rfl (hb X.hby hd) rfl hc ho hp k) q
theorem k_ifNo (X : WP p l e R s m args below meth c Z own mname bytes maxL ret n0 Inv Sf T h locs cells slots) {cd : ClassFile.Cond} {o : Int} {x : Int32} (hd : decode bytes pc = .ok (.ifCond cd o, 3)) (hc : ifCond.holds cd x = false) (hp : pc + 3 = pc') (q : Run p.tables e below P T (mkF m pc' Ls (st))) : Run p.tables e below P T (mkF m pc Ls (.int x :: st)) := by
  subst hp; exact Run.of (fun _ k => XS.ifNo X.1.here X.hx rfl (hb X.hby hd) rfl hc k) q
theorem k_icmpYes (X : WP p l e R s m args below meth c Z own mname bytes maxL ret n0 Inv Sf T h locs cells slots) {cd : ClassFile.Cond} {o : Int} {x y : Int32} (hd : decode bytes pc = .ok (.if_icmp cd o, 3)) (hc : if_icmp.holds cd x y = true) (ho : 0 ≤ (pc : Int) + o) (hp : ((pc : Int) + o).toNat = pc') (q : Run p.tables e below P T (mkF m pc' Ls (st))) : Run p.tables e below P T (mkF m pc Ls (.int y :: .int x :: st)) := by
  exact Run.of (fun _ k => XS.icmpYes X.1.here X.hx rfl (pc0 := pc) (pc' := pc') rfl (hb X.hby hd) rfl hc ho hp k) q
theorem k_icmpNo (X : WP p l e R s m args below meth c Z own mname bytes maxL ret n0 Inv Sf T h locs cells slots) {cd : ClassFile.Cond} {o : Int} {x y : Int32} (hd : decode bytes pc = .ok (.if_icmp cd o, 3)) (hc : if_icmp.holds cd x y = false) (hp : pc + 3 = pc') (q : Run p.tables e below P T (mkF m pc' Ls (st))) : Run p.tables e below P T (mkF m pc Ls (.int y :: .int x :: st)) := by
  subst hp; exact Run.of (fun _ k => XS.icmpNo X.1.here X.hx rfl (hb X.hby hd) rfl hc k) q
theorem k_ifnullYes (X : WP p l e R s m args below meth c Z own mname bytes maxL ret n0 Inv Sf T h locs cells slots) {o : Int} (hd : decode bytes pc = .ok (.ifnull o, 3))  (ho : 0 ≤ (pc : Int) + o) (hp : ((pc : Int) + o).toNat = pc') (q : Run p.tables e below P T (mkF m pc' Ls (st))) : Run p.tables e below P T (mkF m pc Ls (.null :: st)) := by
  exact Run.of (fun _ k => XS.ifnullYes X.1.here X.hx rfl (pc0 := pc) (pc' := pc') rfl (hb X.hby hd) rfl ho hp k) q
theorem k_ifnullNo (X : WP p l e R s m args below meth c Z own mname bytes maxL ret n0 Inv Sf T h locs cells slots) {o : Int} {a : Addr} (hd : decode bytes pc = .ok (.ifnull o, 3))  (hp : pc + 3 = pc') (q : Run p.tables e below P T (mkF m pc' Ls (st))) : Run p.tables e below P T (mkF m pc Ls (.ref a :: st)) := by
  subst hp; exact Run.of (fun _ k => XS.ifnullNo X.1.here X.hx rfl (hb X.hby hd) rfl k) q
theorem k_ifnonnullYes (X : WP p l e R s m args below meth c Z own mname bytes maxL ret n0 Inv Sf T h locs cells slots) {o : Int} {a : Addr} (hd : decode bytes pc = .ok (.ifnonnull o, 3))  (ho : 0 ≤ (pc : Int) + o) (hp : ((pc : Int) + o).toNat = pc') (q : Run p.tables e below P T (mkF m pc' Ls (st))) : Run p.tables e below P T (mkF m pc Ls (.ref a :: st)) := by
  exact Run.of (fun _ k => XS.ifnonnullYes X.1.here X.hx rfl (pc0 := pc) (pc' := pc') rfl (hb X.hby hd) rfl ho hp k) q
theorem k_ifnonnullNo (X : WP p l e R s m args below meth c Z own mname bytes maxL ret n0 Inv Sf T h locs cells slots) {o : Int} (hd : decode bytes pc = .ok (.ifnonnull o, 3))  (hp : pc + 3 = pc') (q : Run p.tables e below P T (mkF m pc' Ls (st))) : Run p.tables e below P T (mkF m pc Ls (.null :: st)) := by
  subst hp; exact Run.of (fun _ k => XS.ifnonnullNo X.1.here X.hx rfl (hb X.hby hd) rfl k) q
theorem k_acmp (X : WP p l e R s m args below meth c Z own mname bytes maxL ret n0 Inv Sf T h locs cells slots) {cd : ACond} {x y : Value} {o : Int} (same : Bool) (hd : decode bytes pc = .ok (.if_acmp cd o, 3)) (h1 : x.isRef = true) (h2 : y.isRef = true) (hq : decide (x = y) = same) (ho : 0 ≤ (pc : Int) + o) (hp : pc' = if acV cd same = true then ((pc : Int) + o).toNat else pc + 3) (q : Run p.tables e below P T (mkF m pc' Ls st)) : Run p.tables e below P T (mkF m pc Ls (y :: x :: st)) :=
  Run.of (fun _ k => Jvm.RoadKit.acmp (g := mkF m pc Ls (y :: x :: st)) X.1 X.hx rfl h1 h2 (pc0 := pc) (pc' := pc') (same := same) rfl (hb X.hby hd) rfl hq ho hp k) q
theorem k_getF (X : WP p l e R s m args below meth c Z own mname bytes maxL ret n0 Inv Sf T h locs cells slots) {R0 O n d host : String} {index : Nat} {a : Addr} {v : Value} (hd : decode bytes pc = .ok (.getfield index, 3)) (w : (Cond.fieldLink own index R0 n d).before a0 Z = true ∨ (Cond.fieldLinkNest own index R0 n d host).before a0 Z = true) (via : Via Z R0 O n d) (F : Fld Z h a O n d v) (hp : pc + 3 = pc')
    (q : ∀ T', WP p l e R s m args below meth c Z own mname bytes maxL ret n0 Inv Sf T' h locs cells slots → Run p.tables e below P T' (mkF m pc' Ls (v :: st))) : Run p.tables e below P T (mkF m pc Ls (.ref a :: st)) := by
  subst hp
  obtain ⟨T', X', e', k⟩ := Jvm.RoadKit.getF X.1 X.hx X.hZ X.hown w via X.eT F (g := mkF m pc Ls (.ref a :: st)) rfl rfl (hb X.hby hd)
  exact Run.of k (q T' (X.same X' e'))
theorem k_getS (X : WP p l e R s m args below meth c Z own mname bytes maxL ret n0 Inv Sf T h locs cells slots) {R0 O n d host : String} {index : Nat} {v : Value} (hd : decode bytes pc = .ok (.getstatic index, 3)) (w : (Cond.fieldLink own index R0 n d).before a0 Z = true ∨ (Cond.fieldLinkNest own index R0 n d host).before a0 Z = true) (via : Via Z R0 O n d) (F : Sta Z h O n d v) (hp : pc + 3 = pc')
    (q : ∀ T', WP p l e R s m args below meth c Z own mname bytes maxL ret n0 Inv Sf T' h locs cells slots → Run p.tables e below P T' (mkF m pc' Ls (v :: st))) : Run p.tables e below P T (mkF m pc Ls st) := by
  subst hp
  obtain ⟨T', X', e', k⟩ := Jvm.RoadKit.getS2 X.1 X.hx X.hZ X.hown w via X.eT F (g := mkF m pc Ls st) rfl (hb X.hby hd)
  exact Run.of k (q T' (X.same X' e'))
theorem k_putF (X : WP p l e R s m args below meth c Z own mname bytes maxL ret n0 Inv Sf T h locs cells slots) {R0 O n d host C : String} {index kk : Nat} {ty : FieldType} {a : Addr} {v old : Value} (hd : decode bytes pc = .ok (.putfield index, 3)) (w : (Cond.fieldLink own index R0 n d).before a0 Z = true ∨ (Cond.fieldLinkNest own index R0 n d host).before a0 Z = true) (via : Via Z R0 O n d) (F : Fld Z h a O n d old) (E : Exa Z h a C)
    (L : (Cond.lays C O n d).before a0 Z = true ∨ ((Cond.laysFinal C O n d).before a0 Z = true ∧ own = O ∧ meth.name = "<init>")) (wi : (Cond.instantiable C kk).before a0 Z = true) (hty : parseFieldDescriptor d = some ty) (hn : narrow ty v = v) (hf : fits ty v = true) (hsf : Sf h a) (hge : n0 ≤ a) (hp : pc + 3 = pc')
    (q : ∀ T' h' L', WP p l e R s m args below meth c Z own mname bytes maxL ret n0 Inv Sf T' h' L' cells slots → Wr h h' a (Jvm.RoadKit.slotOf Z O n d) v → Keep h h' [a] → Run p.tables e below P T' (mkF m pc' Ls st)) : Run p.tables e below P T (mkF m pc Ls (v :: .ref a :: st)) := by
  subst hp
  obtain ⟨T', h', X', e', W, k⟩ := Jvm.RoadKit.putF X.1 X.hx X.hZ X.hown w via X.eT F E L wi hty hn hf (g := mkF m pc Ls (v :: .ref a :: st)) rfl rfl (hb X.hby hd)
  have K := Keep.of_wr W
  exact Run.of k (q T' h' _ (X.mv X' e' K (allS ⟨hsf, hge⟩ all0) (X.fr.app (fr1 hge))) W K)
theorem k_newO (X : WP p l e R s m args below meth c Z own mname bytes maxL ret n0 Inv Sf T h locs cells slots) {C : String} {index n : Nat} (hd : decode bytes pc = .ok (.new index, 3)) (w : (Cond.classLink own index C).before a0 Z = true) (wi : (Cond.instantiable C n).before a0 Z = true) (wz : (Cond.initialized C).before a0 Z = true) (hc : cells + 1 ≤ R.cells) (hl : slots + n ≤ R.slots) (hp : pc + 3 = pc')
    (q : ∀ T' h' (b : Nat), b = h.size → WP p l e R s m args below meth c Z own mname bytes maxL ret n0 Inv Sf T' h' locs (cells + 1) (slots + n) → Keep h h' [] → Exa Z h' b C → (∀ {O nm d : String} {ty : FieldType}, Laid Z a0 C O nm d → parseFieldDescriptor d = some ty → Fld Z h' b O nm d (defaultValue ty)) → Sf h' b → b < h'.size → n0 ≤ b → Run p.tables e below P T' (mkF m pc' Ls (.ref b :: st))) : Run p.tables e below P T (mkF m pc Ls st) := by
  subst hp
  obtain ⟨T', h', X', e', E, A, D, -, k⟩ := Jvm.RoadKit.newO X.1 X.hx X.hZ X.hown w wi wz X.eT (g := mkF m pc Ls st) rfl (hb X.hby hd) hc hl
  have K := ext_keep E
  exact Run.of k (q T' h' h.size rfl (X.mv X' e' K (fun _ q => nomatch q) X.fr) K A (fun L t => D L t) (X.sf K (fun _ q => nomatch q) (X.sfN (Nat.le_refl _))) (own_n A.lt) X.n0le)
theorem k_newP (X : WP p l e R s m args below meth c Z own mname bytes maxL ret n0 Inv Sf T h locs cells slots) {aty : ArrayType} {n : Int32} {cap : Nat} (hd : decode bytes pc = .ok (.newarray aty, 2)) (w : (Cond.arrayClass (newarray.typeOf aty)).before a0 Z = true) (hn : ¬ n < 0) (hcap : n.toNatClampNeg ≤ cap) (hb' : cap * 8 ≤ 536870912) (hc : cells + 1 ≤ R.cells) (hl : slots + cap ≤ R.slots) (hp : pc + 2 = pc')
    (q : ∀ T' h' (b : Nat) k, b = h.size → WP p l e R s m args below meth c Z own mname bytes maxL ret n0 Inv Sf T' h' locs (cells + 1) (slots + cap) → Keep h h' [] → Arv Z h' b k (newarray.typeOf aty) n [] (defaultValue (newarray.typeOf aty)) → Sf h' b → b < h'.size → n0 ≤ b → Run p.tables e below P T' (mkF m pc' Ls (.ref b :: st))) : Run p.tables e below P T (mkF m pc Ls (.int n :: st)) := by
  subst hp
  obtain ⟨T', h', cA, X', e', E, A, k⟩ := Jvm.RoadKit.newP X.1 X.hx X.hZ w X.eT (g := mkF m pc Ls (.int n :: st)) rfl (hb X.hby hd) rfl hn hcap hb' hc hl
  have K := ext_keep E
  exact Run.of k (q T' h' h.size cA rfl (X.mv X' e' K (fun _ q => nomatch q) X.fr) K (Arv.new A hn) (X.sf K (fun _ q => nomatch q) (X.sfN (Nat.le_refl _))) (own_n A.lt) X.n0le)
theorem k_arlen (X : WP p l e R s m args below meth c Z own mname bytes maxL ret n0 Inv Sf T h locs cells slots) {a : Addr} {k : ClassId} {ty : FieldType} {z : Int32} {vs : List Value} {d : Value} (hd : decode bytes pc = .ok (.arraylength, 1)) (A : Arv Z h a k ty z vs d) (hp : pc + 1 = pc') (q : Run p.tables e below P T (mkF m pc' Ls (.int z :: st))) : Run p.tables e below P T (mkF m pc Ls (.ref a :: st)) := by
  subst hp
  obtain ⟨cl, A, -, S, N, -, -⟩ := A
  refine Run.of (X.1.arraylength X.hx (by rw [X.eT]; exact A.1) (State.isArrayOf_alike X.hZ.alike A.2.1) (g := mkF m pc Ls (.ref a :: st)) rfl rfl (hb X.hby hd)) ?_
  rw [len_of S N]; exact q
theorem k_initO (X : WP p l e R s m args below meth c Z own mname bytes maxL ret n0 Inv Sf T h locs cells slots) {idx W : Nat} {a : Addr} (hd : decode bytes pc = .ok (.invokespecial idx, 3)) (w1 : (Cond.methodLink own idx Lib.objectInit).before a0 Z = true) (w2 : (Cond.instanceMethod Lib.objectInit).before a0 Z = true) (w3 : (Cond.code Lib.objectInit ⟨#[0xb1]⟩ 1 none).before a0 Z = true)
    (hsz : Ls.size = maxL) (hf : 1 ≤ R.frames) (hW : (st.map fun v => v.category).sum ≤ W) (hl : W + 12 ≤ R.locals) (hp : pc + 3 = pc')
    (q : ∀ T', WP p l e R s m args below meth c Z own mname bytes maxL ret n0 Inv Sf T' h locs cells slots → Run p.tables e below P T' (mkF m pc' Ls st)) : Run p.tables e below P T (mkF m pc Ls (.ref a :: st)) := by
  subst hp
  obtain ⟨T', X', e', k⟩ := Jvm.RoadKit.initO X.1 X.hx X.hZ X.hown w1 w2 w3 X.eT (g := mkF m pc Ls (.ref a :: st)) rfl (by rw [X.hml]; exact hsz) rfl (hb X.hby hd) hf (W := W) (by show 2 * 0 + _ ≤ _; omega) hl
  exact Run.of k (q T' (X.same X' e'))
theorem k_castY (X : WP p l e R s m args below meth c Z own mname bytes maxL ret n0 Inv Sf T h locs cells slots) {K : String} {index : Nat} {a : Addr} (hd : decode bytes pc = .ok (.checkcast index, 3)) (w : (Cond.classLink own index K).before a0 Z = true) (F : Ins Z h a K true) (hp : pc + 3 = pc')
    (q : ∀ T', WP p l e R s m args below meth c Z own mname bytes maxL ret n0 Inv Sf T' h locs cells slots → Run p.tables e below P T' (mkF m pc' Ls (.ref a :: st))) : Run p.tables e below P T (mkF m pc Ls (.ref a :: st)) := by
  subst hp
  obtain ⟨T', X', e', k⟩ := Jvm.RoadKit.castY X.1 X.hx X.hZ X.hown w X.eT F (g := mkF m pc Ls (.ref a :: st)) rfl rfl (hb X.hby hd)
  exact Run.of k (q T' (X.same X' e'))
theorem k_instY (X : WP p l e R s m args below meth c Z own mname bytes maxL ret n0 Inv Sf T h locs cells slots) {K : String} {index : Nat} {a : Addr} (hd : decode bytes pc = .ok (.instanceof index, 3)) (w : (Cond.classLink own index K).before a0 Z = true) (F : Ins Z h a K true) (hp : pc + 3 = pc')
    (q : ∀ T', WP p l e R s m args below meth c Z own mname bytes maxL ret n0 Inv Sf T' h locs cells slots → Run p.tables e below P T' (mkF m pc' Ls (.int 1 :: st))) : Run p.tables e below P T (mkF m pc Ls (.ref a :: st)) := by
  subst hp
  obtain ⟨T', X', e', k⟩ := Jvm.RoadKit.instY X.1 X.hx X.hZ X.hown w X.eT F (g := mkF m pc Ls (.ref a :: st)) rfl rfl (hb X.hby hd)
  exact Run.of k (q T' (X.same X' e'))
theorem k_castore (X : WP p l e R s m args below meth c Z own mname bytes maxL ret n0 Inv Sf T h locs cells slots) {a : Addr} {k : ClassId} {z j x w : Int32} {vs : List Value} {d : Value} (i : Nat) (hd : decode bytes pc = .ok (.castore, 1)) (A : Arv Z h a k .char z vs d) (hj0 : ¬ j < 0) (hjz : j < z) (hj : j.toNatClampNeg = i) (hi : i < vs.length) (hw : nar .char x = w) {vs' : List Value} (hvs : vs.set i (.int w) = vs') (hsf : Sf h a) (hge : n0 ≤ a) (hp : pc + 1 = pc')
    (q : ∀ T' h' L', WP p l e R s m args below meth c Z own mname bytes maxL ret n0 Inv Sf T' h' L' cells slots → Keep h h' [a] → Arv Z h' a k .char z vs' d → Run p.tables e below P T' (mkF m pc' Ls st)) : Run p.tables e below P T (mkF m pc Ls (.int x :: .int j :: .ref a :: st)) := by
  subst hp hw hvs
  obtain ⟨cl, A, q1, S, N, H, G⟩ := A
  obtain ⟨T', h', X', e', W, kk⟩ := Jvm.RoadKit.stC X.1 X.hx X.hZ X.eT A (j := j) (inb_of S ⟨hj0, hjz⟩) (g := mkF m pc Ls (.int x :: .int j :: .ref a :: st)) rfl rfl (hb X.hby hd)
  have K := Keep.of_wr W
  exact Run.of kk (q T' h' _ (X.mv X' e' K (allS ⟨hsf, hge⟩ all0) (X.fr.app (fr1 hge))) K (Arv.set A q1 S N H G (fits_nar_char _) W i hj hi))
theorem k_bastore (X : WP p l e R s m args below meth c Z own mname bytes maxL ret n0 Inv Sf T h locs cells slots) {a : Addr} {k : ClassId} {z j x w : Int32} {vs : List Value} {d : Value} (i : Nat) (hd : decode bytes pc = .ok (.bastore, 1)) (A : Arv Z h a k .byte z vs d) (hj0 : ¬ j < 0) (hjz : j < z) (hj : j.toNatClampNeg = i) (hi : i < vs.length) (hw : nar .byte x = w) {vs' : List Value} (hvs : vs.set i (.int w) = vs') (hsf : Sf h a) (hge : n0 ≤ a) (hp : pc + 1 = pc')
    (q : ∀ T' h' L', WP p l e R s m args below meth c Z own mname bytes maxL ret n0 Inv Sf T' h' L' cells slots → Keep h h' [a] → Arv Z h' a k .byte z vs' d → Run p.tables e below P T' (mkF m pc' Ls st)) : Run p.tables e below P T (mkF m pc Ls (.int x :: .int j :: .ref a :: st)) := by
  subst hp hw hvs
  obtain ⟨cl, A, q1, S, N, H, G⟩ := A
  obtain ⟨T', h', X', e', W, kk⟩ := Jvm.RoadKit.stB X.1 X.hx X.hZ X.eT A (j := j) (inb_of S ⟨hj0, hjz⟩) (g := mkF m pc Ls (.int x :: .int j :: .ref a :: st)) rfl rfl (hb X.hby hd)
  have K := Keep.of_wr W
  exact Run.of kk (q T' h' _ (X.mv X' e' K (allS ⟨hsf, hge⟩ all0) (X.fr.app (fr1 hge))) K (Arv.set A q1 S N H G (fits_nar_byte _) W i hj hi))
theorem k_iastore (X : WP p l e R s m args below meth c Z own mname bytes maxL ret n0 Inv Sf T h locs cells slots) {a : Addr} {k : ClassId} {z j x w : Int32} {vs : List Value} {d : Value} (i : Nat) (hd : decode bytes pc = .ok (.iastore, 1)) (A : Arv Z h a k .int z vs d) (hj0 : ¬ j < 0) (hjz : j < z) (hj : j.toNatClampNeg = i) (hi : i < vs.length) (hw : x = w) {vs' : List Value} (hvs : vs.set i (.int w) = vs') (hsf : Sf h a) (hge : n0 ≤ a) (hp : pc + 1 = pc')
    (q : ∀ T' h' L', WP p l e R s m args below meth c Z own mname bytes maxL ret n0 Inv Sf T' h' L' cells slots → Keep h h' [a] → Arv Z h' a k .int z vs' d → Run p.tables e below P T' (mkF m pc' Ls st)) : Run p.tables e below P T (mkF m pc Ls (.int x :: .int j :: .ref a :: st)) := by
  subst hp hw hvs
  obtain ⟨cl, A, q1, S, N, H, G⟩ := A
  obtain ⟨T', h', X', e', W, kk⟩ := Jvm.RoadKit.stI X.1 X.hx X.hZ X.eT A (j := j) (inb_of S ⟨hj0, hjz⟩) (g := mkF m pc Ls (.int x :: .int j :: .ref a :: st)) rfl rfl (hb X.hby hd)
  have K := Keep.of_wr W
  exact Run.of kk (q T' h' _ (X.mv X' e' K (allS ⟨hsf, hge⟩ all0) (X.fr.app (fr1 hge))) K (Arv.set A q1 S N H G rfl W i hj hi))
theorem k_caload (X : WP p l e R s m args below meth c Z own mname bytes maxL ret n0 Inv Sf T h locs cells slots) {a : Addr} {k : ClassId} {z j : Int32} {vs : List Value} {d v : Value} (hd : decode bytes pc = .ok (.caload, 1)) (A : Arv Z h a k .char z vs d) (hj0 : ¬ j < 0) (hjz : j < z) (hv : vs.getD j.toNatClampNeg d = v) (hp : pc + 1 = pc') (q : Run p.tables e below P T (mkF m pc' Ls (v :: st))) : Run p.tables e below P T (mkF m pc Ls (.int j :: .ref a :: st)) := by
  subst hp
  obtain ⟨cl, A, q1, S, N, H, G⟩ := A
  exact Run.of (X.1.caload X.hx (j := j) (v := v) (by rw [X.eT]; exact A.1) (State.isArrayOf_alike X.hZ.alike A.2.1) A.2.2 (inb_of S ⟨hj0, hjz⟩) (H.at (inb_of S ⟨hj0, hjz⟩) hv) (g := mkF m pc Ls (.int j :: .ref a :: st)) rfl rfl (hb X.hby hd)) q
theorem k_baload (X : WP p l e R s m args below meth c Z own mname bytes maxL ret n0 Inv Sf T h locs cells slots) {a : Addr} {k : ClassId} {z j : Int32} {vs : List Value} {d v : Value} (hd : decode bytes pc = .ok (.baload, 1)) (A : Arv Z h a k .byte z vs d) (hj0 : ¬ j < 0) (hjz : j < z) (hv : vs.getD j.toNatClampNeg d = v) (hp : pc + 1 = pc') (q : Run p.tables e below P T (mkF m pc' Ls (v :: st))) : Run p.tables e below P T (mkF m pc Ls (.int j :: .ref a :: st)) := by
  subst hp
  obtain ⟨cl, A, q1, S, N, H, G⟩ := A
  exact Run.of (X.1.baloadBytes X.hx (j := j) (v := v) (by rw [X.eT]; exact A.1) (State.isArrayOf_alike X.hZ.alike A.2.1) A.2.2 (inb_of S ⟨hj0, hjz⟩) (H.at (inb_of S ⟨hj0, hjz⟩) hv) (g := mkF m pc Ls (.int j :: .ref a :: st)) rfl rfl (hb X.hby hd)) q
theorem k_iaload (X : WP p l e R s m args below meth c Z own mname bytes maxL ret n0 Inv Sf T h locs cells slots) {a : Addr} {k : ClassId} {z j : Int32} {vs : List Value} {d v : Value} (hd : decode bytes pc = .ok (.iaload, 1)) (A : Arv Z h a k .int z vs d) (hj0 : ¬ j < 0) (hjz : j < z) (hv : vs.getD j.toNatClampNeg d = v) (hp : pc + 1 = pc') (q : Run p.tables e below P T (mkF m pc' Ls (v :: st))) : Run p.tables e below P T (mkF m pc Ls (.int j :: .ref a :: st)) := by
  subst hp
  obtain ⟨cl, A, q1, S, N, H, G⟩ := A
  exact Run.of (X.1.iaload X.hx (j := j) (v := v) (by rw [X.eT]; exact A.1) (State.isArrayOf_alike X.hZ.alike A.2.1) A.2.2 (inb_of S ⟨hj0, hjz⟩) (H.at (inb_of S ⟨hj0, hjz⟩) hv) (g := mkF m pc Ls (.int j :: .ref a :: st)) rfl rfl (hb X.hby hd)) q
theorem k_aaload (X : WP p l e R s m args below meth c Z own mname bytes maxL ret n0 Inv Sf T h locs cells slots) {a : Addr} {k : ClassId} {z j : Int32} {vs : List Value} {d v : Value} {ty : FieldType} (hd : decode bytes pc = .ok (.aaload, 1)) (A : Arv Z h a k ty z vs d) (hr : ty.isReference = true) (hj0 : ¬ j < 0) (hjz : j < z) (hv : vs.getD j.toNatClampNeg d = v) (hp : pc + 1 = pc') (q : Run p.tables e below P T (mkF m pc' Ls (v :: st))) : Run p.tables e below P T (mkF m pc Ls (.int j :: .ref a :: st)) := by
  subst hp
  obtain ⟨cl, A, q1, S, N, H, G⟩ := A
  exact Run.of (X.1.aaload X.hx (j := j) (v := v) (by rw [X.eT]; exact A.1) (State.isArrayOf_alike X.hZ.alike A.2.1) hr A.2.2 (inb_of S ⟨hj0, hjz⟩) (H.at (inb_of S ⟨hj0, hjz⟩) hv) (g := mkF m pc Ls (.int j :: .ref a :: st)) rfl rfl (hb X.hby hd)) q
theorem k_castNull (X : WP p l e R s m args below meth c Z own mname bytes maxL ret n0 Inv Sf T h locs cells slots) {index : Nat} (hd : decode bytes pc = .ok (.checkcast index, 3)) (hp : pc + 3 = pc') (q : Run p.tables e below P T (mkF m pc' Ls (.null :: st))) : Run p.tables e below P T (mkF m pc Ls (.null :: st)) := by
  subst hp; exact Run.of (X.1.checkcastNull X.hx (g := mkF m pc Ls (.null :: st)) rfl rfl (hb X.hby hd)) q
theorem k_instNull (X : WP p l e R s m args below meth c Z own mname bytes maxL ret n0 Inv Sf T h locs cells slots) {index : Nat} (hd : decode bytes pc = .ok (.instanceof index, 3)) (hp : pc + 3 = pc') (q : Run p.tables e below P T (mkF m pc' Ls (.int 0 :: st))) : Run p.tables e below P T (mkF m pc Ls (.null :: st)) := by
  subst hp; exact Run.of (X.1.instanceofNull X.hx (g := mkF m pc Ls (.null :: st)) rfl rfl (hb X.hby hd)) q
theorem k_clone (X : WP p l e R s m args below meth c Z own mname bytes maxL ret n0 Inv Sf T h locs cells slots) {ad : String} {index W cap : Nat} {a : Addr} {k : ClassId} {ty : FieldType} {z : Int32} {vs : List Value} {d : Value} (hd : decode bytes pc = .ok (.invokevirtual index, 3)) (w1 : (Cond.methodLink own index ⟨ad, "clone", "()Ljava/lang/Object;"⟩).before a0 Z = true) (w2 : (Cond.sameMethod ad "java/lang/Object" "clone" "()Ljava/lang/Object;").before a0 Z = true) (w3 : (Cond.native ⟨"java/lang/Object", "clone", "()Ljava/lang/Object;"⟩).before a0 Z = true)
    (w4 : (Cond.instanceMethod ⟨"java/lang/Object", "clone", "()Ljava/lang/Object;"⟩).before a0 Z = true) (w5 : (Cond.selects ad ⟨ad, "clone", "()Ljava/lang/Object;"⟩ ⟨"java/lang/Object", "clone", "()Ljava/lang/Object;"⟩).before a0 Z = true) (w6 : (Cond.castable ad "java/lang/Cloneable").before a0 Z = true) (F : Arv Z h a k ty z vs d) (E : Exa Z h a ad) (hsz : Ls.size = maxL)
    (hf : 1 ≤ R.frames) (hW : (st.map fun v => v.category).sum ≤ W) (hl : W + 14 ≤ R.locals) (hcap : z.toNatClampNeg ≤ cap) (hc : cells + 1 ≤ R.cells) (hsl : slots + cap ≤ R.slots) (hp : pc + 3 = pc')
    (q : ∀ T' h' (b : Nat), b = h.size → WP p l e R s m args below meth c Z own mname bytes maxL ret n0 Inv Sf T' h' locs (cells + 1) (slots + cap) → Keep h h' [] → Arv Z h' b k ty z vs d → Exa Z h' b ad → Sf h' b → b < h'.size → n0 ≤ b → Run p.tables e below P T' (mkF m pc' Ls (.ref b :: st))) : Run p.tables e below P T (mkF m pc Ls (.ref a :: st)) := by
  subst hp
  obtain ⟨T', h', X', e', E', A', B', kk⟩ := Jvm.RoadKit.cloneH X.1 X.hx X.hZ X.hown w1 w2 w3 w4 w5 w6 X.eT F.arh E (g := mkF m pc Ls (.ref a :: st)) rfl (by rw [X.hml]; exact hsz) rfl (hb X.hby hd) hf (W := W) (by show 2 * 0 + _ ≤ _; omega) hl hcap hc hsl
  have K := ext_keep E'
  exact Run.of kk (q T' h' h.size rfl (X.mv X' e' K (fun _ q => nomatch q) X.fr) K A' B' (X.sf K (fun _ q => nomatch q) (X.sfN (Nat.le_refl _))) (own_n B'.lt) X.n0le)
theorem k_ldcI (X : WP p l e R s m args below meth c Z own mname bytes maxL ret n0 Inv Sf T h locs cells slots) {index : Nat} {v : Int32} (hd : decode bytes pc = .ok (.ldc index, 2)) (w : (Cond.constant own index v).before a0 Z = true) (hp : pc + 2 = pc') (q : Run p.tables e below P T (mkF m pc' Ls (.int v :: st))) : Run p.tables e below P T (mkF m pc Ls st) := by
  subst hp; exact Run.of (X.1.ldcInt X.hx X.hown (mvT X.hZ w) (g := mkF m pc Ls st) rfl (hb X.hby hd)) q
/-- the contract of a body that interns nothing -/
def MetF (l : Launch) (tw : List Jvm.Cond) (Z : State) (n0 : Nat) (y : MethodName) (bytes : ByteArray) (maxL : Nat) (ret : Option FieldType) (rm : Room) (as' : Array Value) (h : Heap) (ws : List Addr) (Q : Option Value → Heap → Prop) : Prop :=
  MetFree l y (head1 (Jvm.Cond.code y bytes maxL ret :: tw) rm) (fun a U => a = as' ∧ Z.Warmed39 U.vm ∧ U.heap = h) (fun _ _ _ _ _ => True) (fun _ U o U' => ∃ v L, o = .returned v ∧ ((Keep h U'.heap ws ∧ Q v U'.heap) ∧ Fr n0 L) ∧ FrameEnd U o U' L rm.cells rm.slots)
/-- its end -/
def PF (s : State) (below : List Frame) (n0 : Nat) (h0 : Heap) (ws : List Addr) (Q : Option Value → Heap → Prop) (k n : Nat) (t : State) : Prop := ∃ o, t.status = .running ∧ Ended t below o ∧ ∃ v L, o = .returned v ∧ ((Keep h0 t.heap ws ∧ Q v t.heap) ∧ Fr n0 L) ∧ FrameEnd s o t L k n
theorem clF (Z : State) : Cl Z (fun _ => True) (fun _ _ => True) := ⟨fun _ _ _ _ _ _ => ⟨trivial, fun _ _ => trivial⟩, fun _ _ _ => trivial, fun _ _ _ _ _ _ => trivial, fun _ _ _ _ _ _ => trivial⟩
theorem MetF.mono {l : Launch} {tw : List Jvm.Cond} {Z : State} {n0 : Nat} {y : MethodName} {bytes : ByteArray} {maxL : Nat} {ret : Option FieldType} {rm : Room} {as' : Array Value} {h : Heap} {ws : List Addr} {Q Q' : Option Value → Heap → Prop} (hM : MetF l tw Z n0 y bytes maxL ret rm as' h ws Q) (hq : ∀ r h', Q r h' → Q' r h') : MetF l tw Z n0 y bytes maxL ret rm as' h ws Q' := by
  intro p e ha hc hk s m args below hf happ hP hK
  obtain ⟨n, o, r1, r2, r3, v, L, e1, ⟨⟨K, q⟩, N⟩, r4⟩ := hM p e ha hc hk s m args below hf happ hP hK
  exact ⟨n, o, r1, r2, r3, v, L, e1, ⟨⟨K, hq _ _ q⟩, N⟩, r4⟩
theorem metF {y : MethodName} {bytes : ByteArray} {maxL : Nat} {ret : Option FieldType} {rm : Room} {as' : Array Value} {ws : List Addr} {Q : Option Value → Heap → Prop} {tw : List Jvm.Cond} (hpl : plainFor y = true) (Z0 : Old Z n0 h) {Ls : Array Slot} (hef : ∀ m, entryFrame m as' maxL = mkF m 0 Ls [])
    (body : ∀ p e s m below meth c T, WP p l e rm s m as' below meth c Z y.cls y.name bytes maxL ret n0 (fun _ => True) (fun _ _ => True) T h [] 0 0 → Run p.tables e below (PF s below n0 h ws Q rm.cells rm.slots) T (mkF m 0 Ls [])) : MetF l tw Z n0 y bytes maxL ret rm as' h ws Q := by
  refine MetFree.of_bodySF hpl hisR ?_
  intro p e s m args below meth c s₁ Bd hml0 hP hK
  obtain ⟨rfl, hZ, hh⟩ := hP
  have e0 : s₁.heap = h := by rw [← hh, Bd.state]; rfl
  obtain ⟨t, hs, o, hr, he, hq⟩ := body p e s m below meth c s₁ ⟨Stand.of_body Bd, e0, hZ, findClass_of_methodNamed Bd.named, Fr.nil n0, Z0, trivial, ⟨Bd.exec, Bd.bytes, hml0, Bd.returns, BodyLoose.notSynchronized Bd, (name_of_methodNamed Bd.named Bd.method).1⟩, clF Z⟩
  rw [← hef] at hs
  exact ⟨t, o, hs, hr, he, hq⟩

theorem k_retFI (X : WP p l e R s m args below meth c Z own mname bytes maxL ret n0 Inv Sf T h locs cells slots) {z : Int32} {ws : List Addr} {Q : Option Value → Heap → Prop} {k n : Nat} {h0 : Heap} (hd : decode bytes pc = .ok (.ireturn, 1)) (hr : ret = some .int) (K : Keep h0 h ws) (hQ : Q (some (.int z)) h) (hk : cells ≤ k) (hs : slots ≤ n) : Run p.tables e below (PF s below n0 h0 ws Q k n) T (mkF m pc Ls (.int z :: st)) := by
  have hlk := X.hlk
  obtain ⟨fs, hl, hrun, hended, hW, hsame⟩ := X.1.leave (v := some (.int z)) (fun q => by rw [X.hret, hr] at q; cases q)
  refine ⟨_, Jvm.RoadKit.retI X.1 X.hx (X.hret.trans hr) (hb X.hby hd) hl, _, hrun, hended, _, _, rfl, ⟨⟨?_, ?_⟩, X.fr⟩, ⟨_, rfl⟩, hW, hsame.mono hk hs⟩
  · show Keep h0 T.heap ws; rw [X.eT]; exact K
  · show Q _ T.heap; rw [X.eT]; exact hQ
theorem k_retFN (X : WP p l e R s m args below meth c Z own mname bytes maxL ret n0 Inv Sf T h locs cells slots) {z w : Int32} {ws : List Addr} {Q : Option Value → Heap → Prop} {k n : Nat} {h0 : Heap} (hd : decode bytes pc = .ok (.ireturn, 1)) {t : FieldType} (hr : ret = some t) (ht : t = .boolean ∨ t = .byte ∨ t = .char ∨ t = .short) (hnz : nar t z = w) (K : Keep h0 h ws) (hQ : Q (some (.int w)) h) (hk : cells ≤ k) (hs : slots ≤ n) : Run p.tables e below (PF s below n0 h0 ws Q k n) T (mkF m pc Ls (.int z :: st)) := by
  have hlk := X.hlk
  obtain ⟨fs, hl, hrun, hended, hW, hsame⟩ := X.1.leave (v := some (.int w)) (fun q => by rw [X.hret, hr] at q; cases q)
  refine ⟨_, Jvm.RoadKit.retN X.1 X.hx (X.hret.trans hr) ht (hb X.hby hd) (by rw [hnz]; exact hl), _, hrun, hended, _, _, rfl, ⟨⟨?_, ?_⟩, X.fr⟩, ⟨_, rfl⟩, hW, hsame.mono hk hs⟩
  · show Keep h0 T.heap ws; rw [X.eT]; exact K
  · show Q _ T.heap; rw [X.eT]; exact hQ
theorem k_retFA (X : WP p l e R s m args below meth c Z own mname bytes maxL ret n0 Inv Sf T h locs cells slots) {v : Value} {ws : List Addr} {Q : Option Value → Heap → Prop} {k n : Nat} {h0 : Heap} (hd : decode bytes pc = .ok (.areturn, 1)) {t : FieldType} (hr : ret = some t) (hn : narrow t v = v) (ht : t.isReference = true) (hv : v.isRef = true) (K : Keep h0 h ws) (hQ : Q (some (v)) h) (hk : cells ≤ k) (hs : slots ≤ n) : Run p.tables e below (PF s below n0 h0 ws Q k n) T (mkF m pc Ls (v :: st)) := by
  have hlk := X.hlk
  obtain ⟨fs, hl, hrun, hended, hW, hsame⟩ := X.1.leave (v := some (v)) (fun q => by rw [X.hret, hr] at q; cases q)
  refine ⟨_, Jvm.RoadKit.retOut X.1 X.hx (X.hret.trans hr) hn (Or.inr (Or.inr (Or.inr (Or.inr ⟨rfl, ht, hv⟩)))) (hb X.hby hd) hl, _, hrun, hended, _, _, rfl, ⟨⟨?_, ?_⟩, X.fr⟩, ⟨_, rfl⟩, hW, hsame.mono hk hs⟩
  · show Keep h0 T.heap ws; rw [X.eT]; exact K
  · show Q _ T.heap; rw [X.eT]; exact hQ
theorem k_retFV (X : WP p l e R s m args below meth c Z own mname bytes maxL ret n0 Inv Sf T h locs cells slots) {ws : List Addr} {Q : Option Value → Heap → Prop} {k n : Nat} {h0 : Heap} (hd : decode bytes pc = .ok (.return_, 1)) (hr : ret = none) (K : Keep h0 h ws) (hQ : Q none h) (hk : cells ≤ k) (hs : slots ≤ n) : Run p.tables e below (PF s below n0 h0 ws Q k n) T (mkF m pc Ls []) := by
  have hlk := X.hlk
  obtain ⟨fs, hl, hrun, hended, hW, hsame⟩ := X.1.leave (v := none) (fun _ => rfl)
  refine ⟨_, X.1.returnOut X.hx (X.hret.trans hr) (hb X.hby hd) hl, _, hrun, hended, _, _, rfl, ⟨⟨?_, ?_⟩, X.fr⟩, ⟨_, rfl⟩, hW, hsame.mono hk hs⟩
  · show Keep h0 T.heap ws; rw [X.eT]; exact K
  · show Q _ T.heap; rw [X.eT]; exact hQ
/-- what an interning walk keeps up: the literals of EL say their text -/
def InvH (Z : State) (a0 : Array Value) (EL : List (String × Nat)) (s0 : State) (v : Vm) (h : Heap) : Prop := EW Z a0 EL ∧ Z.Warmed39 v ∧ (∃ k0, s0.Since v k0 ∧ k0 ≤ h.size) ∧ CHr Z EL s0.vm s0.heap v h
theorem clH {EL : List (String × Nat)} {s0 : State} {v : Vm} (hal : Z.vm.Alike v) : Cl Z (InvH Z a0 EL s0 v) (Safe Z EL v) :=
  ⟨fun h h' ws K hs I => ⟨⟨I.1, I.2.1, by obtain ⟨k0, a, b⟩ := I.2.2.1; exact ⟨k0, a, Nat.le_trans b K.1⟩, I.2.2.2.trans (CHr.keep K hs I.2.2.2.1)⟩, fun x q => Safe.keep K hs I.2.2.2.1 q⟩, fun h x q => Safe.new q, fun h x C E h1 h2 => Safe.exa hal E h1 h2, fun h x c ty A ht => Safe.arr hal A ht⟩
/-- the contract of a body that may load literals -/
def MetH (l : Launch) (tw : List Jvm.Cond) (Z : State) (EL : List (String × Nat)) (n0 : Nat) (y : MethodName) (bytes : ByteArray) (maxL : Nat) (ret : Option FieldType) (rm : Room) (as' : Array Value) (h : Heap) (ws : List Addr) (Q : Option Value → Vm → Heap → Prop) : Prop :=
  MetFree l y (head1 (Jvm.Cond.code y bytes maxL ret :: tw) rm) (fun a U => a = as' ∧ Z.Warmed39 U.vm ∧ U.heap = h ∧ CHv Z EL U.vm h ∧ ∀ x ∈ ws, Safe Z EL U.vm h x) (fun _ _ _ _ _ => True)
    (fun _ U o U' => ∃ v L, o = .returned v ∧ ((Keep h U'.heap ws ∧ Q v U'.vm U'.heap) ∧ Fr n0 L) ∧ CHr Z EL U.vm U.heap U'.vm U'.heap ∧ ReturnedEndW U o U' L rm.cells rm.slots)
def PH (Z : State) (EL : List (String × Nat)) (s : State) (below : List Frame) (n0 : Nat) (h0 : Heap) (ws : List Addr) (Q : Option Value → Vm → Heap → Prop) (k n : Nat) (t : State) : Prop := ∃ o, t.status = .running ∧ Ended t below o ∧ ∃ v L, o = .returned v ∧ ((Keep h0 t.heap ws ∧ Q v t.vm t.heap) ∧ Fr n0 L) ∧ CHr Z EL s.vm s.heap t.vm t.heap ∧ ReturnedEndW s o t L k n
theorem metH {EL : List (String × Nat)} {y : MethodName} {bytes : ByteArray} {maxL : Nat} {ret : Option FieldType} {rm : Room} {as' : Array Value} {ws : List Addr} {Q : Option Value → Vm → Heap → Prop} {tw : List Jvm.Cond} (hEL : EW Z a0 EL) (hpl : plainFor y = true) (Z0 : Old Z n0 h) {Ls : Array Slot} (hef : ∀ m, entryFrame m as' maxL = mkF m 0 Ls [])
    (body : ∀ p e s m below meth c T v, WP p l e rm (s.setVm v) m as' below meth c Z y.cls y.name bytes maxL ret n0 (InvH Z a0 EL s v) (Safe Z EL v) T h [] 0 0 → (∀ x ∈ ws, Safe Z EL v h x) → Run p.tables e below (PH Z EL s below n0 h ws Q rm.cells rm.slots) T (mkF m 0 Ls [])) : MetH l tw Z EL n0 y bytes maxL ret rm as' h ws Q := by
  refine MetFree.of_bodySF hpl hisR ?_
  intro p e s m args below meth c s₁ Bd hml0 hP hK
  obtain ⟨rfl, hZ, hh, hC, hS⟩ := hP
  have e0 : s₁.heap = h := by rw [← hh, Bd.state]; rfl
  have I : InvH Z a0 EL s s.vm h := ⟨hEL, hZ, ⟨s.heap.size, (State.WarmedH.refl s).since _, by rw [hh]; exact Nat.le_refl _⟩, by rw [hh]; exact CHr.refl hC⟩
  obtain ⟨t, hs, o, hr, he, hq⟩ := body p e s m below meth c s₁ s.vm ⟨Stand.of_body Bd, e0, hZ, findClass_of_methodNamed Bd.named, Fr.nil n0, Z0, I, ⟨Bd.exec, Bd.bytes, hml0, Bd.returns, BodyLoose.notSynchronized Bd, (name_of_methodNamed Bd.named Bd.method).1⟩, clH hZ.alike⟩ hS
  rw [← hef] at hs
  exact ⟨t, o, hs, hr, he, hq⟩

theorem k_retHI {EL : List (String × Nat)} {v : Vm} (X : WP p l e R (s.setVm v) m args below meth c Z own mname bytes maxL ret n0 (InvH Z a0 EL s v) (Safe Z EL v) T h locs cells slots) {z : Int32} {ws : List Addr} {Q : Option Value → Vm → Heap → Prop} {k n : Nat} {h0 : Heap} (hd : decode bytes pc = .ok (.ireturn, 1)) (hr : ret = some .int) (K : Keep h0 h ws) (hQ : ∀ v', CHr Z EL v h v' h → Q (some (.int z)) v' h) (hk : cells ≤ k) (hs : slots ≤ n) : Run p.tables e below (PH Z EL s below n0 h0 ws Q k n) T (mkF m pc Ls (.int z :: st)) := by
  have hlk := X.hlk
  obtain ⟨hEL, hWv, ⟨k0, hS, hk0⟩, hC⟩ := X.inv
  obtain ⟨fs, hl, hrun, hended, hRW⟩ := X.1.leaveW hS (by rw [X.eT]; exact hk0) (v := some (.int z)) (fun q => by rw [X.hret, hr] at q; cases q)
  have hC' : CHr Z EL v h T.vm h := CHv.at X.1 hWv hEL hC.1
  refine ⟨_, Jvm.RoadKit.retI X.1 X.hx (X.hret.trans hr) (hb X.hby hd) hl, _, hrun, hended, _, _, rfl, ⟨⟨?_, ?_⟩, X.fr⟩, ?_, hRW.1, hRW.2.1, hRW.2.2.1, hRW.2.2.2.mono hk hs⟩
  · show Keep h0 T.heap ws; rw [X.eT]; exact K
  · show Q _ T.vm T.heap; rw [X.eT]; exact hQ _ hC'
  · show CHr Z EL s.vm s.heap T.vm T.heap; rw [X.eT]; exact hC.trans hC'
theorem k_retHN {EL : List (String × Nat)} {v : Vm} (X : WP p l e R (s.setVm v) m args below meth c Z own mname bytes maxL ret n0 (InvH Z a0 EL s v) (Safe Z EL v) T h locs cells slots) {z w : Int32} {ws : List Addr} {Q : Option Value → Vm → Heap → Prop} {k n : Nat} {h0 : Heap} (hd : decode bytes pc = .ok (.ireturn, 1)) {t : FieldType} (hr : ret = some t) (ht : t = .boolean ∨ t = .byte ∨ t = .char ∨ t = .short) (hnz : nar t z = w) (K : Keep h0 h ws) (hQ : ∀ v', CHr Z EL v h v' h → Q (some (.int w)) v' h) (hk : cells ≤ k) (hs : slots ≤ n) : Run p.tables e below (PH Z EL s below n0 h0 ws Q k n) T (mkF m pc Ls (.int z :: st)) := by
  have hlk := X.hlk
  obtain ⟨hEL, hWv, ⟨k0, hS, hk0⟩, hC⟩ := X.inv
  obtain ⟨fs, hl, hrun, hended, hRW⟩ := X.1.leaveW hS (by rw [X.eT]; exact hk0) (v := some (.int w)) (fun q => by rw [X.hret, hr] at q; cases q)
  have hC' : CHr Z EL v h T.vm h := CHv.at X.1 hWv hEL hC.1
  refine ⟨_, Jvm.RoadKit.retN X.1 X.hx (X.hret.trans hr) ht (hb X.hby hd) (by rw [hnz]; exact hl), _, hrun, hended, _, _, rfl, ⟨⟨?_, ?_⟩, X.fr⟩, ?_, hRW.1, hRW.2.1, hRW.2.2.1, hRW.2.2.2.mono hk hs⟩
  · show Keep h0 T.heap ws; rw [X.eT]; exact K
  · show Q _ T.vm T.heap; rw [X.eT]; exact hQ _ hC'
  · show CHr Z EL s.vm s.heap T.vm T.heap; rw [X.eT]; exact hC.trans hC'
theorem k_retHA {EL : List (String × Nat)} {v : Vm} (X : WP p l e R (s.setVm v) m args below meth c Z own mname bytes maxL ret n0 (InvH Z a0 EL s v) (Safe Z EL v) T h locs cells slots) {x : Value} {ws : List Addr} {Q : Option Value → Vm → Heap → Prop} {k n : Nat} {h0 : Heap} (hd : decode bytes pc = .ok (.areturn, 1)) {t : FieldType} (hr : ret = some t) (hn : narrow t x = x) (ht : t.isReference = true) (hv : x.isRef = true) (K : Keep h0 h ws) (hQ : ∀ v', CHr Z EL v h v' h → Q (some (x)) v' h) (hk : cells ≤ k) (hs : slots ≤ n) : Run p.tables e below (PH Z EL s below n0 h0 ws Q k n) T (mkF m pc Ls (x :: st)) := by
  have hlk := X.hlk
  obtain ⟨hEL, hWv, ⟨k0, hS, hk0⟩, hC⟩ := X.inv
  obtain ⟨fs, hl, hrun, hended, hRW⟩ := X.1.leaveW hS (by rw [X.eT]; exact hk0) (v := some (x)) (fun q => by rw [X.hret, hr] at q; cases q)
  have hC' : CHr Z EL v h T.vm h := CHv.at X.1 hWv hEL hC.1
  refine ⟨_, Jvm.RoadKit.retOut X.1 X.hx (X.hret.trans hr) hn (Or.inr (Or.inr (Or.inr (Or.inr ⟨rfl, ht, hv⟩)))) (hb X.hby hd) hl, _, hrun, hended, _, _, rfl, ⟨⟨?_, ?_⟩, X.fr⟩, ?_, hRW.1, hRW.2.1, hRW.2.2.1, hRW.2.2.2.mono hk hs⟩
  · show Keep h0 T.heap ws; rw [X.eT]; exact K
  · show Q _ T.vm T.heap; rw [X.eT]; exact hQ _ hC'
  · show CHr Z EL s.vm s.heap T.vm T.heap; rw [X.eT]; exact hC.trans hC'
theorem k_retHV {EL : List (String × Nat)} {v : Vm} (X : WP p l e R (s.setVm v) m args below meth c Z own mname bytes maxL ret n0 (InvH Z a0 EL s v) (Safe Z EL v) T h locs cells slots) {ws : List Addr} {Q : Option Value → Vm → Heap → Prop} {k n : Nat} {h0 : Heap} (hd : decode bytes pc = .ok (.return_, 1)) (hr : ret = none) (K : Keep h0 h ws) (hQ : ∀ v', CHr Z EL v h v' h → Q none v' h) (hk : cells ≤ k) (hs : slots ≤ n) : Run p.tables e below (PH Z EL s below n0 h0 ws Q k n) T (mkF m pc Ls []) := by
  have hlk := X.hlk
  obtain ⟨hEL, hWv, ⟨k0, hS, hk0⟩, hC⟩ := X.inv
  obtain ⟨fs, hl, hrun, hended, hRW⟩ := X.1.leaveW hS (by rw [X.eT]; exact hk0) (v := none) (fun _ => rfl)
  have hC' : CHr Z EL v h T.vm h := CHv.at X.1 hWv hEL hC.1
  refine ⟨_, X.1.returnOut X.hx (X.hret.trans hr) (hb X.hby hd) hl, _, hrun, hended, _, _, rfl, ⟨⟨?_, ?_⟩, X.fr⟩, ?_, hRW.1, hRW.2.1, hRW.2.2.1, hRW.2.2.2.mono hk hs⟩
  · show Keep h0 T.heap ws; rw [X.eT]; exact K
  · show Q _ T.vm T.heap; rw [X.eT]; exact hQ _ hC'
  · show CHr Z EL s.vm s.heap T.vm T.heap; rw [X.eT]; exact hC.trans hC'
theorem WP.reH {EL : List (String × Nat)} {v : Vm} (X : WP p l e R (s.setVm v) m args below meth c Z own mname bytes maxL ret n0 (InvH Z a0 EL s v) (Safe Z EL v) T h locs cells slots) {v' : Vm} {T' : State} {h' : Heap} {locs' : List Loc} {cells' slots' : Nat} (X' : Stand p l e R (s.setVm v') m args below meth c T' locs' cells' slots') (e' : T'.heap = h') {ws : List Addr} (K : Keep h h' ws) {k1 : Nat} (hS : s.Since v' k1) (hk : k1 ≤ h'.size) (hW : Z.Warmed39 v') (ho : v'.findClass own = some m.cls) (hC : CHr Z EL v h v' h') (hge : ∀ x ∈ ws, n0 ≤ x) (N : Fr n0 locs') : WP p l e R (s.setVm v') m args below meth c Z own mname bytes maxL ret n0 (InvH Z a0 EL s v') (Safe Z EL v') T' h' locs' cells' slots' :=
  ⟨X', e', hW, ho, N, X.old.keep K hge, ⟨X.inv.1, hW, ⟨k1, hS, hk⟩, X.inv.2.2.2.trans hC⟩, X.2.2.2.2.2.2.2.1, clH hW.alike⟩
theorem k_ldcO {EL : List (String × Nat)} {v : Vm} (X : WP p l e R (s.setVm v) m args below meth c Z own mname bytes maxL ret n0 (InvH Z a0 EL s v) (Safe Z EL v) T h locs cells slots) {text : String} {index n : Nat} (hd : decode bytes pc = .ok (.ldc index, 2)) (w : (Cond.stringLink own index text).before a0 Z = true) (wS : ∀ a ∈ Bundle.stringAtoms, a.before a0 Z = true) (hn : 4 * text.toList.length ≤ n) (hbig : n ≤ 536870912) (hc : cells + 2 ≤ R.cells) (hl : slots + (n + 4) ≤ R.slots) (hp : pc + 2 = pc')
    (q : ∀ a v' T' h', WP p l e R (s.setVm v') m args below meth c Z own mname bytes maxL ret n0 (InvH Z a0 EL s v') (Safe Z EL v') T' h' locs (cells + 2) (slots + (n + 4)) → Keep h h' [] → CHr Z EL v h v' h' → Run p.tables e below P T' (mkF m pc' Ls (.ref a :: st))) : Run p.tables e below P T (mkF m pc Ls st) := by
  subst hp
  obtain ⟨hEL, hWv, ⟨k0, hS, hk0⟩, hC⟩ := X.inv
  obtain ⟨a, T', h', k1, X', e', E, hS', hk1, hZ', ho', hC', -, k⟩ := ldcOH X.1 X.hx hWv X.hown w wS X.eT hS hk0 hEL hC.1 (g := mkF m pc Ls st) rfl (hb X.hby hd) hn hbig hc hl
  have K := ext_keep E
  exact Run.of k (q a T'.vm T' h' (X.reH X' e' K hS' hk1 hZ' ho' hC' (fun _ q => nomatch q) X.fr) K hC')
theorem k_ldcR {EL : List (String × Nat)} {v : Vm} (X : WP p l e R (s.setVm v) m args below meth c Z own mname bytes maxL ret n0 (InvH Z a0 EL s v) (Safe Z EL v) T h locs cells slots) {text : String} {index n : Nat} (hd : decode bytes pc = .ok (.ldc index, 2)) (w : (Cond.stringLink own index text).before a0 Z = true) (wS : ∀ a ∈ Bundle.stringAtoms, a.before a0 Z = true) (hmem : (own, index) ∈ EL) {vs : List Value} {z : Int32} (ht : (∀ c ∈ text.toList, c.toNat < 256) ∧ text.toList.map (fun c => Value.int (Jvm.Lit.byteI c.toNat.toUInt16)) = vs) (hz : ¬ z < 0) (hlv : z.toNatClampNeg = vs.length)
    (hn : 4 * text.toList.length ≤ n) (hbig : n ≤ 536870912) (hc : cells + 2 ≤ R.cells) (hl : slots + (n + 4) ≤ R.slots) (hp : pc + 2 = pc')
    (q : ∀ a b kb v' T' h', WP p l e R (s.setVm v') m args below meth c Z own mname bytes maxL ret n0 (InvH Z a0 EL s v') (Safe Z EL v') T' h' locs (cells + 2) (slots + (n + 4)) → Keep h h' [] → CHr Z EL v h v' h' → Exa Z h' a "java/lang/String" → Fld Z h' a "java/lang/String" "coder" "B" (.int 0) → Fld Z h' a "java/lang/String" "value" "[B" (.ref b) → Arv Z h' b kb .byte z vs (.int 0) → (∀ x, Safe Z EL v' h' x → x ≠ a ∧ x ≠ b) → Run p.tables e below P T' (mkF m pc' Ls (.ref a :: st))) : Run p.tables e below P T (mkF m pc Ls st) := by
  subst hp
  obtain ⟨hEL, hWv, ⟨k0, hS, hk0⟩, hC⟩ := X.inv
  obtain ⟨a, T', h', k1, b, kb, X', e', E, hS', hk1, hZ', ho', A, F1, F2, V, -, -, hC', -, hne, k⟩ := ldcCH X.1 X.hx hWv X.hown w wS X.eT hS hk0 hEL hmem hC.1 ht hz hlv (g := mkF m pc Ls st) rfl (hb X.hby hd) hn hbig hc hl
  have K := ext_keep E
  exact Run.of k (q a b kb T'.vm T' h' (X.reH X' e' K hS' hk1 hZ' ho' hC' (fun _ q => nomatch q) X.fr) K hC' A F1 F2 V hne)
theorem backH {EL : List (String × Nat)} {v : Vm} {y : MethodName} {bytes : ByteArray} {maxL : Nat} {ret : Option FieldType} {rm : Room} {len W : Nat} {as' : Array Value} {ws : List Addr} {Q : Option Value → Vm → Heap → Prop}
    (hM : MetH l [] Z EL n0 y bytes maxL ret rm as' h ws Q) (hZ : Z.Warmed39 v) (wc : (Cond.code y bytes maxL ret).before a0 Z = true) (wz : (Cond.initialized y.cls).before a0 Z = true) (hf : rm.frames + 1 ≤ R.frames) (hl : W + (maxL + 11) + rm.locals ≤ R.locals) (hEL : EW Z a0 EL) (H : CHv Z EL v h) (hs : ∀ x ∈ ws, x < h.size ∧ Safe Z EL v h x) :
    BackS l R p e below (s.setVm v) args y len W (fun A a => a = as' ∧ A.U.heap = h ∧ A.cells + rm.cells ≤ R.cells ∧ A.slots + rm.slots ≤ R.slots)
      (fun A _ r B => ∃ L, ((Keep h B.U.heap ws ∧ Q r B.U.vm B.U.heap) ∧ Fr n0 L) ∧ B.locs = A.locs ++ L ∧ B.cells = A.cells + rm.cells ∧ B.slots = A.slots + rm.slots ∧ CHr Z EL v h B.U.vm B.U.heap) :=
  BackS.of_freeW (bytes := bytes) (maxL := maxL) (ret := ret) (E := fun _ first o t L k n => k = rm.cells ∧ n = rm.slots ∧ (∃ r, o = .returned r ∧ ((Keep h t.heap ws ∧ Q r t.vm t.heap) ∧ Fr n0 L)) ∧ CHr Z EL first.vm first.heap t.vm t.heap) hM hf hl
    (fun m meth c A a Y hp => have hU : Z.Warmed39 A.U.vm := wtrans (s := s.setVm v) hZ Y.warmed
      ⟨by show (Cond.and _ .tt).before a A.U = true; rw [Cond.before_and, Jvm.RoadKit.mv hU wc]; rfl, Jvm.RoadKit.mv hU wc, Jvm.RoadKit.mv hU wz, hp.2.2.1, hp.2.2.2⟩)
    (fun m meth c A a g mk Y hp => ⟨hp.1, wtrans (s := s.setVm v) hZ Y.warmed, hp.2.1, (CHv.at Y hZ hEL H).1, fun x hx => (CHv.at Y hZ hEL H).safe (hs x hx).1 (hs x hx).2⟩) (fun _ _ _ _ _ _ _ _ _ => trivial)
    (fun _ _ _ _ ⟨r, L, h1, h2, h3, h4⟩ => ⟨L, _, _, h4, rfl, rfl, ⟨r, h1, h2⟩, h3⟩)
    (fun m meth c A a g mk r t L k n Y hp _ _ ⟨e1, e2, ⟨r', e3, e4⟩, e5⟩ => by
      cases e3; subst e1 e2
      refine ⟨L, e4, rfl, rfl, rfl, (CHv.at Y hZ hEL H).trans ?_⟩
      rw [← hp.2.1]; exact e5)
theorem k_callSVF (X : WP p l e R s m args below meth c Z own mname bytes maxL ret n0 Inv Sf T h locs cells slots) {y : MethodName} {index W : Nat} {bytes' : ByteArray} {maxL' : Nat} {ret' : Option FieldType} {rm : Room} {ws : List Addr} {Q : Value → Heap → Prop}  {argsL rest stk : List Value} {ps : List FieldType} {rt : Option FieldType} (hd : decode bytes pc = .ok (.invokestatic index, 3)) (w1 : (Cond.methodLink own index y).before a0 Z = true) (w2 : (Cond.static y).before a0 Z = true) (wz : (Cond.initialized y.cls).before a0 Z = true) (wc : (Cond.code y bytes' maxL' ret').before a0 Z = true) (hy : y.cls ≠ "java/lang/invoke/MethodHandle" ∧ y.cls ≠ "java/lang/invoke/VarHandle")  (hM : MetF l [] Z n0 y bytes' maxL' ret' rm argsL.toArray h ws (fun r h' => ∃ w, r = some w ∧ Q w h')) (hstk : stk = argsL.reverse ++ rest) (hpd : parseMethodDescriptor y.desc = some ⟨ps, rt⟩) (hlen : argsL.length = ps.length) (hsz : Ls.size = maxL) (hfr : rm.frames + 1 ≤ R.frames) (hW : (rest.map fun v => v.category).sum ≤ W) (hlo : W + (maxL' + 11) + rm.locals ≤ R.locals) (hc : cells + rm.cells ≤ R.cells) (hs : slots + rm.slots ≤ R.slots) (hsf : ∀ x ∈ ws, Sf h x ∧ n0 ≤ x) (hp : pc + 3 = pc')
    (q : ∀ w T' h' L', WP p l e R s m args below meth c Z own mname bytes maxL ret n0 Inv Sf T' h' L' (cells + rm.cells) (slots + rm.slots) → Keep h h' ws → Q w h' → Run p.tables e below P T' (mkF m pc' Ls (w :: rest))) : Run p.tables e below P T (mkF m pc Ls stk) := by
  subst hp
  have bk := backOf (R := R) (p := p) (e := e) (below := below) (args := args) (len := 3) (W := W) (Q := fun r h' L => (Keep h h' ws ∧ (fun r h' => ∃ w, r = some w ∧ Q w h') r h') ∧ Fr n0 L) hM X.hZ wc wz hfr hlo
  obtain ⟨r, _, ⟨T', L', k', n'⟩, -, X', ⟨Lc, hQ, l1, l2, l3⟩, kk⟩ := Jvm.LawKit.callS X.1 X.hx (y := y) X.hown (mvT X.hZ w1) (mvT X.hZ w2) (mvT X.hZ wz) (mvT X.hZ wc) hy bk (g := mkF m pc Ls stk) rfl (by rw [X.hml]; exact hsz) (argsL := argsL) (rest := rest) (lenOf hpd hlen) hstk (by show 2 * 0 + _ ≤ _; omega) (hb X.hby hd) (fun _ _ => ⟨rfl, X.eT, hc, hs⟩)
  dsimp only [Pt.U, Pt.locs, Pt.cells, Pt.slots] at X' l1 l2 l3 kk hQ
  subst l1 l2 l3
  obtain ⟨⟨K, w, rfl, hQ⟩, N⟩ := hQ
  exact Run.of kk (q _ _ _ _ (X.mv X' rfl K hsf (X.fr.app N)) K hQ)
theorem k_callSNF (X : WP p l e R s m args below meth c Z own mname bytes maxL ret n0 Inv Sf T h locs cells slots) {y : MethodName} {index W : Nat} {bytes' : ByteArray} {maxL' : Nat} {ret' : Option FieldType} {rm : Room} {ws : List Addr} {Q : Heap → Prop}  {argsL rest stk : List Value} {ps : List FieldType} {rt : Option FieldType} (hd : decode bytes pc = .ok (.invokestatic index, 3)) (w1 : (Cond.methodLink own index y).before a0 Z = true) (w2 : (Cond.static y).before a0 Z = true) (wz : (Cond.initialized y.cls).before a0 Z = true) (wc : (Cond.code y bytes' maxL' ret').before a0 Z = true) (hy : y.cls ≠ "java/lang/invoke/MethodHandle" ∧ y.cls ≠ "java/lang/invoke/VarHandle")  (hM : MetF l [] Z n0 y bytes' maxL' ret' rm argsL.toArray h ws (fun r h' => r = none ∧ Q h')) (hstk : stk = argsL.reverse ++ rest) (hpd : parseMethodDescriptor y.desc = some ⟨ps, rt⟩) (hlen : argsL.length = ps.length) (hsz : Ls.size = maxL) (hfr : rm.frames + 1 ≤ R.frames) (hW : (rest.map fun v => v.category).sum ≤ W) (hlo : W + (maxL' + 11) + rm.locals ≤ R.locals) (hc : cells + rm.cells ≤ R.cells) (hs : slots + rm.slots ≤ R.slots) (hsf : ∀ x ∈ ws, Sf h x ∧ n0 ≤ x) (hp : pc + 3 = pc')
    (q : ∀ T' h' L', WP p l e R s m args below meth c Z own mname bytes maxL ret n0 Inv Sf T' h' L' (cells + rm.cells) (slots + rm.slots) → Keep h h' ws → Q h' → Run p.tables e below P T' (mkF m pc' Ls (rest))) : Run p.tables e below P T (mkF m pc Ls stk) := by
  subst hp
  have bk := backOf (R := R) (p := p) (e := e) (below := below) (args := args) (len := 3) (W := W) (Q := fun r h' L => (Keep h h' ws ∧ (fun r h' => r = none ∧ Q h') r h') ∧ Fr n0 L) hM X.hZ wc wz hfr hlo
  obtain ⟨r, _, ⟨T', L', k', n'⟩, -, X', ⟨Lc, hQ, l1, l2, l3⟩, kk⟩ := Jvm.LawKit.callS X.1 X.hx (y := y) X.hown (mvT X.hZ w1) (mvT X.hZ w2) (mvT X.hZ wz) (mvT X.hZ wc) hy bk (g := mkF m pc Ls stk) rfl (by rw [X.hml]; exact hsz) (argsL := argsL) (rest := rest) (lenOf hpd hlen) hstk (by show 2 * 0 + _ ≤ _; omega) (hb X.hby hd) (fun _ _ => ⟨rfl, X.eT, hc, hs⟩)
  dsimp only [Pt.U, Pt.locs, Pt.cells, Pt.slots] at X' l1 l2 l3 kk hQ
  subst l1 l2 l3
  obtain ⟨⟨K, rfl, hQ⟩, N⟩ := hQ
  exact Run.of kk (q _ _ _ (X.mv X' rfl K hsf (X.fr.app N)) K hQ)
theorem k_callSVH {EL : List (String × Nat)} {v : Vm} (X : WP p l e R (s.setVm v) m args below meth c Z own mname bytes maxL ret n0 (InvH Z a0 EL s v) (Safe Z EL v) T h locs cells slots) {y : MethodName} {index W : Nat} {bytes' : ByteArray} {maxL' : Nat} {ret' : Option FieldType} {rm : Room} {ws : List Addr} {Q : Value → Vm → Heap → Prop}  {argsL rest stk : List Value} {ps : List FieldType} {rt : Option FieldType} (hd : decode bytes pc = .ok (.invokestatic index, 3)) (w1 : (Cond.methodLink own index y).before a0 Z = true) (w2 : (Cond.static y).before a0 Z = true) (wz : (Cond.initialized y.cls).before a0 Z = true) (wc : (Cond.code y bytes' maxL' ret').before a0 Z = true) (hy : y.cls ≠ "java/lang/invoke/MethodHandle" ∧ y.cls ≠ "java/lang/invoke/VarHandle")  (hM : MetH l [] Z EL n0 y bytes' maxL' ret' rm argsL.toArray h ws (fun r v' h' => ∃ w, r = some w ∧ Q w v' h')) (hstk : stk = argsL.reverse ++ rest) (hpd : parseMethodDescriptor y.desc = some ⟨ps, rt⟩) (hlen : argsL.length = ps.length) (hsz : Ls.size = maxL) (hfr : rm.frames + 1 ≤ R.frames) (hW : (rest.map fun v => v.category).sum ≤ W) (hlo : W + (maxL' + 11) + rm.locals ≤ R.locals) (hc : cells + rm.cells ≤ R.cells) (hs : slots + rm.slots ≤ R.slots) (hsf : ∀ x ∈ ws, (x < h.size ∧ Safe Z EL v h x) ∧ n0 ≤ x) (hp : pc + 3 = pc')
    (q : ∀ w v' T' h' L', WP p l e R (s.setVm v') m args below meth c Z own mname bytes maxL ret n0 (InvH Z a0 EL s v') (Safe Z EL v') T' h' L' (cells + rm.cells) (slots + rm.slots) → Keep h h' ws → CHr Z EL v h v' h' → Q w v' h' → Run p.tables e below P T' (mkF m pc' Ls (w :: rest))) : Run p.tables e below P T (mkF m pc Ls stk) := by
  subst hp
  obtain ⟨hEL, hWv, ⟨k0, hS, hk0⟩, hC⟩ := X.inv
  have bk := backH (R := R) (p := p) (e := e) (below := below) (s := s) (args := args) (len := 3) (W := W) hM hWv wc wz hfr hlo hEL hC.1 (fun x q => (hsf x q).1)
  obtain ⟨r, _, ⟨T', L', k', n'⟩, -, X', hS2, hgr, ⟨Lc, hQ, l1, l2, l3, hC'⟩, kk⟩ := callSS X.1 X.hx (y := y) X.hown (mvT X.hZ w1) (mvT X.hZ w2) (mvT X.hZ wz) (mvT X.hZ wc) hy bk (g := mkF m pc Ls stk) rfl (by rw [X.hml]; exact hsz) (argsL := argsL) (rest := rest) (lenOf hpd hlen) hstk (by show 2 * 0 + _ ≤ _; omega) (hb X.hby hd) (fun _ _ => ⟨rfl, X.eT, hc, hs⟩)
  dsimp only [Pt.U, Pt.locs, Pt.cells, Pt.slots] at X' l1 l2 l3 kk hQ hS2 hgr hC'
  subst l1 l2 l3
  obtain ⟨⟨K, w, rfl, hQ⟩, N⟩ := hQ
  obtain ⟨X2, hS3, hZ2, ho2⟩ := rebS hS (show k0 ≤ T.heap.size by rw [X.eT]; exact hk0) X' hS2 hgr X.hZ X.hown
  exact Run.tr kk (q _ _ _ _ _ (X.reH X2 rfl K hS3 (Nat.le_refl _) hZ2 ho2 hC' (fun x q => (hsf x q).2) (X.fr.app N)) K hC' hQ)
theorem k_callSNH {EL : List (String × Nat)} {v : Vm} (X : WP p l e R (s.setVm v) m args below meth c Z own mname bytes maxL ret n0 (InvH Z a0 EL s v) (Safe Z EL v) T h locs cells slots) {y : MethodName} {index W : Nat} {bytes' : ByteArray} {maxL' : Nat} {ret' : Option FieldType} {rm : Room} {ws : List Addr} {Q : Vm → Heap → Prop}  {argsL rest stk : List Value} {ps : List FieldType} {rt : Option FieldType} (hd : decode bytes pc = .ok (.invokestatic index, 3)) (w1 : (Cond.methodLink own index y).before a0 Z = true) (w2 : (Cond.static y).before a0 Z = true) (wz : (Cond.initialized y.cls).before a0 Z = true) (wc : (Cond.code y bytes' maxL' ret').before a0 Z = true) (hy : y.cls ≠ "java/lang/invoke/MethodHandle" ∧ y.cls ≠ "java/lang/invoke/VarHandle")  (hM : MetH l [] Z EL n0 y bytes' maxL' ret' rm argsL.toArray h ws (fun r v' h' => r = none ∧ Q v' h')) (hstk : stk = argsL.reverse ++ rest) (hpd : parseMethodDescriptor y.desc = some ⟨ps, rt⟩) (hlen : argsL.length = ps.length) (hsz : Ls.size = maxL) (hfr : rm.frames + 1 ≤ R.frames) (hW : (rest.map fun v => v.category).sum ≤ W) (hlo : W + (maxL' + 11) + rm.locals ≤ R.locals) (hc : cells + rm.cells ≤ R.cells) (hs : slots + rm.slots ≤ R.slots) (hsf : ∀ x ∈ ws, (x < h.size ∧ Safe Z EL v h x) ∧ n0 ≤ x) (hp : pc + 3 = pc')
    (q : ∀ v' T' h' L', WP p l e R (s.setVm v') m args below meth c Z own mname bytes maxL ret n0 (InvH Z a0 EL s v') (Safe Z EL v') T' h' L' (cells + rm.cells) (slots + rm.slots) → Keep h h' ws → CHr Z EL v h v' h' → Q v' h' → Run p.tables e below P T' (mkF m pc' Ls (rest))) : Run p.tables e below P T (mkF m pc Ls stk) := by
  subst hp
  obtain ⟨hEL, hWv, ⟨k0, hS, hk0⟩, hC⟩ := X.inv
  have bk := backH (R := R) (p := p) (e := e) (below := below) (s := s) (args := args) (len := 3) (W := W) hM hWv wc wz hfr hlo hEL hC.1 (fun x q => (hsf x q).1)
  obtain ⟨r, _, ⟨T', L', k', n'⟩, -, X', hS2, hgr, ⟨Lc, hQ, l1, l2, l3, hC'⟩, kk⟩ := callSS X.1 X.hx (y := y) X.hown (mvT X.hZ w1) (mvT X.hZ w2) (mvT X.hZ wz) (mvT X.hZ wc) hy bk (g := mkF m pc Ls stk) rfl (by rw [X.hml]; exact hsz) (argsL := argsL) (rest := rest) (lenOf hpd hlen) hstk (by show 2 * 0 + _ ≤ _; omega) (hb X.hby hd) (fun _ _ => ⟨rfl, X.eT, hc, hs⟩)
  dsimp only [Pt.U, Pt.locs, Pt.cells, Pt.slots] at X' l1 l2 l3 kk hQ hS2 hgr hC'
  subst l1 l2 l3
  obtain ⟨⟨K, rfl, hQ⟩, N⟩ := hQ
  obtain ⟨X2, hS3, hZ2, ho2⟩ := rebS hS (show k0 ≤ T.heap.size by rw [X.eT]; exact hk0) X' hS2 hgr X.hZ X.hown
  exact Run.tr kk (q _ _ _ _ (X.reH X2 rfl K hS3 (Nat.le_refl _) hZ2 ho2 hC' (fun x q => (hsf x q).2) (X.fr.app N)) K hC' hQ)
theorem k_callPNF (X : WP p l e R s m args below meth c Z own mname bytes maxL ret n0 Inv Sf T h locs cells slots) {y : MethodName} {index W : Nat} {bytes' : ByteArray} {maxL' : Nat} {ret' : Option FieldType} {rm : Room} {ws : List Addr} {Q : Heap → Prop} {a : Addr} {argsL rest stk : List Value} {ps : List FieldType} {rt : Option FieldType} (hd : decode bytes pc = .ok (.invokespecial index, 3)) (w1 : (Cond.methodLink own index y).before a0 Z = true) (w2 : (Cond.instanceMethod y).before a0 Z = true) (wz : (Cond.initialized y.cls).before a0 Z = true) (wc : (Cond.code y bytes' maxL' ret').before a0 Z = true) (hy : y.cls ≠ "java/lang/invoke/MethodHandle" ∧ y.cls ≠ "java/lang/invoke/VarHandle") (hin : y.name = "<init>") (hrn : ret' = none) (hM : MetF l [] Z n0 y bytes' maxL' ret' rm (.ref a :: argsL).toArray h ws (fun r h' => r = none ∧ Q h')) (hstk : stk = argsL.reverse ++ .ref a :: rest) (hpd : parseMethodDescriptor y.desc = some ⟨ps, rt⟩) (hlen : argsL.length = ps.length) (hsz : Ls.size = maxL) (hfr : rm.frames + 1 ≤ R.frames) (hW : (rest.map fun v => v.category).sum ≤ W) (hlo : W + (maxL' + 11) + rm.locals ≤ R.locals) (hc : cells + rm.cells ≤ R.cells) (hs : slots + rm.slots ≤ R.slots) (hsf : ∀ x ∈ ws, Sf h x ∧ n0 ≤ x) (hp : pc + 3 = pc')
    (q : ∀ T' h' L', WP p l e R s m args below meth c Z own mname bytes maxL ret n0 Inv Sf T' h' L' (cells + rm.cells) (slots + rm.slots) → Keep h h' ws → Q h' → Run p.tables e below P T' (mkF m pc' Ls (rest))) : Run p.tables e below P T (mkF m pc Ls stk) := by
  subst hp
  have bk := backOf (R := R) (p := p) (e := e) (below := below) (args := args) (len := 3) (W := W) (Q := fun r h' L => (Keep h h' ws ∧ (fun r h' => r = none ∧ Q h') r h') ∧ Fr n0 L) hM X.hZ wc wz hfr hlo
  obtain ⟨r, _, ⟨T', L', k', n'⟩, -, X', ⟨Lc, hQ, l1, l2, l3⟩, kk⟩ := X.1.specialBack X.hx (y := y) hin X.hown (mvT X.hZ w1) (mvT X.hZ w2) (bytes := bytes') (maxL := maxL') (mvT X.hZ (hrn ▸ wc)) hy bk (g := mkF m pc Ls stk) rfl (by rw [X.hml]; exact hsz) (Steps.refl _) (a := a) (argsL := argsL) (rest := rest) (lenOf hpd hlen) hstk (by show 2 * 0 + _ ≤ _; omega) (hb X.hby hd) (fun _ _ => ⟨rfl, X.eT, hc, hs⟩)
  dsimp only [Pt.U, Pt.locs, Pt.cells, Pt.slots] at X' l1 l2 l3 kk hQ
  subst l1 l2 l3
  obtain ⟨⟨K, rfl, hQ⟩, N⟩ := hQ
  exact Run.tr kk (q _ _ _ (X.mv X' rfl K hsf (X.fr.app N)) K hQ)
theorem k_callPNH {EL : List (String × Nat)} {v : Vm} (X : WP p l e R (s.setVm v) m args below meth c Z own mname bytes maxL ret n0 (InvH Z a0 EL s v) (Safe Z EL v) T h locs cells slots) {y : MethodName} {index W : Nat} {bytes' : ByteArray} {maxL' : Nat} {ret' : Option FieldType} {rm : Room} {ws : List Addr} {Q : Vm → Heap → Prop} {a : Addr} {argsL rest stk : List Value} {ps : List FieldType} {rt : Option FieldType} (hd : decode bytes pc = .ok (.invokespecial index, 3)) (w1 : (Cond.methodLink own index y).before a0 Z = true) (w2 : (Cond.instanceMethod y).before a0 Z = true) (wz : (Cond.initialized y.cls).before a0 Z = true) (wc : (Cond.code y bytes' maxL' ret').before a0 Z = true) (hy : y.cls ≠ "java/lang/invoke/MethodHandle" ∧ y.cls ≠ "java/lang/invoke/VarHandle") (hin : y.name = "<init>") (hrn : ret' = none) (hM : MetH l [] Z EL n0 y bytes' maxL' ret' rm (.ref a :: argsL).toArray h ws (fun r v' h' => r = none ∧ Q v' h')) (hstk : stk = argsL.reverse ++ .ref a :: rest) (hpd : parseMethodDescriptor y.desc = some ⟨ps, rt⟩) (hlen : argsL.length = ps.length) (hsz : Ls.size = maxL) (hfr : rm.frames + 1 ≤ R.frames) (hW : (rest.map fun v => v.category).sum ≤ W) (hlo : W + (maxL' + 11) + rm.locals ≤ R.locals) (hc : cells + rm.cells ≤ R.cells) (hs : slots + rm.slots ≤ R.slots) (hsf : ∀ x ∈ ws, (x < h.size ∧ Safe Z EL v h x) ∧ n0 ≤ x) (hp : pc + 3 = pc')
    (q : ∀ v' T' h' L', WP p l e R (s.setVm v') m args below meth c Z own mname bytes maxL ret n0 (InvH Z a0 EL s v') (Safe Z EL v') T' h' L' (cells + rm.cells) (slots + rm.slots) → Keep h h' ws → CHr Z EL v h v' h' → Q v' h' → Run p.tables e below P T' (mkF m pc' Ls (rest))) : Run p.tables e below P T (mkF m pc Ls stk) := by
  subst hp
  obtain ⟨hEL, hWv, ⟨k0, hS, hk0⟩, hC⟩ := X.inv
  have bk := backH (R := R) (p := p) (e := e) (below := below) (s := s) (args := args) (len := 3) (W := W) hM hWv wc wz hfr hlo hEL hC.1 (fun x q => (hsf x q).1)
  obtain ⟨r, _, ⟨T', L', k', n'⟩, -, X', hS2, hgr, ⟨Lc, hQ, l1, l2, l3, hC'⟩, kk⟩ := X.1.specialBackS X.hx (y := y) hin X.hown (mvT X.hZ w1) (mvT X.hZ w2) (bytes := bytes') (maxL := maxL') (mvT X.hZ (hrn ▸ wc)) hy bk (g := mkF m pc Ls stk) rfl (by rw [X.hml]; exact hsz) (Steps.refl _) (a := a) (argsL := argsL) (rest := rest) (lenOf hpd hlen) hstk (by show 2 * 0 + _ ≤ _; omega) (hb X.hby hd) (fun _ _ => ⟨rfl, X.eT, hc, hs⟩)
  dsimp only [Pt.U, Pt.locs, Pt.cells, Pt.slots] at X' l1 l2 l3 kk hQ hS2 hgr hC'
  subst l1 l2 l3
  obtain ⟨⟨K, rfl, hQ⟩, N⟩ := hQ
  obtain ⟨X2, hS3, hZ2, ho2⟩ := rebS hS (show k0 ≤ T.heap.size by rw [X.eT]; exact hk0) X' hS2 hgr X.hZ X.hown
  exact Run.tr kk (q _ _ _ _ (X.reH X2 rfl K hS3 (Nat.le_refl _) hZ2 ho2 hC' (fun x q => (hsf x q).2) (X.fr.app N)) K hC' hQ)
theorem k_callVVF (X : WP p l e R s m args below meth c Z own mname bytes maxL ret n0 Inv Sf T h locs cells slots) {y : MethodName} {index W : Nat} {bytes' : ByteArray} {maxL' : Nat} {ret' : Option FieldType} {rm : Room} {ws : List Addr} {Q : Value → Heap → Prop} {a : Addr} {y0 : MethodName} {C : String} {argsL rest stk : List Value} {ps : List FieldType} {rt : Option FieldType} (hd : decode bytes pc = .ok (.invokevirtual index, 3)) (w1 : (Cond.methodLink own index y0).before a0 Z = true) (w2 : (Cond.declares y0).before a0 Z = true) (w3 : (Cond.selects C y0 y).before a0 Z = true) (w4 : (Cond.instanceMethod y).before a0 Z = true) (wz : (Cond.initialized y.cls).before a0 Z = true) (wc : (Cond.code y bytes' maxL' ret').before a0 Z = true) (hy : y0.cls ≠ "java/lang/invoke/MethodHandle" ∧ y0.cls ≠ "java/lang/invoke/VarHandle") (hnf : NotFace s y0) (E : Exa Z h a C) (hM : MetF l [] Z n0 y bytes' maxL' ret' rm (.ref a :: argsL).toArray h ws (fun r h' => ∃ w, r = some w ∧ Q w h')) (hstk : stk = argsL.reverse ++ .ref a :: rest) (hpd : parseMethodDescriptor y0.desc = some ⟨ps, rt⟩) (hlen : argsL.length = ps.length) (hsz : Ls.size = maxL) (hfr : rm.frames + 1 ≤ R.frames) (hW : (rest.map fun v => v.category).sum ≤ W) (hlo : W + (maxL' + 11) + rm.locals ≤ R.locals) (hc : cells + rm.cells ≤ R.cells) (hs : slots + rm.slots ≤ R.slots) (hsf : ∀ x ∈ ws, Sf h x ∧ n0 ≤ x) (hp : pc + 3 = pc')
    (q : ∀ w T' h' L', WP p l e R s m args below meth c Z own mname bytes maxL ret n0 Inv Sf T' h' L' (cells + rm.cells) (slots + rm.slots) → Keep h h' ws → Q w h' → Run p.tables e below P T' (mkF m pc' Ls (w :: rest))) : Run p.tables e below P T (mkF m pc Ls stk) := by
  subst hp
  obtain ⟨cq, kq, qa, qb, qc⟩ := isOf (T := T) X.hZ X.eT E
  have bk := backOf (R := R) (p := p) (e := e) (below := below) (args := args) (len := 3) (W := W) (Q := fun r h' L => (Keep h h' ws ∧ (fun r h' => ∃ w, r = some w ∧ Q w h') r h') ∧ Fr n0 L) hM X.hZ wc wz hfr hlo
  obtain ⟨r, _, ⟨T', L', k', n'⟩, -, X', ⟨Lc, hQ, l1, l2, l3⟩, kk⟩ := X.1.virtualBack X.hx (y := y0) (z := y) X.hown (mvT X.hZ w1) (mvT X.hZ w2) hnf (mvT X.hZ w3) (mvT X.hZ w4) hy bk qa qc (g := mkF m pc Ls stk) rfl (by rw [X.hml]; exact hsz) (Steps.refl _) (argsL := argsL) (rest := rest) (lenOf hpd hlen) hstk (by show 2 * 0 + _ ≤ _; omega) (hb X.hby hd) (fun _ _ => ⟨rfl, X.eT, hc, hs⟩)
  dsimp only [Pt.U, Pt.locs, Pt.cells, Pt.slots] at X' l1 l2 l3 kk hQ
  subst l1 l2 l3
  obtain ⟨⟨K, w, rfl, hQ⟩, N⟩ := hQ
  exact Run.tr kk (q _ _ _ _ (X.mv X' rfl K hsf (X.fr.app N)) K hQ)
theorem k_callVNF (X : WP p l e R s m args below meth c Z own mname bytes maxL ret n0 Inv Sf T h locs cells slots) {y : MethodName} {index W : Nat} {bytes' : ByteArray} {maxL' : Nat} {ret' : Option FieldType} {rm : Room} {ws : List Addr} {Q : Heap → Prop} {a : Addr} {y0 : MethodName} {C : String} {argsL rest stk : List Value} {ps : List FieldType} {rt : Option FieldType} (hd : decode bytes pc = .ok (.invokevirtual index, 3)) (w1 : (Cond.methodLink own index y0).before a0 Z = true) (w2 : (Cond.declares y0).before a0 Z = true) (w3 : (Cond.selects C y0 y).before a0 Z = true) (w4 : (Cond.instanceMethod y).before a0 Z = true) (wz : (Cond.initialized y.cls).before a0 Z = true) (wc : (Cond.code y bytes' maxL' ret').before a0 Z = true) (hy : y0.cls ≠ "java/lang/invoke/MethodHandle" ∧ y0.cls ≠ "java/lang/invoke/VarHandle") (hnf : NotFace s y0) (E : Exa Z h a C) (hM : MetF l [] Z n0 y bytes' maxL' ret' rm (.ref a :: argsL).toArray h ws (fun r h' => r = none ∧ Q h')) (hstk : stk = argsL.reverse ++ .ref a :: rest) (hpd : parseMethodDescriptor y0.desc = some ⟨ps, rt⟩) (hlen : argsL.length = ps.length) (hsz : Ls.size = maxL) (hfr : rm.frames + 1 ≤ R.frames) (hW : (rest.map fun v => v.category).sum ≤ W) (hlo : W + (maxL' + 11) + rm.locals ≤ R.locals) (hc : cells + rm.cells ≤ R.cells) (hs : slots + rm.slots ≤ R.slots) (hsf : ∀ x ∈ ws, Sf h x ∧ n0 ≤ x) (hp : pc + 3 = pc')
    (q : ∀ T' h' L', WP p l e R s m args below meth c Z own mname bytes maxL ret n0 Inv Sf T' h' L' (cells + rm.cells) (slots + rm.slots) → Keep h h' ws → Q h' → Run p.tables e below P T' (mkF m pc' Ls (rest))) : Run p.tables e below P T (mkF m pc Ls stk) := by
  subst hp
  obtain ⟨cq, kq, qa, qb, qc⟩ := isOf (T := T) X.hZ X.eT E
  have bk := backOf (R := R) (p := p) (e := e) (below := below) (args := args) (len := 3) (W := W) (Q := fun r h' L => (Keep h h' ws ∧ (fun r h' => r = none ∧ Q h') r h') ∧ Fr n0 L) hM X.hZ wc wz hfr hlo
  obtain ⟨r, _, ⟨T', L', k', n'⟩, -, X', ⟨Lc, hQ, l1, l2, l3⟩, kk⟩ := X.1.virtualBack X.hx (y := y0) (z := y) X.hown (mvT X.hZ w1) (mvT X.hZ w2) hnf (mvT X.hZ w3) (mvT X.hZ w4) hy bk qa qc (g := mkF m pc Ls stk) rfl (by rw [X.hml]; exact hsz) (Steps.refl _) (argsL := argsL) (rest := rest) (lenOf hpd hlen) hstk (by show 2 * 0 + _ ≤ _; omega) (hb X.hby hd) (fun _ _ => ⟨rfl, X.eT, hc, hs⟩)
  dsimp only [Pt.U, Pt.locs, Pt.cells, Pt.slots] at X' l1 l2 l3 kk hQ
  subst l1 l2 l3
  obtain ⟨⟨K, rfl, hQ⟩, N⟩ := hQ
  exact Run.tr kk (q _ _ _ (X.mv X' rfl K hsf (X.fr.app N)) K hQ)
theorem k_callVVH {EL : List (String × Nat)} {v : Vm} (X : WP p l e R (s.setVm v) m args below meth c Z own mname bytes maxL ret n0 (InvH Z a0 EL s v) (Safe Z EL v) T h locs cells slots) {y : MethodName} {index W : Nat} {bytes' : ByteArray} {maxL' : Nat} {ret' : Option FieldType} {rm : Room} {ws : List Addr} {Q : Value → Vm → Heap → Prop} {a : Addr} {y0 : MethodName} {C : String} {argsL rest stk : List Value} {ps : List FieldType} {rt : Option FieldType} (hd : decode bytes pc = .ok (.invokevirtual index, 3)) (w1 : (Cond.methodLink own index y0).before a0 Z = true) (w2 : (Cond.declares y0).before a0 Z = true) (w3 : (Cond.selects C y0 y).before a0 Z = true) (w4 : (Cond.instanceMethod y).before a0 Z = true) (wz : (Cond.initialized y.cls).before a0 Z = true) (wc : (Cond.code y bytes' maxL' ret').before a0 Z = true) (hy : y0.cls ≠ "java/lang/invoke/MethodHandle" ∧ y0.cls ≠ "java/lang/invoke/VarHandle") (hnf : NotFace (s.setVm v) y0) (E : Exa Z h a C) (hM : MetH l [] Z EL n0 y bytes' maxL' ret' rm (.ref a :: argsL).toArray h ws (fun r v' h' => ∃ w, r = some w ∧ Q w v' h')) (hstk : stk = argsL.reverse ++ .ref a :: rest) (hpd : parseMethodDescriptor y0.desc = some ⟨ps, rt⟩) (hlen : argsL.length = ps.length) (hsz : Ls.size = maxL) (hfr : rm.frames + 1 ≤ R.frames) (hW : (rest.map fun v => v.category).sum ≤ W) (hlo : W + (maxL' + 11) + rm.locals ≤ R.locals) (hc : cells + rm.cells ≤ R.cells) (hs : slots + rm.slots ≤ R.slots) (hsf : ∀ x ∈ ws, (x < h.size ∧ Safe Z EL v h x) ∧ n0 ≤ x) (hp : pc + 3 = pc')
    (q : ∀ w v' T' h' L', WP p l e R (s.setVm v') m args below meth c Z own mname bytes maxL ret n0 (InvH Z a0 EL s v') (Safe Z EL v') T' h' L' (cells + rm.cells) (slots + rm.slots) → Keep h h' ws → CHr Z EL v h v' h' → Q w v' h' → Run p.tables e below P T' (mkF m pc' Ls (w :: rest))) : Run p.tables e below P T (mkF m pc Ls stk) := by
  subst hp
  obtain ⟨cq, kq, qa, qb, qc⟩ := isOf (T := T) X.hZ X.eT E
  obtain ⟨hEL, hWv, ⟨k0, hS, hk0⟩, hC⟩ := X.inv
  have bk := backH (R := R) (p := p) (e := e) (below := below) (s := s) (args := args) (len := 3) (W := W) hM hWv wc wz hfr hlo hEL hC.1 (fun x q => (hsf x q).1)
  obtain ⟨r, _, ⟨T', L', k', n'⟩, -, X', hS2, hgr, ⟨Lc, hQ, l1, l2, l3, hC'⟩, kk⟩ := X.1.virtualBackS X.hx (y := y0) (z := y) X.hown (mvT X.hZ w1) (mvT X.hZ w2) hnf (mvT X.hZ w3) (mvT X.hZ w4) hy bk qa qc (g := mkF m pc Ls stk) rfl (by rw [X.hml]; exact hsz) (Steps.refl _) (argsL := argsL) (rest := rest) (lenOf hpd hlen) hstk (by show 2 * 0 + _ ≤ _; omega) (hb X.hby hd) (fun _ _ => ⟨rfl, X.eT, hc, hs⟩)
  dsimp only [Pt.U, Pt.locs, Pt.cells, Pt.slots] at X' l1 l2 l3 kk hQ hS2 hgr hC'
  subst l1 l2 l3
  obtain ⟨⟨K, w, rfl, hQ⟩, N⟩ := hQ
  obtain ⟨X2, hS3, hZ2, ho2⟩ := rebS hS (show k0 ≤ T.heap.size by rw [X.eT]; exact hk0) X' hS2 hgr X.hZ X.hown
  exact Run.tr kk (q _ _ _ _ _ (X.reH X2 rfl K hS3 (Nat.le_refl _) hZ2 ho2 hC' (fun x q => (hsf x q).2) (X.fr.app N)) K hC' hQ)
theorem k_callVNH {EL : List (String × Nat)} {v : Vm} (X : WP p l e R (s.setVm v) m args below meth c Z own mname bytes maxL ret n0 (InvH Z a0 EL s v) (Safe Z EL v) T h locs cells slots) {y : MethodName} {index W : Nat} {bytes' : ByteArray} {maxL' : Nat} {ret' : Option FieldType} {rm : Room} {ws : List Addr} {Q : Vm → Heap → Prop} {a : Addr} {y0 : MethodName} {C : String} {argsL rest stk : List Value} {ps : List FieldType} {rt : Option FieldType} (hd : decode bytes pc = .ok (.invokevirtual index, 3)) (w1 : (Cond.methodLink own index y0).before a0 Z = true) (w2 : (Cond.declares y0).before a0 Z = true) (w3 : (Cond.selects C y0 y).before a0 Z = true) (w4 : (Cond.instanceMethod y).before a0 Z = true) (wz : (Cond.initialized y.cls).before a0 Z = true) (wc : (Cond.code y bytes' maxL' ret').before a0 Z = true) (hy : y0.cls ≠ "java/lang/invoke/MethodHandle" ∧ y0.cls ≠ "java/lang/invoke/VarHandle") (hnf : NotFace (s.setVm v) y0) (E : Exa Z h a C) (hM : MetH l [] Z EL n0 y bytes' maxL' ret' rm (.ref a :: argsL).toArray h ws (fun r v' h' => r = none ∧ Q v' h')) (hstk : stk = argsL.reverse ++ .ref a :: rest) (hpd : parseMethodDescriptor y0.desc = some ⟨ps, rt⟩) (hlen : argsL.length = ps.length) (hsz : Ls.size = maxL) (hfr : rm.frames + 1 ≤ R.frames) (hW : (rest.map fun v => v.category).sum ≤ W) (hlo : W + (maxL' + 11) + rm.locals ≤ R.locals) (hc : cells + rm.cells ≤ R.cells) (hs : slots + rm.slots ≤ R.slots) (hsf : ∀ x ∈ ws, (x < h.size ∧ Safe Z EL v h x) ∧ n0 ≤ x) (hp : pc + 3 = pc')
    (q : ∀ v' T' h' L', WP p l e R (s.setVm v') m args below meth c Z own mname bytes maxL ret n0 (InvH Z a0 EL s v') (Safe Z EL v') T' h' L' (cells + rm.cells) (slots + rm.slots) → Keep h h' ws → CHr Z EL v h v' h' → Q v' h' → Run p.tables e below P T' (mkF m pc' Ls (rest))) : Run p.tables e below P T (mkF m pc Ls stk) := by
  subst hp
  obtain ⟨cq, kq, qa, qb, qc⟩ := isOf (T := T) X.hZ X.eT E
  obtain ⟨hEL, hWv, ⟨k0, hS, hk0⟩, hC⟩ := X.inv
  have bk := backH (R := R) (p := p) (e := e) (below := below) (s := s) (args := args) (len := 3) (W := W) hM hWv wc wz hfr hlo hEL hC.1 (fun x q => (hsf x q).1)
  obtain ⟨r, _, ⟨T', L', k', n'⟩, -, X', hS2, hgr, ⟨Lc, hQ, l1, l2, l3, hC'⟩, kk⟩ := X.1.virtualBackS X.hx (y := y0) (z := y) X.hown (mvT X.hZ w1) (mvT X.hZ w2) hnf (mvT X.hZ w3) (mvT X.hZ w4) hy bk qa qc (g := mkF m pc Ls stk) rfl (by rw [X.hml]; exact hsz) (Steps.refl _) (argsL := argsL) (rest := rest) (lenOf hpd hlen) hstk (by show 2 * 0 + _ ≤ _; omega) (hb X.hby hd) (fun _ _ => ⟨rfl, X.eT, hc, hs⟩)
  dsimp only [Pt.U, Pt.locs, Pt.cells, Pt.slots] at X' l1 l2 l3 kk hQ hS2 hgr hC'
  subst l1 l2 l3
  obtain ⟨⟨K, rfl, hQ⟩, N⟩ := hQ
  obtain ⟨X2, hS3, hZ2, ho2⟩ := rebS hS (show k0 ≤ T.heap.size by rw [X.eT]; exact hk0) X' hS2 hgr X.hZ X.hown
  exact Run.tr kk (q _ _ _ _ (X.reH X2 rfl K hS3 (Nat.le_refl _) hZ2 ho2 hC' (fun x q => (hsf x q).2) (X.fr.app N)) K hC' hQ)
theorem k_callIVF (X : WP p l e R s m args below meth c Z own mname bytes maxL ret n0 Inv Sf T h locs cells slots) {y : MethodName} {index W : Nat} {bytes' : ByteArray} {maxL' : Nat} {ret' : Option FieldType} {rm : Room} {ws : List Addr} {Q : Value → Heap → Prop} {a : Addr} {y0 : MethodName} {C : String} {count : Nat} {argsL rest stk : List Value} {ps : List FieldType} {rt : Option FieldType} (hd : decode bytes pc = .ok (.invokeinterface index count, 5)) (w1 : (Cond.methodLink own index y0).before args s = true) (w2 : (Cond.declares y0).before args s = true) (w5 : (Cond.interfaceMethod y0.cls y0.cls y0.name y0.desc).before args s = true) (w3 : (Cond.selects C y0 y).before args s = true) (w4 : (Cond.instanceMethod y).before args s = true) (w6 : (Cond.publicMethod y).before args s = true) (w7 : (Cond.unhidden C y0.name y0.desc).before args s = true) (w8 : (Cond.castable C y0.cls).before args s = true) (wz : (Cond.initialized y.cls).before a0 Z = true) (wc : (Cond.code y bytes' maxL' ret').before a0 Z = true) (hy : y0.cls ≠ "java/lang/invoke/MethodHandle" ∧ y0.cls ≠ "java/lang/invoke/VarHandle") (E : Exa Z h a C) (hM : MetF l [] Z n0 y bytes' maxL' ret' rm (.ref a :: argsL).toArray h ws (fun r h' => ∃ w, r = some w ∧ Q w h')) (hstk : stk = argsL.reverse ++ .ref a :: rest) (hpd : parseMethodDescriptor y0.desc = some ⟨ps, rt⟩) (hlen : argsL.length = ps.length) (hsz : Ls.size = maxL) (hfr : rm.frames + 1 ≤ R.frames) (hW : (rest.map fun v => v.category).sum ≤ W) (hlo : W + (maxL' + 11) + rm.locals ≤ R.locals) (hc : cells + rm.cells ≤ R.cells) (hs : slots + rm.slots ≤ R.slots) (hsf : ∀ x ∈ ws, Sf h x ∧ n0 ≤ x) (hp : pc + 5 = pc')
    (q : ∀ w T' h' L', WP p l e R s m args below meth c Z own mname bytes maxL ret n0 Inv Sf T' h' L' (cells + rm.cells) (slots + rm.slots) → Keep h h' ws → Q w h' → Run p.tables e below P T' (mkF m pc' Ls (w :: rest))) : Run p.tables e below P T (mkF m pc Ls stk) := by
  subst hp
  obtain ⟨cq, kq, qa, qb, qc⟩ := isOf (T := T) X.hZ X.eT E
  have bk := backOf (R := R) (p := p) (e := e) (below := below) (args := args) (len := 5) (W := W) (Q := fun r h' L => (Keep h h' ws ∧ (fun r h' => ∃ w, r = some w ∧ Q w h') r h') ∧ Fr n0 L) hM X.hZ wc wz hfr hlo
  obtain ⟨r, _, ⟨T', L', k', n'⟩, -, X', ⟨Lc, hQ, l1, l2, l3⟩, kk⟩ := X.1.interfaceBack X.hx (xi := y0) (y := y) X.hown w1 w2 w5 w3 w4 w6 w7 w8 hy bk qa qb qc (g := mkF m pc Ls stk) rfl (by rw [X.hml]; exact hsz) (Steps.refl _) (argsL := argsL) (rest := rest) (lenOf hpd hlen) hstk (by show 2 * 0 + _ ≤ _; omega) (hb X.hby hd) (fun _ _ => ⟨rfl, X.eT, hc, hs⟩)
  dsimp only [Pt.U, Pt.locs, Pt.cells, Pt.slots] at X' l1 l2 l3 kk hQ
  subst l1 l2 l3
  obtain ⟨⟨K, w, rfl, hQ⟩, N⟩ := hQ
  exact Run.tr kk (q _ _ _ _ (X.mv X' rfl K hsf (X.fr.app N)) K hQ)
theorem k_callINF (X : WP p l e R s m args below meth c Z own mname bytes maxL ret n0 Inv Sf T h locs cells slots) {y : MethodName} {index W : Nat} {bytes' : ByteArray} {maxL' : Nat} {ret' : Option FieldType} {rm : Room} {ws : List Addr} {Q : Heap → Prop} {a : Addr} {y0 : MethodName} {C : String} {count : Nat} {argsL rest stk : List Value} {ps : List FieldType} {rt : Option FieldType} (hd : decode bytes pc = .ok (.invokeinterface index count, 5)) (w1 : (Cond.methodLink own index y0).before args s = true) (w2 : (Cond.declares y0).before args s = true) (w5 : (Cond.interfaceMethod y0.cls y0.cls y0.name y0.desc).before args s = true) (w3 : (Cond.selects C y0 y).before args s = true) (w4 : (Cond.instanceMethod y).before args s = true) (w6 : (Cond.publicMethod y).before args s = true) (w7 : (Cond.unhidden C y0.name y0.desc).before args s = true) (w8 : (Cond.castable C y0.cls).before args s = true) (wz : (Cond.initialized y.cls).before a0 Z = true) (wc : (Cond.code y bytes' maxL' ret').before a0 Z = true) (hy : y0.cls ≠ "java/lang/invoke/MethodHandle" ∧ y0.cls ≠ "java/lang/invoke/VarHandle") (E : Exa Z h a C) (hM : MetF l [] Z n0 y bytes' maxL' ret' rm (.ref a :: argsL).toArray h ws (fun r h' => r = none ∧ Q h')) (hstk : stk = argsL.reverse ++ .ref a :: rest) (hpd : parseMethodDescriptor y0.desc = some ⟨ps, rt⟩) (hlen : argsL.length = ps.length) (hsz : Ls.size = maxL) (hfr : rm.frames + 1 ≤ R.frames) (hW : (rest.map fun v => v.category).sum ≤ W) (hlo : W + (maxL' + 11) + rm.locals ≤ R.locals) (hc : cells + rm.cells ≤ R.cells) (hs : slots + rm.slots ≤ R.slots) (hsf : ∀ x ∈ ws, Sf h x ∧ n0 ≤ x) (hp : pc + 5 = pc')
    (q : ∀ T' h' L', WP p l e R s m args below meth c Z own mname bytes maxL ret n0 Inv Sf T' h' L' (cells + rm.cells) (slots + rm.slots) → Keep h h' ws → Q h' → Run p.tables e below P T' (mkF m pc' Ls (rest))) : Run p.tables e below P T (mkF m pc Ls stk) := by
  subst hp
  obtain ⟨cq, kq, qa, qb, qc⟩ := isOf (T := T) X.hZ X.eT E
  have bk := backOf (R := R) (p := p) (e := e) (below := below) (args := args) (len := 5) (W := W) (Q := fun r h' L => (Keep h h' ws ∧ (fun r h' => r = none ∧ Q h') r h') ∧ Fr n0 L) hM X.hZ wc wz hfr hlo
  obtain ⟨r, _, ⟨T', L', k', n'⟩, -, X', ⟨Lc, hQ, l1, l2, l3⟩, kk⟩ := X.1.interfaceBack X.hx (xi := y0) (y := y) X.hown w1 w2 w5 w3 w4 w6 w7 w8 hy bk qa qb qc (g := mkF m pc Ls stk) rfl (by rw [X.hml]; exact hsz) (Steps.refl _) (argsL := argsL) (rest := rest) (lenOf hpd hlen) hstk (by show 2 * 0 + _ ≤ _; omega) (hb X.hby hd) (fun _ _ => ⟨rfl, X.eT, hc, hs⟩)
  dsimp only [Pt.U, Pt.locs, Pt.cells, Pt.slots] at X' l1 l2 l3 kk hQ
  subst l1 l2 l3
  obtain ⟨⟨K, rfl, hQ⟩, N⟩ := hQ
  exact Run.tr kk (q _ _ _ (X.mv X' rfl K hsf (X.fr.app N)) K hQ)
end Kit
end Own
end Jvm.Pilot.@@N@@
namespace Jvm.Pilot.@@N@@
open Jvm Jvm.ClassFile Sem Op Lib Jvm.Free Jvm.Stand Jvm.LawKit Jvm.RoadKit Bundle Jvm.Pilot.@@N@@.Jvm.D
section OwnProof
open Own
theorem own_nat {i : Nat} (h : i < 2147483648) : (Int32.ofNat i).toInt = (i : Int) := by
  rw [Int32.toInt_ofNat', show Int32.size = 4294967296 from rfl]; exact Int.bmod_eq_of_le (by omega) (by omega)
theorem own_nz {n : Nat} (h0 : 0 < n) (h1 : n < 2147483648) : ¬ Int32.ofNat n = 0 := fun q => by
  have e := congrArg Int32.toInt q
  rw [own_nat h1, show (0 : Int32).toInt = 0 from by decide] at e
  omega
theorem own_clamp {i : Nat} (h : i < 2147483648) : (Int32.ofNat i).toNatClampNeg = i := by
  show (Int32.ofNat i).toInt.toNat = i
  rw [own_nat h]; rfl
theorem own_nn {i : Nat} (h : i < 2147483648) : ¬ (Int32.ofNat i < 0) := by
  rw [Int32.lt_iff_toInt_lt, own_nat h]; show ¬ ((i : Int) < 0); omega
theorem own_lt {i n : Nat} (h : i < n) (hn : n < 2147483648) : Int32.ofNat i < Int32.ofNat n := by
  rw [Int32.lt_iff_toInt_lt, own_nat (by omega), own_nat hn]; omega
theorem own_succ (i : Nat) : Int32.ofNat i + Int32.ofInt 1 = Int32.ofNat (i + 1) := by
  rw [Int32.ofNat_add]; rfl
theorem own_shl1 {i : Nat} (h : i < 1073741824) : Int32.ofNat i <<< ((1 : Int32) &&& 31) = Int32.ofNat (2 * i) := by
  apply Int32.toInt_inj.mp
  have q := c_ishl (Int32.ofNat i) 1 1 (by decide)
  rw [own_nat (by omega)] at q
  rw [own_nat (by omega)]
  have := rng32 (Int32.ofNat i <<< ((1 : Int32) &&& 31))
  omega
theorem own_i2b (x : Int32) : nar .byte (x.toInt8.toInt32) = x.toInt8.toInt32 := by
  show x.toInt8.toInt32.toInt8.toInt32 = x.toInt8.toInt32
  rw [Int8.toInt8_toInt32]
def own_lo (c : Int32) : Value := .int c.toInt8.toInt32
/-- the bytes of a compact String -/
def own_lat (cs : List Int32) : List Value := cs.map own_lo
theorem own_latlen (cs : List Int32) : (own_lat cs).length = cs.length := by simp [own_lat]
theorem own_getc (cs : List Int32) (i : Nat) : (cs.map Value.int).getD i (.int 0) = .int (cs.getD i 0) := by
  simp only [List.getD_eq_getElem?_getD, List.getElem?_map]
  cases cs[i]? <;> rfl
theorem own_getc' (cs : List Int32) {i : Nat} (h : i < 2147483648) : (cs.map Value.int).getD (Int32.ofNat i).toNatClampNeg (.int 0) = .int (cs.getD i 0) := by
  rw [own_clamp h]; exact own_getc cs i
theorem own_turn (cs : List Int32) (vs : List Value) (i : Nat) (hi : i < cs.length) (hv : vs.length = cs.length) : ((cs.take i).map own_lo ++ vs.drop i).set i (.int (cs.getD i 0).toInt8.toInt32) = (cs.take (i + 1)).map own_lo ++ vs.drop (i + 1) := by
  apply List.ext_getElem?
  intro j
  by_cases hj : j = i
  · subst hj
    have h1 : j < ((cs.take j).map own_lo ++ vs.drop j).length := by simp; omega
    rw [List.getElem?_set_self h1, List.getElem?_append_left (by simp; omega)]
    simp [hi, own_lo, List.getD_eq_getElem?_getD]
  · rw [List.getElem?_set_ne (by omega)]
    by_cases hlt : j < i
    · rw [List.getElem?_append_left (by simp; omega), List.getElem?_append_left (by simp; omega)]
      simp [hlt, show j < i + 1 by omega]
    · rw [List.getElem?_append_right (by simp; omega), List.getElem?_append_right (by simp; omega)]
      simp only [List.length_map, List.length_take, List.getElem?_drop]
      congr 1; omega
theorem own_store {x0 x1 x2 x3 x4 x5 s6 : Slot} {v : Int32} (h : One s6) (h5 : ∃ w : Int32, x5 = .val (.int w)) : storeLocals #[x0, x1, x2, x3, x4, x5, s6] 6 (.int v) = some #[x0, x1, x2, x3, x4, x5, .val (.int v)] := by
  obtain ⟨w5, rfl⟩ := h5
  rcases h with rfl | ⟨w, rfl, hw⟩
  · rfl
  · cases w <;> first | rfl | (simp [Value.category] at hw)
/-- the first place of a sign above 255, or the length -/
def own_fst : List Int32 → Nat
  | [] => 0
  | c :: cs => if 255 < c then 0 else own_fst cs + 1
theorem own_fst_le : ∀ cs : List Int32, own_fst cs ≤ cs.length
  | [] => Nat.le_refl _
  | c :: cs => by
    unfold own_fst; split
    · simp
    · have := own_fst_le cs; simp; omega
theorem own_fst_lo : ∀ (cs : List Int32) (i : Nat), i < own_fst cs → ¬ 255 < cs.getD i 0
  | [], i, h => by simp [own_fst] at h
  | c :: cs, i, h => by
    unfold own_fst at h; split at h
    · omega
    · rename_i hc
      cases i with
      | zero => simpa using hc
      | succ i => simpa using own_fst_lo cs i (by omega)
theorem own_fst_hi : ∀ (cs : List Int32), own_fst cs < cs.length → 255 < cs.getD (own_fst cs) 0
  | [], h => by simp at h
  | c :: cs, h => by
    unfold own_fst at h ⊢; split
    · rename_i hc; simpa using hc
    · rename_i hc
      rw [if_neg hc] at h
      simpa using own_fst_hi cs (by simpa using h)
theorem own_fst_all : ∀ (cs : List Int32), (∀ c ∈ cs, ¬ 255 < c) → own_fst cs = cs.length
  | [], _ => rfl
  | c :: cs, h => by
    unfold own_fst
    rw [if_neg (h c (by simp)), own_fst_all cs fun x hx => h x (by simp [hx])]; simp
theorem own_rng {Z : State} {h : Heap} {b : Addr} {kb : ClassId} {z : Int32} {cs : List Int32} (A : Arv Z h b kb .char z (cs.map Value.int) (.int 0)) (hz : z = Int32.ofNat cs.length) (hn : cs.length < 2147483648) : ∀ i, i < cs.length → ¬ cs.getD i 0 < 0 ∧ ¬ 65535 < cs.getD i 0 := by
  intro i hi
  obtain ⟨cl, -, -, S, -, -, Gq⟩ := A
  have q := Gq i (by rw [S, hz, own_clamp hn]; exact hi)
  rw [own_getc] at q
  exact rng_char q
theorem own_and255 (x : Int32) : ¬ 255 < x &&& 255 := by
  have q := (c_and x 255 (by decide)).2
  rw [Int32.lt_iff_toInt_lt]; show ¬ ((255 : Int) < _); exact Int.not_lt.mpr q
theorem own_al0 : ∀ c ∈ ([] : List Int32), ¬ 255 < c := fun _ q => nomatch q
theorem own_alS {c : Int32} {L : List Int32} (q : ¬ 255 < c) (r : ∀ x ∈ L, ¬ 255 < x) : ∀ x ∈ c :: L, ¬ 255 < x := fun x z => (List.mem_cons.mp z).elim (fun u => u ▸ q) (r x)
def own_hi (c : Int32) : Value := .int (c >>> ((8 : Int32) &&& 31)).toInt8.toInt32
/-- the bytes of a String that is not compact -/
def own_u16 : List Int32 → List Value
  | [] => []
  | c :: cs => own_lo c :: own_hi c :: own_u16 cs
theorem own_u16len : ∀ cs : List Int32, (own_u16 cs).length = 2 * cs.length
  | [] => rfl
  | c :: cs => by simp [own_u16, own_u16len cs]; omega
theorem own_u16lo : ∀ (cs : List Int32) (j : Nat) (d : Value), j < cs.length → (own_u16 cs).getD (2 * j) d = own_lo (cs.getD j 0)
  | [], j, d, h => by simp at h
  | c :: cs, 0, d, h => by simp [own_u16]
  | c :: cs, j + 1, d, h => by
    have e : 2 * (j + 1) = 2 * j + 1 + 1 := by omega
    rw [e]; simpa [own_u16] using own_u16lo cs j d (by simpa using h)
theorem own_u16hi : ∀ (cs : List Int32) (j : Nat) (d : Value), j < cs.length → (own_u16 cs).getD (2 * j + 1) d = own_hi (cs.getD j 0)
  | [], j, d, h => by simp at h
  | c :: cs, 0, d, h => by simp [own_u16]
  | c :: cs, j + 1, d, h => by
    have e : 2 * (j + 1) + 1 = 2 * j + 1 + 1 + 1 := by omega
    rw [e]; simpa [own_u16] using own_u16hi cs j d (by simpa using h)
theorem own_u16turn : ∀ (cs : List Int32) (i : Nat), i < cs.length → ((own_u16 (cs.take i) ++ List.replicate (2 * (cs.length - i)) (Value.int (0 : Int32))).set (2 * i) (own_lo (cs.getD i 0))).set (2 * i + 1) (own_hi (cs.getD i 0)) = own_u16 (cs.take (i + 1)) ++ List.replicate (2 * (cs.length - (i + 1))) (Value.int (0 : Int32))
  | [], i, h => by simp at h
  | c :: cs, 0, h => by
    have e : 2 * ((c :: cs).length - 0) = 2 * cs.length + 1 + 1 := by simp; omega
    rw [e]; simp [own_u16, List.replicate_succ]
  | c :: cs, i + 1, h => by
    have e : 2 * (i + 1) = 2 * i + 1 + 1 := by omega
    have e2 : (c :: cs).length - (i + 1) = cs.length - i := by simp
    have e3 : (c :: cs).length - (i + 1 + 1) = cs.length - (i + 1) := by simp
    have q := own_u16turn cs i (by simpa using h)
    rw [e, e2, e3]
    simpa [own_u16] using q
theorem own_u16l (cs : List Int32) (i : Nat) (h : i ≤ cs.length) : (own_u16 (cs.take i) ++ List.replicate (2 * (cs.length - i)) (Value.int (0 : Int32))).length = 2 * cs.length := by
  rw [List.length_append, own_u16len, List.length_take, List.length_replicate, Nat.min_eq_left h]; omega
theorem own_shr0 (x : Int32) : x >>> ((0 : Int32) &&& 31) = x := by
  apply Int32.toInt_inj.mp
  rw [c_ishr x 0 0 (by decide)]; simp
theorem own_shl0 (x : Int32) : x <<< ((0 : Int32) &&& 31) = x := by
  apply Int32.toInt_inj.mp
  have q := c_ishl x 0 0 (by decide)
  have h1 := rng32 x; have h2 := rng32 (x <<< ((0 : Int32) &&& 31))
  omega
theorem own_join {c : Int32} (h0 : ¬ c < 0) (h1 : ¬ 65535 < c) : (((c.toInt8.toInt32 &&& 255) ||| (((c >>> ((8 : Int32) &&& 31)).toInt8.toInt32 &&& 255) <<< ((8 : Int32) &&& 31))).toUInt32.toUInt16.toUInt32.toInt32) = c := by
  have k0 : 0 ≤ c.toInt := by rw [Int32.lt_iff_toInt_lt] at h0; exact Int.not_lt.mp h0
  have k1 : c.toInt ≤ 65535 := by rw [Int32.lt_iff_toInt_lt] at h1; exact Int.not_lt.mp h1
  have a1 := c_i2b c
  have a2 := c_mask c.toInt8.toInt32 255 8 (by decide) (by decide)
  have b0 := c_ishr c 8 8 (by decide)
  have b1 := c_i2b (c >>> ((8 : Int32) &&& 31))
  have b2 := c_mask (c >>> ((8 : Int32) &&& 31)).toInt8.toInt32 255 8 (by decide) (by decide)
  generalize (c >>> ((8 : Int32) &&& 31)).toInt8.toInt32 = y at b1 b2 ⊢
  generalize c.toInt8.toInt32 = x at a1 a2 ⊢
  have b3 := c_ishl (y &&& 255) 8 8 (by decide)
  have r3 := rng32 ((y &&& 255) <<< ((8 : Int32) &&& 31))
  have v3 : ((y &&& 255) <<< ((8 : Int32) &&& 31)).toInt = (y &&& 255).toInt * 256 := by omega
  have o := c_or' (x &&& 255) ((y &&& 255) <<< ((8 : Int32) &&& 31)) 8 (by decide) 256 (by decide) (by rw [v3]; omega) (by omega) (by omega)
  have r4 := rng32 ((x &&& 255) ||| ((y &&& 255) <<< ((8 : Int32) &&& 31)))
  have f := c_i2c ((x &&& 255) ||| ((y &&& 255) <<< ((8 : Int32) &&& 31)))
  apply Int32.toInt_inj.mp
  omega
theorem own_neg31 {n : Nat} (h0 : 0 < n) (h1 : n < 1073741824) : (((Int32.ofNat n - Int32.ofNat (2 * n)).toUInt32 >>> ((31 : Int32) &&& 31).toUInt32).toInt32) = 1 := by
  apply Int32.toInt_inj.mp
  rw [c_iushr _ 31 31 (by decide) (by decide)]
  have q := c_isub (Int32.ofNat n) (Int32.ofNat (2 * n))
  rw [own_nat (by omega), own_nat (by omega)] at q
  have r := rng32 (Int32.ofNat n - Int32.ofNat (2 * n))
  show _ = (1 : Int)
  omega
/-- what a String of these signs holds -/
def own_cod (cs : List Int32) (cd zz : Int32) (bs : List Value) : Prop := (own_fst cs = cs.length ∧ cd = 0 ∧ zz = Int32.ofNat cs.length ∧ bs = own_lat cs) ∨ (own_fst cs < cs.length ∧ cd = 1 ∧ zz = Int32.ofNat (2 * cs.length) ∧ bs = own_u16 cs)
theorem own_all_of_fst {cs : List Int32} (h : own_fst cs = cs.length) : ∀ c ∈ cs, ¬ 255 < c := fun c hc => by
  obtain ⟨i, hi, e⟩ := List.getElem_of_mem hc
  have q := own_fst_lo cs i (by omega)
  rw [List.getD_eq_getElem?_getD, List.getElem?_eq_getElem hi] at q
  rw [← e]; simpa using q
theorem own_i2c_id {c : Int32} (h0 : ¬ c < 0) (h1 : ¬ 65535 < c) : nar .char c = c := by
  have k0 : 0 ≤ c.toInt := by rw [Int32.lt_iff_toInt_lt] at h0; exact Int.not_lt.mp h0
  have k1 : c.toInt ≤ 65535 := by rw [Int32.lt_iff_toInt_lt] at h1; exact Int.not_lt.mp h1
  have f := c_i2c c
  apply Int32.toInt_inj.mp
  show (c.toUInt32.toUInt16.toUInt32.toInt32).toInt = _
  omega
theorem own_cod_len {cs : List Int32} {cd zz : Int32} {bs : List Value} (h : own_cod cs cd zz bs) (hn : cs.length < 1073741824) : zz >>> (cd &&& 31) = Int32.ofNat cs.length := by
  rcases h with ⟨-, rfl, rfl, rfl⟩ | ⟨-, rfl, rfl, rfl⟩
  · exact own_shr0 _
  · apply Int32.toInt_inj.mp
    rw [c_ishr _ 1 1 (by decide), own_nat (by omega), own_nat (by omega)]; omega
theorem own_shr1 {n : Nat} (hn : n < 1073741824) : Int32.ofNat (2 * n) >>> ((1 : Int32) &&& 31) = Int32.ofNat n := by
  apply Int32.toInt_inj.mp
  rw [c_ishr _ 1 1 (by decide), own_nat (by omega), own_nat (by omega)]; omega
theorem own_cod_cd {cs : List Int32} {cd zz : Int32} {bs : List Value} (h : own_cod cs cd zz bs) : cd = 0 ∨ cd = 1 := by
  rcases h with ⟨-, rfl, -⟩ | ⟨-, rfl, -⟩
  · exact Or.inl rfl
  · exact Or.inr rfl
theorem own_nar01 {cd : Int32} (h : cd = 0 ∨ cd = 1) : nar .byte cd = cd := by rcases h with rfl | rfl <;> decide
theorem own_latget (cs : List Int32) {i : Nat} (hi : i < cs.length) (h : i < 2147483648) : (own_lat cs).getD (Int32.ofNat i).toNatClampNeg (.int (0 : Int32)) = .int (cs.getD i 0).toInt8.toInt32 := by
  rw [own_clamp h, own_lat, List.getD_eq_getElem?_getD, List.getD_eq_getElem?_getD, List.getElem?_map, List.getElem?_eq_getElem hi]; rfl
theorem own_back8 {c : Int32} (h0 : ¬ c < 0) (h1 : ¬ 255 < c) : ((c.toInt8.toInt32 &&& 255).toUInt32.toUInt16.toUInt32.toInt32) = c := by
  rw [i2c_mask]
  have k0 : 0 ≤ c.toInt := by rw [Int32.lt_iff_toInt_lt] at h0; exact Int.not_lt.mp h0
  have k1 : c.toInt ≤ 255 := by rw [Int32.lt_iff_toInt_lt] at h1; exact Int.not_lt.mp h1
  have a1 := c_i2b c
  have a2 := c_mask c.toInt8.toInt32 255 8 (by decide) (by decide)
  apply Int32.toInt_inj.mp
  omega
theorem own_255 {c : Int32} (h : ¬ 255 < c) : ¬ 65535 < c := by
  intro q; apply h; rw [Int32.lt_iff_toInt_lt] at q ⊢
  have : (65535 : Int32).toInt = 65535 := by decide
  have : (255 : Int32).toInt = 255 := by decide
  omega
theorem own_lat_rng {cs : List Int32} (hf : own_fst cs = cs.length) {i : Nat} (hi : i < cs.length) : ¬ 255 < cs.getD i 0 := own_fst_lo cs i (by omega)
/-- 1 where they are one text, else 0 -/
def own_eqv (cs ds : List Int32) : Int32 := if cs = ds then 1 else 0
def own_li (cs : List Int32) : List Int32 := cs.map fun c => c.toInt8.toInt32
theorem own_li_eq (cs : List Int32) : own_lat cs = (own_li cs).map Value.int := by simp [own_lat, own_li, own_lo, Function.comp_def]
def own_ui : List Int32 → List Int32
  | [] => []
  | c :: cs => c.toInt8.toInt32 :: (c >>> ((8 : Int32) &&& 31)).toInt8.toInt32 :: own_ui cs
theorem own_ui_eq : ∀ cs : List Int32, own_u16 cs = (own_ui cs).map Value.int
  | [] => rfl
  | c :: cs => by simp [own_u16, own_ui, own_lo, own_hi, own_ui_eq cs]
theorem own_li_len (cs : List Int32) : (own_li cs).length = cs.length := by simp [own_li]
theorem own_ui_len : ∀ cs : List Int32, (own_ui cs).length = 2 * cs.length
  | [] => rfl
  | c :: cs => by simp [own_ui, own_ui_len cs]; omega
theorem own_li_inj : ∀ {cs ds : List Int32}, (∀ c ∈ cs, ¬ c < 0 ∧ ¬ 255 < c) → (∀ c ∈ ds, ¬ c < 0 ∧ ¬ 255 < c) → own_li cs = own_li ds → cs = ds
  | [], [], _, _, _ => rfl
  | [], d :: ds, _, _, h => by simp [own_li] at h
  | c :: cs, [], _, _, h => by simp [own_li] at h
  | c :: cs, d :: ds, hc, hd, h => by
    simp only [own_li, List.map_cons, List.cons.injEq] at h
    have q1 := own_back8 (hc c (by simp)).1 (hc c (by simp)).2
    have q2 := own_back8 (hd d (by simp)).1 (hd d (by simp)).2
    rw [h.1, q2] at q1
    rw [q1, own_li_inj (fun x hx => hc x (by simp [hx])) (fun x hx => hd x (by simp [hx])) h.2]
theorem own_ui_inj : ∀ {cs ds : List Int32}, (∀ c ∈ cs, ¬ c < 0 ∧ ¬ 65535 < c) → (∀ c ∈ ds, ¬ c < 0 ∧ ¬ 65535 < c) → own_ui cs = own_ui ds → cs = ds
  | [], [], _, _, _ => rfl
  | [], d :: ds, _, _, h => by simp [own_ui] at h
  | c :: cs, [], _, _, h => by simp [own_ui] at h
  | c :: cs, d :: ds, hc, hd, h => by
    simp only [own_ui, List.cons.injEq] at h
    have q1 := own_join (hc c (by simp)).1 (hc c (by simp)).2
    have q2 := own_join (hd d (by simp)).1 (hd d (by simp)).2
    rw [h.1, h.2.1, q2] at q1
    rw [q1, own_ui_inj (fun x hx => hc x (by simp [hx])) (fun x hx => hd x (by simp [hx])) h.2.2]
theorem own_ext (is js : List Int32) (hl : is.length = js.length) (h : ∀ i, i < is.length → is.getD i 0 = js.getD i 0) : is = js := by
  apply List.ext_getElem hl
  intro i h1 h2
  have q := h i h1
  simpa [List.getD_eq_getElem?_getD, h1, h2] using q
/-- all signs are chars -/
def own_chs (cs : List Int32) : Prop := ∀ c ∈ cs, ¬ c < 0 ∧ ¬ 65535 < c
theorem own_chs_at {cs : List Int32} (h : own_chs cs) {i : Nat} (hi : i < cs.length) : ¬ cs.getD i 0 < 0 ∧ ¬ 65535 < cs.getD i 0 := by
  rw [List.getD_eq_getElem?_getD, List.getElem?_eq_getElem hi]; exact h _ (List.getElem_mem hi)
theorem own_cod_eq {cs ds : List Int32} {cd zz ze : Int32} {bs be : List Value} {ib ie : List Int32} (h1 : own_cod cs cd zz bs) (h2 : own_cod ds cd ze be) (k1 : own_chs cs) (k2 : own_chs ds) (e1 : bs = ib.map Value.int) (e2 : be = ie.map Value.int) : own_eqv ib ie = own_eqv cs ds := by
  have inj : ∀ {x y : List Int32}, x.map Value.int = y.map Value.int → x = y := fun {x y} q => by
    have := congrArg (List.map fun v => match v with | Value.int z => z | _ => 0) q
    simpa [Function.comp_def] using this
  have key : ib = ie ↔ cs = ds := by
    rcases h1 with ⟨f1, rfl, -, rfl⟩ | ⟨f1, rfl, -, rfl⟩
    · rcases h2 with ⟨f2, -, -, rfl⟩ | ⟨f2, q, -⟩
      · rw [own_li_eq] at e1 e2
        have a1 := inj e1; have a2 := inj e2
        subst a1 a2
        exact ⟨own_li_inj (fun c hc => ⟨(k1 c hc).1, own_all_of_fst f1 c hc⟩) (fun c hc => ⟨(k2 c hc).1, own_all_of_fst f2 c hc⟩), fun q => by rw [q]⟩
      · exact absurd q (by decide)
    · rcases h2 with ⟨f2, q, -⟩ | ⟨f2, -, -, rfl⟩
      · exact absurd q (by decide)
      · rw [own_ui_eq] at e1 e2
        have a1 := inj e1; have a2 := inj e2
        subst a1 a2
        exact ⟨own_ui_inj k1 k2, fun q => by rw [q]⟩
  unfold own_eqv
  by_cases q : cs = ds
  · rw [if_pos q, if_pos (key.mpr q)]
  · rw [if_neg q, if_neg fun r => q (key.mp r)]
theorem own_cod_ne {cs ds : List Int32} {cd ce zz ze : Int32} {bs be : List Value} (h1 : own_cod cs cd zz bs) (h2 : own_cod ds ce ze be) (hne : ¬ cd = ce) : own_eqv cs ds = 0 := by
  unfold own_eqv
  rw [if_neg]
  intro q; subst q
  rcases h1 with ⟨f1, rfl, -⟩ | ⟨f1, rfl, -⟩ <;> rcases h2 with ⟨f2, rfl, -⟩ | ⟨f2, rfl, -⟩ <;> first | exact hne rfl | omega
theorem own_cod_ints {cs : List Int32} {cd zz : Int32} {bs : List Value} (h : own_cod cs cd zz bs) : ∃ ib : List Int32, bs = ib.map Value.int ∧ zz = Int32.ofNat ib.length ∧ ib.length ≤ 2 * cs.length := by
  rcases h with ⟨-, -, rfl, rfl⟩ | ⟨-, -, rfl, rfl⟩
  · exact ⟨own_li cs, own_li_eq cs, by rw [own_li_len], by rw [own_li_len]; omega⟩
  · exact ⟨own_ui cs, own_ui_eq cs, by rw [own_ui_len], by rw [own_ui_len]; omega⟩
theorem own_eqv01 (cs ds : List Int32) : own_eqv cs ds = 0 ∨ own_eqv cs ds = 1 := by unfold own_eqv; split <;> simp
theorem own_nz01 {x : Int32} (h : x = 0 ∨ x = 1) : nar .boolean x = x := by rcases h with rfl | rfl <;> decide
theorem own_same_txt {Z : State} {h : Heap} {t : Addr} {k1 k2 : ClassId} {cd zz ze : Int32} {bs be : List Value} {cs ds : List Int32} (A : Arv Z h t k1 .byte zz bs (.int 0)) (B : Arv Z h t k2 .byte ze be (.int 0)) (h1 : own_cod cs cd zz bs) (h2 : own_cod ds cd ze be) (k1 : own_chs cs) (k2 : own_chs ds) (n1 : cs.length < 536870912) (n2 : ds.length < 536870912) : own_eqv cs ds = 1 := by
  obtain ⟨ib, ei, ezi, eli⟩ := own_cod_ints h1
  obtain ⟨ie, ej, ezj, elj⟩ := own_cod_ints h2
  have key := own_cod_eq h1 h2 k1 k2 ei ej
  rw [← key]
  apply if_pos
  have e1 : zz.toNatClampNeg = ib.length := by rw [ezi]; exact own_clamp (by omega)
  have e2 : ze.toNatClampNeg = ie.length := by rw [ezj]; exact own_clamp (by omega)
  have hl : ib.length = ie.length := by
    rcases Nat.decEq ib.length ie.length with q | q
    · exact absurd rfl (arv_ne A B (Or.inl (by rw [e1, e2]; exact q)))
    · exact q
  refine own_ext ib ie hl fun i hi => ?_
  rcases (inferInstance : Decidable (ib.getD i 0 = ie.getD i 0)) with q | q
  · refine absurd rfl (arv_ne A B (Or.inr ⟨i, by rw [e1]; exact hi, fun r => q ?_⟩))
    rw [ei, ej, own_getc, own_getc] at r
    exact Value.int.inj r
  · exact q
/-- the first place of the sign, or the length -/
def own_pos (ch : Int32) : List Int32 → Nat
  | [] => 0
  | c :: cs => if c = ch then 0 else own_pos ch cs + 1
theorem own_pos_le (ch : Int32) : ∀ cs : List Int32, own_pos ch cs ≤ cs.length
  | [] => Nat.le_refl _
  | c :: cs => by
    unfold own_pos; split
    · simp
    · have := own_pos_le ch cs; simp; omega
theorem own_pos_ne (ch : Int32) : ∀ (cs : List Int32) (i : Nat), i < own_pos ch cs → ¬ cs.getD i 0 = ch
  | [], i, h => by simp [own_pos] at h
  | c :: cs, i, h => by
    unfold own_pos at h; split at h
    · omega
    · rename_i hc
      cases i with
      | zero => simpa using hc
      | succ i => simpa using own_pos_ne ch cs i (by omega)
theorem own_pos_eq (ch : Int32) : ∀ (cs : List Int32), own_pos ch cs < cs.length → cs.getD (own_pos ch cs) 0 = ch
  | [], h => by simp at h
  | c :: cs, h => by
    unfold own_pos at h ⊢; split
    · rename_i hc; simpa using hc
    · rename_i hc
      rw [if_neg hc] at h
      simpa using own_pos_eq ch cs (by simpa using h)
/-- indexOf -/
def own_ix (ch : Int32) (cs : List Int32) : Int32 := if own_pos ch cs < cs.length then Int32.ofNat (own_pos ch cs) else -1
theorem own_b44 {c : Int32} (h0 : ¬ c < 0) (h1 : ¬ 255 < c) (ch : Int32) (k0 : ¬ ch < 0) (k1 : ¬ 255 < ch) : c.toInt8.toInt32 = ch.toInt8.toInt32 ↔ c = ch := by
  refine ⟨fun q => ?_, fun q => by rw [q]⟩
  have a := own_back8 h0 h1; have b := own_back8 k0 k1
  rw [q] at a; exact a.symm.trans b
theorem own_c0 : own_chs [] := fun _ q => nomatch q
theorem own_cS {c : Int32} {L : List Int32} (q : ¬ c < 0 ∧ ¬ 255 < c) (r : own_chs L) : own_chs (c :: L) := fun x z => (List.mem_cons.mp z).elim (fun u => u ▸ ⟨q.1, own_255 q.2⟩) (r x)
/-- Latin-1 signs -/
def own_l1 (cs : List Int32) : Prop := ∀ c ∈ cs, ¬ c < 0 ∧ ¬ 255 < c
theorem own_l10 : own_l1 [] := fun _ q => nomatch q
theorem own_l1S {c : Int32} {L : List Int32} (q : ¬ c < 0 ∧ ¬ 255 < c) (r : own_l1 L) : own_l1 (c :: L) := fun x z => (List.mem_cons.mp z).elim (fun u => u ▸ q) (r x)
theorem own_l1_all {cs : List Int32} (h : own_l1 cs) : ∀ c ∈ cs, ¬ 255 < c := fun c hc => (h c hc).2
theorem own_l1_chs {cs : List Int32} (h : own_l1 cs) : own_chs cs := fun c hc => ⟨(h c hc).1, own_255 (h c hc).2⟩
theorem own_l1_at {cs : List Int32} (h : own_l1 cs) (i : Nat) (hi : i < cs.length) : ¬ cs.getD i 0 < 0 ∧ ¬ 255 < cs.getD i 0 := by
  rw [List.getD_eq_getElem?_getD, List.getElem?_eq_getElem hi]; exact h _ (List.getElem_mem hi)
theorem own_mask_rng (x : Int32) : ¬ (x &&& 255) < 0 ∧ ¬ 255 < (x &&& 255) := ⟨by
  have q := (c_and x 255 (by decide)).1
  rw [Int32.lt_iff_toInt_lt]; show ¬ (_ < (0 : Int)); exact Int.not_lt.mpr q, own_and255 x⟩
theorem own_codOfL {cs : List Int32} (h : own_l1 cs) : own_cod cs 0 (Int32.ofNat cs.length) (own_lat cs) := Or.inl ⟨own_fst_all cs (own_l1_all h), rfl, rfl, rfl⟩
theorem own_ofeq {cs ds : List Int32} (h : ¬ own_eqv cs ds = 0) : cs = ds := by
  unfold own_eqv at h; split at h
  · assumption
  · exact absurd rfl h
theorem own_ofne {cs ds : List Int32} (h : own_eqv cs ds = 0) : ¬ cs = ds := fun q => by
  rw [own_eqv, if_pos q] at h; exact absurd h (by decide)
theorem own_l1_set {cs : List Int32} (h : own_l1 cs) {c : Int32} (hc : ¬ c < 0 ∧ ¬ 255 < c) (i : Nat) : own_l1 (cs.set i c) := fun x hx => by
  rcases List.mem_or_eq_of_mem_set hx with q | q
  · exact h x q
  · exact q ▸ hc
theorem own_mapset (cs : List Int32) (i : Nat) (c : Int32) : (cs.map Value.int).set i (.int c) = (cs.set i c).map Value.int := by rw [List.map_set]
theorem own_rem_nn (x : Int32) (k : Int32) (hk : 0 < k.toInt) : ¬ ((x &&& 2147483647) - ((x &&& 2147483647) / k) * k) < 0 := by
  have h0 := (c_and x 2147483647 (by decide)).1
  rw [irem_eq_mod]
  have q := (c_iremV (x &&& 2147483647) k).1 h0 hk
  rw [Int32.lt_iff_toInt_lt]; show ¬ (_ < (0 : Int)); omega
theorem own_sing : own_l1 [(115 : Int32), (105 : Int32), (110 : Int32), (103 : Int32), (108 : Int32), (101 : Int32), (116 : Int32), (111 : Int32), (110 : Int32)] := by unfold own_l1; decide
theorem own_proto : own_l1 [(112 : Int32), (114 : Int32), (111 : Int32), (116 : Int32), (111 : Int32), (116 : Int32), (121 : Int32), (112 : Int32), (101 : Int32)] := by unfold own_l1; decide
theorem own_clamp_lt {k : Int32} (h0 : ¬ k < 0) (h : k < 9) : k.toNatClampNeg < 9 := by
  rw [Int32.lt_iff_toInt_lt] at h h0
  have e : (9 : Int32).toInt = 9 := by decide
  have e0 : (0 : Int32).toInt = 0 := by decide
  show k.toInt.toNat < 9
  omega
theorem d_jdk_41_11_0 : decode jdk_41_method_11_code 0 = .ok (.iload_n 0, 1) := by decide +kernel
theorem d_jdk_41_11_1 : decode jdk_41_method_11_code 1 = .ok (.ifCond .lt 8, 3) := by decide +kernel
theorem d_jdk_41_11_4 : decode jdk_41_method_11_code 4 = .ok (.iload_n 0, 1) := by decide +kernel
theorem d_jdk_41_11_5 : decode jdk_41_method_11_code 5 = .ok (.iload_n 1, 1) := by decide +kernel
theorem d_jdk_41_11_6 : decode jdk_41_method_11_code 6 = .ok (.if_icmp .lt 10, 3) := by decide +kernel
theorem d_jdk_41_11_16 : decode jdk_41_method_11_code 16 = .ok (.iload_n 0, 1) := by decide +kernel
theorem d_jdk_41_11_17 : decode jdk_41_method_11_code 17 = .ok (.ireturn, 1) := by decide +kernel
theorem d_jdk_42_139_0 : decode jdk_42_method_139_code 0 = .ok (.getstatic 38, 3) := by decide +kernel
theorem d_jdk_42_139_3 : decode jdk_42_method_139_code 3 = .ok (.ifCond .eq 23, 3) := by decide +kernel
theorem d_jdk_42_139_6 : decode jdk_42_method_139_code 6 = .ok (.iload_n 0, 1) := by decide +kernel
theorem d_jdk_42_139_7 : decode jdk_42_method_139_code 7 = .ok (.invokestatic 1015, 3) := by decide +kernel
theorem d_jdk_42_139_10 : decode jdk_42_method_139_code 10 = .ok (.ifCond .eq 16, 3) := by decide +kernel
theorem d_jdk_42_139_13 : decode jdk_42_method_139_code 13 = .ok (.new 10, 3) := by decide +kernel
theorem d_jdk_42_139_16 : decode jdk_42_method_139_code 16 = .ok (.dup, 1) := by decide +kernel
theorem d_jdk_42_139_17 : decode jdk_42_method_139_code 17 = .ok (.iload_n 0, 1) := by decide +kernel
theorem d_jdk_42_139_18 : decode jdk_42_method_139_code 18 = .ok (.invokestatic 1018, 3) := by decide +kernel
theorem d_jdk_42_139_21 : decode jdk_42_method_139_code 21 = .ok (.iconst 0, 1) := by decide +kernel
theorem d_jdk_42_139_22 : decode jdk_42_method_139_code 22 = .ok (.invokespecial 209, 3) := by decide +kernel
theorem d_jdk_42_139_25 : decode jdk_42_method_139_code 25 = .ok (.areturn, 1) := by decide +kernel
theorem d_jdk_42_149_0 : decode jdk_42_method_149_code 0 = .ok (.aload_n 0, 1) := by decide +kernel
theorem d_jdk_42_149_1 : decode jdk_42_method_149_code 1 = .ok (.invokespecial 1, 3) := by decide +kernel
theorem d_jdk_42_149_4 : decode jdk_42_method_149_code 4 = .ok (.iload_n 3, 1) := by decide +kernel
theorem d_jdk_42_149_5 : decode jdk_42_method_149_code 5 = .ok (.ifCond .ne 22, 3) := by decide +kernel
theorem d_jdk_42_149_8 : decode jdk_42_method_149_code 8 = .ok (.aload_n 0, 1) := by decide +kernel
theorem d_jdk_42_149_9 : decode jdk_42_method_149_code 9 = .ok (.ldc 7, 2) := by decide +kernel
theorem d_jdk_42_149_11 : decode jdk_42_method_149_code 11 = .ok (.getfield 9, 3) := by decide +kernel
theorem d_jdk_42_149_14 : decode jdk_42_method_149_code 14 = .ok (.putfield 9, 3) := by decide +kernel
theorem d_jdk_42_149_17 : decode jdk_42_method_149_code 17 = .ok (.aload_n 0, 1) := by decide +kernel
theorem d_jdk_42_149_18 : decode jdk_42_method_149_code 18 = .ok (.ldc 7, 2) := by decide +kernel
theorem d_jdk_42_149_20 : decode jdk_42_method_149_code 20 = .ok (.getfield 15, 3) := by decide +kernel
theorem d_jdk_42_149_23 : decode jdk_42_method_149_code 23 = .ok (.putfield 15, 3) := by decide +kernel
theorem d_jdk_42_149_26 : decode jdk_42_method_149_code 26 = .ok (.return_, 1) := by decide +kernel
theorem d_jdk_42_149_27 : decode jdk_42_method_149_code 27 = .ok (.getstatic 38, 3) := by decide +kernel
theorem d_jdk_42_149_30 : decode jdk_42_method_149_code 30 = .ok (.ifCond .eq 28, 3) := by decide +kernel
theorem d_jdk_42_149_33 : decode jdk_42_method_149_code 33 = .ok (.aload_n 1, 1) := by decide +kernel
theorem d_jdk_42_149_34 : decode jdk_42_method_149_code 34 = .ok (.iload_n 2, 1) := by decide +kernel
theorem d_jdk_42_149_35 : decode jdk_42_method_149_code 35 = .ok (.iload_n 3, 1) := by decide +kernel
theorem d_jdk_42_149_36 : decode jdk_42_method_149_code 36 = .ok (.invokestatic 177, 3) := by decide +kernel
theorem d_jdk_42_149_39 : decode jdk_42_method_149_code 39 = .ok (.astore 5, 2) := by decide +kernel
theorem d_jdk_42_149_41 : decode jdk_42_method_149_code 41 = .ok (.aload_n 0, 1) := by decide +kernel
theorem d_jdk_42_149_42 : decode jdk_42_method_149_code 42 = .ok (.aload 5, 2) := by decide +kernel
theorem d_jdk_42_149_44 : decode jdk_42_method_149_code 44 = .ok (.iload_n 3, 1) := by decide +kernel
theorem d_jdk_42_149_45 : decode jdk_42_method_149_code 45 = .ok (.invokestatic 47, 3) := by decide +kernel
theorem d_jdk_42_149_48 : decode jdk_42_method_149_code 48 = .ok (.putfield 15, 3) := by decide +kernel
theorem d_jdk_42_149_51 : decode jdk_42_method_149_code 51 = .ok (.aload_n 0, 1) := by decide +kernel
theorem d_jdk_42_149_52 : decode jdk_42_method_149_code 52 = .ok (.aload 5, 2) := by decide +kernel
theorem d_jdk_42_149_54 : decode jdk_42_method_149_code 54 = .ok (.putfield 9, 3) := by decide +kernel
theorem d_jdk_42_149_57 : decode jdk_42_method_149_code 57 = .ok (.return_, 1) := by decide +kernel
theorem d_jdk_42_151_0 : decode jdk_42_method_151_code 0 = .ok (.aload_n 0, 1) := by decide +kernel
theorem d_jdk_42_151_1 : decode jdk_42_method_151_code 1 = .ok (.invokespecial 1, 3) := by decide +kernel
theorem d_jdk_42_151_4 : decode jdk_42_method_151_code 4 = .ok (.aload_n 0, 1) := by decide +kernel
theorem d_jdk_42_151_5 : decode jdk_42_method_151_code 5 = .ok (.aload_n 1, 1) := by decide +kernel
theorem d_jdk_42_151_6 : decode jdk_42_method_151_code 6 = .ok (.putfield 9, 3) := by decide +kernel
theorem d_jdk_42_151_9 : decode jdk_42_method_151_code 9 = .ok (.aload_n 0, 1) := by decide +kernel
theorem d_jdk_42_151_10 : decode jdk_42_method_151_code 10 = .ok (.iload_n 2, 1) := by decide +kernel
theorem d_jdk_42_151_11 : decode jdk_42_method_151_code 11 = .ok (.putfield 15, 3) := by decide +kernel
theorem d_jdk_42_151_14 : decode jdk_42_method_151_code 14 = .ok (.return_, 1) := by decide +kernel
theorem d_jdk_42_154_0 : decode jdk_42_method_154_code 0 = .ok (.getstatic 38, 3) := by decide +kernel
theorem d_jdk_42_154_3 : decode jdk_42_method_154_code 3 = .ok (.ifCond .eq 14, 3) := by decide +kernel
theorem d_jdk_42_154_6 : decode jdk_42_method_154_code 6 = .ok (.aload_n 0, 1) := by decide +kernel
theorem d_jdk_42_154_7 : decode jdk_42_method_154_code 7 = .ok (.getfield 15, 3) := by decide +kernel
theorem d_jdk_42_154_10 : decode jdk_42_method_154_code 10 = .ok (.ifCond .ne 7, 3) := by decide +kernel
theorem d_jdk_42_154_13 : decode jdk_42_method_154_code 13 = .ok (.iconst 1, 1) := by decide +kernel
theorem d_jdk_42_154_14 : decode jdk_42_method_154_code 14 = .ok (.goto 4, 3) := by decide +kernel
theorem d_jdk_42_154_17 : decode jdk_42_method_154_code 17 = .ok (.iconst 0, 1) := by decide +kernel
theorem d_jdk_42_154_18 : decode jdk_42_method_154_code 18 = .ok (.ireturn, 1) := by decide +kernel
theorem d_jdk_42_155_0 : decode jdk_42_method_155_code 0 = .ok (.iload_n 0, 1) := by decide +kernel
theorem d_jdk_42_155_1 : decode jdk_42_method_155_code 1 = .ok (.iload_n 1, 1) := by decide +kernel
theorem d_jdk_42_155_2 : decode jdk_42_method_155_code 2 = .ok (.getstatic 1053, 3) := by decide +kernel
theorem d_jdk_42_155_5 : decode jdk_42_method_155_code 5 = .ok (.invokestatic 1059, 3) := by decide +kernel
theorem d_jdk_42_155_8 : decode jdk_42_method_155_code 8 = .ok (.pop, 1) := by decide +kernel
theorem d_jdk_42_155_9 : decode jdk_42_method_155_code 9 = .ok (.return_, 1) := by decide +kernel
theorem d_jdk_42_3_0 : decode jdk_42_method_3_code 0 = .ok (.aload_n 0, 1) := by decide +kernel
theorem d_jdk_42_3_1 : decode jdk_42_method_3_code 1 = .ok (.aload_n 1, 1) := by decide +kernel
theorem d_jdk_42_3_2 : decode jdk_42_method_3_code 2 = .ok (.iconst 0, 1) := by decide +kernel
theorem d_jdk_42_3_3 : decode jdk_42_method_3_code 3 = .ok (.aload_n 1, 1) := by decide +kernel
theorem d_jdk_42_3_4 : decode jdk_42_method_3_code 4 = .ok (.arraylength, 1) := by decide +kernel
theorem d_jdk_42_3_5 : decode jdk_42_method_3_code 5 = .ok (.aconst_null, 1) := by decide +kernel
theorem d_jdk_42_3_6 : decode jdk_42_method_3_code 6 = .ok (.invokespecial 27, 3) := by decide +kernel
theorem d_jdk_42_3_9 : decode jdk_42_method_3_code 9 = .ok (.return_, 1) := by decide +kernel
theorem d_jdk_42_56_0 : decode jdk_42_method_56_code 0 = .ok (.aload_n 0, 1) := by decide +kernel
theorem d_jdk_42_56_1 : decode jdk_42_method_56_code 1 = .ok (.invokevirtual 492, 3) := by decide +kernel
theorem d_jdk_42_56_4 : decode jdk_42_method_56_code 4 = .ok (.ifCond .eq 12, 3) := by decide +kernel
theorem d_jdk_42_56_7 : decode jdk_42_method_56_code 7 = .ok (.aload_n 0, 1) := by decide +kernel
theorem d_jdk_42_56_8 : decode jdk_42_method_56_code 8 = .ok (.getfield 9, 3) := by decide +kernel
theorem d_jdk_42_56_11 : decode jdk_42_method_56_code 11 = .ok (.iload_n 1, 1) := by decide +kernel
theorem d_jdk_42_56_12 : decode jdk_42_method_56_code 12 = .ok (.invokestatic 495, 3) := by decide +kernel
theorem d_jdk_42_56_15 : decode jdk_42_method_56_code 15 = .ok (.ireturn, 1) := by decide +kernel
theorem d_jdk_42_66_0 : decode jdk_42_method_66_code 0 = .ok (.aload_n 0, 1) := by decide +kernel
theorem d_jdk_42_66_1 : decode jdk_42_method_66_code 1 = .ok (.aload_n 1, 1) := by decide +kernel
theorem d_jdk_42_66_2 : decode jdk_42_method_66_code 2 = .ok (.if_acmp .ne 5, 3) := by decide +kernel
theorem d_jdk_42_66_5 : decode jdk_42_method_66_code 5 = .ok (.iconst 1, 1) := by decide +kernel
theorem d_jdk_42_66_6 : decode jdk_42_method_66_code 6 = .ok (.ireturn, 1) := by decide +kernel
theorem d_jdk_42_66_7 : decode jdk_42_method_66_code 7 = .ok (.aload_n 1, 1) := by decide +kernel
theorem d_jdk_42_66_8 : decode jdk_42_method_66_code 8 = .ok (.instanceof 10, 3) := by decide +kernel
theorem d_jdk_42_66_11 : decode jdk_42_method_66_code 11 = .ok (.ifCond .eq 43, 3) := by decide +kernel
theorem d_jdk_42_66_14 : decode jdk_42_method_66_code 14 = .ok (.aload_n 1, 1) := by decide +kernel
theorem d_jdk_42_66_15 : decode jdk_42_method_66_code 15 = .ok (.checkcast 10, 3) := by decide +kernel
theorem d_jdk_42_66_18 : decode jdk_42_method_66_code 18 = .ok (.astore_n 2, 1) := by decide +kernel
theorem d_jdk_42_66_19 : decode jdk_42_method_66_code 19 = .ok (.getstatic 38, 3) := by decide +kernel
theorem d_jdk_42_66_22 : decode jdk_42_method_66_code 22 = .ok (.ifCond .eq 14, 3) := by decide +kernel
theorem d_jdk_42_66_25 : decode jdk_42_method_66_code 25 = .ok (.aload_n 0, 1) := by decide +kernel
theorem d_jdk_42_66_26 : decode jdk_42_method_66_code 26 = .ok (.getfield 15, 3) := by decide +kernel
theorem d_jdk_42_66_29 : decode jdk_42_method_66_code 29 = .ok (.aload_n 2, 1) := by decide +kernel
theorem d_jdk_42_66_30 : decode jdk_42_method_66_code 30 = .ok (.getfield 15, 3) := by decide +kernel
theorem d_jdk_42_66_33 : decode jdk_42_method_66_code 33 = .ok (.if_icmp .ne 21, 3) := by decide +kernel
theorem d_jdk_42_66_36 : decode jdk_42_method_66_code 36 = .ok (.aload_n 0, 1) := by decide +kernel
theorem d_jdk_42_66_37 : decode jdk_42_method_66_code 37 = .ok (.getfield 9, 3) := by decide +kernel
theorem d_jdk_42_66_40 : decode jdk_42_method_66_code 40 = .ok (.aload_n 2, 1) := by decide +kernel
theorem d_jdk_42_66_41 : decode jdk_42_method_66_code 41 = .ok (.getfield 9, 3) := by decide +kernel
theorem d_jdk_42_66_44 : decode jdk_42_method_66_code 44 = .ok (.invokestatic 541, 3) := by decide +kernel
theorem d_jdk_42_66_47 : decode jdk_42_method_66_code 47 = .ok (.ifCond .eq 7, 3) := by decide +kernel
theorem d_jdk_42_66_50 : decode jdk_42_method_66_code 50 = .ok (.iconst 1, 1) := by decide +kernel
theorem d_jdk_42_66_51 : decode jdk_42_method_66_code 51 = .ok (.goto 4, 3) := by decide +kernel
theorem d_jdk_42_66_54 : decode jdk_42_method_66_code 54 = .ok (.iconst 0, 1) := by decide +kernel
theorem d_jdk_42_66_55 : decode jdk_42_method_66_code 55 = .ok (.ireturn, 1) := by decide +kernel
theorem d_jdk_43_13_0 : decode jdk_43_method_13_code 0 = .ok (.aload_n 0, 1) := by decide +kernel
theorem d_jdk_43_13_1 : decode jdk_43_method_13_code 1 = .ok (.arraylength, 1) := by decide +kernel
theorem d_jdk_43_13_2 : decode jdk_43_method_13_code 2 = .ok (.aload_n 1, 1) := by decide +kernel
theorem d_jdk_43_13_3 : decode jdk_43_method_13_code 3 = .ok (.arraylength, 1) := by decide +kernel
theorem d_jdk_43_13_4 : decode jdk_43_method_13_code 4 = .ok (.if_icmp .ne 30, 3) := by decide +kernel
theorem d_jdk_43_13_7 : decode jdk_43_method_13_code 7 = .ok (.iconst 0, 1) := by decide +kernel
theorem d_jdk_43_13_8 : decode jdk_43_method_13_code 8 = .ok (.istore_n 2, 1) := by decide +kernel
theorem d_jdk_43_13_9 : decode jdk_43_method_13_code 9 = .ok (.iload_n 2, 1) := by decide +kernel
theorem d_jdk_43_13_10 : decode jdk_43_method_13_code 10 = .ok (.aload_n 0, 1) := by decide +kernel
theorem d_jdk_43_13_11 : decode jdk_43_method_13_code 11 = .ok (.arraylength, 1) := by decide +kernel
theorem d_jdk_43_13_12 : decode jdk_43_method_13_code 12 = .ok (.if_icmp .ge 20, 3) := by decide +kernel
theorem d_jdk_43_13_15 : decode jdk_43_method_13_code 15 = .ok (.aload_n 0, 1) := by decide +kernel
theorem d_jdk_43_13_16 : decode jdk_43_method_13_code 16 = .ok (.iload_n 2, 1) := by decide +kernel
theorem d_jdk_43_13_17 : decode jdk_43_method_13_code 17 = .ok (.baload, 1) := by decide +kernel
theorem d_jdk_43_13_18 : decode jdk_43_method_13_code 18 = .ok (.aload_n 1, 1) := by decide +kernel
theorem d_jdk_43_13_19 : decode jdk_43_method_13_code 19 = .ok (.iload_n 2, 1) := by decide +kernel
theorem d_jdk_43_13_20 : decode jdk_43_method_13_code 20 = .ok (.baload, 1) := by decide +kernel
theorem d_jdk_43_13_21 : decode jdk_43_method_13_code 21 = .ok (.if_icmp .eq 5, 3) := by decide +kernel
theorem d_jdk_43_13_24 : decode jdk_43_method_13_code 24 = .ok (.iconst 0, 1) := by decide +kernel
theorem d_jdk_43_13_25 : decode jdk_43_method_13_code 25 = .ok (.ireturn, 1) := by decide +kernel
theorem d_jdk_43_13_26 : decode jdk_43_method_13_code 26 = .ok (.iinc 2 1, 3) := by decide +kernel
theorem d_jdk_43_13_29 : decode jdk_43_method_13_code 29 = .ok (.goto (-20), 3) := by decide +kernel
theorem d_jdk_43_13_32 : decode jdk_43_method_13_code 32 = .ok (.iconst 1, 1) := by decide +kernel
theorem d_jdk_43_13_33 : decode jdk_43_method_13_code 33 = .ok (.ireturn, 1) := by decide +kernel
theorem d_jdk_43_13_34 : decode jdk_43_method_13_code 34 = .ok (.iconst 0, 1) := by decide +kernel
theorem d_jdk_43_13_35 : decode jdk_43_method_13_code 35 = .ok (.ireturn, 1) := by decide +kernel
theorem d_jdk_43_2_0 : decode jdk_43_method_2_code 0 = .ok (.iload_n 1, 1) := by decide +kernel
theorem d_jdk_43_2_1 : decode jdk_43_method_2_code 1 = .ok (.aload_n 0, 1) := by decide +kernel
theorem d_jdk_43_2_2 : decode jdk_43_method_2_code 2 = .ok (.arraylength, 1) := by decide +kernel
theorem d_jdk_43_2_3 : decode jdk_43_method_2_code 3 = .ok (.invokestatic 9, 3) := by decide +kernel
theorem d_jdk_43_2_6 : decode jdk_43_method_2_code 6 = .ok (.aload_n 0, 1) := by decide +kernel
theorem d_jdk_43_2_7 : decode jdk_43_method_2_code 7 = .ok (.iload_n 1, 1) := by decide +kernel
theorem d_jdk_43_2_8 : decode jdk_43_method_2_code 8 = .ok (.baload, 1) := by decide +kernel
theorem d_jdk_43_2_9 : decode jdk_43_method_2_code 9 = .ok (.sipush 255, 3) := by decide +kernel
theorem d_jdk_43_2_12 : decode jdk_43_method_2_code 12 = .ok (.iand, 1) := by decide +kernel
theorem d_jdk_43_2_13 : decode jdk_43_method_2_code 13 = .ok (.i2c, 1) := by decide +kernel
theorem d_jdk_43_2_14 : decode jdk_43_method_2_code 14 = .ok (.ireturn, 1) := by decide +kernel
theorem d_jdk_43_3_0 : decode jdk_43_method_3_code 0 = .ok (.iload_n 0, 1) := by decide +kernel
theorem d_jdk_43_3_1 : decode jdk_43_method_3_code 1 = .ok (.sipush 255, 3) := by decide +kernel
theorem d_jdk_43_3_4 : decode jdk_43_method_3_code 4 = .ok (.if_icmp .gt 7, 3) := by decide +kernel
theorem d_jdk_43_3_7 : decode jdk_43_method_3_code 7 = .ok (.iconst 1, 1) := by decide +kernel
theorem d_jdk_43_3_8 : decode jdk_43_method_3_code 8 = .ok (.goto 4, 3) := by decide +kernel
theorem d_jdk_43_3_12 : decode jdk_43_method_3_code 12 = .ok (.ireturn, 1) := by decide +kernel
theorem d_jdk_43_46_0 : decode jdk_43_method_46_code 0 = .ok (.iconst 1, 1) := by decide +kernel
theorem d_jdk_43_46_1 : decode jdk_43_method_46_code 1 = .ok (.newarray .byte, 2) := by decide +kernel
theorem d_jdk_43_46_3 : decode jdk_43_method_46_code 3 = .ok (.dup, 1) := by decide +kernel
theorem d_jdk_43_46_4 : decode jdk_43_method_46_code 4 = .ok (.iconst 0, 1) := by decide +kernel
theorem d_jdk_43_46_5 : decode jdk_43_method_46_code 5 = .ok (.iload_n 0, 1) := by decide +kernel
theorem d_jdk_43_46_6 : decode jdk_43_method_46_code 6 = .ok (.i2b, 1) := by decide +kernel
theorem d_jdk_43_46_7 : decode jdk_43_method_46_code 7 = .ok (.bastore, 1) := by decide +kernel
theorem d_jdk_43_46_8 : decode jdk_43_method_46_code 8 = .ok (.areturn, 1) := by decide +kernel
theorem d_jdk_52_15_0 : decode jdk_52_method_15_code 0 = .ok (.iload_n 1, 1) := by decide +kernel
theorem d_jdk_52_15_1 : decode jdk_52_method_15_code 1 = .ok (.aload_n 0, 1) := by decide +kernel
theorem d_jdk_52_15_2 : decode jdk_52_method_15_code 2 = .ok (.arraylength, 1) := by decide +kernel
theorem d_jdk_52_15_3 : decode jdk_52_method_15_code 3 = .ok (.isub, 1) := by decide +kernel
theorem d_jdk_52_15_4 : decode jdk_52_method_15_code 4 = .ok (.bipush 31, 2) := by decide +kernel
theorem d_jdk_52_15_6 : decode jdk_52_method_15_code 6 = .ok (.iushr, 1) := by decide +kernel
theorem d_jdk_52_15_7 : decode jdk_52_method_15_code 7 = .ok (.i2b, 1) := by decide +kernel
theorem d_jdk_52_15_8 : decode jdk_52_method_15_code 8 = .ok (.ireturn, 1) := by decide +kernel
theorem d_jdk_52_16_0 : decode jdk_52_method_16_code 0 = .ok (.iload_n 2, 1) := by decide +kernel
theorem d_jdk_52_16_1 : decode jdk_52_method_16_code 1 = .ok (.newarray .byte, 2) := by decide +kernel
theorem d_jdk_52_16_3 : decode jdk_52_method_16_code 3 = .ok (.astore_n 3, 1) := by decide +kernel
theorem d_jdk_52_16_4 : decode jdk_52_method_16_code 4 = .ok (.aload_n 0, 1) := by decide +kernel
theorem d_jdk_52_16_5 : decode jdk_52_method_16_code 5 = .ok (.iload_n 1, 1) := by decide +kernel
theorem d_jdk_52_16_6 : decode jdk_52_method_16_code 6 = .ok (.aload_n 3, 1) := by decide +kernel
theorem d_jdk_52_16_7 : decode jdk_52_method_16_code 7 = .ok (.iconst 0, 1) := by decide +kernel
theorem d_jdk_52_16_8 : decode jdk_52_method_16_code 8 = .ok (.iload_n 2, 1) := by decide +kernel
theorem d_jdk_52_16_9 : decode jdk_52_method_16_code 9 = .ok (.invokestatic 115, 3) := by decide +kernel
theorem d_jdk_52_16_12 : decode jdk_52_method_16_code 12 = .ok (.istore 4, 2) := by decide +kernel
theorem d_jdk_52_16_14 : decode jdk_52_method_16_code 14 = .ok (.iload 4, 2) := by decide +kernel
theorem d_jdk_52_16_16 : decode jdk_52_method_16_code 16 = .ok (.iload_n 2, 1) := by decide +kernel
theorem d_jdk_52_16_17 : decode jdk_52_method_16_code 17 = .ok (.if_icmp .eq 40, 3) := by decide +kernel
theorem d_jdk_52_16_57 : decode jdk_52_method_16_code 57 = .ok (.aload_n 3, 1) := by decide +kernel
theorem d_jdk_52_16_58 : decode jdk_52_method_16_code 58 = .ok (.areturn, 1) := by decide +kernel
theorem d_jdk_52_21_0 : decode jdk_52_method_21_code 0 = .ok (.iconst 0, 1) := by decide +kernel
theorem d_jdk_52_21_1 : decode jdk_52_method_21_code 1 = .ok (.istore 5, 2) := by decide +kernel
theorem d_jdk_52_21_3 : decode jdk_52_method_21_code 3 = .ok (.iload 5, 2) := by decide +kernel
theorem d_jdk_52_21_5 : decode jdk_52_method_21_code 5 = .ok (.iload 4, 2) := by decide +kernel
theorem d_jdk_52_21_7 : decode jdk_52_method_21_code 7 = .ok (.if_icmp .ge 37, 3) := by decide +kernel
theorem d_jdk_52_21_10 : decode jdk_52_method_21_code 10 = .ok (.aload_n 0, 1) := by decide +kernel
theorem d_jdk_52_21_11 : decode jdk_52_method_21_code 11 = .ok (.iload_n 1, 1) := by decide +kernel
theorem d_jdk_52_21_12 : decode jdk_52_method_21_code 12 = .ok (.caload, 1) := by decide +kernel
theorem d_jdk_52_21_13 : decode jdk_52_method_21_code 13 = .ok (.istore 6, 2) := by decide +kernel
theorem d_jdk_52_21_15 : decode jdk_52_method_21_code 15 = .ok (.iload 6, 2) := by decide +kernel
theorem d_jdk_52_21_17 : decode jdk_52_method_21_code 17 = .ok (.sipush 255, 3) := by decide +kernel
theorem d_jdk_52_21_20 : decode jdk_52_method_21_code 20 = .ok (.if_icmp .le 6, 3) := by decide +kernel
theorem d_jdk_52_21_23 : decode jdk_52_method_21_code 23 = .ok (.iload 5, 2) := by decide +kernel
theorem d_jdk_52_21_25 : decode jdk_52_method_21_code 25 = .ok (.ireturn, 1) := by decide +kernel
theorem d_jdk_52_21_26 : decode jdk_52_method_21_code 26 = .ok (.aload_n 2, 1) := by decide +kernel
theorem d_jdk_52_21_27 : decode jdk_52_method_21_code 27 = .ok (.iload_n 3, 1) := by decide +kernel
theorem d_jdk_52_21_28 : decode jdk_52_method_21_code 28 = .ok (.iload 6, 2) := by decide +kernel
theorem d_jdk_52_21_30 : decode jdk_52_method_21_code 30 = .ok (.i2b, 1) := by decide +kernel
theorem d_jdk_52_21_31 : decode jdk_52_method_21_code 31 = .ok (.bastore, 1) := by decide +kernel
theorem d_jdk_52_21_32 : decode jdk_52_method_21_code 32 = .ok (.iinc 1 1, 3) := by decide +kernel
theorem d_jdk_52_21_35 : decode jdk_52_method_21_code 35 = .ok (.iinc 3 1, 3) := by decide +kernel
theorem d_jdk_52_21_38 : decode jdk_52_method_21_code 38 = .ok (.iinc 5 1, 3) := by decide +kernel
theorem d_jdk_52_21_41 : decode jdk_52_method_21_code 41 = .ok (.goto (-38), 3) := by decide +kernel
theorem d_jdk_52_21_44 : decode jdk_52_method_21_code 44 = .ok (.iload 4, 2) := by decide +kernel
theorem d_jdk_52_21_46 : decode jdk_52_method_21_code 46 = .ok (.ireturn, 1) := by decide +kernel
theorem d_prog_35_1_0 : decode prog_35_method_1_code 0 = .ok (.getstatic 10, 3) := by decide +kernel
theorem d_prog_35_1_3 : decode prog_35_method_1_code 3 = .ok (.invokevirtual 14, 3) := by decide +kernel
theorem d_prog_35_1_6 : decode prog_35_method_1_code 6 = .ok (.checkcast 15, 3) := by decide +kernel
theorem d_prog_35_1_9 : decode prog_35_method_1_code 9 = .ok (.areturn, 1) := by decide +kernel
theorem d_prog_35_4_0 : decode prog_35_method_4_code 0 = .ok (.aconst_null, 1) := by decide +kernel
theorem d_prog_35_4_1 : decode prog_35_method_4_code 1 = .ok (.astore_n 1, 1) := by decide +kernel
theorem d_prog_35_4_2 : decode prog_35_method_4_code 2 = .ok (.invokestatic 33, 3) := by decide +kernel
theorem d_prog_35_4_5 : decode prog_35_method_4_code 5 = .ok (.astore_n 2, 1) := by decide +kernel
theorem d_prog_35_4_6 : decode prog_35_method_4_code 6 = .ok (.aload_n 2, 1) := by decide +kernel
theorem d_prog_35_4_7 : decode prog_35_method_4_code 7 = .ok (.arraylength, 1) := by decide +kernel
theorem d_prog_35_4_8 : decode prog_35_method_4_code 8 = .ok (.istore_n 3, 1) := by decide +kernel
theorem d_prog_35_4_9 : decode prog_35_method_4_code 9 = .ok (.iconst 0, 1) := by decide +kernel
theorem d_prog_35_4_10 : decode prog_35_method_4_code 10 = .ok (.istore 4, 2) := by decide +kernel
theorem d_prog_35_4_12 : decode prog_35_method_4_code 12 = .ok (.iload 4, 2) := by decide +kernel
theorem d_prog_35_4_14 : decode prog_35_method_4_code 14 = .ok (.iload_n 3, 1) := by decide +kernel
theorem d_prog_35_4_15 : decode prog_35_method_4_code 15 = .ok (.if_icmp .ge 30, 3) := by decide +kernel
theorem d_prog_35_4_18 : decode prog_35_method_4_code 18 = .ok (.aload_n 2, 1) := by decide +kernel
theorem d_prog_35_4_19 : decode prog_35_method_4_code 19 = .ok (.iload 4, 2) := by decide +kernel
theorem d_prog_35_4_21 : decode prog_35_method_4_code 21 = .ok (.aaload, 1) := by decide +kernel
theorem d_prog_35_4_22 : decode prog_35_method_4_code 22 = .ok (.astore 5, 2) := by decide +kernel
theorem d_prog_35_4_24 : decode prog_35_method_4_code 24 = .ok (.aload 5, 2) := by decide +kernel
theorem d_prog_35_4_26 : decode prog_35_method_4_code 26 = .ok (.getfield 29, 3) := by decide +kernel
theorem d_prog_35_4_29 : decode prog_35_method_4_code 29 = .ok (.aload_n 0, 1) := by decide +kernel
theorem d_prog_35_4_30 : decode prog_35_method_4_code 30 = .ok (.invokevirtual 37, 3) := by decide +kernel
theorem d_prog_35_4_33 : decode prog_35_method_4_code 33 = .ok (.ifCond .eq 6, 3) := by decide +kernel
theorem d_prog_35_4_36 : decode prog_35_method_4_code 36 = .ok (.aload 5, 2) := by decide +kernel
theorem d_prog_35_4_38 : decode prog_35_method_4_code 38 = .ok (.astore_n 1, 1) := by decide +kernel
theorem d_prog_35_4_39 : decode prog_35_method_4_code 39 = .ok (.iinc 4 1, 3) := by decide +kernel
theorem d_prog_35_4_42 : decode prog_35_method_4_code 42 = .ok (.goto (-30), 3) := by decide +kernel
theorem d_prog_35_4_45 : decode prog_35_method_4_code 45 = .ok (.aload_n 1, 1) := by decide +kernel
theorem d_prog_35_4_46 : decode prog_35_method_4_code 46 = .ok (.areturn, 1) := by decide +kernel
theorem pd_0 : parseMethodDescriptor "([CI[BII)I" = some ⟨[(.array .char), .int, (.array .byte), .int, .int], some .int⟩ := by decide +kernel
theorem pd_1 : parseMethodDescriptor "([CII)[B" = some ⟨[(.array .char), .int, .int], some (.array .byte)⟩ := by decide +kernel
theorem pd_2 : parseMethodDescriptor "([BI)B" = some ⟨[(.array .byte), .int], some .byte⟩ := by decide +kernel
theorem pd_3 : parseMethodDescriptor "([CIILjava/lang/Void;)V" = some ⟨[(.array .char), .int, .int, (.object "java/lang/Void")], none⟩ := by decide +kernel
theorem pd_4 : parseMethodDescriptor "(IILjava/util/function/BiFunction;)I" = some ⟨[.int, .int, (.object "java/util/function/BiFunction")], some .int⟩ := by decide +kernel
theorem pd_5 : parseMethodDescriptor "(II)V" = some ⟨[.int, .int], none⟩ := by decide +kernel
theorem pd_6 : parseMethodDescriptor "()Z" = some ⟨[], some .boolean⟩ := by decide +kernel
theorem pd_7 : parseMethodDescriptor "([BI)C" = some ⟨[(.array .byte), .int], some .char⟩ := by decide +kernel
theorem pd_8 : parseMethodDescriptor "([B[B)Z" = some ⟨[(.array .byte), (.array .byte)], some .boolean⟩ := by decide +kernel
theorem pd_9 : parseMethodDescriptor "(C)Z" = some ⟨[.char], some .boolean⟩ := by decide +kernel
theorem pd_10 : parseMethodDescriptor "(C)[B" = some ⟨[.char], some (.array .byte)⟩ := by decide +kernel
theorem pd_11 : parseMethodDescriptor "([BB)V" = some ⟨[(.array .byte), .byte], none⟩ := by decide +kernel
theorem pd_12 : parseMethodDescriptor "()[Lcom/example/wirewright/wirewright/definition/Scope;" = some ⟨[], some (.array (.object "com/example/wirewright/wirewright/definition/Scope"))⟩ := by decide +kernel
theorem pd_13 : parseMethodDescriptor "(Ljava/lang/Object;)Z" = some ⟨[(.object "java/lang/Object")], some .boolean⟩ := by decide +kernel
theorem pd_14 : parseMethodDescriptor "(Ljava/lang/String;)Lcom/example/wirewright/wirewright/definition/Scope;" = some ⟨[(.object "java/lang/String")], some (.object "com/example/wirewright/wirewright/definition/Scope")⟩ := by decide +kernel
theorem pd_15 : parseMethodDescriptor "([C)V" = some ⟨[(.array .char)], none⟩ := by decide +kernel
theorem pd_16 : parseMethodDescriptor "(C)Ljava/lang/String;" = some ⟨[.char], some (.object "java/lang/String")⟩ := by decide +kernel
theorem pd_17 : parseMethodDescriptor "(I)C" = some ⟨[.int], some .char⟩ := by decide +kernel
theorem pn_0 : plainName "java/lang/StringUTF16" = true := by first | (simp [plainName, overriddenIn]; done) | decide +kernel
theorem pn_1 : plainName "java/lang/String" = true := by first | (simp [plainName, overriddenIn]; done) | decide +kernel
theorem pn_2 : plainName "jdk/internal/util/Preconditions" = true := by first | (simp [plainName, overriddenIn]; done) | decide +kernel
theorem pn_3 : plainName "java/lang/StringLatin1" = true := by first | (simp [plainName, overriddenIn]; done) | decide +kernel
theorem pn_4 : plainName "com/example/wirewright/wirewright/definition/Scope" = true := by first | (simp [plainName, overriddenIn]; done) | decide +kernel
theorem pn_5 : plainName "com/example/wirewright/wirewright/definition/ScopeOfAttributePinLaw" = true := by first | (simp [plainName, overriddenIn]; done) | decide +kernel
theorem w_0 {a0 : Array Value} {Z : State} (hw : ∀ d ∈ tables_1, d.before a0 Z = true) : (Jvm.Cond.stringLink "com/example/wirewright/wirewright/definition/ScopeOfAttributePinLaw" (7 : Nat) "singleton").before a0 Z = true := hw _ (List.mem_of_getElem? (i := 0) rfl)
theorem w_1 {a0 : Array Value} {Z : State} (hw : ∀ d ∈ tables_1, d.before a0 Z = true) : (Jvm.Cond.initialized "java/lang/String").before a0 Z = true := hw _ (List.mem_of_getElem? (i := 1) rfl)
theorem w_2 {a0 : Array Value} {Z : State} (hw : ∀ d ∈ tables_1, d.before a0 Z = true) : (Jvm.Cond.instantiable "java/lang/String" (4 : Nat)).before a0 Z = true := hw _ (List.mem_of_getElem? (i := 2) rfl)
theorem w_3 {a0 : Array Value} {Z : State} (hw : ∀ d ∈ tables_1, d.before a0 Z = true) : (Jvm.Cond.arrayClass Jvm.ClassFile.FieldType.byte).before a0 Z = true := hw _ (List.mem_of_getElem? (i := 3) rfl)
theorem w_4 {a0 : Array Value} {Z : State} (hw : ∀ d ∈ tables_1, d.before a0 Z = true) : (Jvm.Cond.laysFinal "java/lang/String" "java/lang/String" "value" "[B").before a0 Z = true := hw _ (List.mem_of_getElem? (i := 4) rfl)
theorem w_5 {a0 : Array Value} {Z : State} (hw : ∀ d ∈ tables_1, d.before a0 Z = true) : (Jvm.Cond.laysFinal "java/lang/String" "java/lang/String" "coder" "B").before a0 Z = true := hw _ (List.mem_of_getElem? (i := 5) rfl)
theorem w_8 {a0 : Array Value} {Z : State} (hw : ∀ d ∈ tables_1, d.before a0 Z = true) : (Jvm.Cond.arrayClass Jvm.ClassFile.FieldType.char).before a0 Z = true := hw _ (List.mem_of_getElem? (i := 8) rfl)
theorem w_9 {a0 : Array Value} {Z : State} (hw : ∀ d ∈ tables_1, d.before a0 Z = true) : (Jvm.Cond.methodLink "com/example/wirewright/wirewright/definition/ScopeOfAttributePinLaw" (11 : Nat) ({ cls := "java/lang/String", name := "charAt", desc := "(I)C" } : Jvm.MethodName)).before a0 Z = true := hw _ (List.mem_of_getElem? (i := 9) rfl)
theorem w_10 {a0 : Array Value} {Z : State} (hw : ∀ d ∈ tables_1, d.before a0 Z = true) : (Jvm.Cond.declares ({ cls := "java/lang/String", name := "charAt", desc := "(I)C" } : Jvm.MethodName)).before a0 Z = true := hw _ (List.mem_of_getElem? (i := 10) rfl)
theorem w_11 {a0 : Array Value} {Z : State} (hw : ∀ d ∈ tables_1, d.before a0 Z = true) : (Jvm.Cond.instanceMethod ({ cls := "java/lang/String", name := "charAt", desc := "(I)C" } : Jvm.MethodName)).before a0 Z = true := hw _ (List.mem_of_getElem? (i := 11) rfl)
theorem w_12 {a0 : Array Value} {Z : State} (hw : ∀ d ∈ tables_1, d.before a0 Z = true) : (Jvm.Cond.selects "java/lang/String" ({ cls := "java/lang/String", name := "charAt", desc := "(I)C" } : Jvm.MethodName) ({ cls := "java/lang/String", name := "charAt", desc := "(I)C" } : Jvm.MethodName)).before a0 Z = true := hw _ (List.mem_of_getElem? (i := 12) rfl)
theorem w_13 {a0 : Array Value} {Z : State} (hw : ∀ d ∈ tables_1, d.before a0 Z = true) : (Jvm.Cond.code ({ cls := "java/lang/String", name := "charAt", desc := "(I)C" } : Jvm.MethodName) jdk_42_method_56_code (2 : Nat) (Option.some Jvm.ClassFile.FieldType.char)).before a0 Z = true := hw _ (List.mem_of_getElem? (i := 13) rfl)
theorem w_14 {a0 : Array Value} {Z : State} (hw : ∀ d ∈ tables_1, d.before a0 Z = true) : (Jvm.Cond.methodLink "java/lang/String" (492 : Nat) ({ cls := "java/lang/String", name := "isLatin1", desc := "()Z" } : Jvm.MethodName)).before a0 Z = true := hw _ (List.mem_of_getElem? (i := 14) rfl)
theorem w_15 {a0 : Array Value} {Z : State} (hw : ∀ d ∈ tables_1, d.before a0 Z = true) : (Jvm.Cond.declares ({ cls := "java/lang/String", name := "isLatin1", desc := "()Z" } : Jvm.MethodName)).before a0 Z = true := hw _ (List.mem_of_getElem? (i := 15) rfl)
theorem w_16 {a0 : Array Value} {Z : State} (hw : ∀ d ∈ tables_1, d.before a0 Z = true) : (Jvm.Cond.instanceMethod ({ cls := "java/lang/String", name := "isLatin1", desc := "()Z" } : Jvm.MethodName)).before a0 Z = true := hw _ (List.mem_of_getElem? (i := 16) rfl)
theorem w_17 {a0 : Array Value} {Z : State} (hw : ∀ d ∈ tables_1, d.before a0 Z = true) : (Jvm.Cond.selects "java/lang/String" ({ cls := "java/lang/String", name := "isLatin1", desc := "()Z" } : Jvm.MethodName) ({ cls := "java/lang/String", name := "isLatin1", desc := "()Z" } : Jvm.MethodName)).before a0 Z = true := hw _ (List.mem_of_getElem? (i := 17) rfl)
theorem w_18 {a0 : Array Value} {Z : State} (hw : ∀ d ∈ tables_1, d.before a0 Z = true) : (Jvm.Cond.code ({ cls := "java/lang/String", name := "isLatin1", desc := "()Z" } : Jvm.MethodName) jdk_42_method_154_code (1 : Nat) (Option.some Jvm.ClassFile.FieldType.boolean)).before a0 Z = true := hw _ (List.mem_of_getElem? (i := 18) rfl)
theorem w_19 {a0 : Array Value} {Z : State} (hw : ∀ d ∈ tables_1, d.before a0 Z = true) : (Jvm.Cond.fieldLink "java/lang/String" (38 : Nat) "java/lang/String" "COMPACT_STRINGS" "Z").before a0 Z = true := hw _ (List.mem_of_getElem? (i := 19) rfl)
theorem w_20 {a0 : Array Value} {Z : State} (hw : ∀ d ∈ tables_1, d.before a0 Z = true) : (Jvm.Cond.fieldLink "java/lang/String" (15 : Nat) "java/lang/String" "coder" "B").before a0 Z = true := hw _ (List.mem_of_getElem? (i := 20) rfl)
theorem w_21 {a0 : Array Value} {Z : State} (hw : ∀ d ∈ tables_1, d.before a0 Z = true) : (Jvm.Cond.fieldLink "java/lang/String" (9 : Nat) "java/lang/String" "value" "[B").before a0 Z = true := hw _ (List.mem_of_getElem? (i := 21) rfl)
theorem w_22 {a0 : Array Value} {Z : State} (hw : ∀ d ∈ tables_1, d.before a0 Z = true) : (Jvm.Cond.methodLink "java/lang/String" (495 : Nat) ({ cls := "java/lang/StringLatin1", name := "charAt", desc := "([BI)C" } : Jvm.MethodName)).before a0 Z = true := hw _ (List.mem_of_getElem? (i := 22) rfl)
theorem w_23 {a0 : Array Value} {Z : State} (hw : ∀ d ∈ tables_1, d.before a0 Z = true) : (Jvm.Cond.static ({ cls := "java/lang/StringLatin1", name := "charAt", desc := "([BI)C" } : Jvm.MethodName)).before a0 Z = true := hw _ (List.mem_of_getElem? (i := 23) rfl)
theorem w_24 {a0 : Array Value} {Z : State} (hw : ∀ d ∈ tables_1, d.before a0 Z = true) : (Jvm.Cond.initialized "java/lang/StringLatin1").before a0 Z = true := hw _ (List.mem_of_getElem? (i := 24) rfl)
theorem w_25 {a0 : Array Value} {Z : State} (hw : ∀ d ∈ tables_1, d.before a0 Z = true) : (Jvm.Cond.code ({ cls := "java/lang/StringLatin1", name := "charAt", desc := "([BI)C" } : Jvm.MethodName) jdk_43_method_2_code (2 : Nat) (Option.some Jvm.ClassFile.FieldType.char)).before a0 Z = true := hw _ (List.mem_of_getElem? (i := 25) rfl)
theorem w_26 {a0 : Array Value} {Z : State} (hw : ∀ d ∈ tables_1, d.before a0 Z = true) : (Jvm.Cond.methodLink "java/lang/StringLatin1" (9 : Nat) ({ cls := "java/lang/String", name := "checkIndex", desc := "(II)V" } : Jvm.MethodName)).before a0 Z = true := hw _ (List.mem_of_getElem? (i := 26) rfl)
theorem w_27 {a0 : Array Value} {Z : State} (hw : ∀ d ∈ tables_1, d.before a0 Z = true) : (Jvm.Cond.static ({ cls := "java/lang/String", name := "checkIndex", desc := "(II)V" } : Jvm.MethodName)).before a0 Z = true := hw _ (List.mem_of_getElem? (i := 27) rfl)
theorem w_28 {a0 : Array Value} {Z : State} (hw : ∀ d ∈ tables_1, d.before a0 Z = true) : (Jvm.Cond.code ({ cls := "java/lang/String", name := "checkIndex", desc := "(II)V" } : Jvm.MethodName) jdk_42_method_155_code (2 : Nat) (Option.none : Option Jvm.ClassFile.FieldType)).before a0 Z = true := hw _ (List.mem_of_getElem? (i := 28) rfl)
theorem w_29 {a0 : Array Value} {Z : State} (hw : ∀ d ∈ tables_1, d.before a0 Z = true) : (Jvm.Cond.fieldLink "java/lang/String" (1053 : Nat) "jdk/internal/util/Preconditions" "SIOOBE_FORMATTER" "Ljava/util/function/BiFunction;").before a0 Z = true := hw _ (List.mem_of_getElem? (i := 29) rfl)
theorem w_30 {a0 : Array Value} {Z : State} (hw : ∀ d ∈ tables_1, d.before a0 Z = true) : (Jvm.Cond.initialized "jdk/internal/util/Preconditions").before a0 Z = true := hw _ (List.mem_of_getElem? (i := 30) rfl)
theorem w_31 {a0 : Array Value} {Z : State} (hw : ∀ d ∈ tables_1, d.before a0 Z = true) : (Jvm.Cond.methodLink "java/lang/String" (1059 : Nat) ({ cls := "jdk/internal/util/Preconditions", name := "checkIndex", desc := "(IILjava/util/function/BiFunction;)I" } : Jvm.MethodName)).before a0 Z = true := hw _ (List.mem_of_getElem? (i := 31) rfl)
theorem w_32 {a0 : Array Value} {Z : State} (hw : ∀ d ∈ tables_1, d.before a0 Z = true) : (Jvm.Cond.static ({ cls := "jdk/internal/util/Preconditions", name := "checkIndex", desc := "(IILjava/util/function/BiFunction;)I" } : Jvm.MethodName)).before a0 Z = true := hw _ (List.mem_of_getElem? (i := 32) rfl)
theorem w_33 {a0 : Array Value} {Z : State} (hw : ∀ d ∈ tables_1, d.before a0 Z = true) : (Jvm.Cond.code ({ cls := "jdk/internal/util/Preconditions", name := "checkIndex", desc := "(IILjava/util/function/BiFunction;)I" } : Jvm.MethodName) jdk_41_method_11_code (3 : Nat) (Option.some Jvm.ClassFile.FieldType.int)).before a0 Z = true := hw _ (List.mem_of_getElem? (i := 33) rfl)
theorem w_34 {a0 : Array Value} {Z : State} (hw : ∀ d ∈ tables_1, d.before a0 Z = true) : (Jvm.Cond.constant "com/example/wirewright/wirewright/definition/ScopeOfAttributePinLaw" (17 : Nat) (2147483647 : Int32)).before a0 Z = true := hw _ (List.mem_of_getElem? (i := 34) rfl)
theorem w_35 {a0 : Array Value} {Z : State} (hw : ∀ d ∈ tables_1, d.before a0 Z = true) : (Jvm.Cond.classLink "com/example/wirewright/wirewright/definition/ScopeOfAttributePinLaw" (12 : Nat) "java/lang/String").before a0 Z = true := hw _ (List.mem_of_getElem? (i := 35) rfl)
theorem w_36 {a0 : Array Value} {Z : State} (hw : ∀ d ∈ tables_1, d.before a0 Z = true) : (Jvm.Cond.methodLink "com/example/wirewright/wirewright/definition/ScopeOfAttributePinLaw" (18 : Nat) ({ cls := "java/lang/String", name := "<init>", desc := "([C)V" } : Jvm.MethodName)).before a0 Z = true := hw _ (List.mem_of_getElem? (i := 36) rfl)
theorem w_37 {a0 : Array Value} {Z : State} (hw : ∀ d ∈ tables_1, d.before a0 Z = true) : (Jvm.Cond.instanceMethod ({ cls := "java/lang/String", name := "<init>", desc := "([C)V" } : Jvm.MethodName)).before a0 Z = true := hw _ (List.mem_of_getElem? (i := 37) rfl)
theorem w_38 {a0 : Array Value} {Z : State} (hw : ∀ d ∈ tables_1, d.before a0 Z = true) : (Jvm.Cond.code ({ cls := "java/lang/String", name := "<init>", desc := "([C)V" } : Jvm.MethodName) jdk_42_method_3_code (2 : Nat) (Option.none : Option Jvm.ClassFile.FieldType)).before a0 Z = true := hw _ (List.mem_of_getElem? (i := 38) rfl)
theorem w_39 {a0 : Array Value} {Z : State} (hw : ∀ d ∈ tables_1, d.before a0 Z = true) : (Jvm.Cond.methodLink "java/lang/String" (27 : Nat) ({ cls := "java/lang/String", name := "<init>", desc := "([CIILjava/lang/Void;)V" } : Jvm.MethodName)).before a0 Z = true := hw _ (List.mem_of_getElem? (i := 39) rfl)
theorem w_40 {a0 : Array Value} {Z : State} (hw : ∀ d ∈ tables_1, d.before a0 Z = true) : (Jvm.Cond.instanceMethod ({ cls := "java/lang/String", name := "<init>", desc := "([CIILjava/lang/Void;)V" } : Jvm.MethodName)).before a0 Z = true := hw _ (List.mem_of_getElem? (i := 40) rfl)
theorem w_42 {a0 : Array Value} {Z : State} (hw : ∀ d ∈ tables_1, d.before a0 Z = true) : (Jvm.Cond.code ({ cls := "java/lang/String", name := "<init>", desc := "([CIILjava/lang/Void;)V" } : Jvm.MethodName) jdk_42_method_149_code (6 : Nat) (Option.none : Option Jvm.ClassFile.FieldType)).before a0 Z = true := hw _ (List.mem_of_getElem? (i := 42) rfl)
theorem w_43 {a0 : Array Value} {Z : State} (hw : ∀ d ∈ tables_1, d.before a0 Z = true) : (Jvm.Cond.methodLink "java/lang/String" (1 : Nat) ({ cls := "java/lang/Object", name := "<init>", desc := "()V" } : Jvm.MethodName)).before a0 Z = true := hw _ (List.mem_of_getElem? (i := 43) rfl)
theorem w_44 {a0 : Array Value} {Z : State} (hw : ∀ d ∈ tables_1, d.before a0 Z = true) : (Jvm.Cond.instanceMethod ({ cls := "java/lang/Object", name := "<init>", desc := "()V" } : Jvm.MethodName)).before a0 Z = true := hw _ (List.mem_of_getElem? (i := 44) rfl)
theorem w_45 {a0 : Array Value} {Z : State} (hw : ∀ d ∈ tables_1, d.before a0 Z = true) : (Jvm.Cond.code ({ cls := "java/lang/Object", name := "<init>", desc := "()V" } : Jvm.MethodName) object_method_1_code (1 : Nat) (Option.none : Option Jvm.ClassFile.FieldType)).before a0 Z = true := hw _ (List.mem_of_getElem? (i := 45) rfl)
theorem w_46 {a0 : Array Value} {Z : State} (hw : ∀ d ∈ tables_1, d.before a0 Z = true) : (Jvm.Cond.methodLink "java/lang/String" (177 : Nat) ({ cls := "java/lang/StringUTF16", name := "compress", desc := "([CII)[B" } : Jvm.MethodName)).before a0 Z = true := hw _ (List.mem_of_getElem? (i := 46) rfl)
theorem w_47 {a0 : Array Value} {Z : State} (hw : ∀ d ∈ tables_1, d.before a0 Z = true) : (Jvm.Cond.static ({ cls := "java/lang/StringUTF16", name := "compress", desc := "([CII)[B" } : Jvm.MethodName)).before a0 Z = true := hw _ (List.mem_of_getElem? (i := 47) rfl)
theorem w_48 {a0 : Array Value} {Z : State} (hw : ∀ d ∈ tables_1, d.before a0 Z = true) : (Jvm.Cond.initialized "java/lang/StringUTF16").before a0 Z = true := hw _ (List.mem_of_getElem? (i := 48) rfl)
theorem w_49 {a0 : Array Value} {Z : State} (hw : ∀ d ∈ tables_1, d.before a0 Z = true) : (Jvm.Cond.code ({ cls := "java/lang/StringUTF16", name := "compress", desc := "([CII)[B" } : Jvm.MethodName) jdk_52_method_16_code (6 : Nat) (Option.some (Jvm.ClassFile.FieldType.array Jvm.ClassFile.FieldType.byte))).before a0 Z = true := hw _ (List.mem_of_getElem? (i := 49) rfl)
theorem w_50 {a0 : Array Value} {Z : State} (hw : ∀ d ∈ tables_1, d.before a0 Z = true) : (Jvm.Cond.methodLink "java/lang/StringUTF16" (115 : Nat) ({ cls := "java/lang/StringUTF16", name := "compress", desc := "([CI[BII)I" } : Jvm.MethodName)).before a0 Z = true := hw _ (List.mem_of_getElem? (i := 50) rfl)
theorem w_51 {a0 : Array Value} {Z : State} (hw : ∀ d ∈ tables_1, d.before a0 Z = true) : (Jvm.Cond.static ({ cls := "java/lang/StringUTF16", name := "compress", desc := "([CI[BII)I" } : Jvm.MethodName)).before a0 Z = true := hw _ (List.mem_of_getElem? (i := 51) rfl)
theorem w_52 {a0 : Array Value} {Z : State} (hw : ∀ d ∈ tables_1, d.before a0 Z = true) : (Jvm.Cond.code ({ cls := "java/lang/StringUTF16", name := "compress", desc := "([CI[BII)I" } : Jvm.MethodName) jdk_52_method_21_code (7 : Nat) (Option.some Jvm.ClassFile.FieldType.int)).before a0 Z = true := hw _ (List.mem_of_getElem? (i := 52) rfl)
theorem w_53 {a0 : Array Value} {Z : State} (hw : ∀ d ∈ tables_1, d.before a0 Z = true) : (Jvm.Cond.methodLink "java/lang/String" (47 : Nat) ({ cls := "java/lang/StringUTF16", name := "coderFromArrayLen", desc := "([BI)B" } : Jvm.MethodName)).before a0 Z = true := hw _ (List.mem_of_getElem? (i := 53) rfl)
theorem w_54 {a0 : Array Value} {Z : State} (hw : ∀ d ∈ tables_1, d.before a0 Z = true) : (Jvm.Cond.static ({ cls := "java/lang/StringUTF16", name := "coderFromArrayLen", desc := "([BI)B" } : Jvm.MethodName)).before a0 Z = true := hw _ (List.mem_of_getElem? (i := 54) rfl)
theorem w_55 {a0 : Array Value} {Z : State} (hw : ∀ d ∈ tables_1, d.before a0 Z = true) : (Jvm.Cond.code ({ cls := "java/lang/StringUTF16", name := "coderFromArrayLen", desc := "([BI)B" } : Jvm.MethodName) jdk_52_method_15_code (2 : Nat) (Option.some Jvm.ClassFile.FieldType.byte)).before a0 Z = true := hw _ (List.mem_of_getElem? (i := 55) rfl)
theorem w_56 {a0 : Array Value} {Z : State} (hw : ∀ d ∈ tables_1, d.before a0 Z = true) : (Jvm.Cond.methodLink "com/example/wirewright/wirewright/definition/ScopeOfAttributePinLaw" (25 : Nat) ({ cls := "java/lang/String", name := "equals", desc := "(Ljava/lang/Object;)Z" } : Jvm.MethodName)).before a0 Z = true := hw _ (List.mem_of_getElem? (i := 56) rfl)
theorem w_57 {a0 : Array Value} {Z : State} (hw : ∀ d ∈ tables_1, d.before a0 Z = true) : (Jvm.Cond.declares ({ cls := "java/lang/String", name := "equals", desc := "(Ljava/lang/Object;)Z" } : Jvm.MethodName)).before a0 Z = true := hw _ (List.mem_of_getElem? (i := 57) rfl)
theorem w_58 {a0 : Array Value} {Z : State} (hw : ∀ d ∈ tables_1, d.before a0 Z = true) : (Jvm.Cond.instanceMethod ({ cls := "java/lang/String", name := "equals", desc := "(Ljava/lang/Object;)Z" } : Jvm.MethodName)).before a0 Z = true := hw _ (List.mem_of_getElem? (i := 58) rfl)
theorem w_59 {a0 : Array Value} {Z : State} (hw : ∀ d ∈ tables_1, d.before a0 Z = true) : (Jvm.Cond.selects "java/lang/String" ({ cls := "java/lang/String", name := "equals", desc := "(Ljava/lang/Object;)Z" } : Jvm.MethodName) ({ cls := "java/lang/String", name := "equals", desc := "(Ljava/lang/Object;)Z" } : Jvm.MethodName)).before a0 Z = true := hw _ (List.mem_of_getElem? (i := 59) rfl)
theorem w_60 {a0 : Array Value} {Z : State} (hw : ∀ d ∈ tables_1, d.before a0 Z = true) : (Jvm.Cond.code ({ cls := "java/lang/String", name := "equals", desc := "(Ljava/lang/Object;)Z" } : Jvm.MethodName) jdk_42_method_66_code (3 : Nat) (Option.some Jvm.ClassFile.FieldType.boolean)).before a0 Z = true := hw _ (List.mem_of_getElem? (i := 60) rfl)
theorem w_61 {a0 : Array Value} {Z : State} (hw : ∀ d ∈ tables_1, d.before a0 Z = true) : (Jvm.Cond.classLink "java/lang/String" (10 : Nat) "java/lang/String").before a0 Z = true := hw _ (List.mem_of_getElem? (i := 61) rfl)
theorem w_62 {a0 : Array Value} {Z : State} (hw : ∀ d ∈ tables_1, d.before a0 Z = true) : (Jvm.Cond.methodLink "java/lang/String" (541 : Nat) ({ cls := "java/lang/StringLatin1", name := "equals", desc := "([B[B)Z" } : Jvm.MethodName)).before a0 Z = true := hw _ (List.mem_of_getElem? (i := 62) rfl)
theorem w_63 {a0 : Array Value} {Z : State} (hw : ∀ d ∈ tables_1, d.before a0 Z = true) : (Jvm.Cond.static ({ cls := "java/lang/StringLatin1", name := "equals", desc := "([B[B)Z" } : Jvm.MethodName)).before a0 Z = true := hw _ (List.mem_of_getElem? (i := 63) rfl)
theorem w_64 {a0 : Array Value} {Z : State} (hw : ∀ d ∈ tables_1, d.before a0 Z = true) : (Jvm.Cond.code ({ cls := "java/lang/StringLatin1", name := "equals", desc := "([B[B)Z" } : Jvm.MethodName) jdk_43_method_13_code (3 : Nat) (Option.some Jvm.ClassFile.FieldType.boolean)).before a0 Z = true := hw _ (List.mem_of_getElem? (i := 64) rfl)
theorem w_65 {a0 : Array Value} {Z : State} (hw : ∀ d ∈ tables_1, d.before a0 Z = true) : (Jvm.Cond.stringLink "com/example/wirewright/wirewright/definition/ScopeOfAttributePinLaw" (9 : Nat) "prototype").before a0 Z = true := hw _ (List.mem_of_getElem? (i := 65) rfl)
theorem w_66 {a0 : Array Value} {Z : State} (hw : ∀ d ∈ tables_1, d.before a0 Z = true) : (Jvm.Cond.methodLink "com/example/wirewright/wirewright/definition/ScopeOfAttributePinLaw" (38 : Nat) ({ cls := "com/example/wirewright/wirewright/definition/Scope", name := "ofAttribute", desc := "(Ljava/lang/String;)Lcom/example/wirewright/wirewright/definition/Scope;" } : Jvm.MethodName)).before a0 Z = true := hw _ (List.mem_of_getElem? (i := 66) rfl)
theorem w_67 {a0 : Array Value} {Z : State} (hw : ∀ d ∈ tables_1, d.before a0 Z = true) : (Jvm.Cond.static ({ cls := "com/example/wirewright/wirewright/definition/Scope", name := "ofAttribute", desc := "(Ljava/lang/String;)Lcom/example/wirewright/wirewright/definition/Scope;" } : Jvm.MethodName)).before a0 Z = true := hw _ (List.mem_of_getElem? (i := 67) rfl)
theorem w_68 {a0 : Array Value} {Z : State} (hw : ∀ d ∈ tables_1, d.before a0 Z = true) : (Jvm.Cond.initialized "com/example/wirewright/wirewright/definition/Scope").before a0 Z = true := hw _ (List.mem_of_getElem? (i := 68) rfl)
theorem w_69 {a0 : Array Value} {Z : State} (hw : ∀ d ∈ tables_1, d.before a0 Z = true) : (Jvm.Cond.code ({ cls := "com/example/wirewright/wirewright/definition/Scope", name := "ofAttribute", desc := "(Ljava/lang/String;)Lcom/example/wirewright/wirewright/definition/Scope;" } : Jvm.MethodName) prog_35_method_4_code (6 : Nat) (Option.some (Jvm.ClassFile.FieldType.object "com/example/wirewright/wirewright/definition/Scope"))).before a0 Z = true := hw _ (List.mem_of_getElem? (i := 69) rfl)
theorem w_70 {a0 : Array Value} {Z : State} (hw : ∀ d ∈ tables_1, d.before a0 Z = true) : (Jvm.Cond.methodLink "com/example/wirewright/wirewright/definition/Scope" (33 : Nat) ({ cls := "com/example/wirewright/wirewright/definition/Scope", name := "values", desc := "()[Lcom/example/wirewright/wirewright/definition/Scope;" } : Jvm.MethodName)).before a0 Z = true := hw _ (List.mem_of_getElem? (i := 70) rfl)
theorem w_71 {a0 : Array Value} {Z : State} (hw : ∀ d ∈ tables_1, d.before a0 Z = true) : (Jvm.Cond.static ({ cls := "com/example/wirewright/wirewright/definition/Scope", name := "values", desc := "()[Lcom/example/wirewright/wirewright/definition/Scope;" } : Jvm.MethodName)).before a0 Z = true := hw _ (List.mem_of_getElem? (i := 71) rfl)
theorem w_72 {a0 : Array Value} {Z : State} (hw : ∀ d ∈ tables_1, d.before a0 Z = true) : (Jvm.Cond.code ({ cls := "com/example/wirewright/wirewright/definition/Scope", name := "values", desc := "()[Lcom/example/wirewright/wirewright/definition/Scope;" } : Jvm.MethodName) prog_35_method_1_code (0 : Nat) (Option.some (Jvm.ClassFile.FieldType.array (Jvm.ClassFile.FieldType.object "com/example/wirewright/wirewright/definition/Scope")))).before a0 Z = true := hw _ (List.mem_of_getElem? (i := 72) rfl)
theorem w_73 {a0 : Array Value} {Z : State} (hw : ∀ d ∈ tables_1, d.before a0 Z = true) : (Jvm.Cond.fieldLink "com/example/wirewright/wirewright/definition/Scope" (10 : Nat) "com/example/wirewright/wirewright/definition/Scope" "$VALUES" "[Lcom/example/wirewright/wirewright/definition/Scope;").before a0 Z = true := hw _ (List.mem_of_getElem? (i := 73) rfl)
theorem w_74 {a0 : Array Value} {Z : State} (hw : ∀ d ∈ tables_1, d.before a0 Z = true) : (Jvm.Cond.laysStatic "com/example/wirewright/wirewright/definition/Scope" "$VALUES" "[Lcom/example/wirewright/wirewright/definition/Scope;").before a0 Z = true := hw _ (List.mem_of_getElem? (i := 74) rfl)
theorem w_75 {a0 : Array Value} {Z : State} (hw : ∀ d ∈ tables_1, d.before a0 Z = true) : (Jvm.Cond.methodLink "com/example/wirewright/wirewright/definition/Scope" (14 : Nat) ({ cls := "[Lcom/example/wirewright/wirewright/definition/Scope;", name := "clone", desc := "()Ljava/lang/Object;" } : Jvm.MethodName)).before a0 Z = true := hw _ (List.mem_of_getElem? (i := 75) rfl)
theorem w_76 {a0 : Array Value} {Z : State} (hw : ∀ d ∈ tables_1, d.before a0 Z = true) : (Jvm.Cond.sameMethod "[Lcom/example/wirewright/wirewright/definition/Scope;" "java/lang/Object" "clone" "()Ljava/lang/Object;").before a0 Z = true := hw _ (List.mem_of_getElem? (i := 76) rfl)
theorem w_78 {a0 : Array Value} {Z : State} (hw : ∀ d ∈ tables_1, d.before a0 Z = true) : (Jvm.Cond.instanceMethod ({ cls := "java/lang/Object", name := "clone", desc := "()Ljava/lang/Object;" } : Jvm.MethodName)).before a0 Z = true := hw _ (List.mem_of_getElem? (i := 78) rfl)
theorem w_79 {a0 : Array Value} {Z : State} (hw : ∀ d ∈ tables_1, d.before a0 Z = true) : (Jvm.Cond.selects "[Lcom/example/wirewright/wirewright/definition/Scope;" ({ cls := "[Lcom/example/wirewright/wirewright/definition/Scope;", name := "clone", desc := "()Ljava/lang/Object;" } : Jvm.MethodName) ({ cls := "java/lang/Object", name := "clone", desc := "()Ljava/lang/Object;" } : Jvm.MethodName)).before a0 Z = true := hw _ (List.mem_of_getElem? (i := 79) rfl)
theorem w_80 {a0 : Array Value} {Z : State} (hw : ∀ d ∈ tables_1, d.before a0 Z = true) : (Jvm.Cond.native ({ cls := "java/lang/Object", name := "clone", desc := "()Ljava/lang/Object;" } : Jvm.MethodName)).before a0 Z = true := hw _ (List.mem_of_getElem? (i := 80) rfl)
theorem w_81 {a0 : Array Value} {Z : State} (hw : ∀ d ∈ tables_1, d.before a0 Z = true) : (Jvm.Cond.castable "[Lcom/example/wirewright/wirewright/definition/Scope;" "java/lang/Cloneable").before a0 Z = true := hw _ (List.mem_of_getElem? (i := 81) rfl)
theorem w_82 {a0 : Array Value} {Z : State} (hw : ∀ d ∈ tables_1, d.before a0 Z = true) : (Jvm.Cond.laysStatic "com/example/wirewright/wirewright/definition/Scope" "SINGLETON" "Lcom/example/wirewright/wirewright/definition/Scope;").before a0 Z = true := hw _ (List.mem_of_getElem? (i := 82) rfl)
theorem w_83 {a0 : Array Value} {Z : State} (hw : ∀ d ∈ tables_1, d.before a0 Z = true) : (Jvm.Cond.laysStatic "com/example/wirewright/wirewright/definition/Scope" "PROTOTYPE" "Lcom/example/wirewright/wirewright/definition/Scope;").before a0 Z = true := hw _ (List.mem_of_getElem? (i := 83) rfl)
theorem w_85 {a0 : Array Value} {Z : State} (hw : ∀ d ∈ tables_1, d.before a0 Z = true) : (Jvm.Cond.classLink "com/example/wirewright/wirewright/definition/Scope" (15 : Nat) "[Lcom/example/wirewright/wirewright/definition/Scope;").before a0 Z = true := hw _ (List.mem_of_getElem? (i := 85) rfl)
theorem w_87 {a0 : Array Value} {Z : State} (hw : ∀ d ∈ tables_1, d.before a0 Z = true) : (Jvm.Cond.fieldLink "com/example/wirewright/wirewright/definition/Scope" (29 : Nat) "com/example/wirewright/wirewright/definition/Scope" "attributeValue" "Ljava/lang/String;").before a0 Z = true := hw _ (List.mem_of_getElem? (i := 87) rfl)
theorem w_89 {a0 : Array Value} {Z : State} (hw : ∀ d ∈ tables_1, d.before a0 Z = true) : (Jvm.Cond.methodLink "com/example/wirewright/wirewright/definition/Scope" (37 : Nat) ({ cls := "java/lang/String", name := "equals", desc := "(Ljava/lang/Object;)Z" } : Jvm.MethodName)).before a0 Z = true := hw _ (List.mem_of_getElem? (i := 89) rfl)
theorem w_90 {a0 : Array Value} {Z : State} (hw : ∀ d ∈ tables_1, d.before a0 Z = true) : (Jvm.Cond.stringLink "java/lang/String" (7 : Nat) "").before a0 Z = true := hw _ (List.mem_of_getElem? (i := 90) rfl)
theorem w_91 {a0 : Array Value} {Z : State} (hw : ∀ d ∈ tables_1, d.before a0 Z = true) : (Jvm.Cond.fieldLink "com/example/wirewright/wirewright/definition/ScopeOfAttributePinLaw" (35 : Nat) "com/example/wirewright/wirewright/definition/Scope" "PROTOTYPE" "Lcom/example/wirewright/wirewright/definition/Scope;").before a0 Z = true := hw _ (List.mem_of_getElem? (i := 91) rfl)
theorem w_92 {a0 : Array Value} {Z : State} (hw : ∀ d ∈ tables_1, d.before a0 Z = true) : (Jvm.Cond.fieldLink "com/example/wirewright/wirewright/definition/ScopeOfAttributePinLaw" (29 : Nat) "com/example/wirewright/wirewright/definition/Scope" "SINGLETON" "Lcom/example/wirewright/wirewright/definition/Scope;").before a0 Z = true := hw _ (List.mem_of_getElem? (i := 92) rfl)
theorem w_93 {a0 : Array Value} {Z : State} (hw : ∀ d ∈ tables_1, d.before a0 Z = true) : (Jvm.Cond.methodLink "com/example/wirewright/wirewright/definition/ScopeOfAttributePinLaw" (21 : Nat) ({ cls := "java/lang/String", name := "valueOf", desc := "(C)Ljava/lang/String;" } : Jvm.MethodName)).before a0 Z = true := hw _ (List.mem_of_getElem? (i := 93) rfl)
theorem w_94 {a0 : Array Value} {Z : State} (hw : ∀ d ∈ tables_1, d.before a0 Z = true) : (Jvm.Cond.static ({ cls := "java/lang/String", name := "valueOf", desc := "(C)Ljava/lang/String;" } : Jvm.MethodName)).before a0 Z = true := hw _ (List.mem_of_getElem? (i := 94) rfl)
theorem w_95 {a0 : Array Value} {Z : State} (hw : ∀ d ∈ tables_1, d.before a0 Z = true) : (Jvm.Cond.code ({ cls := "java/lang/String", name := "valueOf", desc := "(C)Ljava/lang/String;" } : Jvm.MethodName) jdk_42_method_139_code (1 : Nat) (Option.some (Jvm.ClassFile.FieldType.object "java/lang/String"))).before a0 Z = true := hw _ (List.mem_of_getElem? (i := 95) rfl)
theorem w_96 {a0 : Array Value} {Z : State} (hw : ∀ d ∈ tables_1, d.before a0 Z = true) : (Jvm.Cond.methodLink "java/lang/String" (1015 : Nat) ({ cls := "java/lang/StringLatin1", name := "canEncode", desc := "(C)Z" } : Jvm.MethodName)).before a0 Z = true := hw _ (List.mem_of_getElem? (i := 96) rfl)
theorem w_97 {a0 : Array Value} {Z : State} (hw : ∀ d ∈ tables_1, d.before a0 Z = true) : (Jvm.Cond.static ({ cls := "java/lang/StringLatin1", name := "canEncode", desc := "(C)Z" } : Jvm.MethodName)).before a0 Z = true := hw _ (List.mem_of_getElem? (i := 97) rfl)
theorem w_98 {a0 : Array Value} {Z : State} (hw : ∀ d ∈ tables_1, d.before a0 Z = true) : (Jvm.Cond.code ({ cls := "java/lang/StringLatin1", name := "canEncode", desc := "(C)Z" } : Jvm.MethodName) jdk_43_method_3_code (1 : Nat) (Option.some Jvm.ClassFile.FieldType.boolean)).before a0 Z = true := hw _ (List.mem_of_getElem? (i := 98) rfl)
theorem w_99 {a0 : Array Value} {Z : State} (hw : ∀ d ∈ tables_1, d.before a0 Z = true) : (Jvm.Cond.methodLink "java/lang/String" (1018 : Nat) ({ cls := "java/lang/StringLatin1", name := "toBytes", desc := "(C)[B" } : Jvm.MethodName)).before a0 Z = true := hw _ (List.mem_of_getElem? (i := 99) rfl)
theorem w_100 {a0 : Array Value} {Z : State} (hw : ∀ d ∈ tables_1, d.before a0 Z = true) : (Jvm.Cond.static ({ cls := "java/lang/StringLatin1", name := "toBytes", desc := "(C)[B" } : Jvm.MethodName)).before a0 Z = true := hw _ (List.mem_of_getElem? (i := 100) rfl)
theorem w_101 {a0 : Array Value} {Z : State} (hw : ∀ d ∈ tables_1, d.before a0 Z = true) : (Jvm.Cond.code ({ cls := "java/lang/StringLatin1", name := "toBytes", desc := "(C)[B" } : Jvm.MethodName) jdk_43_method_46_code (1 : Nat) (Option.some (Jvm.ClassFile.FieldType.array Jvm.ClassFile.FieldType.byte))).before a0 Z = true := hw _ (List.mem_of_getElem? (i := 101) rfl)
theorem w_102 {a0 : Array Value} {Z : State} (hw : ∀ d ∈ tables_1, d.before a0 Z = true) : (Jvm.Cond.methodLink "java/lang/String" (209 : Nat) ({ cls := "java/lang/String", name := "<init>", desc := "([BB)V" } : Jvm.MethodName)).before a0 Z = true := hw _ (List.mem_of_getElem? (i := 102) rfl)
theorem w_103 {a0 : Array Value} {Z : State} (hw : ∀ d ∈ tables_1, d.before a0 Z = true) : (Jvm.Cond.instanceMethod ({ cls := "java/lang/String", name := "<init>", desc := "([BB)V" } : Jvm.MethodName)).before a0 Z = true := hw _ (List.mem_of_getElem? (i := 103) rfl)
theorem w_104 {a0 : Array Value} {Z : State} (hw : ∀ d ∈ tables_1, d.before a0 Z = true) : (Jvm.Cond.code ({ cls := "java/lang/String", name := "<init>", desc := "([BB)V" } : Jvm.MethodName) jdk_42_method_151_code (3 : Nat) (Option.none : Option Jvm.ClassFile.FieldType)).before a0 Z = true := hw _ (List.mem_of_getElem? (i := 104) rfl)
theorem own_wS {a0 : Array Value} {Z : State} (hw : ∀ d ∈ tables_1, d.before a0 Z = true) : ∀ a ∈ Bundle.stringAtoms, a.before a0 Z = true := fun a ha => hw a ((by decide +kernel : ∀ a ∈ Bundle.stringAtoms, a ∈ tables_1) a ha)
theorem own_eq_int {args : Array Value} {s : State} {t : Term} {k : Int32} (h : (Jvm.Cond.eq t (Jvm.Term.int k)).value args s none s [] = some true) : t.eval args s none [] s = some (.int k) := by
  simp only [Cond.value, Term.int_eval] at h
  cases ht : t.eval args s none [] s with
  | none => simp [ht] at h
  | some v =>
    cases v <;> simp [ht] at h
    subst h; rfl
theorem own_len_start {args : Array Value} {s : State} {t : Term} {a : Addr} {c : Cell} {ty : FieldType} {k : Int32} (ev : t.eval args s none [] s = some (.ref a)) (A : Arr s s.heap a c ty) (h : (Jvm.Cond.eq (Jvm.Term.length t) (Jvm.Term.int k)).value args s none s [] = some true) : c.slots.size < 2 ^ 31 ∧ c.slots.size.toInt32 = k := by
  have q := own_eq_int h
  have e := A.fin (Vm.Alike.refl _)
  simp only [Term.eval, ev, Option.bind_eq_bind, Option.bind_some, e] at q
  split at q
  · rename_i hh
    exact ⟨hh, by simpa using q⟩
  · cases q
theorem own_elem_start {args : Array Value} {s : State} {t : Term} {a : Addr} {c : Cell} {ty : FieldType} {i : Int32} {v : Value} (ev : t.eval args s none [] s = some (.ref a)) (A : Arr s s.heap a c ty) (h : (Jvm.Term.elem t (Jvm.Term.int i)).eval args s none [] s = some v) : c.slots[i.toNatClampNeg]? = some v := by
  obtain ⟨a', j, c', e1, e2, e3, -, e5⟩ := Term.elem_spec h
  cases ev.symm.trans e1
  cases (A.fin (Vm.Alike.refl _)).symm.trans e3
  have e2' : (Jvm.Term.int i).eval args s none [] s = some (.int i) := Term.int_eval _
  cases e2'.symm.trans e2
  exact e5
theorem own_field_start {args : Array Value} {s : State} {t : Term} {a : Addr} {C n d : String} {v : Value} (ev : t.eval args s none [] s = some (.ref a)) (h : (Jvm.Term.field t C n d).eval args s none [] s = some v) : Fld s s.heap a C n d v := Fld.start (by simpa [Term.eval, ev] using h)
theorem own_ref_start {args : Array Value} {s : State} {a b : Term} {y : Value} (h : (Jvm.Cond.eq a b).value args s none s [] = some true) (hb : b.eval args s none [] s = some y) (hy : y.isRef = true) : a.eval args s none [] s = some y := Cond.eq_refs (by simp only [Cond.holds, h]; rfl) hb hy
theorem own_fits_ref {C : String} {v : Value} (h : v.isRef = true) : fits (.object C) v = true := by cases v <;> simp [Value.isRef] at h <;> rfl
theorem own_cat_ref {v : Value} (h : v.isRef = true) : v.category = 1 := by cases v <;> simp [Value.isRef] at h <;> rfl
theorem own_ins_keep {Z : State} {h h' : Heap} {a : Addr} {C : String} {ws : List Addr} (F : Ins Z h a C true) (K : Keep h h' ws) : Ins Z h' a C true := by
  obtain ⟨cell, cT, h1, h2, h3⟩ := F
  obtain ⟨c', q1, q2, q3, -⟩ := K.2.2 a cell h1
  exact ⟨c', cT, q1, h2, by rw [q2, q3]; exact h3⟩
def EL : List (String × Nat) := [("java/lang/String", 7), ("com/example/wirewright/wirewright/definition/ScopeOfAttributePinLaw", 7), ("com/example/wirewright/wirewright/definition/ScopeOfAttributePinLaw", 9)]
theorem hEL {a0 : Array Value} {Z : State} (hw : ∀ d ∈ tables_1, d.before a0 Z = true) : EW Z a0 EL := (EW.cons (w_90 hw) (by decide) (EW.cons (w_0 hw) (by decide) (EW.cons (w_65 hw) (by decide) EW.nil)))
theorem own_ELsub : ∀ q ∈ EL, q ∈ consts_1 := by decide
def Gl (Z : State) (zc : Int32) (fm : Value) (va : Nat) (kva : ClassId) (sg : Nat) (pr : Nat) (sgs : Nat) (sgt : Nat) (ksgt : ClassId) (prs : Nat) (prt : Nat) (kprt : ClassId) : Prop := (Sta Z Z.heap "java/lang/String" "COMPACT_STRINGS" "Z" (.int zc)) ∧ (¬ zc = 0) ∧ (Sta Z Z.heap "jdk/internal/util/Preconditions" "SIOOBE_FORMATTER" "Ljava/util/function/BiFunction;" fm) ∧ (fm.isRef = true) ∧ (Sta Z Z.heap "com/example/wirewright/wirewright/definition/Scope" "$VALUES" "[Lcom/example/wirewright/wirewright/definition/Scope;" (.ref va)) ∧ (Arv Z Z.heap va kva (.object "com/example/wirewright/wirewright/definition/Scope") (2 : Int32) [(.ref sg), (.ref pr)] .null) ∧ (Exa Z Z.heap va "[Lcom/example/wirewright/wirewright/definition/Scope;") ∧ (Sta Z Z.heap "com/example/wirewright/wirewright/definition/Scope" "SINGLETON" "Lcom/example/wirewright/wirewright/definition/Scope;" (.ref sg)) ∧ (Exa Z Z.heap sg "com/example/wirewright/wirewright/definition/Scope") ∧ (Fld Z Z.heap sg "com/example/wirewright/wirewright/definition/Scope" "attributeValue" "Ljava/lang/String;" (.ref sgs)) ∧ (Exa Z Z.heap sgs "java/lang/String") ∧ (Fld Z Z.heap sgs "java/lang/String" "coder" "B" (.int (0 : Int32))) ∧ (Fld Z Z.heap sgs "java/lang/String" "value" "[B" (.ref sgt)) ∧ (Arv Z Z.heap sgt ksgt .byte (9 : Int32) [(.int (115 : Int32)), (.int (105 : Int32)), (.int (110 : Int32)), (.int (103 : Int32)), (.int (108 : Int32)), (.int (101 : Int32)), (.int (116 : Int32)), (.int (111 : Int32)), (.int (110 : Int32))] (.int (0 : Int32))) ∧ (Sta Z Z.heap "com/example/wirewright/wirewright/definition/Scope" "PROTOTYPE" "Lcom/example/wirewright/wirewright/definition/Scope;" (.ref pr)) ∧ (Exa Z Z.heap pr "com/example/wirewright/wirewright/definition/Scope") ∧ (Fld Z Z.heap pr "com/example/wirewright/wirewright/definition/Scope" "attributeValue" "Ljava/lang/String;" (.ref prs)) ∧ (Exa Z Z.heap prs "java/lang/String") ∧ (Fld Z Z.heap prs "java/lang/String" "coder" "B" (.int (0 : Int32))) ∧ (Fld Z Z.heap prs "java/lang/String" "value" "[B" (.ref prt)) ∧ (Arv Z Z.heap prt kprt .byte (9 : Int32) [(.int (112 : Int32)), (.int (114 : Int32)), (.int (111 : Int32)), (.int (116 : Int32)), (.int (111 : Int32)), (.int (116 : Int32)), (.int (121 : Int32)), (.int (112 : Int32)), (.int (101 : Int32))] (.int (0 : Int32)))
set_option maxRecDepth 65536 in
set_option maxHeartbeats 40000000 in
theorem own_cmp5 (l : Launch) (Z : State) (a0 : Array Value) (hw : ∀ d ∈ tables_1, d.before a0 Z = true) {zc : Int32} {fm : Value} {va : Nat} {kva : ClassId} {sg : Nat} {pr : Nat} {sgs : Nat} {sgt : Nat} {ksgt : ClassId} {prs : Nat} {prt : Nat} {kprt : ClassId}  (G : Gl Z zc fm va kva sg pr sgs sgt ksgt prs prt kprt) (n0 : Nat) (h0 : Heap) (O0 : Old Z n0 h0) (b : Nat) (d : Nat) (kb : ClassId) (kd : ClassId) (z : Int32) (cs : List Int32) (vs : List Value) (hne : b ≠ d) (hz : z = Int32.ofNat cs.length) (hn : cs.length < 2147483648) (hv : vs.length = cs.length) (gw0 : n0 ≤ d) (q0 : Arv Z h0 b kb .char z (cs.map Value.int) (.int 0)) (q1 : Arv Z h0 d kd .byte z vs (.int (0 : Int32))) :
    MetF l [] Z n0 (⟨"java/lang/StringUTF16", "compress", "([CI[BII)I"⟩ : MethodName) jdk_52_method_21_code 7 (Option.some FieldType.int) ({ frames := 0, cells := 0, slots := 0, locals := 0 } : Room) #[(.ref b), (.int (0 : Int32)), (.ref d), (.int (0 : Int32)), (.int z)] h0 [d] (fun r h' => ∃ w, r = some w ∧ w = (.int (Int32.ofNat (own_fst cs))) ∧ (Arv Z h' d kd .byte z ((cs.take (own_fst cs)).map own_lo ++ vs.drop (own_fst cs)) (.int (0 : Int32)))) := by
  refine metF (plainFor_of_name pn_0) O0 (Ls := #[.val (.ref b), .val (.int (0 : Int32)), .val (.ref d), .val (.int (0 : Int32)), .val (.int z), .unset, .unset]) (fun m => by first | rfl | (simp [entryFrame, mkF, argsToLocals, Value.category]; done)) ?_
  intro p e s m below meth c T0 X0
  have K0_h0 := Keep.refl h0 [d]
  have n0le := X0.n0le
  have ltq0 := own_n q0.lt
  have ltq1 := own_n q1.lt
  obtain ⟨G_cs, G_zc, G_fm, isref_fm, GS_va, GV_va, GE_va, GS_sg, GE_sg, GF_sg, GE_sgs, GC_sgs, GW_sgs, GV_sgt, GS_pr, GE_pr, GF_pr, GE_prs, GC_prs, GW_prs, GV_prt⟩ := id G
  have oz := X0.old.1
  have ltz0 := own_n GV_va.lt
  have ltz1 := own_n GE_va.lt
  have ltz2 := own_n GE_sg.lt
  have ltz3 := own_n GE_sgs.lt
  have ltz4 := own_n GV_sgt.lt
  have ltz5 := own_n GE_pr.lt
  have ltz6 := own_n GE_prs.lt
  have ltz7 := own_n GV_prt.lt
  have hfl := own_fst_le cs
  have hlt0 := hn
  have loop : ∀ (n i : Nat) (T : State) (h : Heap) (L : List Loc) (s6 : Slot), n = own_fst cs - i → i ≤ own_fst cs → One s6 → WP p l e ({ frames := 0, cells := 0, slots := 0, locals := 0 } : Room) s m #[(.ref b), (.int (0 : Int32)), (.ref d), (.int (0 : Int32)), (.int z)] below meth c Z "java/lang/StringUTF16" "compress" jdk_52_method_21_code 7 (Option.some FieldType.int) n0 (fun _ => True) (fun _ _ => True) T h L 0 0 → Keep h0 h [d] → Arv Z h b kb .char z (cs.map Value.int) (.int 0) → Arv Z h d kd .byte z ((cs.take i).map own_lo ++ vs.drop i) (.int (0 : Int32)) → Run p.tables e below (PF s below n0 h0 [d] (fun r h' => ∃ w, r = some w ∧ w = (.int (Int32.ofNat (own_fst cs))) ∧ (Arv Z h' d kd .byte z ((cs.take (own_fst cs)).map own_lo ++ vs.drop (own_fst cs)) (.int (0 : Int32)))) ({ frames := 0, cells := 0, slots := 0, locals := 0 } : Room).cells ({ frames := 0, cells := 0, slots := 0, locals := 0 } : Room).slots) T (mkF m 3 #[.val (.ref b), .val (.int (Int32.ofNat i)), .val (.ref d), .val (.int (Int32.ofNat i)), .val (.int z), .val (.int (Int32.ofNat i)), s6] []) := by
    intro n
    induction n with
    | zero =>
      intro i T h L s6 hni hij h6 X K Vb Vd
      have hi : i = own_fst cs := by omega
      subst hi
      have lb := own_n Vb.lt
      have ld := own_n Vd.lt
      have lh0 := K.1
      have lb0 := own_n q0.lt
      have ld0 := own_n q1.lt
      have nle := X.n0le
      by_cases hc1 : own_fst cs < cs.length
      · have hlt := own_lt hc1 hn
        rw [← hz] at hlt
        refine k_iload X d_jdk_52_21_3 rfl (pc' := 5) rfl ?_
        refine k_iload X d_jdk_52_21_5 rfl (pc' := 7) rfl ?_
        refine k_icmpNo X d_jdk_52_21_7 (tlt hlt).2.1 (pc' := 10) rfl ?_
        refine k_aloadN X d_jdk_52_21_10 rfl rfl (pc' := 11) rfl ?_
        refine k_iloadN X d_jdk_52_21_11 rfl (pc' := 12) rfl ?_
        refine k_caload X d_jdk_52_21_12 Vb (own_nn (by omega)) hlt (v := (.int (cs.getD (own_fst cs) 0))) (own_getc' cs (by omega)) (pc' := 13) rfl ?_
        refine k_istore X d_jdk_52_21_13 (Ls' := #[.val (.ref b), .val (.int (Int32.ofNat (own_fst cs))), .val (.ref d), .val (.int (Int32.ofNat (own_fst cs))), .val (.int z), .val (.int (Int32.ofNat (own_fst cs))), .val (.int (cs.getD (own_fst cs) 0))]) (own_store h6 ⟨_, rfl⟩) (pc' := 15) rfl ?_
        refine k_iload X d_jdk_52_21_15 rfl (pc' := 17) rfl ?_
        refine k_sipush X d_jdk_52_21_17 (w := (255 : Int32)) rfl (pc' := 20) rfl ?_
        refine k_icmpNo X d_jdk_52_21_20 (tlt (own_fst_hi cs hc1)).2.2.2 (pc' := 23) rfl ?_
        refine k_iload X d_jdk_52_21_23 rfl (pc' := 25) rfl ?_
        exact k_retFI X d_jdk_52_21_25 rfl K ⟨_, rfl, rfl, Vd⟩ (by decide) (by decide)
      · have he : own_fst cs = cs.length := by omega
        have hnl : ¬ (Int32.ofNat (own_fst cs) < z) := by rw [he, ← hz]; exact Int32.lt_irrefl
        refine k_iload X d_jdk_52_21_3 rfl (pc' := 5) rfl ?_
        refine k_iload X d_jdk_52_21_5 rfl (pc' := 7) rfl ?_
        refine k_icmpYes X d_jdk_52_21_7 (flt hnl).2.1 (pc' := 44) (by decide) (by decide) ?_
        refine k_iload X d_jdk_52_21_44 rfl (pc' := 46) rfl ?_
        exact k_retFI X d_jdk_52_21_46 rfl K ⟨_, rfl, by rw [he, ← hz], Vd⟩ (by decide) (by decide)
    | succ n ih =>
      intro i T h L s6 hni hij h6 X K Vb Vd
      have hi : i < own_fst cs := by omega
      have hlt := own_lt (show i < cs.length by omega) hn
      rw [← hz] at hlt
      have hle := own_fst_lo cs i hi
      have lb := own_n Vb.lt
      have ld := own_n Vd.lt
      have lh0 := K.1
      have lb0 := own_n q0.lt
      have ld0 := own_n q1.lt
      have nle := X.n0le
      refine k_iload X d_jdk_52_21_3 rfl (pc' := 5) rfl ?_
      refine k_iload X d_jdk_52_21_5 rfl (pc' := 7) rfl ?_
      refine k_icmpNo X d_jdk_52_21_7 (tlt hlt).2.1 (pc' := 10) rfl ?_
      refine k_aloadN X d_jdk_52_21_10 rfl rfl (pc' := 11) rfl ?_
      refine k_iloadN X d_jdk_52_21_11 rfl (pc' := 12) rfl ?_
      refine k_caload X d_jdk_52_21_12 Vb (own_nn (by omega)) hlt (v := (.int (cs.getD i 0))) (own_getc' cs (by omega)) (pc' := 13) rfl ?_
      refine k_istore X d_jdk_52_21_13 (Ls' := #[.val (.ref b), .val (.int (Int32.ofNat i)), .val (.ref d), .val (.int (Int32.ofNat i)), .val (.int z), .val (.int (Int32.ofNat i)), .val (.int (cs.getD i 0))]) (own_store h6 ⟨_, rfl⟩) (pc' := 15) rfl ?_
      refine k_iload X d_jdk_52_21_15 rfl (pc' := 17) rfl ?_
      refine k_sipush X d_jdk_52_21_17 (w := (255 : Int32)) rfl (pc' := 20) rfl ?_
      refine k_icmpYes X d_jdk_52_21_20 (flt hle).2.2.2 (pc' := 26) (by decide) (by decide) ?_
      refine k_aloadN X d_jdk_52_21_26 rfl rfl (pc' := 27) rfl ?_
      refine k_iloadN X d_jdk_52_21_27 rfl (pc' := 28) rfl ?_
      refine k_iload X d_jdk_52_21_28 rfl (pc' := 30) rfl ?_
      refine k_i2b X d_jdk_52_21_30 (w := ((cs.getD i 0).toInt8.toInt32)) rfl (pc' := 31) rfl ?_
      have ge3 : n0 ≤ d := by omega
      refine k_bastore X (w := ((cs.getD i 0).toInt8.toInt32)) (i) d_jdk_52_21_31 Vd (own_nn (by omega)) hlt (own_clamp (by omega)) (by simp; omega) (own_i2b _) (vs' := ((cs.take (i + 1)).map own_lo ++ vs.drop (i + 1))) (own_turn cs vs i (by omega) hv) trivial ge3 (pc' := 32) rfl fun T2 h2 L2 X2 K2 V2 => ?_
      have sz_h2 := K2.1
      have K0_h2 : Keep h0 h2 [d] := K.trans K2 (allS (Or.inl (List.mem_of_getElem? (i := 0) rfl)) all0)
      refine k_iinc X2 d_jdk_52_21_32 rfl (w := (Int32.ofNat (i + 1))) (own_succ i) (Ls' := #[.val (.ref b), .val (.int (Int32.ofNat (i + 1))), .val (.ref d), .val (.int (Int32.ofNat i)), .val (.int z), .val (.int (Int32.ofNat i)), .val (.int (cs.getD i 0))]) rfl (pc' := 35) rfl ?_
      refine k_iinc X2 d_jdk_52_21_35 rfl (w := (Int32.ofNat (i + 1))) (own_succ i) (Ls' := #[.val (.ref b), .val (.int (Int32.ofNat (i + 1))), .val (.ref d), .val (.int (Int32.ofNat (i + 1))), .val (.int z), .val (.int (Int32.ofNat i)), .val (.int (cs.getD i 0))]) rfl (pc' := 38) rfl ?_
      refine k_iinc X2 d_jdk_52_21_38 rfl (w := (Int32.ofNat (i + 1))) (own_succ i) (Ls' := #[.val (.ref b), .val (.int (Int32.ofNat (i + 1))), .val (.ref d), .val (.int (Int32.ofNat (i + 1))), .val (.int z), .val (.int (Int32.ofNat (i + 1))), .val (.int (cs.getD i 0))]) rfl (pc' := 41) rfl ?_
      refine k_goto X2 d_jdk_52_21_41 (pc' := 3) (by decide) (by decide) ?_
      have c4 := (Vb.keep K2 (ninS (own_ne (by omega) : b ≠ d) nin0))
      exact ih (i + 1) _ _ _ _ (by omega) (by omega) (One.val rfl) X2 K0_h2 c4 V2
  refine k_iconst X0 d_jdk_52_21_0 (w := (0 : Int32)) rfl (pc' := 1) rfl ?_
  refine k_istore X0 d_jdk_52_21_1 (Ls' := #[.val (.ref b), .val (.int (0 : Int32)), .val (.ref d), .val (.int (0 : Int32)), .val (.int z), .val (.int (0 : Int32)), .unset]) rfl (pc' := 3) rfl ?_
  exact loop _ 0 _ _ _ _ rfl (by omega) One.u X0 K0_h0 q0 (by simpa using q1)
set_option maxRecDepth 65536 in
set_option maxHeartbeats 40000000 in
theorem own_cmp3L (l : Launch) (Z : State) (a0 : Array Value) (hw : ∀ d ∈ tables_1, d.before a0 Z = true) {zc : Int32} {fm : Value} {va : Nat} {kva : ClassId} {sg : Nat} {pr : Nat} {sgs : Nat} {sgt : Nat} {ksgt : ClassId} {prs : Nat} {prt : Nat} {kprt : ClassId}  (G : Gl Z zc fm va kva sg pr sgs sgt ksgt prs prt kprt) (n0 : Nat) (h0 : Heap) (O0 : Old Z n0 h0) (b : Nat) (kb : ClassId) (z : Int32) (cs : List Int32) (hz : z = Int32.ofNat cs.length) (hn : cs.length ≤ 10) (hall : ∀ c ∈ cs, ¬ 255 < c)  (q0 : Arv Z h0 b kb .char z (cs.map Value.int) (.int 0)) :
    MetF l [] Z n0 (⟨"java/lang/StringUTF16", "compress", "([CII)[B"⟩ : MethodName) jdk_52_method_16_code 6 (Option.some (FieldType.array FieldType.byte)) ({ frames := 1, cells := 1, slots := 10, locals := 18 } : Room) #[(.ref b), (.int (0 : Int32)), (.int z)] h0 [] (fun r h' => ∃ w, r = some w ∧ ∃ (t : Nat), ∃ (kt : ClassId), w = (.ref t) ∧ (Arv Z h' t kt .byte z (own_lat cs) (.int (0 : Int32))) ∧ (h0.size ≤ t)) := by
  refine metF (plainFor_of_name pn_0) O0 (Ls := #[.val (.ref b), .val (.int (0 : Int32)), .val (.int z), .unset, .unset, .unset]) (fun m => by first | rfl | (simp [entryFrame, mkF, argsToLocals, Value.category]; done)) ?_
  intro p e s m below meth c T0 X0
  have K0_h0 := Keep.refl h0 []
  have n0le := X0.n0le
  have ltq0 := own_n q0.lt
  obtain ⟨G_cs, G_zc, G_fm, isref_fm, GS_va, GV_va, GE_va, GS_sg, GE_sg, GF_sg, GE_sgs, GC_sgs, GW_sgs, GV_sgt, GS_pr, GE_pr, GF_pr, GE_prs, GC_prs, GW_prs, GV_prt⟩ := id G
  have oz := X0.old.1
  have ltz0 := own_n GV_va.lt
  have ltz1 := own_n GE_va.lt
  have ltz2 := own_n GE_sg.lt
  have ltz3 := own_n GE_sgs.lt
  have ltz4 := own_n GV_sgt.lt
  have ltz5 := own_n GE_pr.lt
  have ltz6 := own_n GE_prs.lt
  have ltz7 := own_n GV_prt.lt
  have hf := own_fst_all cs hall
  have hnz : ¬ z < 0 := by rw [hz]; exact own_nn (by omega)
  have hcl : z.toNatClampNeg = cs.length := by rw [hz]; exact own_clamp (by omega)
  refine k_iloadN X0 d_jdk_52_16_0 rfl (pc' := 1) rfl ?_
  refine k_newP X0 d_jdk_52_16_1 (w_3 hw) hnz (cap := 10) (by omega) (by decide) (by decide) (by decide) (pc' := 3) rfl fun T5 h5 b5 k5 g5 X5 K5 V5 S5 lt5 ge5 => ?_
  have sz_h5 := K5.1
  have K0_h5 : Keep h0 h5 [] := K0_h0.trans K5 all0
  have Vp : Arv Z h5 b5 k5 .byte z (List.replicate cs.length (.int (0 : Int32))) (.int (0 : Int32)) := Arv.pad V5 (fun i => by simpa using pad_rep [] (.int (0 : Int32)) cs.length i)
  refine k_astoreN X5 d_jdk_52_16_3 rfl (Ls' := #[.val (.ref b), .val (.int (0 : Int32)), .val (.int z), .val (.ref b5), .unset, .unset]) rfl (pc' := 4) rfl ?_
  refine k_aloadN X5 d_jdk_52_16_4 rfl rfl (pc' := 5) rfl ?_
  refine k_iloadN X5 d_jdk_52_16_5 rfl (pc' := 6) rfl ?_
  refine k_aloadN X5 d_jdk_52_16_6 rfl rfl (pc' := 7) rfl ?_
  refine k_iconst X5 d_jdk_52_16_7 (w := (0 : Int32)) rfl (pc' := 8) rfl ?_
  refine k_iloadN X5 d_jdk_52_16_8 rfl (pc' := 9) rfl ?_
  have c6 := (q0.keep K5 nin0)
  have ge7 : n0 ≤ b5 := by omega
  refine k_callSVF X5 (y := (⟨"java/lang/StringUTF16", "compress", "([CI[BII)I"⟩ : MethodName)) d_jdk_52_16_9 (w_50 hw) (w_51 hw) (w_48 hw) (w_52 hw) (by decide) (argsL := [(.ref b), (.int (0 : Int32)), (.ref b5), (.int (0 : Int32)), (.int z)]) (rest := []) (own_cmp5 l Z a0 hw G n0 h5 X5.old b b5 kb k5 z cs (List.replicate cs.length (.int (0 : Int32))) (by omega) hz (by omega) (by simp) (by omega) c6 Vp) rfl pd_0 rfl rfl (by decide) (W := 0) (Nat.le_of_eq rfl) (by decide) (by decide) (by decide) (allS ⟨trivial, ge7⟩ all0) (pc' := 12) rfl ?_
  rintro _ T8 h8 L8 X8 K8 ⟨rfl, q8_0⟩
  have sz_h8 := K8.1
  have K0_h8 : Keep h0 h8 [] := K0_h5.trans K8 (allS (Or.inr (by omega)) all0)
  have lt8_0 := own_n q8_0.lt
  refine k_istore X8 d_jdk_52_16_12 (Ls' := #[.val (.ref b), .val (.int (0 : Int32)), .val (.int z), .val (.ref b5), .val (.int (Int32.ofNat (own_fst cs))), .unset]) rfl (pc' := 14) rfl ?_
  refine k_iload X8 d_jdk_52_16_14 rfl (pc' := 16) rfl ?_
  refine k_iloadN X8 d_jdk_52_16_16 rfl (pc' := 17) rfl ?_
  have hz2 : Int32.ofNat (own_fst cs) = z := by rw [hf, ← hz]
  refine k_icmpYes X8 d_jdk_52_16_17 (teq hz2).1 (pc' := 57) (by decide) (by decide) ?_
  refine k_aloadN X8 d_jdk_52_16_57 rfl rfl (pc' := 58) rfl ?_
  have Vl : Arv Z h8 b5 k5 .byte z (own_lat cs) (.int (0 : Int32)) := by simpa [hf, own_lat] using q8_0
  exact k_retFA X8 d_jdk_52_16_58 rfl rfl rfl rfl K0_h8 ⟨_, rfl, _, _, rfl, Vl, by omega⟩ (by decide) (by decide)
set_option maxRecDepth 65536 in
set_option maxHeartbeats 40000000 in
theorem own_codL (l : Launch) (Z : State) (a0 : Array Value) (hw : ∀ d ∈ tables_1, d.before a0 Z = true) {zc : Int32} {fm : Value} {va : Nat} {kva : ClassId} {sg : Nat} {pr : Nat} {sgs : Nat} {sgt : Nat} {ksgt : ClassId} {prs : Nat} {prt : Nat} {kprt : ClassId}  (G : Gl Z zc fm va kva sg pr sgs sgt ksgt prs prt kprt) (n0 : Nat) (h0 : Heap) (O0 : Old Z n0 h0) (d : Nat) (k : ClassId) (z : Int32) (bs : List Value) (dv : Value)  (q0 : Arv Z h0 d k .byte z bs dv) :
    MetF l [] Z n0 (⟨"java/lang/StringUTF16", "coderFromArrayLen", "([BI)B"⟩ : MethodName) jdk_52_method_15_code 2 (Option.some FieldType.byte) ({ frames := 0, cells := 0, slots := 0, locals := 0 } : Room) #[(.ref d), (.int z)] h0 [] (fun r h' => ∃ w, r = some w ∧ w = (.int (0 : Int32)) ∧ True) := by
  refine metF (plainFor_of_name pn_0) O0 (Ls := #[.val (.ref d), .val (.int z)]) (fun m => by first | rfl | (simp [entryFrame, mkF, argsToLocals, Value.category]; done)) ?_
  intro p e s m below meth c T0 X0
  have K0_h0 := Keep.refl h0 []
  have n0le := X0.n0le
  have ltq0 := own_n q0.lt
  obtain ⟨G_cs, G_zc, G_fm, isref_fm, GS_va, GV_va, GE_va, GS_sg, GE_sg, GF_sg, GE_sgs, GC_sgs, GW_sgs, GV_sgt, GS_pr, GE_pr, GF_pr, GE_prs, GC_prs, GW_prs, GV_prt⟩ := id G
  have oz := X0.old.1
  have ltz0 := own_n GV_va.lt
  have ltz1 := own_n GE_va.lt
  have ltz2 := own_n GE_sg.lt
  have ltz3 := own_n GE_sgs.lt
  have ltz4 := own_n GV_sgt.lt
  have ltz5 := own_n GE_pr.lt
  have ltz6 := own_n GE_prs.lt
  have ltz7 := own_n GV_prt.lt
  refine k_iloadN X0 d_jdk_52_15_0 rfl (pc' := 1) rfl ?_
  refine k_aloadN X0 d_jdk_52_15_1 rfl rfl (pc' := 2) rfl ?_
  refine k_arlen X0 d_jdk_52_15_2 q0 (pc' := 3) rfl ?_
  refine k_isub X0 d_jdk_52_15_3 (w := (0 : Int32)) (Int32.sub_self z) (pc' := 4) rfl ?_
  refine k_bipush X0 d_jdk_52_15_4 (w := (31 : Int32)) rfl (pc' := 6) rfl ?_
  refine k_iushr X0 d_jdk_52_15_6 (w := (0 : Int32)) (by decide) (pc' := 7) rfl ?_
  refine k_i2b X0 d_jdk_52_15_7 (w := (0 : Int32)) (by decide) (pc' := 8) rfl ?_
  exact k_retFN X0 (w := (0 : Int32)) d_jdk_52_15_8 (t := .byte) rfl (by simp) rfl K0_h0 ⟨_, rfl, rfl, trivial⟩ (by decide) (by decide)
set_option maxRecDepth 65536 in
set_option maxHeartbeats 40000000 in
theorem own_init4L (l : Launch) (Z : State) (a0 : Array Value) (hw : ∀ d ∈ tables_1, d.before a0 Z = true) {zc : Int32} {fm : Value} {va : Nat} {kva : ClassId} {sg : Nat} {pr : Nat} {sgs : Nat} {sgt : Nat} {ksgt : ClassId} {prs : Nat} {prt : Nat} {kprt : ClassId}  (G : Gl Z zc fm va kva sg pr sgs sgt ksgt prs prt kprt) (n0 : Nat) (h0 : Heap) (O0 : Old Z n0 h0) (a : Nat) (b : Nat) (kb : ClassId) (z : Int32) (cs : List Int32) (hz : z = Int32.ofNat cs.length) (h1 : 0 < cs.length) (hn : cs.length ≤ 10) (hall : ∀ c ∈ cs, ¬ 255 < c) (gw0 : n0 ≤ a) (q0 : Exa Z h0 a "java/lang/String") (q1 : Fld Z h0 a "java/lang/String" "value" "[B" .null) (q2 : Fld Z h0 a "java/lang/String" "coder" "B" (.int (0 : Int32))) (q3 : Arv Z h0 b kb .char z (cs.map Value.int) (.int 0)) :
    MetF l [] Z n0 (⟨"java/lang/String", "<init>", "([CIILjava/lang/Void;)V"⟩ : MethodName) jdk_42_method_149_code 6 (Option.none : Option FieldType) ({ frames := 2, cells := 1, slots := 10, locals := 35 } : Room) #[(.ref a), (.ref b), (.int (0 : Int32)), (.int z), .null] h0 [a] (fun r h' => r = none ∧ ∃ (t : Nat), ∃ (kt : ClassId), (Exa Z h' a "java/lang/String") ∧ (Fld Z h' a "java/lang/String" "coder" "B" (.int (0 : Int32))) ∧ (Fld Z h' a "java/lang/String" "value" "[B" (.ref t)) ∧ (Arv Z h' t kt .byte z (own_lat cs) (.int (0 : Int32))) ∧ (h0.size ≤ t)) := by
  refine metF (plainFor_of_name pn_1) O0 (Ls := #[.val (.ref a), .val (.ref b), .val (.int (0 : Int32)), .val (.int z), .val .null, .unset]) (fun m => by first | rfl | (simp [entryFrame, mkF, argsToLocals, Value.category]; done)) ?_
  intro p e s m below meth c T0 X0
  have K0_h0 := Keep.refl h0 [a]
  have n0le := X0.n0le
  have ltq0 := own_n q0.lt
  have ltq1 := own_n q1.lt
  have ltq2 := own_n q2.lt
  have ltq3 := own_n q3.lt
  obtain ⟨G_cs, G_zc, G_fm, isref_fm, GS_va, GV_va, GE_va, GS_sg, GE_sg, GF_sg, GE_sgs, GC_sgs, GW_sgs, GV_sgt, GS_pr, GE_pr, GF_pr, GE_prs, GC_prs, GW_prs, GV_prt⟩ := id G
  have oz := X0.old.1
  have ltz0 := own_n GV_va.lt
  have ltz1 := own_n GE_va.lt
  have ltz2 := own_n GE_sg.lt
  have ltz3 := own_n GE_sgs.lt
  have ltz4 := own_n GV_sgt.lt
  have ltz5 := own_n GE_pr.lt
  have ltz6 := own_n GE_prs.lt
  have ltz7 := own_n GV_prt.lt
  have hnz0 : ¬ z = 0 := by rw [hz]; exact own_nz h1 (by omega)
  refine k_aloadN X0 d_jdk_42_149_0 rfl rfl (pc' := 1) rfl ?_
  refine k_initO X0 d_jdk_42_149_1 (w_43 hw) (w_44 hw) (w_45 hw) rfl (by decide) (W := 0) (Nat.le_of_eq rfl) (by decide) (pc' := 4) rfl fun T10 X11 => ?_
  refine k_iloadN X11 d_jdk_42_149_4 rfl (pc' := 5) rfl ?_
  refine k_ifYes X11 d_jdk_42_149_5 ((if0 _ _).trans (feq hnz0).2) (pc' := 27) (by decide) (by decide) ?_
  refine k_getS X11 d_jdk_42_149_27 (host := "") (Or.inl (w_19 hw)) Via.refl (G_cs.ext X11.old.2) (pc' := 30) rfl fun T12 X13 => ?_
  refine k_ifNo X13 d_jdk_42_149_30 ((if0 _ _).trans (feq G_zc).1) (pc' := 33) rfl ?_
  refine k_aloadN X13 d_jdk_42_149_33 rfl rfl (pc' := 34) rfl ?_
  refine k_iloadN X13 d_jdk_42_149_34 rfl (pc' := 35) rfl ?_
  refine k_iloadN X13 d_jdk_42_149_35 rfl (pc' := 36) rfl ?_
  refine k_callSVF X13 (y := (⟨"java/lang/StringUTF16", "compress", "([CII)[B"⟩ : MethodName)) d_jdk_42_149_36 (w_46 hw) (w_47 hw) (w_48 hw) (w_49 hw) (by decide) (argsL := [(.ref b), (.int (0 : Int32)), (.int z)]) (rest := []) (own_cmp3L l Z a0 hw G n0 h0 X13.old b kb z cs hz (by omega) hall q3) rfl pd_1 rfl rfl (by decide) (W := 0) (Nat.le_of_eq rfl) (by decide) (by decide) (by decide) all0 (pc' := 39) rfl ?_
  rintro _ T16 h16 L16 X16 K16 ⟨t_14, kt_15, rfl, q16_0, q16_1⟩
  have sz_h16 := K16.1
  have K0_h16 : Keep h0 h16 [a] := K0_h0.trans K16 all0
  have lt16_0 := own_n q16_0.lt
  refine k_astore X16 d_jdk_42_149_39 rfl (Ls' := #[.val (.ref a), .val (.ref b), .val (.int (0 : Int32)), .val (.int z), .val .null, .val (.ref t_14)]) rfl (pc' := 41) rfl ?_
  refine k_aloadN X16 d_jdk_42_149_41 rfl rfl (pc' := 42) rfl ?_
  refine k_aload X16 d_jdk_42_149_42 rfl rfl (pc' := 44) rfl ?_
  refine k_iloadN X16 d_jdk_42_149_44 rfl (pc' := 45) rfl ?_
  refine k_callSVF X16 (y := (⟨"java/lang/StringUTF16", "coderFromArrayLen", "([BI)B"⟩ : MethodName)) d_jdk_42_149_45 (w_53 hw) (w_54 hw) (w_48 hw) (w_55 hw) (by decide) (argsL := [(.ref t_14), (.int z)]) (rest := [(.ref a)]) (own_codL l Z a0 hw G n0 h16 X16.old t_14 kt_15 z (own_lat cs) (.int (0 : Int32)) q16_0) rfl pd_2 rfl rfl (by decide) (W := 1) (Nat.le_of_eq rfl) (by decide) (by decide) (by decide) all0 (pc' := 48) rfl ?_
  rintro _ T18 h18 L18 X18 K18 ⟨rfl, -⟩
  have sz_h18 := K18.1
  have K0_h18 : Keep h0 h18 [a] := K0_h16.trans K18 all0
  have c20 := ((q2.keep K16 nin0).keep K18 nin0)
  have c21 := ((q0.keep K16).keep K18)
  have ge23 : n0 ≤ a := by omega
  refine k_putF X18 d_jdk_42_149_48 (host := "") (Or.inl (w_20 hw)) Via.refl c20 c21 (Or.inr ⟨(w_5 hw), rfl, X18.hnm⟩) (w_2 hw) (ty := .byte) (by decide) rfl rfl trivial ge23 (pc' := 51) rfl fun T22 h22 L22 X22 W22 K22 => ?_
  have sz_h22 := K22.1
  have K0_h22 : Keep h0 h22 [a] := K0_h18.trans K22 (allS (Or.inl (List.mem_of_getElem? (i := 0) rfl)) all0)
  have F22 := c20.same W22
  refine k_aloadN X22 d_jdk_42_149_51 rfl rfl (pc' := 52) rfl ?_
  refine k_aload X22 d_jdk_42_149_52 rfl rfl (pc' := 54) rfl ?_
  have c24 := (((q1.keep K16 nin0).keep K18 nin0).other W22 (Or.inr (slot_ne (Or.inr (w_4 hw)) (Or.inr (w_5 hw)) (by decide) (t := (.array .byte)) (t' := .byte) (by decide) (by decide))))
  have c25 := (c21.keep K22)
  have ge27 : n0 ≤ a := by omega
  refine k_putF X22 d_jdk_42_149_54 (host := "") (Or.inl (w_21 hw)) Via.refl c24 c25 (Or.inr ⟨(w_4 hw), rfl, X22.hnm⟩) (w_2 hw) (ty := (.array .byte)) (by decide) rfl rfl trivial ge27 (pc' := 57) rfl fun T26 h26 L26 X26 W26 K26 => ?_
  have sz_h26 := K26.1
  have K0_h26 : Keep h0 h26 [a] := K0_h22.trans K26 (allS (Or.inl (List.mem_of_getElem? (i := 0) rfl)) all0)
  have F26 := c24.same W26
  have c28 := (c25.keep K26)
  have c29 := (F22.other W26 (Or.inr (slot_ne (Or.inr (w_5 hw)) (Or.inr (w_4 hw)) (by decide) (t := .byte) (t' := (.array .byte)) (by decide) (by decide))))
  have c30 := (((q16_0.keep K18 nin0).keep K22 (ninS (own_ne (by omega) : t_14 ≠ a) nin0)).keep K26 (ninS (own_ne (by omega) : t_14 ≠ a) nin0))
  exact k_retFV X26 d_jdk_42_149_57 rfl K0_h26 ⟨rfl, _, _, c28, c29, F26, c30, by omega⟩ (by decide) (by decide)
set_option maxRecDepth 65536 in
set_option maxHeartbeats 40000000 in
theorem own_initL (l : Launch) (Z : State) (a0 : Array Value) (hw : ∀ d ∈ tables_1, d.before a0 Z = true) {zc : Int32} {fm : Value} {va : Nat} {kva : ClassId} {sg : Nat} {pr : Nat} {sgs : Nat} {sgt : Nat} {ksgt : ClassId} {prs : Nat} {prt : Nat} {kprt : ClassId}  (G : Gl Z zc fm va kva sg pr sgs sgt ksgt prs prt kprt) (n0 : Nat) (h0 : Heap) (O0 : Old Z n0 h0) (a : Nat) (b : Nat) (kb : ClassId) (z : Int32) (vs : List Value) (cs : List Int32) (hvs : vs = cs.map Value.int) (hz : z = Int32.ofNat cs.length) (h1 : 0 < cs.length) (hn : cs.length ≤ 10) (hall : ∀ c ∈ cs, ¬ 255 < c) (gw0 : n0 ≤ a) (q0 : Exa Z h0 a "java/lang/String") (q1 : Fld Z h0 a "java/lang/String" "value" "[B" .null) (q2 : Fld Z h0 a "java/lang/String" "coder" "B" (.int (0 : Int32))) (q3 : Arv Z h0 b kb .char z vs (.int (0 : Int32))) :
    MetF l [] Z n0 (⟨"java/lang/String", "<init>", "([C)V"⟩ : MethodName) jdk_42_method_3_code 2 (Option.none : Option FieldType) ({ frames := 3, cells := 1, slots := 10, locals := 52 } : Room) #[(.ref a), (.ref b)] h0 [a] (fun r h' => r = none ∧ ∃ (t : Nat), ∃ (kt : ClassId), (Exa Z h' a "java/lang/String") ∧ (Fld Z h' a "java/lang/String" "coder" "B" (.int (0 : Int32))) ∧ (Fld Z h' a "java/lang/String" "value" "[B" (.ref t)) ∧ (Arv Z h' t kt .byte z (own_lat cs) (.int (0 : Int32))) ∧ (h0.size ≤ t)) := by
  subst hvs
  refine metF (plainFor_of_name pn_1) O0 (Ls := #[.val (.ref a), .val (.ref b)]) (fun m => by first | rfl | (simp [entryFrame, mkF, argsToLocals, Value.category]; done)) ?_
  intro p e s m below meth c T0 X0
  have K0_h0 := Keep.refl h0 [a]
  have n0le := X0.n0le
  have ltq0 := own_n q0.lt
  have ltq1 := own_n q1.lt
  have ltq2 := own_n q2.lt
  have ltq3 := own_n q3.lt
  obtain ⟨G_cs, G_zc, G_fm, isref_fm, GS_va, GV_va, GE_va, GS_sg, GE_sg, GF_sg, GE_sgs, GC_sgs, GW_sgs, GV_sgt, GS_pr, GE_pr, GF_pr, GE_prs, GC_prs, GW_prs, GV_prt⟩ := id G
  have oz := X0.old.1
  have ltz0 := own_n GV_va.lt
  have ltz1 := own_n GE_va.lt
  have ltz2 := own_n GE_sg.lt
  have ltz3 := own_n GE_sgs.lt
  have ltz4 := own_n GV_sgt.lt
  have ltz5 := own_n GE_pr.lt
  have ltz6 := own_n GE_prs.lt
  have ltz7 := own_n GV_prt.lt
  refine k_aloadN X0 d_jdk_42_3_0 rfl rfl (pc' := 1) rfl ?_
  refine k_aloadN X0 d_jdk_42_3_1 rfl rfl (pc' := 2) rfl ?_
  refine k_iconst X0 d_jdk_42_3_2 (w := (0 : Int32)) rfl (pc' := 3) rfl ?_
  refine k_aloadN X0 d_jdk_42_3_3 rfl rfl (pc' := 4) rfl ?_
  refine k_arlen X0 d_jdk_42_3_4 q3 (pc' := 5) rfl ?_
  refine k_aconstNull X0 d_jdk_42_3_5 (pc' := 6) rfl ?_
  have ge33 : n0 ≤ a := by omega
  refine k_callPNF X0 (y := (⟨"java/lang/String", "<init>", "([CIILjava/lang/Void;)V"⟩ : MethodName)) d_jdk_42_3_6 (w_39 hw) (w_40 hw) (w_1 hw) (w_42 hw) (by decide) rfl rfl (argsL := [(.ref b), (.int (0 : Int32)), (.int z), .null]) (rest := []) (own_init4L l Z a0 hw G n0 h0 X0.old a b kb z cs hz h1 hn hall (by omega) q0 q1 q2 q3) rfl pd_3 rfl rfl (by decide) (W := 0) (Nat.le_of_eq rfl) (by decide) (by decide) (by decide) (allS ⟨trivial, ge33⟩ all0) (pc' := 9) rfl ?_
  rintro T34 h34 L34 X34 K34 ⟨t_31, kt_32, q34_0, q34_1, q34_2, q34_3, q34_4⟩
  have sz_h34 := K34.1
  have K0_h34 : Keep h0 h34 [a] := K0_h0.trans K34 (allS (Or.inl (List.mem_of_getElem? (i := 0) rfl)) all0)
  have lt34_0 := own_n q34_0.lt
  have lt34_1 := own_n q34_1.lt
  have lt34_2 := own_n q34_2.lt
  have lt34_3 := own_n q34_3.lt
  exact k_retFV X34 d_jdk_42_3_9 rfl K0_h34 ⟨rfl, _, _, q34_0, q34_1, q34_2, q34_3, by omega⟩ (by decide) (by decide)
set_option maxRecDepth 65536 in
set_option maxHeartbeats 40000000 in
theorem own_init4E (l : Launch) (Z : State) (a0 : Array Value) (hw : ∀ d ∈ tables_1, d.before a0 Z = true) {zc : Int32} {fm : Value} {va : Nat} {kva : ClassId} {sg : Nat} {pr : Nat} {sgs : Nat} {sgt : Nat} {ksgt : ClassId} {prs : Nat} {prt : Nat} {kprt : ClassId}  (G : Gl Z zc fm va kva sg pr sgs sgt ksgt prs prt kprt) (n0 : Nat) (h0 : Heap) (O0 : Old Z n0 h0) (a : Nat) (b : Nat) (gw0 : n0 ≤ a) (q0 : Exa Z h0 a "java/lang/String") (q1 : Fld Z h0 a "java/lang/String" "value" "[B" .null) (q2 : Fld Z h0 a "java/lang/String" "coder" "B" (.int (0 : Int32))) :
    MetH l [] Z EL n0 (⟨"java/lang/String", "<init>", "([CIILjava/lang/Void;)V"⟩ : MethodName) jdk_42_method_149_code 6 (Option.none : Option FieldType) ({ frames := 1, cells := 4, slots := 8, locals := 12 } : Room) #[(.ref a), (.ref b), (.int (0 : Int32)), (.int (0 : Int32)), .null] h0 [a] (fun r v' h' => r = none ∧ ∃ (t : Nat), ∃ (kt : ClassId), (Exa Z h' a "java/lang/String") ∧ (Fld Z h' a "java/lang/String" "coder" "B" (.int (0 : Int32))) ∧ (Fld Z h' a "java/lang/String" "value" "[B" (.ref t)) ∧ (Arv Z h' t kt .byte (0 : Int32) [] (.int (0 : Int32)))) := by
  refine metH (hEL hw) (plainFor_of_name pn_1) O0 (Ls := #[.val (.ref a), .val (.ref b), .val (.int (0 : Int32)), .val (.int (0 : Int32)), .val .null, .unset]) (fun m => by first | rfl | (simp [entryFrame, mkF, argsToLocals, Value.category]; done)) ?_
  intro p e s m below meth c T0 v0 X0 hSf
  have K0_h0 := Keep.refl h0 [a]
  have n0le := X0.n0le
  have ltq0 := own_n q0.lt
  have ltq1 := own_n q1.lt
  have ltq2 := own_n q2.lt
  have sf_0 := hSf a (List.mem_of_getElem? (i := 0) rfl)
  obtain ⟨G_cs, G_zc, G_fm, isref_fm, GS_va, GV_va, GE_va, GS_sg, GE_sg, GF_sg, GE_sgs, GC_sgs, GW_sgs, GV_sgt, GS_pr, GE_pr, GF_pr, GE_prs, GC_prs, GW_prs, GV_prt⟩ := id G
  have oz := X0.old.1
  have ltz0 := own_n GV_va.lt
  have ltz1 := own_n GE_va.lt
  have ltz2 := own_n GE_sg.lt
  have ltz3 := own_n GE_sgs.lt
  have ltz4 := own_n GV_sgt.lt
  have ltz5 := own_n GE_pr.lt
  have ltz6 := own_n GE_prs.lt
  have ltz7 := own_n GV_prt.lt
  refine k_aloadN X0 d_jdk_42_149_0 rfl rfl (pc' := 1) rfl ?_
  refine k_initO X0 d_jdk_42_149_1 (w_43 hw) (w_44 hw) (w_45 hw) rfl (by decide) (W := 0) (Nat.le_of_eq rfl) (by decide) (pc' := 4) rfl fun T35 X36 => ?_
  refine k_iloadN X36 d_jdk_42_149_4 rfl (pc' := 5) rfl ?_
  refine k_ifNo X36 d_jdk_42_149_5 (by decide) (pc' := 8) rfl ?_
  refine k_aloadN X36 d_jdk_42_149_8 rfl rfl (pc' := 9) rfl ?_
  refine k_ldcR X36 d_jdk_42_149_9 (w_90 hw) (own_wS hw) (List.mem_of_getElem? (i := 0) rfl) (vs := []) (z := (0 : Int32)) (by decide) (by decide) rfl (n := 0) (by decide) (by decide) (by decide) (by decide) (pc' := 11) rfl fun s37 bb37 kb37 v37 T37 h37 X37 K37 C37 E37 Fc37 Fv37 V37 nq37 => ?_
  have sz_h37 := K37.1
  have K0_h37 : Keep h0 h37 [a] := K0_h0.trans K37 all0
  have lt37 := own_n E37.lt
  have ltb37 := own_n V37.lt
  have c38 := (C37.safe (own_n (by omega)) sf_0)
  have na := nq37 a c38
  have na1 := own_ni na.1
  have na2 := own_ni na.2
  refine k_getF X37 d_jdk_42_149_11 (host := "") (Or.inl (w_21 hw)) Via.refl Fv37 (pc' := 14) rfl fun T39 X40 => ?_
  have c41 := (q1.keep K37 nin0)
  have c42 := (q0.keep K37)
  have ge44 : n0 ≤ a := by omega
  refine k_putF X40 d_jdk_42_149_14 (host := "") (Or.inl (w_21 hw)) Via.refl c41 c42 (Or.inr ⟨(w_4 hw), rfl, X40.hnm⟩) (w_2 hw) (ty := (.array .byte)) (by decide) rfl rfl c38 ge44 (pc' := 17) rfl fun T43 h43 L43 X43 W43 K43 => ?_
  have sz_h43 := K43.1
  have K0_h43 : Keep h0 h43 [a] := K0_h37.trans K43 (allS (Or.inl (List.mem_of_getElem? (i := 0) rfl)) all0)
  have F43 := c41.same W43
  refine k_aloadN X43 d_jdk_42_149_17 rfl rfl (pc' := 18) rfl ?_
  refine k_ldcR X43 d_jdk_42_149_18 (w_90 hw) (own_wS hw) (List.mem_of_getElem? (i := 0) rfl) (vs := []) (z := (0 : Int32)) (by decide) (by decide) rfl (n := 0) (by decide) (by decide) (by decide) (by decide) (pc' := 20) rfl fun s45 bb45 kb45 v45 T45 h45 X45 K45 C45 E45 Fc45 Fv45 V45 nq45 => ?_
  have sz_h45 := K45.1
  have K0_h45 : Keep h0 h45 [a] := K0_h43.trans K45 all0
  have lt45 := own_n E45.lt
  have ltb45 := own_n V45.lt
  have c46 := (C45.safe (own_n (by omega)) (X40.sf K43 (allS ⟨c38, ge44⟩ all0) c38))
  have nb := nq45 a c46
  have nb1 := own_ni nb.1
  have nb2 := own_ni nb.2
  refine k_getF X45 d_jdk_42_149_20 (host := "") (Or.inl (w_20 hw)) Via.refl Fc45 (pc' := 23) rfl fun T47 X48 => ?_
  have c49 := (((q2.keep K37 nin0).other W43 (Or.inr (slot_ne (Or.inr (w_5 hw)) (Or.inr (w_4 hw)) (by decide) (t := .byte) (t' := (.array .byte)) (by decide) (by decide)))).keep K45 nin0)
  have c50 := ((c42.keep K43).keep K45)
  have ge52 : n0 ≤ a := by omega
  refine k_putF X48 d_jdk_42_149_23 (host := "") (Or.inl (w_20 hw)) Via.refl c49 c50 (Or.inr ⟨(w_5 hw), rfl, X48.hnm⟩) (w_2 hw) (ty := .byte) (by decide) rfl rfl c46 ge52 (pc' := 26) rfl fun T51 h51 L51 X51 W51 K51 => ?_
  have sz_h51 := K51.1
  have K0_h51 : Keep h0 h51 [a] := K0_h45.trans K51 (allS (Or.inl (List.mem_of_getElem? (i := 0) rfl)) all0)
  have F51 := c49.same W51
  have c53 := (c50.keep K51)
  have c54 := ((F43.keep K45 nin0).other W51 (Or.inr (slot_ne (Or.inr (w_4 hw)) (Or.inr (w_5 hw)) (by decide) (t := (.array .byte)) (t' := .byte) (by decide) (by decide))))
  have c55 := (((V37.keep K43 (ninS (own_ne (by omega) : bb37 ≠ a) nin0)).keep K45 nin0).keep K51 (ninS (own_ne (by omega) : bb37 ≠ a) nin0))
  exact k_retHV X51 d_jdk_42_149_26 rfl K0_h51 (fun v' C' => ⟨rfl, _, _, c53, F51, c54, c55⟩) (by decide) (by decide)
set_option maxRecDepth 65536 in
set_option maxHeartbeats 40000000 in
theorem own_initE (l : Launch) (Z : State) (a0 : Array Value) (hw : ∀ d ∈ tables_1, d.before a0 Z = true) {zc : Int32} {fm : Value} {va : Nat} {kva : ClassId} {sg : Nat} {pr : Nat} {sgs : Nat} {sgt : Nat} {ksgt : ClassId} {prs : Nat} {prt : Nat} {kprt : ClassId}  (G : Gl Z zc fm va kva sg pr sgs sgt ksgt prs prt kprt) (n0 : Nat) (h0 : Heap) (O0 : Old Z n0 h0) (a : Nat) (b : Nat) (kb : ClassId) (vs : List Value) (dv : Value) (gw0 : n0 ≤ a) (q0 : Exa Z h0 a "java/lang/String") (q1 : Fld Z h0 a "java/lang/String" "value" "[B" .null) (q2 : Fld Z h0 a "java/lang/String" "coder" "B" (.int (0 : Int32))) (q3 : Arv Z h0 b kb .char (0 : Int32) vs dv) :
    MetH l [] Z EL n0 (⟨"java/lang/String", "<init>", "([C)V"⟩ : MethodName) jdk_42_method_3_code 2 (Option.none : Option FieldType) ({ frames := 2, cells := 4, slots := 8, locals := 29 } : Room) #[(.ref a), (.ref b)] h0 [a] (fun r v' h' => r = none ∧ ∃ (t : Nat), ∃ (kt : ClassId), (Exa Z h' a "java/lang/String") ∧ (Fld Z h' a "java/lang/String" "coder" "B" (.int (0 : Int32))) ∧ (Fld Z h' a "java/lang/String" "value" "[B" (.ref t)) ∧ (Arv Z h' t kt .byte (0 : Int32) [] (.int (0 : Int32)))) := by
  refine metH (hEL hw) (plainFor_of_name pn_1) O0 (Ls := #[.val (.ref a), .val (.ref b)]) (fun m => by first | rfl | (simp [entryFrame, mkF, argsToLocals, Value.category]; done)) ?_
  intro p e s m below meth c T0 v0 X0 hSf
  have K0_h0 := Keep.refl h0 [a]
  have n0le := X0.n0le
  have ltq0 := own_n q0.lt
  have ltq1 := own_n q1.lt
  have ltq2 := own_n q2.lt
  have ltq3 := own_n q3.lt
  have sf_0 := hSf a (List.mem_of_getElem? (i := 0) rfl)
  obtain ⟨G_cs, G_zc, G_fm, isref_fm, GS_va, GV_va, GE_va, GS_sg, GE_sg, GF_sg, GE_sgs, GC_sgs, GW_sgs, GV_sgt, GS_pr, GE_pr, GF_pr, GE_prs, GC_prs, GW_prs, GV_prt⟩ := id G
  have oz := X0.old.1
  have ltz0 := own_n GV_va.lt
  have ltz1 := own_n GE_va.lt
  have ltz2 := own_n GE_sg.lt
  have ltz3 := own_n GE_sgs.lt
  have ltz4 := own_n GV_sgt.lt
  have ltz5 := own_n GE_pr.lt
  have ltz6 := own_n GE_prs.lt
  have ltz7 := own_n GV_prt.lt
  refine k_aloadN X0 d_jdk_42_3_0 rfl rfl (pc' := 1) rfl ?_
  refine k_aloadN X0 d_jdk_42_3_1 rfl rfl (pc' := 2) rfl ?_
  refine k_iconst X0 d_jdk_42_3_2 (w := (0 : Int32)) rfl (pc' := 3) rfl ?_
  refine k_aloadN X0 d_jdk_42_3_3 rfl rfl (pc' := 4) rfl ?_
  refine k_arlen X0 d_jdk_42_3_4 q3 (pc' := 5) rfl ?_
  refine k_aconstNull X0 d_jdk_42_3_5 (pc' := 6) rfl ?_
  have ge58 : n0 ≤ a := by omega
  refine k_callPNH X0 (y := (⟨"java/lang/String", "<init>", "([CIILjava/lang/Void;)V"⟩ : MethodName)) d_jdk_42_3_6 (w_39 hw) (w_40 hw) (w_1 hw) (w_42 hw) (by decide) rfl rfl (argsL := [(.ref b), (.int (0 : Int32)), (.int (0 : Int32)), .null]) (rest := []) (own_init4E l Z a0 hw G n0 h0 X0.old a b (by omega) q0 q1 q2) rfl pd_3 rfl rfl (by decide) (W := 0) (Nat.le_of_eq rfl) (by decide) (by decide) (by decide) (allS ⟨⟨own_n (by omega), sf_0⟩, ge58⟩ all0) (pc' := 9) rfl ?_
  rintro v59 T59 h59 L59 X59 K59 C59 ⟨t_56, kt_57, q59_0, q59_1, q59_2, q59_3⟩
  have sz_h59 := K59.1
  have K0_h59 : Keep h0 h59 [a] := K0_h0.trans K59 (allS (Or.inl (List.mem_of_getElem? (i := 0) rfl)) all0)
  have lt59_0 := own_n q59_0.lt
  have lt59_1 := own_n q59_1.lt
  have lt59_2 := own_n q59_2.lt
  have lt59_3 := own_n q59_3.lt
  exact k_retHV X59 d_jdk_42_3_9 rfl K0_h59 (fun v' C' => ⟨rfl, _, _, q59_0, q59_1, q59_2, q59_3⟩) (by decide) (by decide)
set_option maxRecDepth 65536 in
set_option maxHeartbeats 40000000 in
theorem own_isLat0 (l : Launch) (Z : State) (a0 : Array Value) (hw : ∀ d ∈ tables_1, d.before a0 Z = true) {zc : Int32} {fm : Value} {va : Nat} {kva : ClassId} {sg : Nat} {pr : Nat} {sgs : Nat} {sgt : Nat} {ksgt : ClassId} {prs : Nat} {prt : Nat} {kprt : ClassId}  (G : Gl Z zc fm va kva sg pr sgs sgt ksgt prs prt kprt) (n0 : Nat) (h0 : Heap) (O0 : Old Z n0 h0) (a : Nat)  (q0 : Fld Z h0 a "java/lang/String" "coder" "B" (.int (0 : Int32))) :
    MetF l [] Z n0 (⟨"java/lang/String", "isLatin1", "()Z"⟩ : MethodName) jdk_42_method_154_code 1 (Option.some FieldType.boolean) ({ frames := 0, cells := 0, slots := 0, locals := 0 } : Room) #[(.ref a)] h0 [] (fun r h' => ∃ w, r = some w ∧ w = (.int (1 : Int32)) ∧ True) := by
  refine metF (plainFor_of_name pn_1) O0 (Ls := #[.val (.ref a)]) (fun m => by first | rfl | (simp [entryFrame, mkF, argsToLocals, Value.category]; done)) ?_
  intro p e s m below meth c T0 X0
  have K0_h0 := Keep.refl h0 []
  have n0le := X0.n0le
  have ltq0 := own_n q0.lt
  obtain ⟨G_cs, G_zc, G_fm, isref_fm, GS_va, GV_va, GE_va, GS_sg, GE_sg, GF_sg, GE_sgs, GC_sgs, GW_sgs, GV_sgt, GS_pr, GE_pr, GF_pr, GE_prs, GC_prs, GW_prs, GV_prt⟩ := id G
  have oz := X0.old.1
  have ltz0 := own_n GV_va.lt
  have ltz1 := own_n GE_va.lt
  have ltz2 := own_n GE_sg.lt
  have ltz3 := own_n GE_sgs.lt
  have ltz4 := own_n GV_sgt.lt
  have ltz5 := own_n GE_pr.lt
  have ltz6 := own_n GE_prs.lt
  have ltz7 := own_n GV_prt.lt
  refine k_getS X0 d_jdk_42_154_0 (host := "") (Or.inl (w_19 hw)) Via.refl (G_cs.ext X0.old.2) (pc' := 3) rfl fun T60 X61 => ?_
  refine k_ifNo X61 d_jdk_42_154_3 ((if0 _ _).trans (feq G_zc).1) (pc' := 6) rfl ?_
  refine k_aloadN X61 d_jdk_42_154_6 rfl rfl (pc' := 7) rfl ?_
  refine k_getF X61 d_jdk_42_154_7 (host := "") (Or.inl (w_20 hw)) Via.refl q0 (pc' := 10) rfl fun T62 X63 => ?_
  refine k_ifNo X63 d_jdk_42_154_10 (by decide) (pc' := 13) rfl ?_
  refine k_iconst X63 d_jdk_42_154_13 (w := (1 : Int32)) rfl (pc' := 14) rfl ?_
  refine k_goto X63 d_jdk_42_154_14 (pc' := 18) (by decide) (by decide) ?_
  exact k_retFN X63 (w := (1 : Int32)) d_jdk_42_154_18 (t := .boolean) rfl (by simp) rfl K0_h0 ⟨_, rfl, rfl, trivial⟩ (by decide) (by decide)
set_option maxRecDepth 65536 in
set_option maxHeartbeats 40000000 in
theorem own_isLat1 (l : Launch) (Z : State) (a0 : Array Value) (hw : ∀ d ∈ tables_1, d.before a0 Z = true) {zc : Int32} {fm : Value} {va : Nat} {kva : ClassId} {sg : Nat} {pr : Nat} {sgs : Nat} {sgt : Nat} {ksgt : ClassId} {prs : Nat} {prt : Nat} {kprt : ClassId}  (G : Gl Z zc fm va kva sg pr sgs sgt ksgt prs prt kprt) (n0 : Nat) (h0 : Heap) (O0 : Old Z n0 h0) (a : Nat)  (q0 : Fld Z h0 a "java/lang/String" "coder" "B" (.int (1 : Int32))) :
    MetF l [] Z n0 (⟨"java/lang/String", "isLatin1", "()Z"⟩ : MethodName) jdk_42_method_154_code 1 (Option.some FieldType.boolean) ({ frames := 0, cells := 0, slots := 0, locals := 0 } : Room) #[(.ref a)] h0 [] (fun r h' => ∃ w, r = some w ∧ w = (.int (0 : Int32)) ∧ True) := by
  refine metF (plainFor_of_name pn_1) O0 (Ls := #[.val (.ref a)]) (fun m => by first | rfl | (simp [entryFrame, mkF, argsToLocals, Value.category]; done)) ?_
  intro p e s m below meth c T0 X0
  have K0_h0 := Keep.refl h0 []
  have n0le := X0.n0le
  have ltq0 := own_n q0.lt
  obtain ⟨G_cs, G_zc, G_fm, isref_fm, GS_va, GV_va, GE_va, GS_sg, GE_sg, GF_sg, GE_sgs, GC_sgs, GW_sgs, GV_sgt, GS_pr, GE_pr, GF_pr, GE_prs, GC_prs, GW_prs, GV_prt⟩ := id G
  have oz := X0.old.1
  have ltz0 := own_n GV_va.lt
  have ltz1 := own_n GE_va.lt
  have ltz2 := own_n GE_sg.lt
  have ltz3 := own_n GE_sgs.lt
  have ltz4 := own_n GV_sgt.lt
  have ltz5 := own_n GE_pr.lt
  have ltz6 := own_n GE_prs.lt
  have ltz7 := own_n GV_prt.lt
  refine k_getS X0 d_jdk_42_154_0 (host := "") (Or.inl (w_19 hw)) Via.refl (G_cs.ext X0.old.2) (pc' := 3) rfl fun T64 X65 => ?_
  refine k_ifNo X65 d_jdk_42_154_3 ((if0 _ _).trans (feq G_zc).1) (pc' := 6) rfl ?_
  refine k_aloadN X65 d_jdk_42_154_6 rfl rfl (pc' := 7) rfl ?_
  refine k_getF X65 d_jdk_42_154_7 (host := "") (Or.inl (w_20 hw)) Via.refl q0 (pc' := 10) rfl fun T66 X67 => ?_
  refine k_ifYes X67 d_jdk_42_154_10 (by decide) (pc' := 17) (by decide) (by decide) ?_
  refine k_iconst X67 d_jdk_42_154_17 (w := (0 : Int32)) rfl (pc' := 18) rfl ?_
  exact k_retFN X67 (w := (0 : Int32)) d_jdk_42_154_18 (t := .boolean) rfl (by simp) rfl K0_h0 ⟨_, rfl, rfl, trivial⟩ (by decide) (by decide)
set_option maxRecDepth 65536 in
set_option maxHeartbeats 40000000 in
theorem own_pci (l : Launch) (Z : State) (a0 : Array Value) (hw : ∀ d ∈ tables_1, d.before a0 Z = true) {zc : Int32} {fm : Value} {va : Nat} {kva : ClassId} {sg : Nat} {pr : Nat} {sgs : Nat} {sgt : Nat} {ksgt : ClassId} {prs : Nat} {prt : Nat} {kprt : ClassId}  (G : Gl Z zc fm va kva sg pr sgs sgt ksgt prs prt kprt) (n0 : Nat) (h0 : Heap) (O0 : Old Z n0 h0) (i : Int32) (n : Int32) (f : Value) (hf : f.isRef = true) (hi0 : ¬ i < 0) (hi1 : i < n)   :
    MetF l [] Z n0 (⟨"jdk/internal/util/Preconditions", "checkIndex", "(IILjava/util/function/BiFunction;)I"⟩ : MethodName) jdk_41_method_11_code 3 (Option.some FieldType.int) ({ frames := 0, cells := 0, slots := 0, locals := 0 } : Room) #[(.int i), (.int n), f] h0 [] (fun r h' => ∃ w, r = some w ∧ w = (.int i) ∧ True) := by
  rcases ref_cases hf with rfl | ⟨z, rfl⟩
  · refine metF (plainFor_of_name pn_2) O0 (Ls := #[.val (.int i), .val (.int n), .val .null]) (fun m => by first | rfl | (simp [entryFrame, mkF, argsToLocals, Value.category]; done)) ?_
    intro p e s m below meth c T0 X0
    have K0_h0 := Keep.refl h0 []
    have n0le := X0.n0le
    obtain ⟨G_cs, G_zc, G_fm, isref_fm, GS_va, GV_va, GE_va, GS_sg, GE_sg, GF_sg, GE_sgs, GC_sgs, GW_sgs, GV_sgt, GS_pr, GE_pr, GF_pr, GE_prs, GC_prs, GW_prs, GV_prt⟩ := id G
    have oz := X0.old.1
    have ltz0 := own_n GV_va.lt
    have ltz1 := own_n GE_va.lt
    have ltz2 := own_n GE_sg.lt
    have ltz3 := own_n GE_sgs.lt
    have ltz4 := own_n GV_sgt.lt
    have ltz5 := own_n GE_pr.lt
    have ltz6 := own_n GE_prs.lt
    have ltz7 := own_n GV_prt.lt
    refine k_iloadN X0 d_jdk_41_11_0 rfl (pc' := 1) rfl ?_
    refine k_ifNo X0 d_jdk_41_11_1 ((if0 _ _).trans (flt hi0).1) (pc' := 4) rfl ?_
    refine k_iloadN X0 d_jdk_41_11_4 rfl (pc' := 5) rfl ?_
    refine k_iloadN X0 d_jdk_41_11_5 rfl (pc' := 6) rfl ?_
    refine k_icmpYes X0 d_jdk_41_11_6 (tlt hi1).1 (pc' := 16) (by decide) (by decide) ?_
    refine k_iloadN X0 d_jdk_41_11_16 rfl (pc' := 17) rfl ?_
    exact k_retFI X0 d_jdk_41_11_17 rfl K0_h0 ⟨_, rfl, rfl, trivial⟩ (by decide) (by decide)
  · refine metF (plainFor_of_name pn_2) O0 (Ls := #[.val (.int i), .val (.int n), .val (.ref z)]) (fun m => by first | rfl | (simp [entryFrame, mkF, argsToLocals, Value.category]; done)) ?_
    intro p e s m below meth c T0 X0
    have K0_h0 := Keep.refl h0 []
    have n0le := X0.n0le
    obtain ⟨G_cs, G_zc, G_fm, isref_fm, GS_va, GV_va, GE_va, GS_sg, GE_sg, GF_sg, GE_sgs, GC_sgs, GW_sgs, GV_sgt, GS_pr, GE_pr, GF_pr, GE_prs, GC_prs, GW_prs, GV_prt⟩ := id G
    have oz := X0.old.1
    have ltz0 := own_n GV_va.lt
    have ltz1 := own_n GE_va.lt
    have ltz2 := own_n GE_sg.lt
    have ltz3 := own_n GE_sgs.lt
    have ltz4 := own_n GV_sgt.lt
    have ltz5 := own_n GE_pr.lt
    have ltz6 := own_n GE_prs.lt
    have ltz7 := own_n GV_prt.lt
    refine k_iloadN X0 d_jdk_41_11_0 rfl (pc' := 1) rfl ?_
    refine k_ifNo X0 d_jdk_41_11_1 ((if0 _ _).trans (flt hi0).1) (pc' := 4) rfl ?_
    refine k_iloadN X0 d_jdk_41_11_4 rfl (pc' := 5) rfl ?_
    refine k_iloadN X0 d_jdk_41_11_5 rfl (pc' := 6) rfl ?_
    refine k_icmpYes X0 d_jdk_41_11_6 (tlt hi1).1 (pc' := 16) (by decide) (by decide) ?_
    refine k_iloadN X0 d_jdk_41_11_16 rfl (pc' := 17) rfl ?_
    exact k_retFI X0 d_jdk_41_11_17 rfl K0_h0 ⟨_, rfl, rfl, trivial⟩ (by decide) (by decide)
set_option maxRecDepth 65536 in
set_option maxHeartbeats 40000000 in
theorem own_sci (l : Launch) (Z : State) (a0 : Array Value) (hw : ∀ d ∈ tables_1, d.before a0 Z = true) {zc : Int32} {fm : Value} {va : Nat} {kva : ClassId} {sg : Nat} {pr : Nat} {sgs : Nat} {sgt : Nat} {ksgt : ClassId} {prs : Nat} {prt : Nat} {kprt : ClassId}  (G : Gl Z zc fm va kva sg pr sgs sgt ksgt prs prt kprt) (n0 : Nat) (h0 : Heap) (O0 : Old Z n0 h0) (i : Int32) (n : Int32) (hi0 : ¬ i < 0) (hi1 : i < n)   :
    MetF l [] Z n0 (⟨"java/lang/String", "checkIndex", "(II)V"⟩ : MethodName) jdk_42_method_155_code 2 (Option.none : Option FieldType) ({ frames := 1, cells := 0, slots := 0, locals := 14 } : Room) #[(.int i), (.int n)] h0 [] (fun r h' => r = none ∧ True) := by
  refine metF (plainFor_of_name pn_1) O0 (Ls := #[.val (.int i), .val (.int n)]) (fun m => by first | rfl | (simp [entryFrame, mkF, argsToLocals, Value.category]; done)) ?_
  intro p e s m below meth c T0 X0
  have K0_h0 := Keep.refl h0 []
  have n0le := X0.n0le
  obtain ⟨G_cs, G_zc, G_fm, isref_fm, GS_va, GV_va, GE_va, GS_sg, GE_sg, GF_sg, GE_sgs, GC_sgs, GW_sgs, GV_sgt, GS_pr, GE_pr, GF_pr, GE_prs, GC_prs, GW_prs, GV_prt⟩ := id G
  have oz := X0.old.1
  have ltz0 := own_n GV_va.lt
  have ltz1 := own_n GE_va.lt
  have ltz2 := own_n GE_sg.lt
  have ltz3 := own_n GE_sgs.lt
  have ltz4 := own_n GV_sgt.lt
  have ltz5 := own_n GE_pr.lt
  have ltz6 := own_n GE_prs.lt
  have ltz7 := own_n GV_prt.lt
  refine k_iloadN X0 d_jdk_42_155_0 rfl (pc' := 1) rfl ?_
  refine k_iloadN X0 d_jdk_42_155_1 rfl (pc' := 2) rfl ?_
  refine k_getS X0 d_jdk_42_155_2 (host := "") (Or.inl (w_29 hw)) Via.refl (G_fm.ext X0.old.2) (pc' := 5) rfl fun T68 X69 => ?_
  refine k_callSVF X69 (y := (⟨"jdk/internal/util/Preconditions", "checkIndex", "(IILjava/util/function/BiFunction;)I"⟩ : MethodName)) d_jdk_42_155_5 (w_31 hw) (w_32 hw) (w_30 hw) (w_33 hw) (by decide) (argsL := [(.int i), (.int n), fm]) (rest := []) (own_pci l Z a0 hw G n0 h0 X69.old i n fm isref_fm hi0 hi1 ) rfl pd_4 rfl rfl (by decide) (W := 0) (Nat.le_of_eq rfl) (by decide) (by decide) (by decide) all0 (pc' := 8) rfl ?_
  rintro _ T70 h70 L70 X70 K70 ⟨rfl, -⟩
  have sz_h70 := K70.1
  have K0_h70 : Keep h0 h70 [] := K0_h0.trans K70 all0
  refine k_pop X70 d_jdk_42_155_8 rfl (pc' := 9) rfl ?_
  exact k_retFV X70 d_jdk_42_155_9 rfl K0_h70 ⟨rfl, trivial⟩ (by decide) (by decide)
set_option maxRecDepth 65536 in
set_option maxHeartbeats 40000000 in
theorem own_lcharAt (l : Launch) (Z : State) (a0 : Array Value) (hw : ∀ d ∈ tables_1, d.before a0 Z = true) {zc : Int32} {fm : Value} {va : Nat} {kva : ClassId} {sg : Nat} {pr : Nat} {sgs : Nat} {sgt : Nat} {ksgt : ClassId} {prs : Nat} {prt : Nat} {kprt : ClassId}  (G : Gl Z zc fm va kva sg pr sgs sgt ksgt prs prt kprt) (n0 : Nat) (h0 : Heap) (O0 : Old Z n0 h0) (d : Nat) (kd : ClassId) (zz : Int32) (cs : List Int32) (i : Nat) (iv : Int32) (hiv : iv = Int32.ofNat i) (hi : i < cs.length) (hzz : zz = Int32.ofNat cs.length) (hb0 : cs.length < 2147483648) (hr : ¬ cs.getD i 0 < 0 ∧ ¬ 255 < cs.getD i 0)  (q0 : Arv Z h0 d kd .byte zz (own_lat cs) (.int (0 : Int32))) :
    MetF l [] Z n0 (⟨"java/lang/StringLatin1", "charAt", "([BI)C"⟩ : MethodName) jdk_43_method_2_code 2 (Option.some FieldType.char) ({ frames := 2, cells := 0, slots := 0, locals := 27 } : Room) #[(.ref d), (.int iv)] h0 [] (fun r h' => ∃ w, r = some w ∧ w = (.int (cs.getD i 0)) ∧ True) := by
  subst hiv
  refine metF (plainFor_of_name pn_3) O0 (Ls := #[.val (.ref d), .val (.int (Int32.ofNat i))]) (fun m => by first | rfl | (simp [entryFrame, mkF, argsToLocals, Value.category]; done)) ?_
  intro p e s m below meth c T0 X0
  have K0_h0 := Keep.refl h0 []
  have n0le := X0.n0le
  have ltq0 := own_n q0.lt
  obtain ⟨G_cs, G_zc, G_fm, isref_fm, GS_va, GV_va, GE_va, GS_sg, GE_sg, GF_sg, GE_sgs, GC_sgs, GW_sgs, GV_sgt, GS_pr, GE_pr, GF_pr, GE_prs, GC_prs, GW_prs, GV_prt⟩ := id G
  have oz := X0.old.1
  have ltz0 := own_n GV_va.lt
  have ltz1 := own_n GE_va.lt
  have ltz2 := own_n GE_sg.lt
  have ltz3 := own_n GE_sgs.lt
  have ltz4 := own_n GV_sgt.lt
  have ltz5 := own_n GE_pr.lt
  have ltz6 := own_n GE_prs.lt
  have ltz7 := own_n GV_prt.lt
  have l1 := own_lt hi hb0
  rw [← hzz] at l1
  refine k_iloadN X0 d_jdk_43_2_0 rfl (pc' := 1) rfl ?_
  refine k_aloadN X0 d_jdk_43_2_1 rfl rfl (pc' := 2) rfl ?_
  refine k_arlen X0 d_jdk_43_2_2 q0 (pc' := 3) rfl ?_
  refine k_callSNF X0 (y := (⟨"java/lang/String", "checkIndex", "(II)V"⟩ : MethodName)) d_jdk_43_2_3 (w_26 hw) (w_27 hw) (w_1 hw) (w_28 hw) (by decide) (argsL := [(.int (Int32.ofNat i)), (.int zz)]) (rest := []) (own_sci l Z a0 hw G n0 h0 X0.old (Int32.ofNat i) zz (own_nn (by omega)) l1 ) rfl pd_5 rfl rfl (by decide) (W := 0) (Nat.le_of_eq rfl) (by decide) (by decide) (by decide) all0 (pc' := 6) rfl ?_
  rintro T72 h72 L72 X72 K72 -
  have sz_h72 := K72.1
  have K0_h72 : Keep h0 h72 [] := K0_h0.trans K72 all0
  refine k_aloadN X72 d_jdk_43_2_6 rfl rfl (pc' := 7) rfl ?_
  refine k_iloadN X72 d_jdk_43_2_7 rfl (pc' := 8) rfl ?_
  have c73 := (q0.keep K72 nin0)
  refine k_baload X72 d_jdk_43_2_8 c73 (own_nn (by omega)) l1 (v := (.int ((cs.getD i 0).toInt8.toInt32))) (own_latget cs hi (by omega)) (pc' := 9) rfl ?_
  refine k_sipush X72 d_jdk_43_2_9 (w := (255 : Int32)) rfl (pc' := 12) rfl ?_
  refine k_iand X72 d_jdk_43_2_12 (w := (((cs.getD i 0).toInt8.toInt32) &&& (255 : Int32))) rfl (pc' := 13) rfl ?_
  refine k_i2c X72 d_jdk_43_2_13 (w := (cs.getD i 0)) (own_back8 hr.1 hr.2) (pc' := 14) rfl ?_
  exact k_retFN X72 (w := (cs.getD i 0)) d_jdk_43_2_14 (t := .char) rfl (by simp) (own_i2c_id hr.1 (own_255 hr.2)) K0_h72 ⟨_, rfl, rfl, trivial⟩ (by decide) (by decide)
set_option maxRecDepth 65536 in
set_option maxHeartbeats 40000000 in
theorem own_charAt (l : Launch) (Z : State) (a0 : Array Value) (hw : ∀ d ∈ tables_1, d.before a0 Z = true) {zc : Int32} {fm : Value} {va : Nat} {kva : ClassId} {sg : Nat} {pr : Nat} {sgs : Nat} {sgt : Nat} {ksgt : ClassId} {prs : Nat} {prt : Nat} {kprt : ClassId}  (G : Gl Z zc fm va kva sg pr sgs sgt ksgt prs prt kprt) (n0 : Nat) (h0 : Heap) (O0 : Old Z n0 h0) (a : Nat) (t : Nat) (kt : ClassId) (cd : Int32) (zz : Int32) (bs : List Value) (cs : List Int32) (i : Nat) (iv : Int32) (hiv : iv = Int32.ofNat i) (hi : i < cs.length) (hn : cs.length < 1073741823) (hr : ¬ cs.getD i 0 < 0 ∧ ¬ 65535 < cs.getD i 0) (hL : own_fst cs = cs.length)  (q0 : Exa Z h0 a "java/lang/String") (q1 : Fld Z h0 a "java/lang/String" "value" "[B" (.ref t)) (q2 : Fld Z h0 a "java/lang/String" "coder" "B" (.int cd)) (q3 : Arv Z h0 t kt .byte zz bs (.int (0 : Int32))) (q4 : own_cod cs cd zz bs) :
    MetF l [] Z n0 (⟨"java/lang/String", "charAt", "(I)C"⟩ : MethodName) jdk_42_method_56_code 2 (Option.some FieldType.char) ({ frames := 3, cells := 0, slots := 0, locals := 40 } : Room) #[(.ref a), (.int iv)] h0 [] (fun r h' => ∃ w, r = some w ∧ w = (.int (cs.getD i 0)) ∧ True) := by
  subst hiv
  rcases q4 with ⟨hf, rfl, rfl, rfl⟩ | ⟨hf, rfl, rfl, rfl⟩
  case inr => exact absurd hf (by omega)
  · refine metF (plainFor_of_name pn_1) O0 (Ls := #[.val (.ref a), .val (.int (Int32.ofNat i))]) (fun m => by first | rfl | (simp [entryFrame, mkF, argsToLocals, Value.category]; done)) ?_
    intro p e s m below meth c T0 X0
    have K0_h0 := Keep.refl h0 []
    have n0le := X0.n0le
    have ltq0 := own_n q0.lt
    have ltq1 := own_n q1.lt
    have ltq2 := own_n q2.lt
    have ltq3 := own_n q3.lt
    obtain ⟨G_cs, G_zc, G_fm, isref_fm, GS_va, GV_va, GE_va, GS_sg, GE_sg, GF_sg, GE_sgs, GC_sgs, GW_sgs, GV_sgt, GS_pr, GE_pr, GF_pr, GE_prs, GC_prs, GW_prs, GV_prt⟩ := id G
    have oz := X0.old.1
    have ltz0 := own_n GV_va.lt
    have ltz1 := own_n GE_va.lt
    have ltz2 := own_n GE_sg.lt
    have ltz3 := own_n GE_sgs.lt
    have ltz4 := own_n GV_sgt.lt
    have ltz5 := own_n GE_pr.lt
    have ltz6 := own_n GE_prs.lt
    have ltz7 := own_n GV_prt.lt
    have hr2 : ¬ cs.getD i 0 < 0 ∧ ¬ 255 < cs.getD i 0 := ⟨hr.1, own_lat_rng hf hi⟩
    refine k_aloadN X0 d_jdk_42_56_0 rfl rfl (pc' := 1) rfl ?_
    refine k_callVVF X0 (y := (⟨"java/lang/String", "isLatin1", "()Z"⟩ : MethodName)) d_jdk_42_56_1 (w_14 hw) (w_15 hw) (w_17 hw) (w_16 hw) (w_1 hw) (w_18 hw) (by decide) (notFace_of_selects (args := #[]) (mvT X0.hZ (w_17 hw))) q0 (argsL := []) (rest := []) (own_isLat0 l Z a0 hw G n0 h0 X0.old a q2) rfl pd_6 rfl rfl (by decide) (W := 0) (Nat.le_of_eq rfl) (by decide) (by decide) (by decide) all0 (pc' := 4) rfl ?_
    rintro _ T74 h74 L74 X74 K74 ⟨rfl, -⟩
    have sz_h74 := K74.1
    have K0_h74 : Keep h0 h74 [] := K0_h0.trans K74 all0
    refine k_ifNo X74 d_jdk_42_56_4 (by decide) (pc' := 7) rfl ?_
    refine k_aloadN X74 d_jdk_42_56_7 rfl rfl (pc' := 8) rfl ?_
    have c76 := (q1.keep K74 nin0)
    refine k_getF X74 d_jdk_42_56_8 (host := "") (Or.inl (w_21 hw)) Via.refl c76 (pc' := 11) rfl fun T77 X78 => ?_
    refine k_iloadN X78 d_jdk_42_56_11 rfl (pc' := 12) rfl ?_
    have c79 := (q3.keep K74 nin0)
    refine k_callSVF X78 (y := (⟨"java/lang/StringLatin1", "charAt", "([BI)C"⟩ : MethodName)) d_jdk_42_56_12 (w_22 hw) (w_23 hw) (w_24 hw) (w_25 hw) (by decide) (argsL := [(.ref t), (.int (Int32.ofNat i))]) (rest := []) (own_lcharAt l Z a0 hw G n0 h74 X78.old t kt (Int32.ofNat cs.length) cs i (Int32.ofNat i) rfl hi rfl (by omega) hr2 c79) rfl pd_7 rfl rfl (by decide) (W := 0) (Nat.le_of_eq rfl) (by decide) (by decide) (by decide) all0 (pc' := 15) rfl ?_
    rintro _ T80 h80 L80 X80 K80 ⟨rfl, -⟩
    have sz_h80 := K80.1
    have K0_h80 : Keep h0 h80 [] := K0_h74.trans K80 all0
    exact k_retFN X80 (w := (cs.getD i 0)) d_jdk_42_56_15 (t := .char) rfl (by simp) (own_i2c_id hr.1 hr.2) K0_h80 ⟨_, rfl, rfl, trivial⟩ (by decide) (by decide)
set_option maxRecDepth 65536 in
set_option maxHeartbeats 40000000 in
theorem own_beq (l : Launch) (Z : State) (a0 : Array Value) (hw : ∀ d ∈ tables_1, d.before a0 Z = true) {zc : Int32} {fm : Value} {va : Nat} {kva : ClassId} {sg : Nat} {pr : Nat} {sgs : Nat} {sgt : Nat} {ksgt : ClassId} {prs : Nat} {prt : Nat} {kprt : ClassId}  (G : Gl Z zc fm va kva sg pr sgs sgt ksgt prs prt kprt) (n0 : Nat) (h0 : Heap) (O0 : Old Z n0 h0) (d : Nat) (g : Nat) (kd : ClassId) (kg : ClassId) (zd : Int32) (zg : Int32) (is : List Int32) (js : List Int32) (hzd : zd = Int32.ofNat is.length) (hzg : zg = Int32.ofNat js.length) (hn1 : is.length < 2147483648) (hn2 : js.length < 2147483648)  (q0 : Arv Z h0 d kd .byte zd (is.map Value.int) (.int (0 : Int32))) (q1 : Arv Z h0 g kg .byte zg (js.map Value.int) (.int (0 : Int32))) :
    MetF l [] Z n0 (⟨"java/lang/StringLatin1", "equals", "([B[B)Z"⟩ : MethodName) jdk_43_method_13_code 3 (Option.some FieldType.boolean) ({ frames := 0, cells := 0, slots := 0, locals := 0 } : Room) #[(.ref d), (.ref g)] h0 [] (fun r h' => ∃ w, r = some w ∧ w = (.int (own_eqv is js)) ∧ True) := by
  refine metF (plainFor_of_name pn_3) O0 (Ls := #[.val (.ref d), .val (.ref g), .unset]) (fun m => by first | rfl | (simp [entryFrame, mkF, argsToLocals, Value.category]; done)) ?_
  intro p e s m below meth c T0 X0
  have K0_h0 := Keep.refl h0 []
  have n0le := X0.n0le
  have ltq0 := own_n q0.lt
  have ltq1 := own_n q1.lt
  obtain ⟨G_cs, G_zc, G_fm, isref_fm, GS_va, GV_va, GE_va, GS_sg, GE_sg, GF_sg, GE_sgs, GC_sgs, GW_sgs, GV_sgt, GS_pr, GE_pr, GF_pr, GE_prs, GC_prs, GW_prs, GV_prt⟩ := id G
  have oz := X0.old.1
  have ltz0 := own_n GV_va.lt
  have ltz1 := own_n GE_va.lt
  have ltz2 := own_n GE_sg.lt
  have ltz3 := own_n GE_sgs.lt
  have ltz4 := own_n GV_sgt.lt
  have ltz5 := own_n GE_pr.lt
  have ltz6 := own_n GE_prs.lt
  have ltz7 := own_n GV_prt.lt
  have loop : ∀ (n i : Nat) (T : State) (L : List Loc), n = is.length - i → i ≤ is.length → is.length = js.length → (∀ j, j < i → is.getD j 0 = js.getD j 0) → WP p l e ({ frames := 0, cells := 0, slots := 0, locals := 0 } : Room) s m #[(.ref d), (.ref g)] below meth c Z "java/lang/StringLatin1" "equals" jdk_43_method_13_code 3 (Option.some FieldType.boolean) n0 (fun _ => True) (fun _ _ => True) T h0 L 0 0 → Run p.tables e below (PF s below n0 h0 [] (fun r h' => ∃ w, r = some w ∧ w = (.int (own_eqv is js)) ∧ True) ({ frames := 0, cells := 0, slots := 0, locals := 0 } : Room).cells ({ frames := 0, cells := 0, slots := 0, locals := 0 } : Room).slots) T (mkF m 9 #[.val (.ref d), .val (.ref g), .val (.int (Int32.ofNat i))] []) := by
    intro n
    induction n with
    | zero =>
      intro i T L hni hij hll hal X
      have hi : i = is.length := by omega
      subst hi
      have hnl : ¬ (Int32.ofNat is.length < zd) := by rw [← hzd]; exact Int32.lt_irrefl
      have he : own_eqv is js = 1 := if_pos (own_ext is js hll hal)
      refine k_iloadN X d_jdk_43_13_9 rfl (pc' := 10) rfl ?_
      refine k_aloadN X d_jdk_43_13_10 rfl rfl (pc' := 11) rfl ?_
      refine k_arlen X d_jdk_43_13_11 q0 (pc' := 12) rfl ?_
      refine k_icmpYes X d_jdk_43_13_12 (flt hnl).2.1 (pc' := 32) (by decide) (by decide) ?_
      refine k_iconst X d_jdk_43_13_32 (w := (1 : Int32)) rfl (pc' := 33) rfl ?_
      exact k_retFN X (w := (1 : Int32)) d_jdk_43_13_33 (t := .boolean) rfl (by simp) rfl K0_h0 ⟨_, rfl, by rw [he], trivial⟩ (by decide) (by decide)
    | succ n ih =>
      intro i T L hni hij hll hal X
      have hi : i < is.length := by omega
      have hlt := own_lt hi hn1
      rw [← hzd] at hlt
      have hlt2 := own_lt (show i < js.length by omega) hn2
      rw [← hzg] at hlt2
      refine k_iloadN X d_jdk_43_13_9 rfl (pc' := 10) rfl ?_
      refine k_aloadN X d_jdk_43_13_10 rfl rfl (pc' := 11) rfl ?_
      refine k_arlen X d_jdk_43_13_11 q0 (pc' := 12) rfl ?_
      refine k_icmpNo X d_jdk_43_13_12 (tlt hlt).2.1 (pc' := 15) rfl ?_
      refine k_aloadN X d_jdk_43_13_15 rfl rfl (pc' := 16) rfl ?_
      refine k_iloadN X d_jdk_43_13_16 rfl (pc' := 17) rfl ?_
      refine k_baload X d_jdk_43_13_17 q0 (own_nn (by omega)) hlt (v := (.int (is.getD i 0))) (own_getc' is (by omega)) (pc' := 18) rfl ?_
      refine k_aloadN X d_jdk_43_13_18 rfl rfl (pc' := 19) rfl ?_
      refine k_iloadN X d_jdk_43_13_19 rfl (pc' := 20) rfl ?_
      refine k_baload X d_jdk_43_13_20 q1 (own_nn (by omega)) hlt2 (v := (.int (js.getD i 0))) (own_getc' js (by omega)) (pc' := 21) rfl ?_
      by_cases hc82 : is.getD i 0 = js.getD i 0
      · refine k_icmpYes X d_jdk_43_13_21 (teq hc82).1 (pc' := 26) (by decide) (by decide) ?_
        refine k_iinc X d_jdk_43_13_26 rfl (w := (Int32.ofNat (i + 1))) (own_succ i) (Ls' := #[.val (.ref d), .val (.ref g), .val (.int (Int32.ofNat (i + 1)))]) rfl (pc' := 29) rfl ?_
        refine k_goto X d_jdk_43_13_29 (pc' := 9) (by decide) (by decide) ?_
        exact ih (i + 1) _ _ (by omega) (by omega) hll (fun j hj => by rcases Nat.lt_succ_iff_lt_or_eq.mp hj with q | q; exact hal j q; subst q; exact hc82) X
      · have he : own_eqv is js = 0 := if_neg fun q => hc82 (by rw [q])
        refine k_icmpNo X d_jdk_43_13_21 (feq hc82).1 (pc' := 24) rfl ?_
        refine k_iconst X d_jdk_43_13_24 (w := (0 : Int32)) rfl (pc' := 25) rfl ?_
        exact k_retFN X (w := (0 : Int32)) d_jdk_43_13_25 (t := .boolean) rfl (by simp) rfl K0_h0 ⟨_, rfl, by rw [he], trivial⟩ (by decide) (by decide)
  refine k_aloadN X0 d_jdk_43_13_0 rfl rfl (pc' := 1) rfl ?_
  refine k_arlen X0 d_jdk_43_13_1 q0 (pc' := 2) rfl ?_
  refine k_aloadN X0 d_jdk_43_13_2 rfl rfl (pc' := 3) rfl ?_
  refine k_arlen X0 d_jdk_43_13_3 q1 (pc' := 4) rfl ?_
  by_cases hc83 : is.length = js.length
  · have hz : zd = zg := by rw [hzd, hzg, hc83]
    refine k_icmpNo X0 d_jdk_43_13_4 (teq hz).2 (pc' := 7) rfl ?_
    refine k_iconst X0 d_jdk_43_13_7 (w := (0 : Int32)) rfl (pc' := 8) rfl ?_
    refine k_istoreN X0 d_jdk_43_13_8 (Ls' := #[.val (.ref d), .val (.ref g), .val (.int (0 : Int32))]) rfl (pc' := 9) rfl ?_
    exact loop _ 0 _ _ rfl (by omega) hc83 (fun j hj => by omega) X0
  · have hz : ¬ (zd = zg) := fun q => hc83 (by have := congrArg Int32.toNatClampNeg (hzd.symm.trans (q.trans hzg)); rwa [own_clamp hn1, own_clamp hn2] at this)
    have he : own_eqv is js = 0 := if_neg fun q => hc83 (by rw [q])
    refine k_icmpYes X0 d_jdk_43_13_4 (feq hz).2 (pc' := 34) (by decide) (by decide) ?_
    refine k_iconst X0 d_jdk_43_13_34 (w := (0 : Int32)) rfl (pc' := 35) rfl ?_
    exact k_retFN X0 (w := (0 : Int32)) d_jdk_43_13_35 (t := .boolean) rfl (by simp) rfl K0_h0 ⟨_, rfl, by rw [he], trivial⟩ (by decide) (by decide)
set_option maxRecDepth 65536 in
set_option maxHeartbeats 40000000 in
theorem own_eq (l : Launch) (Z : State) (a0 : Array Value) (hw : ∀ d ∈ tables_1, d.before a0 Z = true) {zc : Int32} {fm : Value} {va : Nat} {kva : ClassId} {sg : Nat} {pr : Nat} {sgs : Nat} {sgt : Nat} {ksgt : ClassId} {prs : Nat} {prt : Nat} {kprt : ClassId}  (G : Gl Z zc fm va kva sg pr sgs sgt ksgt prs prt kprt) (n0 : Nat) (h0 : Heap) (O0 : Old Z n0 h0) (a : Nat) (b : Nat) (t : Nat) (kt : ClassId) (cd : Int32) (zz : Int32) (bs : List Value) (cs : List Int32) (t2 : Nat) (kt2 : ClassId) (cd2 : Int32) (zz2 : Int32) (bs2 : List Value) (cs2 : List Int32) (hn : cs.length < 536870912) (hn2 : cs2.length < 536870912) (hr : own_chs cs) (hr2 : own_chs cs2)  (q0 : Exa Z h0 a "java/lang/String") (q1 : Fld Z h0 a "java/lang/String" "value" "[B" (.ref t)) (q2 : Fld Z h0 a "java/lang/String" "coder" "B" (.int cd)) (q3 : Arv Z h0 t kt .byte zz bs (.int (0 : Int32))) (q4 : own_cod cs cd zz bs) (q5 : Exa Z h0 b "java/lang/String") (q6 : Fld Z h0 b "java/lang/String" "value" "[B" (.ref t2)) (q7 : Fld Z h0 b "java/lang/String" "coder" "B" (.int cd2)) (q8 : Arv Z h0 t2 kt2 .byte zz2 bs2 (.int (0 : Int32))) (q9 : own_cod cs2 cd2 zz2 bs2) :
    MetF l [] Z n0 (⟨"java/lang/String", "equals", "(Ljava/lang/Object;)Z"⟩ : MethodName) jdk_42_method_66_code 3 (Option.some FieldType.boolean) ({ frames := 1, cells := 0, slots := 0, locals := 14 } : Room) #[(.ref a), (.ref b)] h0 [] (fun r h' => ∃ w, r = some w ∧ w = (.int (own_eqv cs cs2)) ∧ True) := by
  refine metF (plainFor_of_name pn_1) O0 (Ls := #[.val (.ref a), .val (.ref b), .unset]) (fun m => by first | rfl | (simp [entryFrame, mkF, argsToLocals, Value.category]; done)) ?_
  intro p e s m below meth c T0 X0
  have K0_h0 := Keep.refl h0 []
  have n0le := X0.n0le
  have ltq0 := own_n q0.lt
  have ltq1 := own_n q1.lt
  have ltq2 := own_n q2.lt
  have ltq3 := own_n q3.lt
  have ltq5 := own_n q5.lt
  have ltq6 := own_n q6.lt
  have ltq7 := own_n q7.lt
  have ltq8 := own_n q8.lt
  obtain ⟨G_cs, G_zc, G_fm, isref_fm, GS_va, GV_va, GE_va, GS_sg, GE_sg, GF_sg, GE_sgs, GC_sgs, GW_sgs, GV_sgt, GS_pr, GE_pr, GF_pr, GE_prs, GC_prs, GW_prs, GV_prt⟩ := id G
  have oz := X0.old.1
  have ltz0 := own_n GV_va.lt
  have ltz1 := own_n GE_va.lt
  have ltz2 := own_n GE_sg.lt
  have ltz3 := own_n GE_sgs.lt
  have ltz4 := own_n GV_sgt.lt
  have ltz5 := own_n GE_pr.lt
  have ltz6 := own_n GE_prs.lt
  have ltz7 := own_n GV_prt.lt
  obtain ⟨is, ei, ezi, eli⟩ := own_cod_ints q4
  obtain ⟨js, ej, ezj, elj⟩ := own_cod_ints q9
  by_cases hc84 : a = b
  · subst hc84
    have ht : t = t2 := by rcases Nat.decEq t t2 with q | q; exact absurd rfl (Fld.ne q1 q6 fun r => q (Value.ref.inj r)); exact q
    subst ht
    have hc : cd = cd2 := by rcases (inferInstance : Decidable (cd = cd2)) with q | q; exact absurd rfl (Fld.ne q2 q7 fun r => q (Value.int.inj r)); exact q
    subst hc
    have he := own_same_txt q3 q8 q4 q9 hr hr2 hn hn2
    refine k_aloadN X0 d_jdk_42_66_0 rfl rfl (pc' := 1) rfl ?_
    refine k_aloadN X0 d_jdk_42_66_1 rfl rfl (pc' := 2) rfl ?_
    refine k_acmp X0 true d_jdk_42_66_2 rfl rfl (decide_eq_true rfl) (by decide) (pc' := 5) (by decide) ?_
    refine k_iconst X0 d_jdk_42_66_5 (w := (1 : Int32)) rfl (pc' := 6) rfl ?_
    exact k_retFN X0 (w := (1 : Int32)) d_jdk_42_66_6 (t := .boolean) rfl (by simp) rfl K0_h0 ⟨_, rfl, by rw [he], trivial⟩ (by decide) (by decide)
  · refine k_aloadN X0 d_jdk_42_66_0 rfl rfl (pc' := 1) rfl ?_
    refine k_aloadN X0 d_jdk_42_66_1 rfl rfl (pc' := 2) rfl ?_
    refine k_acmp X0 false d_jdk_42_66_2 rfl rfl (decide_eq_false fun q => hc84 (Value.ref.inj q)) (by decide) (pc' := 7) (by decide) ?_
    refine k_aloadN X0 d_jdk_42_66_7 rfl rfl (pc' := 8) rfl ?_
    refine k_instY X0 d_jdk_42_66_8 (w_61 hw) (Ins.self q5) (pc' := 11) rfl fun T85 X86 => ?_
    refine k_ifNo X86 d_jdk_42_66_11 (by decide) (pc' := 14) rfl ?_
    refine k_aloadN X86 d_jdk_42_66_14 rfl rfl (pc' := 15) rfl ?_
    refine k_castY X86 d_jdk_42_66_15 (w_61 hw) (Ins.self q5) (pc' := 18) rfl fun T87 X88 => ?_
    refine k_astoreN X88 d_jdk_42_66_18 rfl (Ls' := #[.val (.ref a), .val (.ref b), .val (.ref b)]) rfl (pc' := 19) rfl ?_
    refine k_getS X88 d_jdk_42_66_19 (host := "") (Or.inl (w_19 hw)) Via.refl (G_cs.ext X88.old.2) (pc' := 22) rfl fun T89 X90 => ?_
    refine k_ifNo X90 d_jdk_42_66_22 ((if0 _ _).trans (feq G_zc).1) (pc' := 25) rfl ?_
    refine k_aloadN X90 d_jdk_42_66_25 rfl rfl (pc' := 26) rfl ?_
    refine k_getF X90 d_jdk_42_66_26 (host := "") (Or.inl (w_20 hw)) Via.refl q2 (pc' := 29) rfl fun T91 X92 => ?_
    refine k_aloadN X92 d_jdk_42_66_29 rfl rfl (pc' := 30) rfl ?_
    refine k_getF X92 d_jdk_42_66_30 (host := "") (Or.inl (w_20 hw)) Via.refl q7 (pc' := 33) rfl fun T93 X94 => ?_
    by_cases hc95 : cd = cd2
    · subst hc95
      have he := own_cod_eq q4 q9 hr hr2 ei ej
      subst ei ej
      refine k_icmpNo X94 d_jdk_42_66_33 (teq rfl).2 (pc' := 36) rfl ?_
      refine k_aloadN X94 d_jdk_42_66_36 rfl rfl (pc' := 37) rfl ?_
      refine k_getF X94 d_jdk_42_66_37 (host := "") (Or.inl (w_21 hw)) Via.refl q1 (pc' := 40) rfl fun T96 X97 => ?_
      refine k_aloadN X97 d_jdk_42_66_40 rfl rfl (pc' := 41) rfl ?_
      refine k_getF X97 d_jdk_42_66_41 (host := "") (Or.inl (w_21 hw)) Via.refl q6 (pc' := 44) rfl fun T98 X99 => ?_
      refine k_callSVF X99 (y := (⟨"java/lang/StringLatin1", "equals", "([B[B)Z"⟩ : MethodName)) d_jdk_42_66_44 (w_62 hw) (w_63 hw) (w_24 hw) (w_64 hw) (by decide) (argsL := [(.ref t), (.ref t2)]) (rest := []) (own_beq l Z a0 hw G n0 h0 X99.old t t2 kt kt2 zz zz2 is js ezi ezj (by omega) (by omega) q3 q8) rfl pd_8 rfl rfl (by decide) (W := 0) (Nat.le_of_eq rfl) (by decide) (by decide) (by decide) all0 (pc' := 47) rfl ?_
      rintro _ T100 h100 L100 X100 K100 ⟨rfl, -⟩
      have sz_h100 := K100.1
      have K0_h100 : Keep h0 h100 [] := K0_h0.trans K100 all0
      by_cases hc102 : own_eqv is js = (0 : Int32)
      · refine k_ifYes X100 d_jdk_42_66_47 ((if0 _ _).trans (teq hc102).1) (pc' := 54) (by decide) (by decide) ?_
        refine k_iconst X100 d_jdk_42_66_54 (w := (0 : Int32)) rfl (pc' := 55) rfl ?_
        exact k_retFN X100 (w := (0 : Int32)) d_jdk_42_66_55 (t := .boolean) rfl (by simp) rfl K0_h100 ⟨_, rfl, by rw [← he, hc102], trivial⟩ (by decide) (by decide)
      · have h1 : own_eqv is js = 1 := by rcases own_eqv01 is js with q | q; exact absurd q hc102; exact q
        refine k_ifNo X100 d_jdk_42_66_47 ((if0 _ _).trans (feq hc102).1) (pc' := 50) rfl ?_
        refine k_iconst X100 d_jdk_42_66_50 (w := (1 : Int32)) rfl (pc' := 51) rfl ?_
        refine k_goto X100 d_jdk_42_66_51 (pc' := 55) (by decide) (by decide) ?_
        exact k_retFN X100 (w := (1 : Int32)) d_jdk_42_66_55 (t := .boolean) rfl (by simp) rfl K0_h100 ⟨_, rfl, by rw [← he, h1], trivial⟩ (by decide) (by decide)
    · have he := own_cod_ne q4 q9 hc95
      refine k_icmpYes X94 d_jdk_42_66_33 (feq hc95).2 (pc' := 54) (by decide) (by decide) ?_
      refine k_iconst X94 d_jdk_42_66_54 (w := (0 : Int32)) rfl (pc' := 55) rfl ?_
      exact k_retFN X94 (w := (0 : Int32)) d_jdk_42_66_55 (t := .boolean) rfl (by simp) rfl K0_h0 ⟨_, rfl, by rw [he], trivial⟩ (by decide) (by decide)
set_option maxRecDepth 65536 in
set_option maxHeartbeats 40000000 in
theorem own_initBB0 (l : Launch) (Z : State) (a0 : Array Value) (hw : ∀ d ∈ tables_1, d.before a0 Z = true) {zc : Int32} {fm : Value} {va : Nat} {kva : ClassId} {sg : Nat} {pr : Nat} {sgs : Nat} {sgt : Nat} {ksgt : ClassId} {prs : Nat} {prt : Nat} {kprt : ClassId}  (G : Gl Z zc fm va kva sg pr sgs sgt ksgt prs prt kprt) (n0 : Nat) (h0 : Heap) (O0 : Old Z n0 h0) (a : Nat) (t : Nat) (gw0 : n0 ≤ a) (q0 : Exa Z h0 a "java/lang/String") (q1 : Fld Z h0 a "java/lang/String" "value" "[B" .null) (q2 : Fld Z h0 a "java/lang/String" "coder" "B" (.int (0 : Int32))) :
    MetF l [] Z n0 (⟨"java/lang/String", "<init>", "([BB)V"⟩ : MethodName) jdk_42_method_151_code 3 (Option.none : Option FieldType) ({ frames := 1, cells := 0, slots := 0, locals := 12 } : Room) #[(.ref a), (.ref t), (.int (0 : Int32))] h0 [a] (fun r h' => r = none ∧ (Exa Z h' a "java/lang/String") ∧ (Fld Z h' a "java/lang/String" "value" "[B" (.ref t)) ∧ (Fld Z h' a "java/lang/String" "coder" "B" (.int (0 : Int32)))) := by
  refine metF (plainFor_of_name pn_1) O0 (Ls := #[.val (.ref a), .val (.ref t), .val (.int (0 : Int32))]) (fun m => by first | rfl | (simp [entryFrame, mkF, argsToLocals, Value.category]; done)) ?_
  intro p e s m below meth c T0 X0
  have K0_h0 := Keep.refl h0 [a]
  have n0le := X0.n0le
  have ltq0 := own_n q0.lt
  have ltq1 := own_n q1.lt
  have ltq2 := own_n q2.lt
  obtain ⟨G_cs, G_zc, G_fm, isref_fm, GS_va, GV_va, GE_va, GS_sg, GE_sg, GF_sg, GE_sgs, GC_sgs, GW_sgs, GV_sgt, GS_pr, GE_pr, GF_pr, GE_prs, GC_prs, GW_prs, GV_prt⟩ := id G
  have oz := X0.old.1
  have ltz0 := own_n GV_va.lt
  have ltz1 := own_n GE_va.lt
  have ltz2 := own_n GE_sg.lt
  have ltz3 := own_n GE_sgs.lt
  have ltz4 := own_n GV_sgt.lt
  have ltz5 := own_n GE_pr.lt
  have ltz6 := own_n GE_prs.lt
  have ltz7 := own_n GV_prt.lt
  refine k_aloadN X0 d_jdk_42_151_0 rfl rfl (pc' := 1) rfl ?_
  refine k_initO X0 d_jdk_42_151_1 (w_43 hw) (w_44 hw) (w_45 hw) rfl (by decide) (W := 0) (Nat.le_of_eq rfl) (by decide) (pc' := 4) rfl fun T103 X104 => ?_
  refine k_aloadN X104 d_jdk_42_151_4 rfl rfl (pc' := 5) rfl ?_
  refine k_aloadN X104 d_jdk_42_151_5 rfl rfl (pc' := 6) rfl ?_
  have ge106 : n0 ≤ a := by omega
  refine k_putF X104 d_jdk_42_151_6 (host := "") (Or.inl (w_21 hw)) Via.refl q1 q0 (Or.inr ⟨(w_4 hw), rfl, X104.hnm⟩) (w_2 hw) (ty := (.array .byte)) (by decide) rfl rfl trivial ge106 (pc' := 9) rfl fun T105 h105 L105 X105 W105 K105 => ?_
  have sz_h105 := K105.1
  have K0_h105 : Keep h0 h105 [a] := K0_h0.trans K105 (allS (Or.inl (List.mem_of_getElem? (i := 0) rfl)) all0)
  have F105 := q1.same W105
  refine k_aloadN X105 d_jdk_42_151_9 rfl rfl (pc' := 10) rfl ?_
  refine k_iloadN X105 d_jdk_42_151_10 rfl (pc' := 11) rfl ?_
  have c107 := (q2.other W105 (Or.inr (slot_ne (Or.inr (w_5 hw)) (Or.inr (w_4 hw)) (by decide) (t := .byte) (t' := (.array .byte)) (by decide) (by decide))))
  have c108 := (q0.keep K105)
  have ge110 : n0 ≤ a := by omega
  refine k_putF X105 d_jdk_42_151_11 (host := "") (Or.inl (w_20 hw)) Via.refl c107 c108 (Or.inr ⟨(w_5 hw), rfl, X105.hnm⟩) (w_2 hw) (ty := .byte) (by decide) rfl rfl trivial ge110 (pc' := 14) rfl fun T109 h109 L109 X109 W109 K109 => ?_
  have sz_h109 := K109.1
  have K0_h109 : Keep h0 h109 [a] := K0_h105.trans K109 (allS (Or.inl (List.mem_of_getElem? (i := 0) rfl)) all0)
  have F109 := c107.same W109
  have c111 := (c108.keep K109)
  have c112 := (F105.other W109 (Or.inr (slot_ne (Or.inr (w_4 hw)) (Or.inr (w_5 hw)) (by decide) (t := (.array .byte)) (t' := .byte) (by decide) (by decide))))
  exact k_retFV X109 d_jdk_42_151_14 rfl K0_h109 ⟨rfl, c111, c112, F109⟩ (by decide) (by decide)
set_option maxRecDepth 65536 in
set_option maxHeartbeats 40000000 in
theorem own_initBB1 (l : Launch) (Z : State) (a0 : Array Value) (hw : ∀ d ∈ tables_1, d.before a0 Z = true) {zc : Int32} {fm : Value} {va : Nat} {kva : ClassId} {sg : Nat} {pr : Nat} {sgs : Nat} {sgt : Nat} {ksgt : ClassId} {prs : Nat} {prt : Nat} {kprt : ClassId}  (G : Gl Z zc fm va kva sg pr sgs sgt ksgt prs prt kprt) (n0 : Nat) (h0 : Heap) (O0 : Old Z n0 h0) (a : Nat) (t : Nat) (gw0 : n0 ≤ a) (q0 : Exa Z h0 a "java/lang/String") (q1 : Fld Z h0 a "java/lang/String" "value" "[B" .null) (q2 : Fld Z h0 a "java/lang/String" "coder" "B" (.int (0 : Int32))) :
    MetF l [] Z n0 (⟨"java/lang/String", "<init>", "([BB)V"⟩ : MethodName) jdk_42_method_151_code 3 (Option.none : Option FieldType) ({ frames := 1, cells := 0, slots := 0, locals := 12 } : Room) #[(.ref a), (.ref t), (.int (1 : Int32))] h0 [a] (fun r h' => r = none ∧ (Exa Z h' a "java/lang/String") ∧ (Fld Z h' a "java/lang/String" "value" "[B" (.ref t)) ∧ (Fld Z h' a "java/lang/String" "coder" "B" (.int (1 : Int32)))) := by
  refine metF (plainFor_of_name pn_1) O0 (Ls := #[.val (.ref a), .val (.ref t), .val (.int (1 : Int32))]) (fun m => by first | rfl | (simp [entryFrame, mkF, argsToLocals, Value.category]; done)) ?_
  intro p e s m below meth c T0 X0
  have K0_h0 := Keep.refl h0 [a]
  have n0le := X0.n0le
  have ltq0 := own_n q0.lt
  have ltq1 := own_n q1.lt
  have ltq2 := own_n q2.lt
  obtain ⟨G_cs, G_zc, G_fm, isref_fm, GS_va, GV_va, GE_va, GS_sg, GE_sg, GF_sg, GE_sgs, GC_sgs, GW_sgs, GV_sgt, GS_pr, GE_pr, GF_pr, GE_prs, GC_prs, GW_prs, GV_prt⟩ := id G
  have oz := X0.old.1
  have ltz0 := own_n GV_va.lt
  have ltz1 := own_n GE_va.lt
  have ltz2 := own_n GE_sg.lt
  have ltz3 := own_n GE_sgs.lt
  have ltz4 := own_n GV_sgt.lt
  have ltz5 := own_n GE_pr.lt
  have ltz6 := own_n GE_prs.lt
  have ltz7 := own_n GV_prt.lt
  refine k_aloadN X0 d_jdk_42_151_0 rfl rfl (pc' := 1) rfl ?_
  refine k_initO X0 d_jdk_42_151_1 (w_43 hw) (w_44 hw) (w_45 hw) rfl (by decide) (W := 0) (Nat.le_of_eq rfl) (by decide) (pc' := 4) rfl fun T113 X114 => ?_
  refine k_aloadN X114 d_jdk_42_151_4 rfl rfl (pc' := 5) rfl ?_
  refine k_aloadN X114 d_jdk_42_151_5 rfl rfl (pc' := 6) rfl ?_
  have ge116 : n0 ≤ a := by omega
  refine k_putF X114 d_jdk_42_151_6 (host := "") (Or.inl (w_21 hw)) Via.refl q1 q0 (Or.inr ⟨(w_4 hw), rfl, X114.hnm⟩) (w_2 hw) (ty := (.array .byte)) (by decide) rfl rfl trivial ge116 (pc' := 9) rfl fun T115 h115 L115 X115 W115 K115 => ?_
  have sz_h115 := K115.1
  have K0_h115 : Keep h0 h115 [a] := K0_h0.trans K115 (allS (Or.inl (List.mem_of_getElem? (i := 0) rfl)) all0)
  have F115 := q1.same W115
  refine k_aloadN X115 d_jdk_42_151_9 rfl rfl (pc' := 10) rfl ?_
  refine k_iloadN X115 d_jdk_42_151_10 rfl (pc' := 11) rfl ?_
  have c117 := (q2.other W115 (Or.inr (slot_ne (Or.inr (w_5 hw)) (Or.inr (w_4 hw)) (by decide) (t := .byte) (t' := (.array .byte)) (by decide) (by decide))))
  have c118 := (q0.keep K115)
  have ge120 : n0 ≤ a := by omega
  refine k_putF X115 d_jdk_42_151_11 (host := "") (Or.inl (w_20 hw)) Via.refl c117 c118 (Or.inr ⟨(w_5 hw), rfl, X115.hnm⟩) (w_2 hw) (ty := .byte) (by decide) rfl rfl trivial ge120 (pc' := 14) rfl fun T119 h119 L119 X119 W119 K119 => ?_
  have sz_h119 := K119.1
  have K0_h119 : Keep h0 h119 [a] := K0_h115.trans K119 (allS (Or.inl (List.mem_of_getElem? (i := 0) rfl)) all0)
  have F119 := c117.same W119
  have c121 := (c118.keep K119)
  have c122 := (F115.other W119 (Or.inr (slot_ne (Or.inr (w_4 hw)) (Or.inr (w_5 hw)) (by decide) (t := (.array .byte)) (t' := .byte) (by decide) (by decide))))
  exact k_retFV X119 d_jdk_42_151_14 rfl K0_h119 ⟨rfl, c121, c122, F119⟩ (by decide) (by decide)
set_option maxRecDepth 65536 in
set_option maxHeartbeats 40000000 in
theorem own_canE1 (l : Launch) (Z : State) (a0 : Array Value) (hw : ∀ d ∈ tables_1, d.before a0 Z = true) {zc : Int32} {fm : Value} {va : Nat} {kva : ClassId} {sg : Nat} {pr : Nat} {sgs : Nat} {sgt : Nat} {ksgt : ClassId} {prs : Nat} {prt : Nat} {kprt : ClassId}  (G : Gl Z zc fm va kva sg pr sgs sgt ksgt prs prt kprt) (n0 : Nat) (h0 : Heap) (O0 : Old Z n0 h0) (c0 : Int32) (hc : ¬ 255 < c0)   :
    MetF l [] Z n0 (⟨"java/lang/StringLatin1", "canEncode", "(C)Z"⟩ : MethodName) jdk_43_method_3_code 1 (Option.some FieldType.boolean) ({ frames := 0, cells := 0, slots := 0, locals := 0 } : Room) #[(.int c0)] h0 [] (fun r h' => ∃ w, r = some w ∧ w = (.int (1 : Int32)) ∧ True) := by
  refine metF (plainFor_of_name pn_3) O0 (Ls := #[.val (.int c0)]) (fun m => by first | rfl | (simp [entryFrame, mkF, argsToLocals, Value.category]; done)) ?_
  intro p e s m below meth c T0 X0
  have K0_h0 := Keep.refl h0 []
  have n0le := X0.n0le
  obtain ⟨G_cs, G_zc, G_fm, isref_fm, GS_va, GV_va, GE_va, GS_sg, GE_sg, GF_sg, GE_sgs, GC_sgs, GW_sgs, GV_sgt, GS_pr, GE_pr, GF_pr, GE_prs, GC_prs, GW_prs, GV_prt⟩ := id G
  have oz := X0.old.1
  have ltz0 := own_n GV_va.lt
  have ltz1 := own_n GE_va.lt
  have ltz2 := own_n GE_sg.lt
  have ltz3 := own_n GE_sgs.lt
  have ltz4 := own_n GV_sgt.lt
  have ltz5 := own_n GE_pr.lt
  have ltz6 := own_n GE_prs.lt
  have ltz7 := own_n GV_prt.lt
  refine k_iloadN X0 d_jdk_43_3_0 rfl (pc' := 1) rfl ?_
  refine k_sipush X0 d_jdk_43_3_1 (w := (255 : Int32)) rfl (pc' := 4) rfl ?_
  refine k_icmpNo X0 d_jdk_43_3_4 (flt hc).2.2.1 (pc' := 7) rfl ?_
  refine k_iconst X0 d_jdk_43_3_7 (w := (1 : Int32)) rfl (pc' := 8) rfl ?_
  refine k_goto X0 d_jdk_43_3_8 (pc' := 12) (by decide) (by decide) ?_
  exact k_retFN X0 (w := (1 : Int32)) d_jdk_43_3_12 (t := .boolean) rfl (by simp) rfl K0_h0 ⟨_, rfl, rfl, trivial⟩ (by decide) (by decide)
set_option maxRecDepth 65536 in
set_option maxHeartbeats 40000000 in
theorem own_toBL (l : Launch) (Z : State) (a0 : Array Value) (hw : ∀ d ∈ tables_1, d.before a0 Z = true) {zc : Int32} {fm : Value} {va : Nat} {kva : ClassId} {sg : Nat} {pr : Nat} {sgs : Nat} {sgt : Nat} {ksgt : ClassId} {prs : Nat} {prt : Nat} {kprt : ClassId}  (G : Gl Z zc fm va kva sg pr sgs sgt ksgt prs prt kprt) (n0 : Nat) (h0 : Heap) (O0 : Old Z n0 h0) (c0 : Int32)   :
    MetF l [] Z n0 (⟨"java/lang/StringLatin1", "toBytes", "(C)[B"⟩ : MethodName) jdk_43_method_46_code 1 (Option.some (FieldType.array FieldType.byte)) ({ frames := 0, cells := 1, slots := 1, locals := 0 } : Room) #[(.int c0)] h0 [] (fun r h' => ∃ w, r = some w ∧ ∃ (t : Nat), ∃ (kt : ClassId), w = (.ref t) ∧ (Arv Z h' t kt .byte (1 : Int32) (own_lat [c0]) (.int (0 : Int32))) ∧ (h0.size ≤ t)) := by
  refine metF (plainFor_of_name pn_3) O0 (Ls := #[.val (.int c0)]) (fun m => by first | rfl | (simp [entryFrame, mkF, argsToLocals, Value.category]; done)) ?_
  intro p e s m below meth c T0 X0
  have K0_h0 := Keep.refl h0 []
  have n0le := X0.n0le
  obtain ⟨G_cs, G_zc, G_fm, isref_fm, GS_va, GV_va, GE_va, GS_sg, GE_sg, GF_sg, GE_sgs, GC_sgs, GW_sgs, GV_sgt, GS_pr, GE_pr, GF_pr, GE_prs, GC_prs, GW_prs, GV_prt⟩ := id G
  have oz := X0.old.1
  have ltz0 := own_n GV_va.lt
  have ltz1 := own_n GE_va.lt
  have ltz2 := own_n GE_sg.lt
  have ltz3 := own_n GE_sgs.lt
  have ltz4 := own_n GV_sgt.lt
  have ltz5 := own_n GE_pr.lt
  have ltz6 := own_n GE_prs.lt
  have ltz7 := own_n GV_prt.lt
  refine k_iconst X0 d_jdk_43_46_0 (w := (1 : Int32)) rfl (pc' := 1) rfl ?_
  refine k_newP X0 d_jdk_43_46_1 (w_3 hw) (by decide) (cap := 1) (by decide) (by decide) (by decide) (by decide) (pc' := 3) rfl fun T123 h123 b123 k123 g123 X123 K123 V123 S123 lt123 ge123 => ?_
  have sz_h123 := K123.1
  have K0_h123 : Keep h0 h123 [] := K0_h0.trans K123 all0
  have V123' : Arv Z h123 b123 k123 .byte (1 : Int32) [(.int (0 : Int32))] (.int (0 : Int32)) := Arv.pad V123 (pad_rep [] (.int (0 : Int32)) 1)
  refine k_dup X123 d_jdk_43_46_3 rfl (pc' := 4) rfl ?_
  refine k_iconst X123 d_jdk_43_46_4 (w := (0 : Int32)) rfl (pc' := 5) rfl ?_
  refine k_iloadN X123 d_jdk_43_46_5 rfl (pc' := 6) rfl ?_
  refine k_i2b X123 d_jdk_43_46_6 (w := (c0.toInt8.toInt32)) rfl (pc' := 7) rfl ?_
  have ge125 : n0 ≤ b123 := by omega
  refine k_bastore X123 (w := (c0.toInt8.toInt32)) (0) d_jdk_43_46_7 V123' (by decide) (by decide) rfl (by decide) (own_i2b _) (vs' := (own_lat [c0])) rfl trivial ge125 (pc' := 8) rfl fun T124 h124 L124 X124 K124 V124 => ?_
  have sz_h124 := K124.1
  have K0_h124 : Keep h0 h124 [] := K0_h123.trans K124 (allS (Or.inr (by omega)) all0)
  exact k_retFA X124 d_jdk_43_46_8 rfl rfl rfl rfl K0_h124 ⟨_, rfl, _, _, rfl, V124, by omega⟩ (by decide) (by decide)
set_option maxRecDepth 65536 in
set_option maxHeartbeats 40000000 in
theorem own_vocL (l : Launch) (Z : State) (a0 : Array Value) (hw : ∀ d ∈ tables_1, d.before a0 Z = true) {zc : Int32} {fm : Value} {va : Nat} {kva : ClassId} {sg : Nat} {pr : Nat} {sgs : Nat} {sgt : Nat} {ksgt : ClassId} {prs : Nat} {prt : Nat} {kprt : ClassId}  (G : Gl Z zc fm va kva sg pr sgs sgt ksgt prs prt kprt) (n0 : Nat) (h0 : Heap) (O0 : Old Z n0 h0) (c0 : Int32) (hc : ¬ 255 < c0)   :
    MetF l [] Z n0 (⟨"java/lang/String", "valueOf", "(C)Ljava/lang/String;"⟩ : MethodName) jdk_42_method_139_code 1 (Option.some (FieldType.object "java/lang/String")) ({ frames := 2, cells := 2, slots := 5, locals := 27 } : Room) #[(.int c0)] h0 [] (fun r h' => ∃ w, r = some w ∧ ∃ (r : Nat), ∃ (t : Nat), ∃ (kt : ClassId), w = (.ref r) ∧ (Exa Z h' r "java/lang/String") ∧ (Fld Z h' r "java/lang/String" "value" "[B" (.ref t)) ∧ (Fld Z h' r "java/lang/String" "coder" "B" (.int (0 : Int32))) ∧ (Arv Z h' t kt .byte (1 : Int32) (own_lat [c0]) (.int (0 : Int32))) ∧ (h0.size ≤ r) ∧ (h0.size ≤ t)) := by
  refine metF (plainFor_of_name pn_1) O0 (Ls := #[.val (.int c0)]) (fun m => by first | rfl | (simp [entryFrame, mkF, argsToLocals, Value.category]; done)) ?_
  intro p e s m below meth c T0 X0
  have K0_h0 := Keep.refl h0 []
  have n0le := X0.n0le
  obtain ⟨G_cs, G_zc, G_fm, isref_fm, GS_va, GV_va, GE_va, GS_sg, GE_sg, GF_sg, GE_sgs, GC_sgs, GW_sgs, GV_sgt, GS_pr, GE_pr, GF_pr, GE_prs, GC_prs, GW_prs, GV_prt⟩ := id G
  have oz := X0.old.1
  have ltz0 := own_n GV_va.lt
  have ltz1 := own_n GE_va.lt
  have ltz2 := own_n GE_sg.lt
  have ltz3 := own_n GE_sgs.lt
  have ltz4 := own_n GV_sgt.lt
  have ltz5 := own_n GE_pr.lt
  have ltz6 := own_n GE_prs.lt
  have ltz7 := own_n GV_prt.lt
  refine k_getS X0 d_jdk_42_139_0 (host := "") (Or.inl (w_19 hw)) Via.refl (G_cs.ext X0.old.2) (pc' := 3) rfl fun T126 X127 => ?_
  refine k_ifNo X127 d_jdk_42_139_3 ((if0 _ _).trans (feq G_zc).1) (pc' := 6) rfl ?_
  refine k_iloadN X127 d_jdk_42_139_6 rfl (pc' := 7) rfl ?_
  refine k_callSVF X127 (y := (⟨"java/lang/StringLatin1", "canEncode", "(C)Z"⟩ : MethodName)) d_jdk_42_139_7 (w_96 hw) (w_97 hw) (w_24 hw) (w_98 hw) (by decide) (argsL := [(.int c0)]) (rest := []) (own_canE1 l Z a0 hw G n0 h0 X127.old c0 hc ) rfl pd_9 rfl rfl (by decide) (W := 0) (Nat.le_of_eq rfl) (by decide) (by decide) (by decide) all0 (pc' := 10) rfl ?_
  rintro _ T128 h128 L128 X128 K128 ⟨rfl, -⟩
  have sz_h128 := K128.1
  have K0_h128 : Keep h0 h128 [] := K0_h0.trans K128 all0
  refine k_ifNo X128 d_jdk_42_139_10 (by decide) (pc' := 13) rfl ?_
  refine k_newO X128 d_jdk_42_139_13 (w_61 hw) (w_2 hw) (w_1 hw) (by decide) (by decide) (pc' := 16) rfl fun T130 h130 b130 g130 X130 K130 E130 D130 S130 lt130 ge130 => ?_
  have sz_h130 := K130.1
  have K0_h130 : Keep h0 h130 [] := K0_h128.trans K130 all0
  have Fn130_value : Fld Z h130 b130 "java/lang/String" "value" "[B" .null := D130 (Or.inr (w_4 hw)) (ty := (.array .byte)) (by decide)
  have Fn130_coder : Fld Z h130 b130 "java/lang/String" "coder" "B" (.int (0 : Int32)) := D130 (Or.inr (w_5 hw)) (ty := .byte) (by decide)
  refine k_dup X130 d_jdk_42_139_16 rfl (pc' := 17) rfl ?_
  refine k_iloadN X130 d_jdk_42_139_17 rfl (pc' := 18) rfl ?_
  refine k_callSVF X130 (y := (⟨"java/lang/StringLatin1", "toBytes", "(C)[B"⟩ : MethodName)) d_jdk_42_139_18 (w_99 hw) (w_100 hw) (w_24 hw) (w_101 hw) (by decide) (argsL := [(.int c0)]) (rest := [(.ref b130), (.ref b130)]) (own_toBL l Z a0 hw G n0 h130 X130.old c0 ) rfl pd_10 rfl rfl (by decide) (W := 2) (Nat.le_of_eq rfl) (by decide) (by decide) (by decide) all0 (pc' := 21) rfl ?_
  rintro _ T133 h133 L133 X133 K133 ⟨t_131, kt_132, rfl, q133_0, q133_1⟩
  have sz_h133 := K133.1
  have K0_h133 : Keep h0 h133 [] := K0_h130.trans K133 all0
  have lt133_0 := own_n q133_0.lt
  refine k_iconst X133 d_jdk_42_139_21 (w := (0 : Int32)) rfl (pc' := 22) rfl ?_
  have c135 := (E130.keep K133)
  have c136 := (Fn130_value.keep K133 nin0)
  have c137 := (Fn130_coder.keep K133 nin0)
  have ge138 : n0 ≤ b130 := by omega
  refine k_callPNF X133 (y := (⟨"java/lang/String", "<init>", "([BB)V"⟩ : MethodName)) d_jdk_42_139_22 (w_102 hw) (w_103 hw) (w_1 hw) (w_104 hw) (by decide) rfl rfl (argsL := [(.ref t_131), (.int (0 : Int32))]) (rest := [(.ref b130)]) (own_initBB0 l Z a0 hw G n0 h133 X133.old b130 t_131 (by omega) c135 c136 c137) rfl pd_11 rfl rfl (by decide) (W := 1) (Nat.le_of_eq rfl) (by decide) (by decide) (by decide) (allS ⟨trivial, ge138⟩ all0) (pc' := 25) rfl ?_
  rintro T139 h139 L139 X139 K139 ⟨q139_0, q139_1, q139_2⟩
  have sz_h139 := K139.1
  have K0_h139 : Keep h0 h139 [] := K0_h133.trans K139 (allS (Or.inr (by omega)) all0)
  have lt139_0 := own_n q139_0.lt
  have lt139_1 := own_n q139_1.lt
  have lt139_2 := own_n q139_2.lt
  have c140 := (q133_0.keep K139 (ninS (own_ne (by omega) : t_131 ≠ b130) nin0))
  exact k_retFA X139 d_jdk_42_139_25 rfl rfl rfl rfl K0_h139 ⟨_, rfl, _, _, _, rfl, q139_0, q139_1, q139_2, c140, by omega, by omega⟩ (by decide) (by decide)
set_option maxRecDepth 65536 in
set_option maxHeartbeats 40000000 in
theorem own_eqNull (l : Launch) (Z : State) (a0 : Array Value) (hw : ∀ d ∈ tables_1, d.before a0 Z = true) {zc : Int32} {fm : Value} {va : Nat} {kva : ClassId} {sg : Nat} {pr : Nat} {sgs : Nat} {sgt : Nat} {ksgt : ClassId} {prs : Nat} {prt : Nat} {kprt : ClassId}  (G : Gl Z zc fm va kva sg pr sgs sgt ksgt prs prt kprt) (n0 : Nat) (h0 : Heap) (O0 : Old Z n0 h0) (a : Nat)   :
    MetF l [] Z n0 (⟨"java/lang/String", "equals", "(Ljava/lang/Object;)Z"⟩ : MethodName) jdk_42_method_66_code 3 (Option.some FieldType.boolean) ({ frames := 0, cells := 0, slots := 0, locals := 0 } : Room) #[(.ref a), .null] h0 [] (fun r h' => ∃ w, r = some w ∧ w = (.int (0 : Int32)) ∧ True) := by
  refine metF (plainFor_of_name pn_1) O0 (Ls := #[.val (.ref a), .val .null, .unset]) (fun m => by first | rfl | (simp [entryFrame, mkF, argsToLocals, Value.category]; done)) ?_
  intro p e s m below meth c T0 X0
  have K0_h0 := Keep.refl h0 []
  have n0le := X0.n0le
  obtain ⟨G_cs, G_zc, G_fm, isref_fm, GS_va, GV_va, GE_va, GS_sg, GE_sg, GF_sg, GE_sgs, GC_sgs, GW_sgs, GV_sgt, GS_pr, GE_pr, GF_pr, GE_prs, GC_prs, GW_prs, GV_prt⟩ := id G
  have oz := X0.old.1
  have ltz0 := own_n GV_va.lt
  have ltz1 := own_n GE_va.lt
  have ltz2 := own_n GE_sg.lt
  have ltz3 := own_n GE_sgs.lt
  have ltz4 := own_n GV_sgt.lt
  have ltz5 := own_n GE_pr.lt
  have ltz6 := own_n GE_prs.lt
  have ltz7 := own_n GV_prt.lt
  refine k_aloadN X0 d_jdk_42_66_0 rfl rfl (pc' := 1) rfl ?_
  refine k_aloadN X0 d_jdk_42_66_1 rfl rfl (pc' := 2) rfl ?_
  refine k_acmp X0 false d_jdk_42_66_2 rfl rfl (decide_eq_false nofun) (by decide) (pc' := 7) (by decide) ?_
  refine k_aloadN X0 d_jdk_42_66_7 rfl rfl (pc' := 8) rfl ?_
  refine k_instNull X0 d_jdk_42_66_8 (pc' := 11) rfl ?_
  refine k_ifYes X0 d_jdk_42_66_11 (by decide) (pc' := 54) (by decide) (by decide) ?_
  refine k_iconst X0 d_jdk_42_66_54 (w := (0 : Int32)) rfl (pc' := 55) rfl ?_
  exact k_retFN X0 (w := (0 : Int32)) d_jdk_42_66_55 (t := .boolean) rfl (by simp) rfl K0_h0 ⟨_, rfl, rfl, trivial⟩ (by decide) (by decide)
set_option maxRecDepth 65536 in
set_option maxHeartbeats 40000000 in
theorem own_values (l : Launch) (Z : State) (a0 : Array Value) (hw : ∀ d ∈ tables_1, d.before a0 Z = true) {zc : Int32} {fm : Value} {va : Nat} {kva : ClassId} {sg : Nat} {pr : Nat} {sgs : Nat} {sgt : Nat} {ksgt : ClassId} {prs : Nat} {prt : Nat} {kprt : ClassId}  (G : Gl Z zc fm va kva sg pr sgs sgt ksgt prs prt kprt) (n0 : Nat) (h0 : Heap) (O0 : Old Z n0 h0)    :
    MetF l [] Z n0 (⟨"com/example/wirewright/wirewright/definition/Scope", "values", "()[Lcom/example/wirewright/wirewright/definition/Scope;"⟩ : MethodName) prog_35_method_1_code 0 (Option.some (FieldType.array (FieldType.object "com/example/wirewright/wirewright/definition/Scope"))) ({ frames := 1, cells := 1, slots := 2, locals := 14 } : Room) #[] h0 [] (fun r h' => ∃ w, r = some w ∧ ∃ (r : Nat), w = (.ref r) ∧ (Arv Z h' r kva (.object "com/example/wirewright/wirewright/definition/Scope") (2 : Int32) [(.ref sg), (.ref pr)] .null) ∧ (Exa Z h' r "[Lcom/example/wirewright/wirewright/definition/Scope;") ∧ (h0.size ≤ r)) := by
  refine metF (plainFor_of_name pn_4) O0 (Ls := #[]) (fun m => by first | rfl | (simp [entryFrame, mkF, argsToLocals, Value.category]; done)) ?_
  intro p e s m below meth c T0 X0
  have K0_h0 := Keep.refl h0 []
  have n0le := X0.n0le
  obtain ⟨G_cs, G_zc, G_fm, isref_fm, GS_va, GV_va, GE_va, GS_sg, GE_sg, GF_sg, GE_sgs, GC_sgs, GW_sgs, GV_sgt, GS_pr, GE_pr, GF_pr, GE_prs, GC_prs, GW_prs, GV_prt⟩ := id G
  have oz := X0.old.1
  have ltz0 := own_n GV_va.lt
  have ltz1 := own_n GE_va.lt
  have ltz2 := own_n GE_sg.lt
  have ltz3 := own_n GE_sgs.lt
  have ltz4 := own_n GV_sgt.lt
  have ltz5 := own_n GE_pr.lt
  have ltz6 := own_n GE_prs.lt
  have ltz7 := own_n GV_prt.lt
  refine k_getS X0 d_prog_35_1_0 (host := "") (Or.inl (w_73 hw)) Via.refl (GS_va.ext X0.old.2) (pc' := 3) rfl fun T141 X142 => ?_
  refine k_clone X142 d_prog_35_1_3 (w_75 hw) (w_76 hw) (w_80 hw) (w_78 hw) (w_79 hw) (w_81 hw) (GV_va.ext X142.old.2) (GE_va.ext X142.old.2) rfl (by decide) (W := 0) (Nat.le_of_eq rfl) (by decide) (cap := 2) (by decide) (by decide) (by decide) (pc' := 6) rfl fun T143 h143 b143 g143 X143 K143 V143 E143 S143 lt143 ge143 => ?_
  have sz_h143 := K143.1
  have K0_h143 : Keep h0 h143 [] := K0_h0.trans K143 all0
  refine k_castY X143 d_prog_35_1_6 (w_85 hw) (Ins.self E143) (pc' := 9) rfl fun T144 X145 => ?_
  exact k_retFA X145 d_prog_35_1_9 rfl rfl rfl rfl K0_h143 ⟨_, rfl, _, rfl, V143, E143, by omega⟩ (by decide) (by decide)
set_option maxRecDepth 65536 in
set_option maxHeartbeats 40000000 in
theorem own_ofS (l : Launch) (Z : State) (a0 : Array Value) (hw : ∀ d ∈ tables_1, d.before a0 Z = true) {zc : Int32} {fm : Value} {va : Nat} {kva : ClassId} {sg : Nat} {pr : Nat} {sgs : Nat} {sgt : Nat} {ksgt : ClassId} {prs : Nat} {prt : Nat} {kprt : ClassId}  (G : Gl Z zc fm va kva sg pr sgs sgt ksgt prs prt kprt) (n0 : Nat) (h0 : Heap) (O0 : Old Z n0 h0) (s0 : Nat) (t : Nat) (kt : ClassId) (cd : Int32) (zz : Int32) (bs : List Value) (cs : List Int32) (hn : cs.length < 536870912) (hr : own_chs cs) (hk_S : cs = [(115 : Int32), (105 : Int32), (110 : Int32), (103 : Int32), (108 : Int32), (101 : Int32), (116 : Int32), (111 : Int32), (110 : Int32)])  (q0 : Exa Z h0 s0 "java/lang/String") (q1 : Fld Z h0 s0 "java/lang/String" "value" "[B" (.ref t)) (q2 : Fld Z h0 s0 "java/lang/String" "coder" "B" (.int cd)) (q3 : Arv Z h0 t kt .byte zz bs (.int (0 : Int32))) (q4 : own_cod cs cd zz bs) :
    MetF l [] Z n0 (⟨"com/example/wirewright/wirewright/definition/Scope", "ofAttribute", "(Ljava/lang/String;)Lcom/example/wirewright/wirewright/definition/Scope;"⟩ : MethodName) prog_35_method_4_code 6 (Option.some (FieldType.object "com/example/wirewright/wirewright/definition/Scope")) ({ frames := 2, cells := 1, slots := 2, locals := 28 } : Room) #[(.ref s0)] h0 [] (fun r h' => ∃ w, r = some w ∧ w = (.ref sg) ∧ True) := by
  refine metF (plainFor_of_name pn_4) O0 (Ls := #[.val (.ref s0), .unset, .unset, .unset, .unset, .unset]) (fun m => by first | rfl | (simp [entryFrame, mkF, argsToLocals, Value.category]; done)) ?_
  intro p e s m below meth c T0 X0
  have K0_h0 := Keep.refl h0 []
  have n0le := X0.n0le
  have ltq0 := own_n q0.lt
  have ltq1 := own_n q1.lt
  have ltq2 := own_n q2.lt
  have ltq3 := own_n q3.lt
  obtain ⟨G_cs, G_zc, G_fm, isref_fm, GS_va, GV_va, GE_va, GS_sg, GE_sg, GF_sg, GE_sgs, GC_sgs, GW_sgs, GV_sgt, GS_pr, GE_pr, GF_pr, GE_prs, GC_prs, GW_prs, GV_prt⟩ := id G
  have oz := X0.old.1
  have ltz0 := own_n GV_va.lt
  have ltz1 := own_n GE_va.lt
  have ltz2 := own_n GE_sg.lt
  have ltz3 := own_n GE_sgs.lt
  have ltz4 := own_n GV_sgt.lt
  have ltz5 := own_n GE_pr.lt
  have ltz6 := own_n GE_prs.lt
  have ltz7 := own_n GV_prt.lt
  have hz1 : ¬ [(115 : Int32), (105 : Int32), (110 : Int32), (103 : Int32), (108 : Int32), (101 : Int32), (116 : Int32), (111 : Int32), (110 : Int32)] = [(112 : Int32), (114 : Int32), (111 : Int32), (116 : Int32), (111 : Int32), (116 : Int32), (121 : Int32), (112 : Int32), (101 : Int32)] := by decide
  refine k_aconstNull X0 d_prog_35_4_0 (pc' := 1) rfl ?_
  refine k_astoreN X0 d_prog_35_4_1 rfl (Ls' := #[.val (.ref s0), .val .null, .unset, .unset, .unset, .unset]) rfl (pc' := 2) rfl ?_
  refine k_callSVF X0 (y := (⟨"com/example/wirewright/wirewright/definition/Scope", "values", "()[Lcom/example/wirewright/wirewright/definition/Scope;"⟩ : MethodName)) d_prog_35_4_2 (w_70 hw) (w_71 hw) (w_68 hw) (w_72 hw) (by decide) (argsL := []) (rest := []) (own_values l Z a0 hw G n0 h0 X0.old  ) rfl pd_12 rfl rfl (by decide) (W := 0) (Nat.le_of_eq rfl) (by decide) (by decide) (by decide) all0 (pc' := 5) rfl ?_
  rintro _ T147 h147 L147 X147 K147 ⟨r_146, rfl, q147_0, q147_1, q147_2⟩
  have sz_h147 := K147.1
  have K0_h147 : Keep h0 h147 [] := K0_h0.trans K147 all0
  have lt147_0 := own_n q147_0.lt
  have lt147_1 := own_n q147_1.lt
  refine k_astoreN X147 d_prog_35_4_5 rfl (Ls' := #[.val (.ref s0), .val .null, .val (.ref r_146), .unset, .unset, .unset]) rfl (pc' := 6) rfl ?_
  refine k_aloadN X147 d_prog_35_4_6 rfl rfl (pc' := 7) rfl ?_
  refine k_arlen X147 d_prog_35_4_7 q147_0 (pc' := 8) rfl ?_
  refine k_istoreN X147 d_prog_35_4_8 (Ls' := #[.val (.ref s0), .val .null, .val (.ref r_146), .val (.int (2 : Int32)), .unset, .unset]) rfl (pc' := 9) rfl ?_
  refine k_iconst X147 d_prog_35_4_9 (w := (0 : Int32)) rfl (pc' := 10) rfl ?_
  refine k_istore X147 d_prog_35_4_10 (Ls' := #[.val (.ref s0), .val .null, .val (.ref r_146), .val (.int (2 : Int32)), .val (.int (0 : Int32)), .unset]) rfl (pc' := 12) rfl ?_
  refine k_iload X147 d_prog_35_4_12 rfl (pc' := 14) rfl ?_
  refine k_iloadN X147 d_prog_35_4_14 rfl (pc' := 15) rfl ?_
  refine k_icmpNo X147 d_prog_35_4_15 (by decide) (pc' := 18) rfl ?_
  refine k_aloadN X147 d_prog_35_4_18 rfl rfl (pc' := 19) rfl ?_
  refine k_iload X147 d_prog_35_4_19 rfl (pc' := 21) rfl ?_
  refine k_aaload X147 d_prog_35_4_21 q147_0 rfl (by decide) (by decide) (v := (.ref sg)) rfl (pc' := 22) rfl ?_
  refine k_astore X147 d_prog_35_4_22 rfl (Ls' := #[.val (.ref s0), .val .null, .val (.ref r_146), .val (.int (2 : Int32)), .val (.int (0 : Int32)), .val (.ref sg)]) rfl (pc' := 24) rfl ?_
  refine k_aload X147 d_prog_35_4_24 rfl rfl (pc' := 26) rfl ?_
  refine k_getF X147 d_prog_35_4_26 (host := "") (Or.inl (w_87 hw)) Via.refl (GF_sg.ext X147.old.2) (pc' := 29) rfl fun T149 X150 => ?_
  refine k_aloadN X150 d_prog_35_4_29 rfl rfl (pc' := 30) rfl ?_
  have c151 := (q0.keep K147)
  have c152 := (q1.keep K147 nin0)
  have c153 := (q2.keep K147 nin0)
  have c154 := (q3.keep K147 nin0)
  refine k_callVVF X150 (y := (⟨"java/lang/String", "equals", "(Ljava/lang/Object;)Z"⟩ : MethodName)) d_prog_35_4_30 (w_89 hw) (w_57 hw) (w_59 hw) (w_58 hw) (w_1 hw) (w_60 hw) (by decide) (notFace_of_selects (args := #[]) (mvT X150.hZ (w_59 hw))) (GE_sgs.ext X150.old.2) (argsL := [(.ref s0)]) (rest := []) (own_eq l Z a0 hw G n0 h147 X150.old sgs s0 sgt ksgt (0 : Int32) (9 : Int32) [(.int (115 : Int32)), (.int (105 : Int32)), (.int (110 : Int32)), (.int (103 : Int32)), (.int (108 : Int32)), (.int (101 : Int32)), (.int (116 : Int32)), (.int (111 : Int32)), (.int (110 : Int32))] [(115 : Int32), (105 : Int32), (110 : Int32), (103 : Int32), (108 : Int32), (101 : Int32), (116 : Int32), (111 : Int32), (110 : Int32)] t kt cd zz bs cs (by decide) hn (own_l1_chs own_sing) hr (GE_sgs.ext X150.old.2) (GW_sgs.ext X150.old.2) (GC_sgs.ext X150.old.2) (GV_sgt.ext X150.old.2) (Or.inl ⟨by decide, rfl, rfl, by decide⟩) c151 c152 c153 c154 q4) rfl pd_13 rfl rfl (by decide) (W := 0) (Nat.le_of_eq rfl) (by decide) (by decide) (by decide) all0 (pc' := 33) rfl ?_
  rintro _ T155 h155 L155 X155 K155 ⟨rfl, -⟩
  have sz_h155 := K155.1
  have K0_h155 : Keep h0 h155 [] := K0_h147.trans K155 all0
  have e0 : ¬ own_eqv [(115 : Int32), (105 : Int32), (110 : Int32), (103 : Int32), (108 : Int32), (101 : Int32), (116 : Int32), (111 : Int32), (110 : Int32)] cs = 0 := by rw [hk_S]; decide
  refine k_ifNo X155 d_prog_35_4_33 ((if0 _ _).trans (feq e0).1) (pc' := 36) rfl ?_
  refine k_aload X155 d_prog_35_4_36 rfl rfl (pc' := 38) rfl ?_
  refine k_astoreN X155 d_prog_35_4_38 rfl (Ls' := #[.val (.ref s0), .val (.ref sg), .val (.ref r_146), .val (.int (2 : Int32)), .val (.int (0 : Int32)), .val (.ref sg)]) rfl (pc' := 39) rfl ?_
  refine k_iinc X155 d_prog_35_4_39 rfl (w := (1 : Int32)) (by decide) (Ls' := #[.val (.ref s0), .val (.ref sg), .val (.ref r_146), .val (.int (2 : Int32)), .val (.int (1 : Int32)), .val (.ref sg)]) rfl (pc' := 42) rfl ?_
  refine k_goto X155 d_prog_35_4_42 (pc' := 12) (by decide) (by decide) ?_
  refine k_iload X155 d_prog_35_4_12 rfl (pc' := 14) rfl ?_
  refine k_iloadN X155 d_prog_35_4_14 rfl (pc' := 15) rfl ?_
  refine k_icmpNo X155 d_prog_35_4_15 (by decide) (pc' := 18) rfl ?_
  refine k_aloadN X155 d_prog_35_4_18 rfl rfl (pc' := 19) rfl ?_
  refine k_iload X155 d_prog_35_4_19 rfl (pc' := 21) rfl ?_
  have c157 := (q147_0.keep K155 nin0)
  refine k_aaload X155 d_prog_35_4_21 c157 rfl (by decide) (by decide) (v := (.ref pr)) rfl (pc' := 22) rfl ?_
  refine k_astore X155 d_prog_35_4_22 rfl (Ls' := #[.val (.ref s0), .val (.ref sg), .val (.ref r_146), .val (.int (2 : Int32)), .val (.int (1 : Int32)), .val (.ref pr)]) rfl (pc' := 24) rfl ?_
  refine k_aload X155 d_prog_35_4_24 rfl rfl (pc' := 26) rfl ?_
  refine k_getF X155 d_prog_35_4_26 (host := "") (Or.inl (w_87 hw)) Via.refl (GF_pr.ext X155.old.2) (pc' := 29) rfl fun T158 X159 => ?_
  refine k_aloadN X159 d_prog_35_4_29 rfl rfl (pc' := 30) rfl ?_
  have c160 := (c151.keep K155)
  have c161 := (c152.keep K155 nin0)
  have c162 := (c153.keep K155 nin0)
  have c163 := (c154.keep K155 nin0)
  refine k_callVVF X159 (y := (⟨"java/lang/String", "equals", "(Ljava/lang/Object;)Z"⟩ : MethodName)) d_prog_35_4_30 (w_89 hw) (w_57 hw) (w_59 hw) (w_58 hw) (w_1 hw) (w_60 hw) (by decide) (notFace_of_selects (args := #[]) (mvT X159.hZ (w_59 hw))) (GE_prs.ext X159.old.2) (argsL := [(.ref s0)]) (rest := []) (own_eq l Z a0 hw G n0 h155 X159.old prs s0 prt kprt (0 : Int32) (9 : Int32) [(.int (112 : Int32)), (.int (114 : Int32)), (.int (111 : Int32)), (.int (116 : Int32)), (.int (111 : Int32)), (.int (116 : Int32)), (.int (121 : Int32)), (.int (112 : Int32)), (.int (101 : Int32))] [(112 : Int32), (114 : Int32), (111 : Int32), (116 : Int32), (111 : Int32), (116 : Int32), (121 : Int32), (112 : Int32), (101 : Int32)] t kt cd zz bs cs (by decide) hn (own_l1_chs own_proto) hr (GE_prs.ext X159.old.2) (GW_prs.ext X159.old.2) (GC_prs.ext X159.old.2) (GV_prt.ext X159.old.2) (Or.inl ⟨by decide, rfl, rfl, by decide⟩) c160 c161 c162 c163 q4) rfl pd_13 rfl rfl (by decide) (W := 0) (Nat.le_of_eq rfl) (by decide) (by decide) (by decide) all0 (pc' := 33) rfl ?_
  rintro _ T164 h164 L164 X164 K164 ⟨rfl, -⟩
  have sz_h164 := K164.1
  have K0_h164 : Keep h0 h164 [] := K0_h155.trans K164 all0
  have e1 : own_eqv [(112 : Int32), (114 : Int32), (111 : Int32), (116 : Int32), (111 : Int32), (116 : Int32), (121 : Int32), (112 : Int32), (101 : Int32)] cs = 0 := if_neg (fun q => hz1 (hk_S.symm.trans q.symm))
  refine k_ifYes X164 d_prog_35_4_33 ((if0 _ _).trans (teq e1).1) (pc' := 39) (by decide) (by decide) ?_
  refine k_iinc X164 d_prog_35_4_39 rfl (w := (2 : Int32)) (by decide) (Ls' := #[.val (.ref s0), .val (.ref sg), .val (.ref r_146), .val (.int (2 : Int32)), .val (.int (2 : Int32)), .val (.ref pr)]) rfl (pc' := 42) rfl ?_
  refine k_goto X164 d_prog_35_4_42 (pc' := 12) (by decide) (by decide) ?_
  refine k_iload X164 d_prog_35_4_12 rfl (pc' := 14) rfl ?_
  refine k_iloadN X164 d_prog_35_4_14 rfl (pc' := 15) rfl ?_
  refine k_icmpYes X164 d_prog_35_4_15 (by decide) (pc' := 45) (by decide) (by decide) ?_
  refine k_aloadN X164 d_prog_35_4_45 rfl rfl (pc' := 46) rfl ?_
  exact k_retFA X164 d_prog_35_4_46 rfl rfl rfl rfl K0_h164 ⟨_, rfl, rfl, trivial⟩ (by decide) (by decide)
set_option maxRecDepth 65536 in
set_option maxHeartbeats 40000000 in
theorem own_ofP (l : Launch) (Z : State) (a0 : Array Value) (hw : ∀ d ∈ tables_1, d.before a0 Z = true) {zc : Int32} {fm : Value} {va : Nat} {kva : ClassId} {sg : Nat} {pr : Nat} {sgs : Nat} {sgt : Nat} {ksgt : ClassId} {prs : Nat} {prt : Nat} {kprt : ClassId}  (G : Gl Z zc fm va kva sg pr sgs sgt ksgt prs prt kprt) (n0 : Nat) (h0 : Heap) (O0 : Old Z n0 h0) (s0 : Nat) (t : Nat) (kt : ClassId) (cd : Int32) (zz : Int32) (bs : List Value) (cs : List Int32) (hn : cs.length < 536870912) (hr : own_chs cs) (hk_P : cs = [(112 : Int32), (114 : Int32), (111 : Int32), (116 : Int32), (111 : Int32), (116 : Int32), (121 : Int32), (112 : Int32), (101 : Int32)])  (q0 : Exa Z h0 s0 "java/lang/String") (q1 : Fld Z h0 s0 "java/lang/String" "value" "[B" (.ref t)) (q2 : Fld Z h0 s0 "java/lang/String" "coder" "B" (.int cd)) (q3 : Arv Z h0 t kt .byte zz bs (.int (0 : Int32))) (q4 : own_cod cs cd zz bs) :
    MetF l [] Z n0 (⟨"com/example/wirewright/wirewright/definition/Scope", "ofAttribute", "(Ljava/lang/String;)Lcom/example/wirewright/wirewright/definition/Scope;"⟩ : MethodName) prog_35_method_4_code 6 (Option.some (FieldType.object "com/example/wirewright/wirewright/definition/Scope")) ({ frames := 2, cells := 1, slots := 2, locals := 28 } : Room) #[(.ref s0)] h0 [] (fun r h' => ∃ w, r = some w ∧ w = (.ref pr) ∧ True) := by
  refine metF (plainFor_of_name pn_4) O0 (Ls := #[.val (.ref s0), .unset, .unset, .unset, .unset, .unset]) (fun m => by first | rfl | (simp [entryFrame, mkF, argsToLocals, Value.category]; done)) ?_
  intro p e s m below meth c T0 X0
  have K0_h0 := Keep.refl h0 []
  have n0le := X0.n0le
  have ltq0 := own_n q0.lt
  have ltq1 := own_n q1.lt
  have ltq2 := own_n q2.lt
  have ltq3 := own_n q3.lt
  obtain ⟨G_cs, G_zc, G_fm, isref_fm, GS_va, GV_va, GE_va, GS_sg, GE_sg, GF_sg, GE_sgs, GC_sgs, GW_sgs, GV_sgt, GS_pr, GE_pr, GF_pr, GE_prs, GC_prs, GW_prs, GV_prt⟩ := id G
  have oz := X0.old.1
  have ltz0 := own_n GV_va.lt
  have ltz1 := own_n GE_va.lt
  have ltz2 := own_n GE_sg.lt
  have ltz3 := own_n GE_sgs.lt
  have ltz4 := own_n GV_sgt.lt
  have ltz5 := own_n GE_pr.lt
  have ltz6 := own_n GE_prs.lt
  have ltz7 := own_n GV_prt.lt
  have hz1 : ¬ [(115 : Int32), (105 : Int32), (110 : Int32), (103 : Int32), (108 : Int32), (101 : Int32), (116 : Int32), (111 : Int32), (110 : Int32)] = [(112 : Int32), (114 : Int32), (111 : Int32), (116 : Int32), (111 : Int32), (116 : Int32), (121 : Int32), (112 : Int32), (101 : Int32)] := by decide
  refine k_aconstNull X0 d_prog_35_4_0 (pc' := 1) rfl ?_
  refine k_astoreN X0 d_prog_35_4_1 rfl (Ls' := #[.val (.ref s0), .val .null, .unset, .unset, .unset, .unset]) rfl (pc' := 2) rfl ?_
  refine k_callSVF X0 (y := (⟨"com/example/wirewright/wirewright/definition/Scope", "values", "()[Lcom/example/wirewright/wirewright/definition/Scope;"⟩ : MethodName)) d_prog_35_4_2 (w_70 hw) (w_71 hw) (w_68 hw) (w_72 hw) (by decide) (argsL := []) (rest := []) (own_values l Z a0 hw G n0 h0 X0.old  ) rfl pd_12 rfl rfl (by decide) (W := 0) (Nat.le_of_eq rfl) (by decide) (by decide) (by decide) all0 (pc' := 5) rfl ?_
  rintro _ T167 h167 L167 X167 K167 ⟨r_166, rfl, q167_0, q167_1, q167_2⟩
  have sz_h167 := K167.1
  have K0_h167 : Keep h0 h167 [] := K0_h0.trans K167 all0
  have lt167_0 := own_n q167_0.lt
  have lt167_1 := own_n q167_1.lt
  refine k_astoreN X167 d_prog_35_4_5 rfl (Ls' := #[.val (.ref s0), .val .null, .val (.ref r_166), .unset, .unset, .unset]) rfl (pc' := 6) rfl ?_
  refine k_aloadN X167 d_prog_35_4_6 rfl rfl (pc' := 7) rfl ?_
  refine k_arlen X167 d_prog_35_4_7 q167_0 (pc' := 8) rfl ?_
  refine k_istoreN X167 d_prog_35_4_8 (Ls' := #[.val (.ref s0), .val .null, .val (.ref r_166), .val (.int (2 : Int32)), .unset, .unset]) rfl (pc' := 9) rfl ?_
  refine k_iconst X167 d_prog_35_4_9 (w := (0 : Int32)) rfl (pc' := 10) rfl ?_
  refine k_istore X167 d_prog_35_4_10 (Ls' := #[.val (.ref s0), .val .null, .val (.ref r_166), .val (.int (2 : Int32)), .val (.int (0 : Int32)), .unset]) rfl (pc' := 12) rfl ?_
  refine k_iload X167 d_prog_35_4_12 rfl (pc' := 14) rfl ?_
  refine k_iloadN X167 d_prog_35_4_14 rfl (pc' := 15) rfl ?_
  refine k_icmpNo X167 d_prog_35_4_15 (by decide) (pc' := 18) rfl ?_
  refine k_aloadN X167 d_prog_35_4_18 rfl rfl (pc' := 19) rfl ?_
  refine k_iload X167 d_prog_35_4_19 rfl (pc' := 21) rfl ?_
  refine k_aaload X167 d_prog_35_4_21 q167_0 rfl (by decide) (by decide) (v := (.ref sg)) rfl (pc' := 22) rfl ?_
  refine k_astore X167 d_prog_35_4_22 rfl (Ls' := #[.val (.ref s0), .val .null, .val (.ref r_166), .val (.int (2 : Int32)), .val (.int (0 : Int32)), .val (.ref sg)]) rfl (pc' := 24) rfl ?_
  refine k_aload X167 d_prog_35_4_24 rfl rfl (pc' := 26) rfl ?_
  refine k_getF X167 d_prog_35_4_26 (host := "") (Or.inl (w_87 hw)) Via.refl (GF_sg.ext X167.old.2) (pc' := 29) rfl fun T169 X170 => ?_
  refine k_aloadN X170 d_prog_35_4_29 rfl rfl (pc' := 30) rfl ?_
  have c171 := (q0.keep K167)
  have c172 := (q1.keep K167 nin0)
  have c173 := (q2.keep K167 nin0)
  have c174 := (q3.keep K167 nin0)
  refine k_callVVF X170 (y := (⟨"java/lang/String", "equals", "(Ljava/lang/Object;)Z"⟩ : MethodName)) d_prog_35_4_30 (w_89 hw) (w_57 hw) (w_59 hw) (w_58 hw) (w_1 hw) (w_60 hw) (by decide) (notFace_of_selects (args := #[]) (mvT X170.hZ (w_59 hw))) (GE_sgs.ext X170.old.2) (argsL := [(.ref s0)]) (rest := []) (own_eq l Z a0 hw G n0 h167 X170.old sgs s0 sgt ksgt (0 : Int32) (9 : Int32) [(.int (115 : Int32)), (.int (105 : Int32)), (.int (110 : Int32)), (.int (103 : Int32)), (.int (108 : Int32)), (.int (101 : Int32)), (.int (116 : Int32)), (.int (111 : Int32)), (.int (110 : Int32))] [(115 : Int32), (105 : Int32), (110 : Int32), (103 : Int32), (108 : Int32), (101 : Int32), (116 : Int32), (111 : Int32), (110 : Int32)] t kt cd zz bs cs (by decide) hn (own_l1_chs own_sing) hr (GE_sgs.ext X170.old.2) (GW_sgs.ext X170.old.2) (GC_sgs.ext X170.old.2) (GV_sgt.ext X170.old.2) (Or.inl ⟨by decide, rfl, rfl, by decide⟩) c171 c172 c173 c174 q4) rfl pd_13 rfl rfl (by decide) (W := 0) (Nat.le_of_eq rfl) (by decide) (by decide) (by decide) all0 (pc' := 33) rfl ?_
  rintro _ T175 h175 L175 X175 K175 ⟨rfl, -⟩
  have sz_h175 := K175.1
  have K0_h175 : Keep h0 h175 [] := K0_h167.trans K175 all0
  have e0 : own_eqv [(115 : Int32), (105 : Int32), (110 : Int32), (103 : Int32), (108 : Int32), (101 : Int32), (116 : Int32), (111 : Int32), (110 : Int32)] cs = 0 := if_neg (fun q => hz1 (q.trans hk_P))
  refine k_ifYes X175 d_prog_35_4_33 ((if0 _ _).trans (teq e0).1) (pc' := 39) (by decide) (by decide) ?_
  refine k_iinc X175 d_prog_35_4_39 rfl (w := (1 : Int32)) (by decide) (Ls' := #[.val (.ref s0), .val .null, .val (.ref r_166), .val (.int (2 : Int32)), .val (.int (1 : Int32)), .val (.ref sg)]) rfl (pc' := 42) rfl ?_
  refine k_goto X175 d_prog_35_4_42 (pc' := 12) (by decide) (by decide) ?_
  refine k_iload X175 d_prog_35_4_12 rfl (pc' := 14) rfl ?_
  refine k_iloadN X175 d_prog_35_4_14 rfl (pc' := 15) rfl ?_
  refine k_icmpNo X175 d_prog_35_4_15 (by decide) (pc' := 18) rfl ?_
  refine k_aloadN X175 d_prog_35_4_18 rfl rfl (pc' := 19) rfl ?_
  refine k_iload X175 d_prog_35_4_19 rfl (pc' := 21) rfl ?_
  have c177 := (q167_0.keep K175 nin0)
  refine k_aaload X175 d_prog_35_4_21 c177 rfl (by decide) (by decide) (v := (.ref pr)) rfl (pc' := 22) rfl ?_
  refine k_astore X175 d_prog_35_4_22 rfl (Ls' := #[.val (.ref s0), .val .null, .val (.ref r_166), .val (.int (2 : Int32)), .val (.int (1 : Int32)), .val (.ref pr)]) rfl (pc' := 24) rfl ?_
  refine k_aload X175 d_prog_35_4_24 rfl rfl (pc' := 26) rfl ?_
  refine k_getF X175 d_prog_35_4_26 (host := "") (Or.inl (w_87 hw)) Via.refl (GF_pr.ext X175.old.2) (pc' := 29) rfl fun T178 X179 => ?_
  refine k_aloadN X179 d_prog_35_4_29 rfl rfl (pc' := 30) rfl ?_
  have c180 := (c171.keep K175)
  have c181 := (c172.keep K175 nin0)
  have c182 := (c173.keep K175 nin0)
  have c183 := (c174.keep K175 nin0)
  refine k_callVVF X179 (y := (⟨"java/lang/String", "equals", "(Ljava/lang/Object;)Z"⟩ : MethodName)) d_prog_35_4_30 (w_89 hw) (w_57 hw) (w_59 hw) (w_58 hw) (w_1 hw) (w_60 hw) (by decide) (notFace_of_selects (args := #[]) (mvT X179.hZ (w_59 hw))) (GE_prs.ext X179.old.2) (argsL := [(.ref s0)]) (rest := []) (own_eq l Z a0 hw G n0 h175 X179.old prs s0 prt kprt (0 : Int32) (9 : Int32) [(.int (112 : Int32)), (.int (114 : Int32)), (.int (111 : Int32)), (.int (116 : Int32)), (.int (111 : Int32)), (.int (116 : Int32)), (.int (121 : Int32)), (.int (112 : Int32)), (.int (101 : Int32))] [(112 : Int32), (114 : Int32), (111 : Int32), (116 : Int32), (111 : Int32), (116 : Int32), (121 : Int32), (112 : Int32), (101 : Int32)] t kt cd zz bs cs (by decide) hn (own_l1_chs own_proto) hr (GE_prs.ext X179.old.2) (GW_prs.ext X179.old.2) (GC_prs.ext X179.old.2) (GV_prt.ext X179.old.2) (Or.inl ⟨by decide, rfl, rfl, by decide⟩) c180 c181 c182 c183 q4) rfl pd_13 rfl rfl (by decide) (W := 0) (Nat.le_of_eq rfl) (by decide) (by decide) (by decide) all0 (pc' := 33) rfl ?_
  rintro _ T184 h184 L184 X184 K184 ⟨rfl, -⟩
  have sz_h184 := K184.1
  have K0_h184 : Keep h0 h184 [] := K0_h175.trans K184 all0
  have e1 : ¬ own_eqv [(112 : Int32), (114 : Int32), (111 : Int32), (116 : Int32), (111 : Int32), (116 : Int32), (121 : Int32), (112 : Int32), (101 : Int32)] cs = 0 := by rw [hk_P]; decide
  refine k_ifNo X184 d_prog_35_4_33 ((if0 _ _).trans (feq e1).1) (pc' := 36) rfl ?_
  refine k_aload X184 d_prog_35_4_36 rfl rfl (pc' := 38) rfl ?_
  refine k_astoreN X184 d_prog_35_4_38 rfl (Ls' := #[.val (.ref s0), .val (.ref pr), .val (.ref r_166), .val (.int (2 : Int32)), .val (.int (1 : Int32)), .val (.ref pr)]) rfl (pc' := 39) rfl ?_
  refine k_iinc X184 d_prog_35_4_39 rfl (w := (2 : Int32)) (by decide) (Ls' := #[.val (.ref s0), .val (.ref pr), .val (.ref r_166), .val (.int (2 : Int32)), .val (.int (2 : Int32)), .val (.ref pr)]) rfl (pc' := 42) rfl ?_
  refine k_goto X184 d_prog_35_4_42 (pc' := 12) (by decide) (by decide) ?_
  refine k_iload X184 d_prog_35_4_12 rfl (pc' := 14) rfl ?_
  refine k_iloadN X184 d_prog_35_4_14 rfl (pc' := 15) rfl ?_
  refine k_icmpYes X184 d_prog_35_4_15 (by decide) (pc' := 45) (by decide) (by decide) ?_
  refine k_aloadN X184 d_prog_35_4_45 rfl rfl (pc' := 46) rfl ?_
  exact k_retFA X184 d_prog_35_4_46 rfl rfl rfl rfl K0_h184 ⟨_, rfl, rfl, trivial⟩ (by decide) (by decide)
set_option maxRecDepth 65536 in
set_option maxHeartbeats 40000000 in
theorem own_ofN (l : Launch) (Z : State) (a0 : Array Value) (hw : ∀ d ∈ tables_1, d.before a0 Z = true) {zc : Int32} {fm : Value} {va : Nat} {kva : ClassId} {sg : Nat} {pr : Nat} {sgs : Nat} {sgt : Nat} {ksgt : ClassId} {prs : Nat} {prt : Nat} {kprt : ClassId}  (G : Gl Z zc fm va kva sg pr sgs sgt ksgt prs prt kprt) (n0 : Nat) (h0 : Heap) (O0 : Old Z n0 h0) (s0 : Nat) (t : Nat) (kt : ClassId) (cd : Int32) (zz : Int32) (bs : List Value) (cs : List Int32) (hn : cs.length < 536870912) (hr : own_chs cs) (hk_N : ¬ cs = [(115 : Int32), (105 : Int32), (110 : Int32), (103 : Int32), (108 : Int32), (101 : Int32), (116 : Int32), (111 : Int32), (110 : Int32)] ∧ ¬ cs = [(112 : Int32), (114 : Int32), (111 : Int32), (116 : Int32), (111 : Int32), (116 : Int32), (121 : Int32), (112 : Int32), (101 : Int32)])  (q0 : Exa Z h0 s0 "java/lang/String") (q1 : Fld Z h0 s0 "java/lang/String" "value" "[B" (.ref t)) (q2 : Fld Z h0 s0 "java/lang/String" "coder" "B" (.int cd)) (q3 : Arv Z h0 t kt .byte zz bs (.int (0 : Int32))) (q4 : own_cod cs cd zz bs) :
    MetF l [] Z n0 (⟨"com/example/wirewright/wirewright/definition/Scope", "ofAttribute", "(Ljava/lang/String;)Lcom/example/wirewright/wirewright/definition/Scope;"⟩ : MethodName) prog_35_method_4_code 6 (Option.some (FieldType.object "com/example/wirewright/wirewright/definition/Scope")) ({ frames := 2, cells := 1, slots := 2, locals := 28 } : Room) #[(.ref s0)] h0 [] (fun r h' => ∃ w, r = some w ∧ w = .null ∧ True) := by
  refine metF (plainFor_of_name pn_4) O0 (Ls := #[.val (.ref s0), .unset, .unset, .unset, .unset, .unset]) (fun m => by first | rfl | (simp [entryFrame, mkF, argsToLocals, Value.category]; done)) ?_
  intro p e s m below meth c T0 X0
  have K0_h0 := Keep.refl h0 []
  have n0le := X0.n0le
  have ltq0 := own_n q0.lt
  have ltq1 := own_n q1.lt
  have ltq2 := own_n q2.lt
  have ltq3 := own_n q3.lt
  obtain ⟨G_cs, G_zc, G_fm, isref_fm, GS_va, GV_va, GE_va, GS_sg, GE_sg, GF_sg, GE_sgs, GC_sgs, GW_sgs, GV_sgt, GS_pr, GE_pr, GF_pr, GE_prs, GC_prs, GW_prs, GV_prt⟩ := id G
  have oz := X0.old.1
  have ltz0 := own_n GV_va.lt
  have ltz1 := own_n GE_va.lt
  have ltz2 := own_n GE_sg.lt
  have ltz3 := own_n GE_sgs.lt
  have ltz4 := own_n GV_sgt.lt
  have ltz5 := own_n GE_pr.lt
  have ltz6 := own_n GE_prs.lt
  have ltz7 := own_n GV_prt.lt
  have hz1 : ¬ [(115 : Int32), (105 : Int32), (110 : Int32), (103 : Int32), (108 : Int32), (101 : Int32), (116 : Int32), (111 : Int32), (110 : Int32)] = [(112 : Int32), (114 : Int32), (111 : Int32), (116 : Int32), (111 : Int32), (116 : Int32), (121 : Int32), (112 : Int32), (101 : Int32)] := by decide
  refine k_aconstNull X0 d_prog_35_4_0 (pc' := 1) rfl ?_
  refine k_astoreN X0 d_prog_35_4_1 rfl (Ls' := #[.val (.ref s0), .val .null, .unset, .unset, .unset, .unset]) rfl (pc' := 2) rfl ?_
  refine k_callSVF X0 (y := (⟨"com/example/wirewright/wirewright/definition/Scope", "values", "()[Lcom/example/wirewright/wirewright/definition/Scope;"⟩ : MethodName)) d_prog_35_4_2 (w_70 hw) (w_71 hw) (w_68 hw) (w_72 hw) (by decide) (argsL := []) (rest := []) (own_values l Z a0 hw G n0 h0 X0.old  ) rfl pd_12 rfl rfl (by decide) (W := 0) (Nat.le_of_eq rfl) (by decide) (by decide) (by decide) all0 (pc' := 5) rfl ?_
  rintro _ T187 h187 L187 X187 K187 ⟨r_186, rfl, q187_0, q187_1, q187_2⟩
  have sz_h187 := K187.1
  have K0_h187 : Keep h0 h187 [] := K0_h0.trans K187 all0
  have lt187_0 := own_n q187_0.lt
  have lt187_1 := own_n q187_1.lt
  refine k_astoreN X187 d_prog_35_4_5 rfl (Ls' := #[.val (.ref s0), .val .null, .val (.ref r_186), .unset, .unset, .unset]) rfl (pc' := 6) rfl ?_
  refine k_aloadN X187 d_prog_35_4_6 rfl rfl (pc' := 7) rfl ?_
  refine k_arlen X187 d_prog_35_4_7 q187_0 (pc' := 8) rfl ?_
  refine k_istoreN X187 d_prog_35_4_8 (Ls' := #[.val (.ref s0), .val .null, .val (.ref r_186), .val (.int (2 : Int32)), .unset, .unset]) rfl (pc' := 9) rfl ?_
  refine k_iconst X187 d_prog_35_4_9 (w := (0 : Int32)) rfl (pc' := 10) rfl ?_
  refine k_istore X187 d_prog_35_4_10 (Ls' := #[.val (.ref s0), .val .null, .val (.ref r_186), .val (.int (2 : Int32)), .val (.int (0 : Int32)), .unset]) rfl (pc' := 12) rfl ?_
  refine k_iload X187 d_prog_35_4_12 rfl (pc' := 14) rfl ?_
  refine k_iloadN X187 d_prog_35_4_14 rfl (pc' := 15) rfl ?_
  refine k_icmpNo X187 d_prog_35_4_15 (by decide) (pc' := 18) rfl ?_
  refine k_aloadN X187 d_prog_35_4_18 rfl rfl (pc' := 19) rfl ?_
  refine k_iload X187 d_prog_35_4_19 rfl (pc' := 21) rfl ?_
  refine k_aaload X187 d_prog_35_4_21 q187_0 rfl (by decide) (by decide) (v := (.ref sg)) rfl (pc' := 22) rfl ?_
  refine k_astore X187 d_prog_35_4_22 rfl (Ls' := #[.val (.ref s0), .val .null, .val (.ref r_186), .val (.int (2 : Int32)), .val (.int (0 : Int32)), .val (.ref sg)]) rfl (pc' := 24) rfl ?_
  refine k_aload X187 d_prog_35_4_24 rfl rfl (pc' := 26) rfl ?_
  refine k_getF X187 d_prog_35_4_26 (host := "") (Or.inl (w_87 hw)) Via.refl (GF_sg.ext X187.old.2) (pc' := 29) rfl fun T189 X190 => ?_
  refine k_aloadN X190 d_prog_35_4_29 rfl rfl (pc' := 30) rfl ?_
  have c191 := (q0.keep K187)
  have c192 := (q1.keep K187 nin0)
  have c193 := (q2.keep K187 nin0)
  have c194 := (q3.keep K187 nin0)
  refine k_callVVF X190 (y := (⟨"java/lang/String", "equals", "(Ljava/lang/Object;)Z"⟩ : MethodName)) d_prog_35_4_30 (w_89 hw) (w_57 hw) (w_59 hw) (w_58 hw) (w_1 hw) (w_60 hw) (by decide) (notFace_of_selects (args := #[]) (mvT X190.hZ (w_59 hw))) (GE_sgs.ext X190.old.2) (argsL := [(.ref s0)]) (rest := []) (own_eq l Z a0 hw G n0 h187 X190.old sgs s0 sgt ksgt (0 : Int32) (9 : Int32) [(.int (115 : Int32)), (.int (105 : Int32)), (.int (110 : Int32)), (.int (103 : Int32)), (.int (108 : Int32)), (.int (101 : Int32)), (.int (116 : Int32)), (.int (111 : Int32)), (.int (110 : Int32))] [(115 : Int32), (105 : Int32), (110 : Int32), (103 : Int32), (108 : Int32), (101 : Int32), (116 : Int32), (111 : Int32), (110 : Int32)] t kt cd zz bs cs (by decide) hn (own_l1_chs own_sing) hr (GE_sgs.ext X190.old.2) (GW_sgs.ext X190.old.2) (GC_sgs.ext X190.old.2) (GV_sgt.ext X190.old.2) (Or.inl ⟨by decide, rfl, rfl, by decide⟩) c191 c192 c193 c194 q4) rfl pd_13 rfl rfl (by decide) (W := 0) (Nat.le_of_eq rfl) (by decide) (by decide) (by decide) all0 (pc' := 33) rfl ?_
  rintro _ T195 h195 L195 X195 K195 ⟨rfl, -⟩
  have sz_h195 := K195.1
  have K0_h195 : Keep h0 h195 [] := K0_h187.trans K195 all0
  have e0 : own_eqv [(115 : Int32), (105 : Int32), (110 : Int32), (103 : Int32), (108 : Int32), (101 : Int32), (116 : Int32), (111 : Int32), (110 : Int32)] cs = 0 := if_neg (fun q => hk_N.1 q.symm)
  refine k_ifYes X195 d_prog_35_4_33 ((if0 _ _).trans (teq e0).1) (pc' := 39) (by decide) (by decide) ?_
  refine k_iinc X195 d_prog_35_4_39 rfl (w := (1 : Int32)) (by decide) (Ls' := #[.val (.ref s0), .val .null, .val (.ref r_186), .val (.int (2 : Int32)), .val (.int (1 : Int32)), .val (.ref sg)]) rfl (pc' := 42) rfl ?_
  refine k_goto X195 d_prog_35_4_42 (pc' := 12) (by decide) (by decide) ?_
  refine k_iload X195 d_prog_35_4_12 rfl (pc' := 14) rfl ?_
  refine k_iloadN X195 d_prog_35_4_14 rfl (pc' := 15) rfl ?_
  refine k_icmpNo X195 d_prog_35_4_15 (by decide) (pc' := 18) rfl ?_
  refine k_aloadN X195 d_prog_35_4_18 rfl rfl (pc' := 19) rfl ?_
  refine k_iload X195 d_prog_35_4_19 rfl (pc' := 21) rfl ?_
  have c197 := (q187_0.keep K195 nin0)
  refine k_aaload X195 d_prog_35_4_21 c197 rfl (by decide) (by decide) (v := (.ref pr)) rfl (pc' := 22) rfl ?_
  refine k_astore X195 d_prog_35_4_22 rfl (Ls' := #[.val (.ref s0), .val .null, .val (.ref r_186), .val (.int (2 : Int32)), .val (.int (1 : Int32)), .val (.ref pr)]) rfl (pc' := 24) rfl ?_
  refine k_aload X195 d_prog_35_4_24 rfl rfl (pc' := 26) rfl ?_
  refine k_getF X195 d_prog_35_4_26 (host := "") (Or.inl (w_87 hw)) Via.refl (GF_pr.ext X195.old.2) (pc' := 29) rfl fun T198 X199 => ?_
  refine k_aloadN X199 d_prog_35_4_29 rfl rfl (pc' := 30) rfl ?_
  have c200 := (c191.keep K195)
  have c201 := (c192.keep K195 nin0)
  have c202 := (c193.keep K195 nin0)
  have c203 := (c194.keep K195 nin0)
  refine k_callVVF X199 (y := (⟨"java/lang/String", "equals", "(Ljava/lang/Object;)Z"⟩ : MethodName)) d_prog_35_4_30 (w_89 hw) (w_57 hw) (w_59 hw) (w_58 hw) (w_1 hw) (w_60 hw) (by decide) (notFace_of_selects (args := #[]) (mvT X199.hZ (w_59 hw))) (GE_prs.ext X199.old.2) (argsL := [(.ref s0)]) (rest := []) (own_eq l Z a0 hw G n0 h195 X199.old prs s0 prt kprt (0 : Int32) (9 : Int32) [(.int (112 : Int32)), (.int (114 : Int32)), (.int (111 : Int32)), (.int (116 : Int32)), (.int (111 : Int32)), (.int (116 : Int32)), (.int (121 : Int32)), (.int (112 : Int32)), (.int (101 : Int32))] [(112 : Int32), (114 : Int32), (111 : Int32), (116 : Int32), (111 : Int32), (116 : Int32), (121 : Int32), (112 : Int32), (101 : Int32)] t kt cd zz bs cs (by decide) hn (own_l1_chs own_proto) hr (GE_prs.ext X199.old.2) (GW_prs.ext X199.old.2) (GC_prs.ext X199.old.2) (GV_prt.ext X199.old.2) (Or.inl ⟨by decide, rfl, rfl, by decide⟩) c200 c201 c202 c203 q4) rfl pd_13 rfl rfl (by decide) (W := 0) (Nat.le_of_eq rfl) (by decide) (by decide) (by decide) all0 (pc' := 33) rfl ?_
  rintro _ T204 h204 L204 X204 K204 ⟨rfl, -⟩
  have sz_h204 := K204.1
  have K0_h204 : Keep h0 h204 [] := K0_h195.trans K204 all0
  have e1 : own_eqv [(112 : Int32), (114 : Int32), (111 : Int32), (116 : Int32), (111 : Int32), (116 : Int32), (121 : Int32), (112 : Int32), (101 : Int32)] cs = 0 := if_neg (fun q => hk_N.2 q.symm)
  refine k_ifYes X204 d_prog_35_4_33 ((if0 _ _).trans (teq e1).1) (pc' := 39) (by decide) (by decide) ?_
  refine k_iinc X204 d_prog_35_4_39 rfl (w := (2 : Int32)) (by decide) (Ls' := #[.val (.ref s0), .val .null, .val (.ref r_186), .val (.int (2 : Int32)), .val (.int (2 : Int32)), .val (.ref pr)]) rfl (pc' := 42) rfl ?_
  refine k_goto X204 d_prog_35_4_42 (pc' := 12) (by decide) (by decide) ?_
  refine k_iload X204 d_prog_35_4_12 rfl (pc' := 14) rfl ?_
  refine k_iloadN X204 d_prog_35_4_14 rfl (pc' := 15) rfl ?_
  refine k_icmpYes X204 d_prog_35_4_15 (by decide) (pc' := 45) (by decide) (by decide) ?_
  refine k_aloadN X204 d_prog_35_4_45 rfl rfl (pc' := 46) rfl ?_
  exact k_retFA X204 d_prog_35_4_46 rfl rfl rfl rfl K0_h204 ⟨_, rfl, rfl, trivial⟩ (by decide) (by decide)
set_option maxRecDepth 65536 in
set_option maxHeartbeats 40000000 in
theorem own_of0 (l : Launch) (Z : State) (a0 : Array Value) (hw : ∀ d ∈ tables_1, d.before a0 Z = true) {zc : Int32} {fm : Value} {va : Nat} {kva : ClassId} {sg : Nat} {pr : Nat} {sgs : Nat} {sgt : Nat} {ksgt : ClassId} {prs : Nat} {prt : Nat} {kprt : ClassId}  (G : Gl Z zc fm va kva sg pr sgs sgt ksgt prs prt kprt) (n0 : Nat) (h0 : Heap) (O0 : Old Z n0 h0)    :
    MetF l [] Z n0 (⟨"com/example/wirewright/wirewright/definition/Scope", "ofAttribute", "(Ljava/lang/String;)Lcom/example/wirewright/wirewright/definition/Scope;"⟩ : MethodName) prog_35_method_4_code 6 (Option.some (FieldType.object "com/example/wirewright/wirewright/definition/Scope")) ({ frames := 2, cells := 1, slots := 2, locals := 25 } : Room) #[.null] h0 [] (fun r h' => ∃ w, r = some w ∧ w = .null ∧ True) := by
  refine metF (plainFor_of_name pn_4) O0 (Ls := #[.val .null, .unset, .unset, .unset, .unset, .unset]) (fun m => by first | rfl | (simp [entryFrame, mkF, argsToLocals, Value.category]; done)) ?_
  intro p e s m below meth c T0 X0
  have K0_h0 := Keep.refl h0 []
  have n0le := X0.n0le
  obtain ⟨G_cs, G_zc, G_fm, isref_fm, GS_va, GV_va, GE_va, GS_sg, GE_sg, GF_sg, GE_sgs, GC_sgs, GW_sgs, GV_sgt, GS_pr, GE_pr, GF_pr, GE_prs, GC_prs, GW_prs, GV_prt⟩ := id G
  have oz := X0.old.1
  have ltz0 := own_n GV_va.lt
  have ltz1 := own_n GE_va.lt
  have ltz2 := own_n GE_sg.lt
  have ltz3 := own_n GE_sgs.lt
  have ltz4 := own_n GV_sgt.lt
  have ltz5 := own_n GE_pr.lt
  have ltz6 := own_n GE_prs.lt
  have ltz7 := own_n GV_prt.lt
  refine k_aconstNull X0 d_prog_35_4_0 (pc' := 1) rfl ?_
  refine k_astoreN X0 d_prog_35_4_1 rfl (Ls' := #[.val .null, .val .null, .unset, .unset, .unset, .unset]) rfl (pc' := 2) rfl ?_
  refine k_callSVF X0 (y := (⟨"com/example/wirewright/wirewright/definition/Scope", "values", "()[Lcom/example/wirewright/wirewright/definition/Scope;"⟩ : MethodName)) d_prog_35_4_2 (w_70 hw) (w_71 hw) (w_68 hw) (w_72 hw) (by decide) (argsL := []) (rest := []) (own_values l Z a0 hw G n0 h0 X0.old  ) rfl pd_12 rfl rfl (by decide) (W := 0) (Nat.le_of_eq rfl) (by decide) (by decide) (by decide) all0 (pc' := 5) rfl ?_
  rintro _ T207 h207 L207 X207 K207 ⟨r_206, rfl, q207_0, q207_1, q207_2⟩
  have sz_h207 := K207.1
  have K0_h207 : Keep h0 h207 [] := K0_h0.trans K207 all0
  have lt207_0 := own_n q207_0.lt
  have lt207_1 := own_n q207_1.lt
  refine k_astoreN X207 d_prog_35_4_5 rfl (Ls' := #[.val .null, .val .null, .val (.ref r_206), .unset, .unset, .unset]) rfl (pc' := 6) rfl ?_
  refine k_aloadN X207 d_prog_35_4_6 rfl rfl (pc' := 7) rfl ?_
  refine k_arlen X207 d_prog_35_4_7 q207_0 (pc' := 8) rfl ?_
  refine k_istoreN X207 d_prog_35_4_8 (Ls' := #[.val .null, .val .null, .val (.ref r_206), .val (.int (2 : Int32)), .unset, .unset]) rfl (pc' := 9) rfl ?_
  refine k_iconst X207 d_prog_35_4_9 (w := (0 : Int32)) rfl (pc' := 10) rfl ?_
  refine k_istore X207 d_prog_35_4_10 (Ls' := #[.val .null, .val .null, .val (.ref r_206), .val (.int (2 : Int32)), .val (.int (0 : Int32)), .unset]) rfl (pc' := 12) rfl ?_
  refine k_iload X207 d_prog_35_4_12 rfl (pc' := 14) rfl ?_
  refine k_iloadN X207 d_prog_35_4_14 rfl (pc' := 15) rfl ?_
  refine k_icmpNo X207 d_prog_35_4_15 (by decide) (pc' := 18) rfl ?_
  refine k_aloadN X207 d_prog_35_4_18 rfl rfl (pc' := 19) rfl ?_
  refine k_iload X207 d_prog_35_4_19 rfl (pc' := 21) rfl ?_
  refine k_aaload X207 d_prog_35_4_21 q207_0 rfl (by decide) (by decide) (v := (.ref sg)) rfl (pc' := 22) rfl ?_
  refine k_astore X207 d_prog_35_4_22 rfl (Ls' := #[.val .null, .val .null, .val (.ref r_206), .val (.int (2 : Int32)), .val (.int (0 : Int32)), .val (.ref sg)]) rfl (pc' := 24) rfl ?_
  refine k_aload X207 d_prog_35_4_24 rfl rfl (pc' := 26) rfl ?_
  refine k_getF X207 d_prog_35_4_26 (host := "") (Or.inl (w_87 hw)) Via.refl (GF_sg.ext X207.old.2) (pc' := 29) rfl fun T209 X210 => ?_
  refine k_aloadN X210 d_prog_35_4_29 rfl rfl (pc' := 30) rfl ?_
  refine k_callVVF X210 (y := (⟨"java/lang/String", "equals", "(Ljava/lang/Object;)Z"⟩ : MethodName)) d_prog_35_4_30 (w_89 hw) (w_57 hw) (w_59 hw) (w_58 hw) (w_1 hw) (w_60 hw) (by decide) (notFace_of_selects (args := #[]) (mvT X210.hZ (w_59 hw))) (GE_sgs.ext X210.old.2) (argsL := [.null]) (rest := []) (own_eqNull l Z a0 hw G n0 h207 X210.old sgs ) rfl pd_13 rfl rfl (by decide) (W := 0) (Nat.le_of_eq rfl) (by decide) (by decide) (by decide) all0 (pc' := 33) rfl ?_
  rintro _ T211 h211 L211 X211 K211 ⟨rfl, -⟩
  have sz_h211 := K211.1
  have K0_h211 : Keep h0 h211 [] := K0_h207.trans K211 all0
  refine k_ifYes X211 d_prog_35_4_33 (by decide) (pc' := 39) (by decide) (by decide) ?_
  refine k_iinc X211 d_prog_35_4_39 rfl (w := (1 : Int32)) (by decide) (Ls' := #[.val .null, .val .null, .val (.ref r_206), .val (.int (2 : Int32)), .val (.int (1 : Int32)), .val (.ref sg)]) rfl (pc' := 42) rfl ?_
  refine k_goto X211 d_prog_35_4_42 (pc' := 12) (by decide) (by decide) ?_
  refine k_iload X211 d_prog_35_4_12 rfl (pc' := 14) rfl ?_
  refine k_iloadN X211 d_prog_35_4_14 rfl (pc' := 15) rfl ?_
  refine k_icmpNo X211 d_prog_35_4_15 (by decide) (pc' := 18) rfl ?_
  refine k_aloadN X211 d_prog_35_4_18 rfl rfl (pc' := 19) rfl ?_
  refine k_iload X211 d_prog_35_4_19 rfl (pc' := 21) rfl ?_
  have c213 := (q207_0.keep K211 nin0)
  refine k_aaload X211 d_prog_35_4_21 c213 rfl (by decide) (by decide) (v := (.ref pr)) rfl (pc' := 22) rfl ?_
  refine k_astore X211 d_prog_35_4_22 rfl (Ls' := #[.val .null, .val .null, .val (.ref r_206), .val (.int (2 : Int32)), .val (.int (1 : Int32)), .val (.ref pr)]) rfl (pc' := 24) rfl ?_
  refine k_aload X211 d_prog_35_4_24 rfl rfl (pc' := 26) rfl ?_
  refine k_getF X211 d_prog_35_4_26 (host := "") (Or.inl (w_87 hw)) Via.refl (GF_pr.ext X211.old.2) (pc' := 29) rfl fun T214 X215 => ?_
  refine k_aloadN X215 d_prog_35_4_29 rfl rfl (pc' := 30) rfl ?_
  refine k_callVVF X215 (y := (⟨"java/lang/String", "equals", "(Ljava/lang/Object;)Z"⟩ : MethodName)) d_prog_35_4_30 (w_89 hw) (w_57 hw) (w_59 hw) (w_58 hw) (w_1 hw) (w_60 hw) (by decide) (notFace_of_selects (args := #[]) (mvT X215.hZ (w_59 hw))) (GE_prs.ext X215.old.2) (argsL := [.null]) (rest := []) (own_eqNull l Z a0 hw G n0 h211 X215.old prs ) rfl pd_13 rfl rfl (by decide) (W := 0) (Nat.le_of_eq rfl) (by decide) (by decide) (by decide) all0 (pc' := 33) rfl ?_
  rintro _ T216 h216 L216 X216 K216 ⟨rfl, -⟩
  have sz_h216 := K216.1
  have K0_h216 : Keep h0 h216 [] := K0_h211.trans K216 all0
  refine k_ifYes X216 d_prog_35_4_33 (by decide) (pc' := 39) (by decide) (by decide) ?_
  refine k_iinc X216 d_prog_35_4_39 rfl (w := (2 : Int32)) (by decide) (Ls' := #[.val .null, .val .null, .val (.ref r_206), .val (.int (2 : Int32)), .val (.int (2 : Int32)), .val (.ref pr)]) rfl (pc' := 42) rfl ?_
  refine k_goto X216 d_prog_35_4_42 (pc' := 12) (by decide) (by decide) ?_
  refine k_iload X216 d_prog_35_4_12 rfl (pc' := 14) rfl ?_
  refine k_iloadN X216 d_prog_35_4_14 rfl (pc' := 15) rfl ?_
  refine k_icmpYes X216 d_prog_35_4_15 (by decide) (pc' := 45) (by decide) (by decide) ?_
  refine k_aloadN X216 d_prog_35_4_45 rfl rfl (pc' := 46) rfl ?_
  exact k_retFA X216 d_prog_35_4_46 rfl rfl rfl rfl K0_h216 ⟨_, rfl, rfl, trivial⟩ (by decide) (by decide)
set_option maxRecDepth 65536 in
set_option maxHeartbeats 40000000 in
theorem own_law (l : Launch) (Z : State) (a0 : Array Value) (hw : ∀ d ∈ tables_1, d.before a0 Z = true) {zc : Int32} {fm : Value} {va : Nat} {kva : ClassId} {sg : Nat} {pr : Nat} {sgs : Nat} {sgt : Nat} {ksgt : ClassId} {prs : Nat} {prt : Nat} {kprt : ClassId} (G : Gl Z zc fm va kva sg pr sgs sgt ksgt prs prt kprt) (n0 : Nat) (h0 : Heap) (O0 : Old Z n0 h0) (p0 : Int32) (p1 : Int32) (p2 : Int32) (p3 : Int32) (p4 : Int32) :
    MetH l tables_1 Z EL n0 (⟨"com/example/wirewright/wirewright/definition/ScopeOfAttributePinLaw", "law", "(IIIII)Z"⟩ : MethodName) code 13 (some .boolean) room_1 #[(.int p0), (.int p1), (.int p2), (.int p3), (.int p4)] h0 [] (fun r v' h' => ∃ w, r = some w ∧ w = .int (1 : Int32) ∧ True) := by
  refine metH (hEL hw) (plainFor_of_name pn_5) O0 (Ls := #[.val (.int p0), .val (.int p1), .val (.int p2), .val (.int p3), .val (.int p4), .unset, .unset, .unset, .unset, .unset, .unset, .unset, .unset]) (fun m => by first | rfl | (simp [entryFrame, mkF, argsToLocals, Value.category]; done)) ?_
  intro p e s m below meth c T0 v0 X0 hSf
  have K0_h0 := Keep.refl h0 []
  have n0le := X0.n0le
  obtain ⟨G_cs, G_zc, G_fm, isref_fm, GS_va, GV_va, GE_va, GS_sg, GE_sg, GF_sg, GE_sgs, GC_sgs, GW_sgs, GV_sgt, GS_pr, GE_pr, GF_pr, GE_prs, GC_prs, GW_prs, GV_prt⟩ := id G
  have oz := X0.old.1
  have ltz0 := own_n GV_va.lt
  have ltz1 := own_n GE_va.lt
  have ltz2 := own_n GE_sg.lt
  have ltz3 := own_n GE_sgs.lt
  have ltz4 := own_n GV_sgt.lt
  have ltz5 := own_n GE_pr.lt
  have ltz6 := own_n GE_prs.lt
  have ltz7 := own_n GV_prt.lt
  have tail : ∀ (v : Vm) (T : State) (h : Heap) (L : List Loc) (o5 o6 s0 t : Nat) (i7 i8 i9 i10 : Int32) (s12 : Slot) (kt : ClassId) (zz : Int32) (bs : List Value) (cs : List Int32), One s12 → WP p l e room_1 (s.setVm v) m #[(.int p0), (.int p1), (.int p2), (.int p3), (.int p4)] below meth c Z "com/example/wirewright/wirewright/definition/ScopeOfAttributePinLaw" "law" code 13 (some .boolean) n0 (InvH Z a0 EL s v) (Safe Z EL v) T h L 16 300 → Keep h0 h [] → Exa Z h s0 "java/lang/String" → Fld Z h s0 "java/lang/String" "value" "[B" (.ref t) → Fld Z h s0 "java/lang/String" "coder" "B" (.int (0 : Int32)) → Arv Z h t kt .byte zz bs (.int (0 : Int32)) → own_cod cs 0 zz bs → cs.length < 536870912 → own_chs cs → Run p.tables e below (PH Z EL s below n0 h0 [] (fun r v' h' => ∃ w, r = some w ∧ w = .int (1 : Int32) ∧ True) room_1.cells room_1.slots) T (mkF m 442 #[.val (.int p0), .val (.int p1), .val (.int p2), .val (.int p3), .val (.int p4), .val (.ref o5), .val (.ref o6), .val (.int i7), .val (.int i8), .val (.int i9), .val (.int i10), .val (.ref s0), s12] []) := by
    intro v T h L o5 o6 s0 t i7 i8 i9 i10 s12 kt zz bs cs h12 X K E1 F1 F2 V1 hcod hn hr
    have nle := X.n0le
    have lh0 := K.1
    have ozz := X.old.1
    have lE := own_n E1.lt
    have lV := own_n V1.lt
    refine k_aconstNull X at_442 (pc' := 443) rfl ?_
    refine k_astore X at_443 rfl (Ls' := #[.val (.int p0), .val (.int p1), .val (.int p2), .val (.int p3), .val (.int p4), .val (.ref o5), .val (.ref o6), .val (.int i7), .val (.int i8), .val (.int i9), .val (.int i10), .val (.ref s0), .val .null]) (by rcases h12 with rfl | ⟨w, rfl, hw⟩; rfl; cases w <;> first | rfl | (simp [Value.category] at hw)) (pc' := 445) rfl ?_
    refine k_aload X at_445 rfl rfl (pc' := 447) rfl ?_
    refine k_ifnullNo X at_447 (pc' := 450) rfl ?_
    refine k_aload X at_450 rfl rfl (pc' := 452) rfl ?_
    refine k_ldcR X at_452 (w_0 hw) (own_wS hw) (List.mem_of_getElem? (i := 1) rfl) (vs := [(.int (115 : Int32)), (.int (105 : Int32)), (.int (110 : Int32)), (.int (103 : Int32)), (.int (108 : Int32)), (.int (101 : Int32)), (.int (116 : Int32)), (.int (111 : Int32)), (.int (110 : Int32))]) (z := (9 : Int32)) (by decide) (by decide) rfl (n := 36) (by decide) (by decide) (by decide) (by decide) (pc' := 454) rfl fun s218 bb218 kb218 v218 T218 h218 X218 K218 C218 E218 Fc218 Fv218 V218 nq218 => ?_
    have sz_h218 := K218.1
    have K0_h218 : Keep h0 h218 [] := K.trans K218 all0
    have lt218 := own_n E218.lt
    have ltb218 := own_n V218.lt
    have c219 := (E1.keep K218)
    have c220 := (F1.keep K218 nin0)
    have c221 := (F2.keep K218 nin0)
    have c222 := (V1.keep K218 nin0)
    refine k_callVVF X218 (y := (⟨"java/lang/String", "equals", "(Ljava/lang/Object;)Z"⟩ : MethodName)) at_454 (w_56 hw) (w_57 hw) (w_59 hw) (w_58 hw) (w_1 hw) (w_60 hw) (by decide) (notFace_of_selects (args := #[]) (mvT X218.hZ (w_59 hw))) c219 (argsL := [(.ref s218)]) (rest := []) (own_eq l Z a0 hw G n0 h218 X218.old s0 s218 t kt (0 : Int32) zz bs cs bb218 kb218 (0 : Int32) (9 : Int32) [(.int (115 : Int32)), (.int (105 : Int32)), (.int (110 : Int32)), (.int (103 : Int32)), (.int (108 : Int32)), (.int (101 : Int32)), (.int (116 : Int32)), (.int (111 : Int32)), (.int (110 : Int32))] [(115 : Int32), (105 : Int32), (110 : Int32), (103 : Int32), (108 : Int32), (101 : Int32), (116 : Int32), (111 : Int32), (110 : Int32)] hn (by decide) hr (own_l1_chs own_sing) c219 c220 c221 c222 hcod E218 Fv218 Fc218 V218 (Or.inl ⟨by decide, rfl, rfl, by decide⟩)) rfl pd_13 rfl rfl (by decide) (W := 0) (Nat.le_of_eq rfl) (by decide) (by decide) (by decide) all0 (pc' := 457) rfl ?_
    rintro _ T223 h223 L223 X223 K223 ⟨rfl, -⟩
    have sz_h223 := K223.1
    have K0_h223 : Keep h0 h223 [] := K0_h218.trans K223 all0
    by_cases hc225 : own_eqv cs [(115 : Int32), (105 : Int32), (110 : Int32), (103 : Int32), (108 : Int32), (101 : Int32), (116 : Int32), (111 : Int32), (110 : Int32)] = (0 : Int32)
    · have hk1 := own_ofne hc225
      refine k_ifYes X223 at_457 ((if0 _ _).trans (teq hc225).1) (pc' := 468) (by decide) (by decide) ?_
      refine k_aload X223 at_468 rfl rfl (pc' := 470) rfl ?_
      refine k_ldcR X223 at_470 (w_65 hw) (own_wS hw) (List.mem_of_getElem? (i := 2) rfl) (vs := [(.int (112 : Int32)), (.int (114 : Int32)), (.int (111 : Int32)), (.int (116 : Int32)), (.int (111 : Int32)), (.int (116 : Int32)), (.int (121 : Int32)), (.int (112 : Int32)), (.int (101 : Int32))]) (z := (9 : Int32)) (by decide) (by decide) rfl (n := 36) (by decide) (by decide) (by decide) (by decide) (pc' := 472) rfl fun s226 bb226 kb226 v226 T226 h226 X226 K226 C226 E226 Fc226 Fv226 V226 nq226 => ?_
      have sz_h226 := K226.1
      have K0_h226 : Keep h0 h226 [] := K0_h223.trans K226 all0
      have lt226 := own_n E226.lt
      have ltb226 := own_n V226.lt
      have c227 := ((c219.keep K223).keep K226)
      have c228 := ((c220.keep K223 nin0).keep K226 nin0)
      have c229 := ((c221.keep K223 nin0).keep K226 nin0)
      have c230 := ((c222.keep K223 nin0).keep K226 nin0)
      refine k_callVVF X226 (y := (⟨"java/lang/String", "equals", "(Ljava/lang/Object;)Z"⟩ : MethodName)) at_472 (w_56 hw) (w_57 hw) (w_59 hw) (w_58 hw) (w_1 hw) (w_60 hw) (by decide) (notFace_of_selects (args := #[]) (mvT X226.hZ (w_59 hw))) c227 (argsL := [(.ref s226)]) (rest := []) (own_eq l Z a0 hw G n0 h226 X226.old s0 s226 t kt (0 : Int32) zz bs cs bb226 kb226 (0 : Int32) (9 : Int32) [(.int (112 : Int32)), (.int (114 : Int32)), (.int (111 : Int32)), (.int (116 : Int32)), (.int (111 : Int32)), (.int (116 : Int32)), (.int (121 : Int32)), (.int (112 : Int32)), (.int (101 : Int32))] [(112 : Int32), (114 : Int32), (111 : Int32), (116 : Int32), (111 : Int32), (116 : Int32), (121 : Int32), (112 : Int32), (101 : Int32)] hn (by decide) hr (own_l1_chs own_proto) c227 c228 c229 c230 hcod E226 Fv226 Fc226 V226 (Or.inl ⟨by decide, rfl, rfl, by decide⟩)) rfl pd_13 rfl rfl (by decide) (W := 0) (Nat.le_of_eq rfl) (by decide) (by decide) (by decide) all0 (pc' := 475) rfl ?_
      rintro _ T231 h231 L231 X231 K231 ⟨rfl, -⟩
      have sz_h231 := K231.1
      have K0_h231 : Keep h0 h231 [] := K0_h226.trans K231 all0
      by_cases hc233 : own_eqv cs [(112 : Int32), (114 : Int32), (111 : Int32), (116 : Int32), (111 : Int32), (116 : Int32), (121 : Int32), (112 : Int32), (101 : Int32)] = (0 : Int32)
      · have hk2 := own_ofne hc233
        refine k_ifYes X231 at_475 ((if0 _ _).trans (teq hc233).1) (pc' := 483) (by decide) (by decide) ?_
        refine k_aload X231 at_483 rfl rfl (pc' := 485) rfl ?_
        have c234 := (c227.keep K231)
        have c235 := (c228.keep K231 nin0)
        have c236 := (c229.keep K231 nin0)
        have c237 := (c230.keep K231 nin0)
        refine k_callSVF X231 (y := (⟨"com/example/wirewright/wirewright/definition/Scope", "ofAttribute", "(Ljava/lang/String;)Lcom/example/wirewright/wirewright/definition/Scope;"⟩ : MethodName)) at_485 (w_66 hw) (w_67 hw) (w_68 hw) (w_69 hw) (by decide) (argsL := [(.ref s0)]) (rest := []) (own_ofN l Z a0 hw G n0 h231 X231.old s0 t kt (0 : Int32) zz bs cs hn hr (⟨hk1, hk2⟩) c234 c235 c236 c237 hcod) rfl pd_14 rfl rfl (by decide) (W := 0) (Nat.le_of_eq rfl) (by decide) (by decide) (by decide) all0 (pc' := 488) rfl ?_
        rintro _ T238 h238 L238 X238 K238 ⟨rfl, -⟩
        have sz_h238 := K238.1
        have K0_h238 : Keep h0 h238 [] := K0_h231.trans K238 all0
        refine k_aload X238 at_488 rfl rfl (pc' := 490) rfl ?_
        refine k_acmp X238 true at_490 rfl rfl (decide_eq_true rfl) (by decide) (pc' := 493) (by decide) ?_
        refine k_iconst X238 at_493 (w := (1 : Int32)) rfl (pc' := 494) rfl ?_
        refine k_goto X238 at_494 (pc' := 498) (by decide) (by decide) ?_
        exact k_retHN X238 (w := (1 : Int32)) at_498 (t := .boolean) rfl (by simp) rfl K0_h238 (fun v' C' => ⟨_, rfl, rfl, trivial⟩) (by decide) (by decide)
      · have hk := own_ofeq hc233
        refine k_ifNo X231 at_475 ((if0 _ _).trans (feq hc233).1) (pc' := 478) rfl ?_
        refine k_getS X231 at_478 (host := "") (Or.inl (w_91 hw)) Via.refl (GS_pr.ext X231.old.2) (pc' := 481) rfl fun T240 X241 => ?_
        refine k_astore X241 at_481 rfl (Ls' := #[.val (.int p0), .val (.int p1), .val (.int p2), .val (.int p3), .val (.int p4), .val (.ref o5), .val (.ref o6), .val (.int i7), .val (.int i8), .val (.int i9), .val (.int i10), .val (.ref s0), .val (.ref pr)]) rfl (pc' := 483) rfl ?_
        refine k_aload X241 at_483 rfl rfl (pc' := 485) rfl ?_
        have c242 := (c227.keep K231)
        have c243 := (c228.keep K231 nin0)
        have c244 := (c229.keep K231 nin0)
        have c245 := (c230.keep K231 nin0)
        refine k_callSVF X241 (y := (⟨"com/example/wirewright/wirewright/definition/Scope", "ofAttribute", "(Ljava/lang/String;)Lcom/example/wirewright/wirewright/definition/Scope;"⟩ : MethodName)) at_485 (w_66 hw) (w_67 hw) (w_68 hw) (w_69 hw) (by decide) (argsL := [(.ref s0)]) (rest := []) (own_ofP l Z a0 hw G n0 h231 X241.old s0 t kt (0 : Int32) zz bs cs hn hr hk c242 c243 c244 c245 hcod) rfl pd_14 rfl rfl (by decide) (W := 0) (Nat.le_of_eq rfl) (by decide) (by decide) (by decide) all0 (pc' := 488) rfl ?_
        rintro _ T246 h246 L246 X246 K246 ⟨rfl, -⟩
        have sz_h246 := K246.1
        have K0_h246 : Keep h0 h246 [] := K0_h231.trans K246 all0
        refine k_aload X246 at_488 rfl rfl (pc' := 490) rfl ?_
        refine k_acmp X246 true at_490 rfl rfl (decide_eq_true rfl) (by decide) (pc' := 493) (by decide) ?_
        refine k_iconst X246 at_493 (w := (1 : Int32)) rfl (pc' := 494) rfl ?_
        refine k_goto X246 at_494 (pc' := 498) (by decide) (by decide) ?_
        exact k_retHN X246 (w := (1 : Int32)) at_498 (t := .boolean) rfl (by simp) rfl K0_h246 (fun v' C' => ⟨_, rfl, rfl, trivial⟩) (by decide) (by decide)
    · have hk := own_ofeq hc225
      refine k_ifNo X223 at_457 ((if0 _ _).trans (feq hc225).1) (pc' := 460) rfl ?_
      refine k_getS X223 at_460 (host := "") (Or.inl (w_92 hw)) Via.refl (GS_sg.ext X223.old.2) (pc' := 463) rfl fun T248 X249 => ?_
      refine k_astore X249 at_463 rfl (Ls' := #[.val (.int p0), .val (.int p1), .val (.int p2), .val (.int p3), .val (.int p4), .val (.ref o5), .val (.ref o6), .val (.int i7), .val (.int i8), .val (.int i9), .val (.int i10), .val (.ref s0), .val (.ref sg)]) rfl (pc' := 465) rfl ?_
      refine k_goto X249 at_465 (pc' := 483) (by decide) (by decide) ?_
      refine k_aload X249 at_483 rfl rfl (pc' := 485) rfl ?_
      have c250 := (c219.keep K223)
      have c251 := (c220.keep K223 nin0)
      have c252 := (c221.keep K223 nin0)
      have c253 := (c222.keep K223 nin0)
      refine k_callSVF X249 (y := (⟨"com/example/wirewright/wirewright/definition/Scope", "ofAttribute", "(Ljava/lang/String;)Lcom/example/wirewright/wirewright/definition/Scope;"⟩ : MethodName)) at_485 (w_66 hw) (w_67 hw) (w_68 hw) (w_69 hw) (by decide) (argsL := [(.ref s0)]) (rest := []) (own_ofS l Z a0 hw G n0 h223 X249.old s0 t kt (0 : Int32) zz bs cs hn hr hk c250 c251 c252 c253 hcod) rfl pd_14 rfl rfl (by decide) (W := 0) (Nat.le_of_eq rfl) (by decide) (by decide) (by decide) all0 (pc' := 488) rfl ?_
      rintro _ T254 h254 L254 X254 K254 ⟨rfl, -⟩
      have sz_h254 := K254.1
      have K0_h254 : Keep h0 h254 [] := K0_h223.trans K254 all0
      refine k_aload X254 at_488 rfl rfl (pc' := 490) rfl ?_
      refine k_acmp X254 true at_490 rfl rfl (decide_eq_true rfl) (by decide) (pc' := 493) (by decide) ?_
      refine k_iconst X254 at_493 (w := (1 : Int32)) rfl (pc' := 494) rfl ?_
      refine k_goto X254 at_494 (pc' := 498) (by decide) (by decide) ?_
      exact k_retHN X254 (w := (1 : Int32)) at_498 (t := .boolean) rfl (by simp) rfl K0_h254 (fun v' C' => ⟨_, rfl, rfl, trivial⟩) (by decide) (by decide)
  have mid : ∀ (v : Vm) (T : State) (h : Heap) (L : List Loc) (o5 o6 : Nat) (i7 i8 : Int32) (k6 : ClassId) (cs : List Int32), WP p l e room_1 (s.setVm v) m #[(.int p0), (.int p1), (.int p2), (.int p3), (.int p4)] below meth c Z "com/example/wirewright/wirewright/definition/ScopeOfAttributePinLaw" "law" code 13 (some .boolean) n0 (InvH Z a0 EL s v) (Safe Z EL v) T h L 3 49 → Keep h0 h [] → Arv Z h o6 k6 .char (9 : Int32) (cs.map Value.int) (.int (0 : Int32)) → cs.length = 9 → own_l1 cs → (¬ i8 < 0 ∧ ¬ 255 < i8) → n0 ≤ o6 → Run p.tables e below (PH Z EL s below n0 h0 [] (fun r v' h' => ∃ w, r = some w ∧ w = .int (1 : Int32) ∧ True) room_1.cells room_1.slots) T (mkF m 148 #[.val (.int p0), .val (.int p1), .val (.int p2), .val (.int p3), .val (.int p4), .val (.ref o5), .val (.ref o6), .val (.int i7), .val (.int i8), .unset, .unset, .unset, .unset] []) := by
    intro v T h L o5 o6 i7 i8 k6 cs X K V6 hlen hl1 h8 ge6
    have nle := X.n0le
    have lh0 := K.1
    have ozz := X.old.1
    have l6 := own_n V6.lt
    have c_0 := own_l1_at hl1 0 (by omega)
    have c_1 := own_l1_at hl1 1 (by omega)
    have c_2 := own_l1_at hl1 2 (by omega)
    have c_3 := own_l1_at hl1 3 (by omega)
    have c_4 := own_l1_at hl1 4 (by omega)
    have c_5 := own_l1_at hl1 5 (by omega)
    have c_6 := own_l1_at hl1 6 (by omega)
    have c_7 := own_l1_at hl1 7 (by omega)
    have c_8 := own_l1_at hl1 8 (by omega)
    obtain ⟨c2, hc2⟩ : ∃ c2, (((p4.toUInt32 >>> ((8 : Int32) &&& 31).toUInt32).toInt32) &&& (255 : Int32)) = c2 := ⟨_, rfl⟩
    have h2 : ¬ c2 < 0 ∧ ¬ 255 < c2 := hc2 ▸ own_mask_rng _
    obtain ⟨md, hmd⟩ : ∃ md, (p3 &&& (2147483647 : Int32)) - ((p3 &&& (2147483647 : Int32)) / (4 : Int32)) * (4 : Int32) = md := ⟨_, rfl⟩
    refine k_iload X at_148 rfl (pc' := 150) rfl ?_
    refine k_bipush X at_150 (w := (8 : Int32)) rfl (pc' := 152) rfl ?_
    refine k_iushr X at_152 (w := ((p4.toUInt32 >>> ((8 : Int32) &&& 31).toUInt32).toInt32)) rfl (pc' := 153) rfl ?_
    refine k_sipush X at_153 (w := (255 : Int32)) rfl (pc' := 156) rfl ?_
    refine k_iand X at_156 (w := (((p4.toUInt32 >>> ((8 : Int32) &&& 31).toUInt32).toInt32) &&& (255 : Int32))) rfl (pc' := 157) rfl ?_
    refine k_i2c X at_157 (w := c2) ((i2c_mask _).trans hc2) (pc' := 158) rfl ?_
    refine k_istore X at_158 (Ls' := #[.val (.int p0), .val (.int p1), .val (.int p2), .val (.int p3), .val (.int p4), .val (.ref o5), .val (.ref o6), .val (.int i7), .val (.int i8), .val (.int c2), .unset, .unset, .unset]) rfl (pc' := 160) rfl ?_
    refine k_iloadN X at_160 rfl (pc' := 161) rfl ?_
    refine k_ldcI X at_161 (w_34 hw) (pc' := 163) rfl ?_
    refine k_iand X at_163 (w := (p3 &&& (2147483647 : Int32))) rfl (pc' := 164) rfl ?_
    refine k_iconst X at_164 (w := (4 : Int32)) rfl (pc' := 165) rfl ?_
    refine k_irem X at_165 (by decide) (w := md) hmd (pc' := 166) rfl ?_
    refine k_istore X at_166 (Ls' := #[.val (.int p0), .val (.int p1), .val (.int p2), .val (.int p3), .val (.int p4), .val (.ref o5), .val (.ref o6), .val (.int i7), .val (.int i8), .val (.int c2), .val (.int md), .unset, .unset]) rfl (pc' := 168) rfl ?_
    refine k_iload X at_168 rfl (pc' := 170) rfl ?_
    by_cases hc256 : md = (0 : Int32)
    · refine k_ifNo X at_170 ((if0 _ _).trans (teq hc256).2) (pc' := 173) rfl ?_
      refine k_newO X at_173 (w_35 hw) (w_2 hw) (w_1 hw) (by decide) (by decide) (pc' := 176) rfl fun T257 h257 b257 g257 X257 K257 E257 D257 S257 lt257 ge257 => ?_
      have sz_h257 := K257.1
      have K0_h257 : Keep h0 h257 [] := K.trans K257 all0
      have Fn257_value : Fld Z h257 b257 "java/lang/String" "value" "[B" .null := D257 (Or.inr (w_4 hw)) (ty := (.array .byte)) (by decide)
      have Fn257_coder : Fld Z h257 b257 "java/lang/String" "coder" "B" (.int (0 : Int32)) := D257 (Or.inr (w_5 hw)) (ty := .byte) (by decide)
      refine k_dup X257 at_176 rfl (pc' := 177) rfl ?_
      refine k_aload X257 at_177 rfl rfl (pc' := 179) rfl ?_
      have c258 := (V6.keep K257 nin0)
      have ge261 : n0 ≤ b257 := by omega
      refine k_callPNF X257 (y := (⟨"java/lang/String", "<init>", "([C)V"⟩ : MethodName)) at_179 (w_36 hw) (w_37 hw) (w_1 hw) (w_38 hw) (by decide) rfl rfl (argsL := [(.ref o6)]) (rest := [(.ref b257)]) (own_initL l Z a0 hw G n0 h257 X257.old b257 o6 k6 (9 : Int32) (cs.map Value.int) cs rfl (by rw [hlen]; rfl) (by omega) (by omega) (own_l1_all hl1) (by omega) E257 Fn257_value Fn257_coder c258) rfl pd_15 rfl rfl (by decide) (W := 1) (Nat.le_of_eq rfl) (by decide) (by decide) (by decide) (allS ⟨S257, ge261⟩ all0) (pc' := 182) rfl ?_
      rintro T262 h262 L262 X262 K262 ⟨t_259, kt_260, q262_0, q262_1, q262_2, q262_3, q262_4⟩
      have sz_h262 := K262.1
      have K0_h262 : Keep h0 h262 [] := K0_h257.trans K262 (allS (Or.inr (by omega)) all0)
      have lt262_0 := own_n q262_0.lt
      have lt262_1 := own_n q262_1.lt
      have lt262_2 := own_n q262_2.lt
      have lt262_3 := own_n q262_3.lt
      refine k_astore X262 at_182 rfl (Ls' := #[.val (.int p0), .val (.int p1), .val (.int p2), .val (.int p3), .val (.int p4), .val (.ref o5), .val (.ref o6), .val (.int i7), .val (.int i8), .val (.int c2), .val (.int md), .val (.ref b257), .unset]) rfl (pc' := 184) rfl ?_
      refine k_goto X262 at_184 (pc' := 442) (by decide) (by decide) ?_
      exact tail _ _ _ _ _ _ _ _ _ _ _ _ _ _ _ _ cs (One.u) (X262.up (by decide) (by decide)) K0_h262 q262_0 q262_2 q262_1 q262_3 (by have q := own_codOfL hl1; rw [hlen] at q; exact q) (by omega) (own_l1_chs hl1)
    · refine k_ifYes X at_170 ((if0 _ _).trans (feq hc256).2) (pc' := 187) (by decide) (by decide) ?_
      refine k_iload X at_187 rfl (pc' := 189) rfl ?_
      refine k_iconst X at_189 (w := (1 : Int32)) rfl (pc' := 190) rfl ?_
      by_cases hc263 : md = (1 : Int32)
      · refine k_icmpNo X at_190 (teq hc263).2 (pc' := 193) rfl ?_
        refine k_newO X at_193 (w_35 hw) (w_2 hw) (w_1 hw) (by decide) (by decide) (pc' := 196) rfl fun T264 h264 b264 g264 X264 K264 E264 D264 S264 lt264 ge264 => ?_
        have sz_h264 := K264.1
        have K0_h264 : Keep h0 h264 [] := K.trans K264 all0
        have Fn264_value : Fld Z h264 b264 "java/lang/String" "value" "[B" .null := D264 (Or.inr (w_4 hw)) (ty := (.array .byte)) (by decide)
        have Fn264_coder : Fld Z h264 b264 "java/lang/String" "coder" "B" (.int (0 : Int32)) := D264 (Or.inr (w_5 hw)) (ty := .byte) (by decide)
        refine k_dup X264 at_196 rfl (pc' := 197) rfl ?_
        refine k_bipush X264 at_197 (w := (8 : Int32)) rfl (pc' := 199) rfl ?_
        refine k_newP X264 at_199 (w_8 hw) (by decide) (cap := 8) (by decide) (by decide) (by decide) (by decide) (pc' := 201) rfl fun T265 h265 b265 k265 g265 X265 K265 V265 S265 lt265 ge265 => ?_
        have sz_h265 := K265.1
        have K0_h265 : Keep h0 h265 [] := K0_h264.trans K265 all0
        have V265' : Arv Z h265 b265 k265 .char (8 : Int32) [(.int (0 : Int32)), (.int (0 : Int32)), (.int (0 : Int32)), (.int (0 : Int32)), (.int (0 : Int32)), (.int (0 : Int32)), (.int (0 : Int32)), (.int (0 : Int32))] (.int (0 : Int32)) := Arv.pad V265 (pad_rep [] (.int (0 : Int32)) 8)
        refine k_dup X265 at_201 rfl (pc' := 202) rfl ?_
        refine k_iconst X265 at_202 (w := (0 : Int32)) rfl (pc' := 203) rfl ?_
        refine k_aload X265 at_203 rfl rfl (pc' := 205) rfl ?_
        refine k_iconst X265 at_205 (w := (0 : Int32)) rfl (pc' := 206) rfl ?_
        have c266 := ((V6.keep K264 nin0).keep K265 nin0)
        refine k_caload X265 at_206 c266 (by decide) (by decide) (v := (.int (cs.getD 0 0))) (own_getc cs 0) (pc' := 207) rfl ?_
        have ge268 : n0 ≤ b265 := by omega
        refine k_castore X265 (w := (cs.getD 0 0)) 0 at_207 V265' (by decide) (by decide) rfl (Nat.le_of_ble_eq_true rfl) (own_i2c_id c_0.1 (own_255 c_0.2)) (vs' := [(.int (cs.getD 0 0)), (.int (0 : Int32)), (.int (0 : Int32)), (.int (0 : Int32)), (.int (0 : Int32)), (.int (0 : Int32)), (.int (0 : Int32)), (.int (0 : Int32))]) rfl S265 ge268 (pc' := 208) rfl fun T267 h267 L267 X267 K267 V267 => ?_
        have sz_h267 := K267.1
        have K0_h267 : Keep h0 h267 [] := K0_h265.trans K267 (allS (Or.inr (by omega)) all0)
        refine k_dup X267 at_208 rfl (pc' := 209) rfl ?_
        refine k_iconst X267 at_209 (w := (1 : Int32)) rfl (pc' := 210) rfl ?_
        refine k_aload X267 at_210 rfl rfl (pc' := 212) rfl ?_
        refine k_iconst X267 at_212 (w := (1 : Int32)) rfl (pc' := 213) rfl ?_
        have c269 := (c266.keep K267 (ninS (own_ne (by omega) : o6 ≠ b265) nin0))
        refine k_caload X267 at_213 c269 (by decide) (by decide) (v := (.int (cs.getD 1 0))) (own_getc cs 1) (pc' := 214) rfl ?_
        have c271 := (X265.sf K267 (allS ⟨S265, ge268⟩ all0) S265)
        have ge272 : n0 ≤ b265 := by omega
        refine k_castore X267 (w := (cs.getD 1 0)) 1 at_214 V267 (by decide) (by decide) rfl (Nat.le_of_ble_eq_true rfl) (own_i2c_id c_1.1 (own_255 c_1.2)) (vs' := [(.int (cs.getD 0 0)), (.int (cs.getD 1 0)), (.int (0 : Int32)), (.int (0 : Int32)), (.int (0 : Int32)), (.int (0 : Int32)), (.int (0 : Int32)), (.int (0 : Int32))]) rfl c271 ge272 (pc' := 215) rfl fun T270 h270 L270 X270 K270 V270 => ?_
        have sz_h270 := K270.1
        have K0_h270 : Keep h0 h270 [] := K0_h267.trans K270 (allS (Or.inr (by omega)) all0)
        refine k_dup X270 at_215 rfl (pc' := 216) rfl ?_
        refine k_iconst X270 at_216 (w := (2 : Int32)) rfl (pc' := 217) rfl ?_
        refine k_aload X270 at_217 rfl rfl (pc' := 219) rfl ?_
        refine k_iconst X270 at_219 (w := (2 : Int32)) rfl (pc' := 220) rfl ?_
        have c273 := (c269.keep K270 (ninS (own_ne (by omega) : o6 ≠ b265) nin0))
        refine k_caload X270 at_220 c273 (by decide) (by decide) (v := (.int (cs.getD 2 0))) (own_getc cs 2) (pc' := 221) rfl ?_
        have c275 := (X267.sf K270 (allS ⟨c271, ge272⟩ all0) c271)
        have ge276 : n0 ≤ b265 := by omega
        refine k_castore X270 (w := (cs.getD 2 0)) 2 at_221 V270 (by decide) (by decide) rfl (Nat.le_of_ble_eq_true rfl) (own_i2c_id c_2.1 (own_255 c_2.2)) (vs' := [(.int (cs.getD 0 0)), (.int (cs.getD 1 0)), (.int (cs.getD 2 0)), (.int (0 : Int32)), (.int (0 : Int32)), (.int (0 : Int32)), (.int (0 : Int32)), (.int (0 : Int32))]) rfl c275 ge276 (pc' := 222) rfl fun T274 h274 L274 X274 K274 V274 => ?_
        have sz_h274 := K274.1
        have K0_h274 : Keep h0 h274 [] := K0_h270.trans K274 (allS (Or.inr (by omega)) all0)
        refine k_dup X274 at_222 rfl (pc' := 223) rfl ?_
        refine k_iconst X274 at_223 (w := (3 : Int32)) rfl (pc' := 224) rfl ?_
        refine k_aload X274 at_224 rfl rfl (pc' := 226) rfl ?_
        refine k_iconst X274 at_226 (w := (3 : Int32)) rfl (pc' := 227) rfl ?_
        have c277 := (c273.keep K274 (ninS (own_ne (by omega) : o6 ≠ b265) nin0))
        refine k_caload X274 at_227 c277 (by decide) (by decide) (v := (.int (cs.getD 3 0))) (own_getc cs 3) (pc' := 228) rfl ?_
        have c279 := (X270.sf K274 (allS ⟨c275, ge276⟩ all0) c275)
        have ge280 : n0 ≤ b265 := by omega
        refine k_castore X274 (w := (cs.getD 3 0)) 3 at_228 V274 (by decide) (by decide) rfl (Nat.le_of_ble_eq_true rfl) (own_i2c_id c_3.1 (own_255 c_3.2)) (vs' := [(.int (cs.getD 0 0)), (.int (cs.getD 1 0)), (.int (cs.getD 2 0)), (.int (cs.getD 3 0)), (.int (0 : Int32)), (.int (0 : Int32)), (.int (0 : Int32)), (.int (0 : Int32))]) rfl c279 ge280 (pc' := 229) rfl fun T278 h278 L278 X278 K278 V278 => ?_
        have sz_h278 := K278.1
        have K0_h278 : Keep h0 h278 [] := K0_h274.trans K278 (allS (Or.inr (by omega)) all0)
        refine k_dup X278 at_229 rfl (pc' := 230) rfl ?_
        refine k_iconst X278 at_230 (w := (4 : Int32)) rfl (pc' := 231) rfl ?_
        refine k_aload X278 at_231 rfl rfl (pc' := 233) rfl ?_
        refine k_iconst X278 at_233 (w := (4 : Int32)) rfl (pc' := 234) rfl ?_
        have c281 := (c277.keep K278 (ninS (own_ne (by omega) : o6 ≠ b265) nin0))
        refine k_caload X278 at_234 c281 (by decide) (by decide) (v := (.int (cs.getD 4 0))) (own_getc cs 4) (pc' := 235) rfl ?_
        have c283 := (X274.sf K278 (allS ⟨c279, ge280⟩ all0) c279)
        have ge284 : n0 ≤ b265 := by omega
        refine k_castore X278 (w := (cs.getD 4 0)) 4 at_235 V278 (by decide) (by decide) rfl (Nat.le_of_ble_eq_true rfl) (own_i2c_id c_4.1 (own_255 c_4.2)) (vs' := [(.int (cs.getD 0 0)), (.int (cs.getD 1 0)), (.int (cs.getD 2 0)), (.int (cs.getD 3 0)), (.int (cs.getD 4 0)), (.int (0 : Int32)), (.int (0 : Int32)), (.int (0 : Int32))]) rfl c283 ge284 (pc' := 236) rfl fun T282 h282 L282 X282 K282 V282 => ?_
        have sz_h282 := K282.1
        have K0_h282 : Keep h0 h282 [] := K0_h278.trans K282 (allS (Or.inr (by omega)) all0)
        refine k_dup X282 at_236 rfl (pc' := 237) rfl ?_
        refine k_iconst X282 at_237 (w := (5 : Int32)) rfl (pc' := 238) rfl ?_
        refine k_aload X282 at_238 rfl rfl (pc' := 240) rfl ?_
        refine k_iconst X282 at_240 (w := (5 : Int32)) rfl (pc' := 241) rfl ?_
        have c285 := (c281.keep K282 (ninS (own_ne (by omega) : o6 ≠ b265) nin0))
        refine k_caload X282 at_241 c285 (by decide) (by decide) (v := (.int (cs.getD 5 0))) (own_getc cs 5) (pc' := 242) rfl ?_
        have c287 := (X278.sf K282 (allS ⟨c283, ge284⟩ all0) c283)
        have ge288 : n0 ≤ b265 := by omega
        refine k_castore X282 (w := (cs.getD 5 0)) 5 at_242 V282 (by decide) (by decide) rfl (Nat.le_of_ble_eq_true rfl) (own_i2c_id c_5.1 (own_255 c_5.2)) (vs' := [(.int (cs.getD 0 0)), (.int (cs.getD 1 0)), (.int (cs.getD 2 0)), (.int (cs.getD 3 0)), (.int (cs.getD 4 0)), (.int (cs.getD 5 0)), (.int (0 : Int32)), (.int (0 : Int32))]) rfl c287 ge288 (pc' := 243) rfl fun T286 h286 L286 X286 K286 V286 => ?_
        have sz_h286 := K286.1
        have K0_h286 : Keep h0 h286 [] := K0_h282.trans K286 (allS (Or.inr (by omega)) all0)
        refine k_dup X286 at_243 rfl (pc' := 244) rfl ?_
        refine k_bipush X286 at_244 (w := (6 : Int32)) rfl (pc' := 246) rfl ?_
        refine k_aload X286 at_246 rfl rfl (pc' := 248) rfl ?_
        refine k_bipush X286 at_248 (w := (6 : Int32)) rfl (pc' := 250) rfl ?_
        have c289 := (c285.keep K286 (ninS (own_ne (by omega) : o6 ≠ b265) nin0))
        refine k_caload X286 at_250 c289 (by decide) (by decide) (v := (.int (cs.getD 6 0))) (own_getc cs 6) (pc' := 251) rfl ?_
        have c291 := (X282.sf K286 (allS ⟨c287, ge288⟩ all0) c287)
        have ge292 : n0 ≤ b265 := by omega
        refine k_castore X286 (w := (cs.getD 6 0)) 6 at_251 V286 (by decide) (by decide) rfl (Nat.le_of_ble_eq_true rfl) (own_i2c_id c_6.1 (own_255 c_6.2)) (vs' := [(.int (cs.getD 0 0)), (.int (cs.getD 1 0)), (.int (cs.getD 2 0)), (.int (cs.getD 3 0)), (.int (cs.getD 4 0)), (.int (cs.getD 5 0)), (.int (cs.getD 6 0)), (.int (0 : Int32))]) rfl c291 ge292 (pc' := 252) rfl fun T290 h290 L290 X290 K290 V290 => ?_
        have sz_h290 := K290.1
        have K0_h290 : Keep h0 h290 [] := K0_h286.trans K290 (allS (Or.inr (by omega)) all0)
        refine k_dup X290 at_252 rfl (pc' := 253) rfl ?_
        refine k_bipush X290 at_253 (w := (7 : Int32)) rfl (pc' := 255) rfl ?_
        refine k_aload X290 at_255 rfl rfl (pc' := 257) rfl ?_
        refine k_bipush X290 at_257 (w := (7 : Int32)) rfl (pc' := 259) rfl ?_
        have c293 := (c289.keep K290 (ninS (own_ne (by omega) : o6 ≠ b265) nin0))
        refine k_caload X290 at_259 c293 (by decide) (by decide) (v := (.int (cs.getD 7 0))) (own_getc cs 7) (pc' := 260) rfl ?_
        have c295 := (X286.sf K290 (allS ⟨c291, ge292⟩ all0) c291)
        have ge296 : n0 ≤ b265 := by omega
        refine k_castore X290 (w := (cs.getD 7 0)) 7 at_260 V290 (by decide) (by decide) rfl (Nat.le_of_ble_eq_true rfl) (own_i2c_id c_7.1 (own_255 c_7.2)) (vs' := [(.int (cs.getD 0 0)), (.int (cs.getD 1 0)), (.int (cs.getD 2 0)), (.int (cs.getD 3 0)), (.int (cs.getD 4 0)), (.int (cs.getD 5 0)), (.int (cs.getD 6 0)), (.int (cs.getD 7 0))]) rfl c295 ge296 (pc' := 261) rfl fun T294 h294 L294 X294 K294 V294 => ?_
        have sz_h294 := K294.1
        have K0_h294 : Keep h0 h294 [] := K0_h290.trans K294 (allS (Or.inr (by omega)) all0)
        have c297 := (((((((((E264.keep K265).keep K267).keep K270).keep K274).keep K278).keep K282).keep K286).keep K290).keep K294)
        have c298 := (((((((((Fn264_value.keep K265 nin0).keep K267 (ninS (own_ne (by omega) : b264 ≠ b265) nin0)).keep K270 (ninS (own_ne (by omega) : b264 ≠ b265) nin0)).keep K274 (ninS (own_ne (by omega) : b264 ≠ b265) nin0)).keep K278 (ninS (own_ne (by omega) : b264 ≠ b265) nin0)).keep K282 (ninS (own_ne (by omega) : b264 ≠ b265) nin0)).keep K286 (ninS (own_ne (by omega) : b264 ≠ b265) nin0)).keep K290 (ninS (own_ne (by omega) : b264 ≠ b265) nin0)).keep K294 (ninS (own_ne (by omega) : b264 ≠ b265) nin0))
        have c299 := (((((((((Fn264_coder.keep K265 nin0).keep K267 (ninS (own_ne (by omega) : b264 ≠ b265) nin0)).keep K270 (ninS (own_ne (by omega) : b264 ≠ b265) nin0)).keep K274 (ninS (own_ne (by omega) : b264 ≠ b265) nin0)).keep K278 (ninS (own_ne (by omega) : b264 ≠ b265) nin0)).keep K282 (ninS (own_ne (by omega) : b264 ≠ b265) nin0)).keep K286 (ninS (own_ne (by omega) : b264 ≠ b265) nin0)).keep K290 (ninS (own_ne (by omega) : b264 ≠ b265) nin0)).keep K294 (ninS (own_ne (by omega) : b264 ≠ b265) nin0))
        have c302 := (X290.sf K294 (allS ⟨c295, ge296⟩ all0) (X286.sf K290 (allS ⟨c291, ge292⟩ all0) (X282.sf K286 (allS ⟨c287, ge288⟩ all0) (X278.sf K282 (allS ⟨c283, ge284⟩ all0) (X274.sf K278 (allS ⟨c279, ge280⟩ all0) (X270.sf K274 (allS ⟨c275, ge276⟩ all0) (X267.sf K270 (allS ⟨c271, ge272⟩ all0) (X265.sf K267 (allS ⟨S265, ge268⟩ all0) (X264.sf K265 all0 S264)))))))))
        have ge303 : n0 ≤ b264 := by omega
        refine k_callPNF X294 (y := (⟨"java/lang/String", "<init>", "([C)V"⟩ : MethodName)) at_261 (w_36 hw) (w_37 hw) (w_1 hw) (w_38 hw) (by decide) rfl rfl (argsL := [(.ref b265)]) (rest := [(.ref b264)]) (own_initL l Z a0 hw G n0 h294 X294.old b264 b265 k265 (8 : Int32) [(.int (cs.getD 0 0)), (.int (cs.getD 1 0)), (.int (cs.getD 2 0)), (.int (cs.getD 3 0)), (.int (cs.getD 4 0)), (.int (cs.getD 5 0)), (.int (cs.getD 6 0)), (.int (cs.getD 7 0))] [cs.getD 0 0, cs.getD 1 0, cs.getD 2 0, cs.getD 3 0, cs.getD 4 0, cs.getD 5 0, cs.getD 6 0, cs.getD 7 0] rfl rfl (by simp) (by simp) (own_l1_all (own_l1S c_0 (own_l1S c_1 (own_l1S c_2 (own_l1S c_3 (own_l1S c_4 (own_l1S c_5 (own_l1S c_6 (own_l1S c_7 own_l10))))))))) (by omega) c297 c298 c299 V294) rfl pd_15 rfl rfl (by decide) (W := 1) (Nat.le_of_eq rfl) (by decide) (by decide) (by decide) (allS ⟨c302, ge303⟩ all0) (pc' := 264) rfl ?_
        rintro T304 h304 L304 X304 K304 ⟨t_300, kt_301, q304_0, q304_1, q304_2, q304_3, q304_4⟩
        have sz_h304 := K304.1
        have K0_h304 : Keep h0 h304 [] := K0_h294.trans K304 (allS (Or.inr (by omega)) all0)
        have lt304_0 := own_n q304_0.lt
        have lt304_1 := own_n q304_1.lt
        have lt304_2 := own_n q304_2.lt
        have lt304_3 := own_n q304_3.lt
        refine k_astore X304 at_264 rfl (Ls' := #[.val (.int p0), .val (.int p1), .val (.int p2), .val (.int p3), .val (.int p4), .val (.ref o5), .val (.ref o6), .val (.int i7), .val (.int i8), .val (.int c2), .val (.int md), .val (.ref b264), .unset]) rfl (pc' := 266) rfl ?_
        refine k_goto X304 at_266 (pc' := 442) (by decide) (by decide) ?_
        exact tail _ _ _ _ _ _ _ _ _ _ _ _ _ _ _ _ [cs.getD 0 0, cs.getD 1 0, cs.getD 2 0, cs.getD 3 0, cs.getD 4 0, cs.getD 5 0, cs.getD 6 0, cs.getD 7 0] (One.u) (X304.up (by decide) (by decide)) K0_h304 q304_0 q304_2 q304_1 q304_3 (own_codOfL (own_l1S c_0 (own_l1S c_1 (own_l1S c_2 (own_l1S c_3 (own_l1S c_4 (own_l1S c_5 (own_l1S c_6 (own_l1S c_7 own_l10))))))))) (by simp) (own_l1_chs (own_l1S c_0 (own_l1S c_1 (own_l1S c_2 (own_l1S c_3 (own_l1S c_4 (own_l1S c_5 (own_l1S c_6 (own_l1S c_7 own_l10)))))))))
      · refine k_icmpYes X at_190 (feq hc263).2 (pc' := 269) (by decide) (by decide) ?_
        refine k_iload X at_269 rfl (pc' := 271) rfl ?_
        refine k_iconst X at_271 (w := (2 : Int32)) rfl (pc' := 272) rfl ?_
        by_cases hc305 : md = (2 : Int32)
        · refine k_icmpNo X at_272 (teq hc305).2 (pc' := 275) rfl ?_
          refine k_newO X at_275 (w_35 hw) (w_2 hw) (w_1 hw) (by decide) (by decide) (pc' := 278) rfl fun T306 h306 b306 g306 X306 K306 E306 D306 S306 lt306 ge306 => ?_
          have sz_h306 := K306.1
          have K0_h306 : Keep h0 h306 [] := K.trans K306 all0
          have Fn306_value : Fld Z h306 b306 "java/lang/String" "value" "[B" .null := D306 (Or.inr (w_4 hw)) (ty := (.array .byte)) (by decide)
          have Fn306_coder : Fld Z h306 b306 "java/lang/String" "coder" "B" (.int (0 : Int32)) := D306 (Or.inr (w_5 hw)) (ty := .byte) (by decide)
          refine k_dup X306 at_278 rfl (pc' := 279) rfl ?_
          refine k_bipush X306 at_279 (w := (10 : Int32)) rfl (pc' := 281) rfl ?_
          refine k_newP X306 at_281 (w_8 hw) (by decide) (cap := 10) (by decide) (by decide) (by decide) (by decide) (pc' := 283) rfl fun T307 h307 b307 k307 g307 X307 K307 V307 S307 lt307 ge307 => ?_
          have sz_h307 := K307.1
          have K0_h307 : Keep h0 h307 [] := K0_h306.trans K307 all0
          have V307' : Arv Z h307 b307 k307 .char (10 : Int32) [(.int (0 : Int32)), (.int (0 : Int32)), (.int (0 : Int32)), (.int (0 : Int32)), (.int (0 : Int32)), (.int (0 : Int32)), (.int (0 : Int32)), (.int (0 : Int32)), (.int (0 : Int32)), (.int (0 : Int32))] (.int (0 : Int32)) := Arv.pad V307 (pad_rep [] (.int (0 : Int32)) 10)
          refine k_dup X307 at_283 rfl (pc' := 284) rfl ?_
          refine k_iconst X307 at_284 (w := (0 : Int32)) rfl (pc' := 285) rfl ?_
          refine k_aload X307 at_285 rfl rfl (pc' := 287) rfl ?_
          refine k_iconst X307 at_287 (w := (0 : Int32)) rfl (pc' := 288) rfl ?_
          have c308 := ((V6.keep K306 nin0).keep K307 nin0)
          refine k_caload X307 at_288 c308 (by decide) (by decide) (v := (.int (cs.getD 0 0))) (own_getc cs 0) (pc' := 289) rfl ?_
          have ge310 : n0 ≤ b307 := by omega
          refine k_castore X307 (w := (cs.getD 0 0)) 0 at_289 V307' (by decide) (by decide) rfl (Nat.le_of_ble_eq_true rfl) (own_i2c_id c_0.1 (own_255 c_0.2)) (vs' := [(.int (cs.getD 0 0)), (.int (0 : Int32)), (.int (0 : Int32)), (.int (0 : Int32)), (.int (0 : Int32)), (.int (0 : Int32)), (.int (0 : Int32)), (.int (0 : Int32)), (.int (0 : Int32)), (.int (0 : Int32))]) rfl S307 ge310 (pc' := 290) rfl fun T309 h309 L309 X309 K309 V309 => ?_
          have sz_h309 := K309.1
          have K0_h309 : Keep h0 h309 [] := K0_h307.trans K309 (allS (Or.inr (by omega)) all0)
          refine k_dup X309 at_290 rfl (pc' := 291) rfl ?_
          refine k_iconst X309 at_291 (w := (1 : Int32)) rfl (pc' := 292) rfl ?_
          refine k_aload X309 at_292 rfl rfl (pc' := 294) rfl ?_
          refine k_iconst X309 at_294 (w := (1 : Int32)) rfl (pc' := 295) rfl ?_
          have c311 := (c308.keep K309 (ninS (own_ne (by omega) : o6 ≠ b307) nin0))
          refine k_caload X309 at_295 c311 (by decide) (by decide) (v := (.int (cs.getD 1 0))) (own_getc cs 1) (pc' := 296) rfl ?_
          have c313 := (X307.sf K309 (allS ⟨S307, ge310⟩ all0) S307)
          have ge314 : n0 ≤ b307 := by omega
          refine k_castore X309 (w := (cs.getD 1 0)) 1 at_296 V309 (by decide) (by decide) rfl (Nat.le_of_ble_eq_true rfl) (own_i2c_id c_1.1 (own_255 c_1.2)) (vs' := [(.int (cs.getD 0 0)), (.int (cs.getD 1 0)), (.int (0 : Int32)), (.int (0 : Int32)), (.int (0 : Int32)), (.int (0 : Int32)), (.int (0 : Int32)), (.int (0 : Int32)), (.int (0 : Int32)), (.int (0 : Int32))]) rfl c313 ge314 (pc' := 297) rfl fun T312 h312 L312 X312 K312 V312 => ?_
          have sz_h312 := K312.1
          have K0_h312 : Keep h0 h312 [] := K0_h309.trans K312 (allS (Or.inr (by omega)) all0)
          refine k_dup X312 at_297 rfl (pc' := 298) rfl ?_
          refine k_iconst X312 at_298 (w := (2 : Int32)) rfl (pc' := 299) rfl ?_
          refine k_aload X312 at_299 rfl rfl (pc' := 301) rfl ?_
          refine k_iconst X312 at_301 (w := (2 : Int32)) rfl (pc' := 302) rfl ?_
          have c315 := (c311.keep K312 (ninS (own_ne (by omega) : o6 ≠ b307) nin0))
          refine k_caload X312 at_302 c315 (by decide) (by decide) (v := (.int (cs.getD 2 0))) (own_getc cs 2) (pc' := 303) rfl ?_
          have c317 := (X309.sf K312 (allS ⟨c313, ge314⟩ all0) c313)
          have ge318 : n0 ≤ b307 := by omega
          refine k_castore X312 (w := (cs.getD 2 0)) 2 at_303 V312 (by decide) (by decide) rfl (Nat.le_of_ble_eq_true rfl) (own_i2c_id c_2.1 (own_255 c_2.2)) (vs' := [(.int (cs.getD 0 0)), (.int (cs.getD 1 0)), (.int (cs.getD 2 0)), (.int (0 : Int32)), (.int (0 : Int32)), (.int (0 : Int32)), (.int (0 : Int32)), (.int (0 : Int32)), (.int (0 : Int32)), (.int (0 : Int32))]) rfl c317 ge318 (pc' := 304) rfl fun T316 h316 L316 X316 K316 V316 => ?_
          have sz_h316 := K316.1
          have K0_h316 : Keep h0 h316 [] := K0_h312.trans K316 (allS (Or.inr (by omega)) all0)
          refine k_dup X316 at_304 rfl (pc' := 305) rfl ?_
          refine k_iconst X316 at_305 (w := (3 : Int32)) rfl (pc' := 306) rfl ?_
          refine k_aload X316 at_306 rfl rfl (pc' := 308) rfl ?_
          refine k_iconst X316 at_308 (w := (3 : Int32)) rfl (pc' := 309) rfl ?_
          have c319 := (c315.keep K316 (ninS (own_ne (by omega) : o6 ≠ b307) nin0))
          refine k_caload X316 at_309 c319 (by decide) (by decide) (v := (.int (cs.getD 3 0))) (own_getc cs 3) (pc' := 310) rfl ?_
          have c321 := (X312.sf K316 (allS ⟨c317, ge318⟩ all0) c317)
          have ge322 : n0 ≤ b307 := by omega
          refine k_castore X316 (w := (cs.getD 3 0)) 3 at_310 V316 (by decide) (by decide) rfl (Nat.le_of_ble_eq_true rfl) (own_i2c_id c_3.1 (own_255 c_3.2)) (vs' := [(.int (cs.getD 0 0)), (.int (cs.getD 1 0)), (.int (cs.getD 2 0)), (.int (cs.getD 3 0)), (.int (0 : Int32)), (.int (0 : Int32)), (.int (0 : Int32)), (.int (0 : Int32)), (.int (0 : Int32)), (.int (0 : Int32))]) rfl c321 ge322 (pc' := 311) rfl fun T320 h320 L320 X320 K320 V320 => ?_
          have sz_h320 := K320.1
          have K0_h320 : Keep h0 h320 [] := K0_h316.trans K320 (allS (Or.inr (by omega)) all0)
          refine k_dup X320 at_311 rfl (pc' := 312) rfl ?_
          refine k_iconst X320 at_312 (w := (4 : Int32)) rfl (pc' := 313) rfl ?_
          refine k_aload X320 at_313 rfl rfl (pc' := 315) rfl ?_
          refine k_iconst X320 at_315 (w := (4 : Int32)) rfl (pc' := 316) rfl ?_
          have c323 := (c319.keep K320 (ninS (own_ne (by omega) : o6 ≠ b307) nin0))
          refine k_caload X320 at_316 c323 (by decide) (by decide) (v := (.int (cs.getD 4 0))) (own_getc cs 4) (pc' := 317) rfl ?_
          have c325 := (X316.sf K320 (allS ⟨c321, ge322⟩ all0) c321)
          have ge326 : n0 ≤ b307 := by omega
          refine k_castore X320 (w := (cs.getD 4 0)) 4 at_317 V320 (by decide) (by decide) rfl (Nat.le_of_ble_eq_true rfl) (own_i2c_id c_4.1 (own_255 c_4.2)) (vs' := [(.int (cs.getD 0 0)), (.int (cs.getD 1 0)), (.int (cs.getD 2 0)), (.int (cs.getD 3 0)), (.int (cs.getD 4 0)), (.int (0 : Int32)), (.int (0 : Int32)), (.int (0 : Int32)), (.int (0 : Int32)), (.int (0 : Int32))]) rfl c325 ge326 (pc' := 318) rfl fun T324 h324 L324 X324 K324 V324 => ?_
          have sz_h324 := K324.1
          have K0_h324 : Keep h0 h324 [] := K0_h320.trans K324 (allS (Or.inr (by omega)) all0)
          refine k_dup X324 at_318 rfl (pc' := 319) rfl ?_
          refine k_iconst X324 at_319 (w := (5 : Int32)) rfl (pc' := 320) rfl ?_
          refine k_aload X324 at_320 rfl rfl (pc' := 322) rfl ?_
          refine k_iconst X324 at_322 (w := (5 : Int32)) rfl (pc' := 323) rfl ?_
          have c327 := (c323.keep K324 (ninS (own_ne (by omega) : o6 ≠ b307) nin0))
          refine k_caload X324 at_323 c327 (by decide) (by decide) (v := (.int (cs.getD 5 0))) (own_getc cs 5) (pc' := 324) rfl ?_
          have c329 := (X320.sf K324 (allS ⟨c325, ge326⟩ all0) c325)
          have ge330 : n0 ≤ b307 := by omega
          refine k_castore X324 (w := (cs.getD 5 0)) 5 at_324 V324 (by decide) (by decide) rfl (Nat.le_of_ble_eq_true rfl) (own_i2c_id c_5.1 (own_255 c_5.2)) (vs' := [(.int (cs.getD 0 0)), (.int (cs.getD 1 0)), (.int (cs.getD 2 0)), (.int (cs.getD 3 0)), (.int (cs.getD 4 0)), (.int (cs.getD 5 0)), (.int (0 : Int32)), (.int (0 : Int32)), (.int (0 : Int32)), (.int (0 : Int32))]) rfl c329 ge330 (pc' := 325) rfl fun T328 h328 L328 X328 K328 V328 => ?_
          have sz_h328 := K328.1
          have K0_h328 : Keep h0 h328 [] := K0_h324.trans K328 (allS (Or.inr (by omega)) all0)
          refine k_dup X328 at_325 rfl (pc' := 326) rfl ?_
          refine k_bipush X328 at_326 (w := (6 : Int32)) rfl (pc' := 328) rfl ?_
          refine k_aload X328 at_328 rfl rfl (pc' := 330) rfl ?_
          refine k_bipush X328 at_330 (w := (6 : Int32)) rfl (pc' := 332) rfl ?_
          have c331 := (c327.keep K328 (ninS (own_ne (by omega) : o6 ≠ b307) nin0))
          refine k_caload X328 at_332 c331 (by decide) (by decide) (v := (.int (cs.getD 6 0))) (own_getc cs 6) (pc' := 333) rfl ?_
          have c333 := (X324.sf K328 (allS ⟨c329, ge330⟩ all0) c329)
          have ge334 : n0 ≤ b307 := by omega
          refine k_castore X328 (w := (cs.getD 6 0)) 6 at_333 V328 (by decide) (by decide) rfl (Nat.le_of_ble_eq_true rfl) (own_i2c_id c_6.1 (own_255 c_6.2)) (vs' := [(.int (cs.getD 0 0)), (.int (cs.getD 1 0)), (.int (cs.getD 2 0)), (.int (cs.getD 3 0)), (.int (cs.getD 4 0)), (.int (cs.getD 5 0)), (.int (cs.getD 6 0)), (.int (0 : Int32)), (.int (0 : Int32)), (.int (0 : Int32))]) rfl c333 ge334 (pc' := 334) rfl fun T332 h332 L332 X332 K332 V332 => ?_
          have sz_h332 := K332.1
          have K0_h332 : Keep h0 h332 [] := K0_h328.trans K332 (allS (Or.inr (by omega)) all0)
          refine k_dup X332 at_334 rfl (pc' := 335) rfl ?_
          refine k_bipush X332 at_335 (w := (7 : Int32)) rfl (pc' := 337) rfl ?_
          refine k_aload X332 at_337 rfl rfl (pc' := 339) rfl ?_
          refine k_bipush X332 at_339 (w := (7 : Int32)) rfl (pc' := 341) rfl ?_
          have c335 := (c331.keep K332 (ninS (own_ne (by omega) : o6 ≠ b307) nin0))
          refine k_caload X332 at_341 c335 (by decide) (by decide) (v := (.int (cs.getD 7 0))) (own_getc cs 7) (pc' := 342) rfl ?_
          have c337 := (X328.sf K332 (allS ⟨c333, ge334⟩ all0) c333)
          have ge338 : n0 ≤ b307 := by omega
          refine k_castore X332 (w := (cs.getD 7 0)) 7 at_342 V332 (by decide) (by decide) rfl (Nat.le_of_ble_eq_true rfl) (own_i2c_id c_7.1 (own_255 c_7.2)) (vs' := [(.int (cs.getD 0 0)), (.int (cs.getD 1 0)), (.int (cs.getD 2 0)), (.int (cs.getD 3 0)), (.int (cs.getD 4 0)), (.int (cs.getD 5 0)), (.int (cs.getD 6 0)), (.int (cs.getD 7 0)), (.int (0 : Int32)), (.int (0 : Int32))]) rfl c337 ge338 (pc' := 343) rfl fun T336 h336 L336 X336 K336 V336 => ?_
          have sz_h336 := K336.1
          have K0_h336 : Keep h0 h336 [] := K0_h332.trans K336 (allS (Or.inr (by omega)) all0)
          refine k_dup X336 at_343 rfl (pc' := 344) rfl ?_
          refine k_bipush X336 at_344 (w := (8 : Int32)) rfl (pc' := 346) rfl ?_
          refine k_aload X336 at_346 rfl rfl (pc' := 348) rfl ?_
          refine k_bipush X336 at_348 (w := (8 : Int32)) rfl (pc' := 350) rfl ?_
          have c339 := (c335.keep K336 (ninS (own_ne (by omega) : o6 ≠ b307) nin0))
          refine k_caload X336 at_350 c339 (by decide) (by decide) (v := (.int (cs.getD 8 0))) (own_getc cs 8) (pc' := 351) rfl ?_
          have c341 := (X332.sf K336 (allS ⟨c337, ge338⟩ all0) c337)
          have ge342 : n0 ≤ b307 := by omega
          refine k_castore X336 (w := (cs.getD 8 0)) 8 at_351 V336 (by decide) (by decide) rfl (Nat.le_of_ble_eq_true rfl) (own_i2c_id c_8.1 (own_255 c_8.2)) (vs' := [(.int (cs.getD 0 0)), (.int (cs.getD 1 0)), (.int (cs.getD 2 0)), (.int (cs.getD 3 0)), (.int (cs.getD 4 0)), (.int (cs.getD 5 0)), (.int (cs.getD 6 0)), (.int (cs.getD 7 0)), (.int (cs.getD 8 0)), (.int (0 : Int32))]) rfl c341 ge342 (pc' := 352) rfl fun T340 h340 L340 X340 K340 V340 => ?_
          have sz_h340 := K340.1
          have K0_h340 : Keep h0 h340 [] := K0_h336.trans K340 (allS (Or.inr (by omega)) all0)
          refine k_dup X340 at_352 rfl (pc' := 353) rfl ?_
          refine k_bipush X340 at_353 (w := (9 : Int32)) rfl (pc' := 355) rfl ?_
          refine k_iload X340 at_355 rfl (pc' := 357) rfl ?_
          have c344 := (X336.sf K340 (allS ⟨c341, ge342⟩ all0) c341)
          have ge345 : n0 ≤ b307 := by omega
          refine k_castore X340 (w := c2) 9 at_357 V340 (by decide) (by decide) rfl (Nat.le_of_ble_eq_true rfl) (own_i2c_id h2.1 (own_255 h2.2)) (vs' := [(.int (cs.getD 0 0)), (.int (cs.getD 1 0)), (.int (cs.getD 2 0)), (.int (cs.getD 3 0)), (.int (cs.getD 4 0)), (.int (cs.getD 5 0)), (.int (cs.getD 6 0)), (.int (cs.getD 7 0)), (.int (cs.getD 8 0)), (.int c2)]) rfl c344 ge345 (pc' := 358) rfl fun T343 h343 L343 X343 K343 V343 => ?_
          have sz_h343 := K343.1
          have K0_h343 : Keep h0 h343 [] := K0_h340.trans K343 (allS (Or.inr (by omega)) all0)
          have c346 := (((((((((((E306.keep K307).keep K309).keep K312).keep K316).keep K320).keep K324).keep K328).keep K332).keep K336).keep K340).keep K343)
          have c347 := (((((((((((Fn306_value.keep K307 nin0).keep K309 (ninS (own_ne (by omega) : b306 ≠ b307) nin0)).keep K312 (ninS (own_ne (by omega) : b306 ≠ b307) nin0)).keep K316 (ninS (own_ne (by omega) : b306 ≠ b307) nin0)).keep K320 (ninS (own_ne (by omega) : b306 ≠ b307) nin0)).keep K324 (ninS (own_ne (by omega) : b306 ≠ b307) nin0)).keep K328 (ninS (own_ne (by omega) : b306 ≠ b307) nin0)).keep K332 (ninS (own_ne (by omega) : b306 ≠ b307) nin0)).keep K336 (ninS (own_ne (by omega) : b306 ≠ b307) nin0)).keep K340 (ninS (own_ne (by omega) : b306 ≠ b307) nin0)).keep K343 (ninS (own_ne (by omega) : b306 ≠ b307) nin0))
          have c348 := (((((((((((Fn306_coder.keep K307 nin0).keep K309 (ninS (own_ne (by omega) : b306 ≠ b307) nin0)).keep K312 (ninS (own_ne (by omega) : b306 ≠ b307) nin0)).keep K316 (ninS (own_ne (by omega) : b306 ≠ b307) nin0)).keep K320 (ninS (own_ne (by omega) : b306 ≠ b307) nin0)).keep K324 (ninS (own_ne (by omega) : b306 ≠ b307) nin0)).keep K328 (ninS (own_ne (by omega) : b306 ≠ b307) nin0)).keep K332 (ninS (own_ne (by omega) : b306 ≠ b307) nin0)).keep K336 (ninS (own_ne (by omega) : b306 ≠ b307) nin0)).keep K340 (ninS (own_ne (by omega) : b306 ≠ b307) nin0)).keep K343 (ninS (own_ne (by omega) : b306 ≠ b307) nin0))
          have c351 := (X340.sf K343 (allS ⟨c344, ge345⟩ all0) (X336.sf K340 (allS ⟨c341, ge342⟩ all0) (X332.sf K336 (allS ⟨c337, ge338⟩ all0) (X328.sf K332 (allS ⟨c333, ge334⟩ all0) (X324.sf K328 (allS ⟨c329, ge330⟩ all0) (X320.sf K324 (allS ⟨c325, ge326⟩ all0) (X316.sf K320 (allS ⟨c321, ge322⟩ all0) (X312.sf K316 (allS ⟨c317, ge318⟩ all0) (X309.sf K312 (allS ⟨c313, ge314⟩ all0) (X307.sf K309 (allS ⟨S307, ge310⟩ all0) (X306.sf K307 all0 S306)))))))))))
          have ge352 : n0 ≤ b306 := by omega
          refine k_callPNF X343 (y := (⟨"java/lang/String", "<init>", "([C)V"⟩ : MethodName)) at_358 (w_36 hw) (w_37 hw) (w_1 hw) (w_38 hw) (by decide) rfl rfl (argsL := [(.ref b307)]) (rest := [(.ref b306)]) (own_initL l Z a0 hw G n0 h343 X343.old b306 b307 k307 (10 : Int32) [(.int (cs.getD 0 0)), (.int (cs.getD 1 0)), (.int (cs.getD 2 0)), (.int (cs.getD 3 0)), (.int (cs.getD 4 0)), (.int (cs.getD 5 0)), (.int (cs.getD 6 0)), (.int (cs.getD 7 0)), (.int (cs.getD 8 0)), (.int c2)] [cs.getD 0 0, cs.getD 1 0, cs.getD 2 0, cs.getD 3 0, cs.getD 4 0, cs.getD 5 0, cs.getD 6 0, cs.getD 7 0, cs.getD 8 0, c2] rfl rfl (by simp) (by simp) (own_l1_all (own_l1S c_0 (own_l1S c_1 (own_l1S c_2 (own_l1S c_3 (own_l1S c_4 (own_l1S c_5 (own_l1S c_6 (own_l1S c_7 (own_l1S c_8 (own_l1S h2 own_l10))))))))))) (by omega) c346 c347 c348 V343) rfl pd_15 rfl rfl (by decide) (W := 1) (Nat.le_of_eq rfl) (by decide) (by decide) (by decide) (allS ⟨c351, ge352⟩ all0) (pc' := 361) rfl ?_
          rintro T353 h353 L353 X353 K353 ⟨t_349, kt_350, q353_0, q353_1, q353_2, q353_3, q353_4⟩
          have sz_h353 := K353.1
          have K0_h353 : Keep h0 h353 [] := K0_h343.trans K353 (allS (Or.inr (by omega)) all0)
          have lt353_0 := own_n q353_0.lt
          have lt353_1 := own_n q353_1.lt
          have lt353_2 := own_n q353_2.lt
          have lt353_3 := own_n q353_3.lt
          refine k_astore X353 at_361 rfl (Ls' := #[.val (.int p0), .val (.int p1), .val (.int p2), .val (.int p3), .val (.int p4), .val (.ref o5), .val (.ref o6), .val (.int i7), .val (.int i8), .val (.int c2), .val (.int md), .val (.ref b306), .unset]) rfl (pc' := 363) rfl ?_
          refine k_goto X353 at_363 (pc' := 442) (by decide) (by decide) ?_
          exact tail _ _ _ _ _ _ _ _ _ _ _ _ _ _ _ _ [cs.getD 0 0, cs.getD 1 0, cs.getD 2 0, cs.getD 3 0, cs.getD 4 0, cs.getD 5 0, cs.getD 6 0, cs.getD 7 0, cs.getD 8 0, c2] (One.u) (X353.up (by decide) (by decide)) K0_h353 q353_0 q353_2 q353_1 q353_3 (own_codOfL (own_l1S c_0 (own_l1S c_1 (own_l1S c_2 (own_l1S c_3 (own_l1S c_4 (own_l1S c_5 (own_l1S c_6 (own_l1S c_7 (own_l1S c_8 (own_l1S h2 own_l10))))))))))) (by simp) (own_l1_chs (own_l1S c_0 (own_l1S c_1 (own_l1S c_2 (own_l1S c_3 (own_l1S c_4 (own_l1S c_5 (own_l1S c_6 (own_l1S c_7 (own_l1S c_8 (own_l1S h2 own_l10)))))))))))
        · refine k_icmpYes X at_272 (feq hc305).2 (pc' := 366) (by decide) (by decide) ?_
          obtain ⟨sb, hsb⟩ : ∃ sb, p4 &&& (3 : Int32) = sb := ⟨_, rfl⟩
          refine k_iload X at_366 rfl (pc' := 368) rfl ?_
          refine k_iconst X at_368 (w := (3 : Int32)) rfl (pc' := 369) rfl ?_
          refine k_iand X at_369 (w := sb) hsb (pc' := 370) rfl ?_
          refine k_istore X at_370 (Ls' := #[.val (.int p0), .val (.int p1), .val (.int p2), .val (.int p3), .val (.int p4), .val (.ref o5), .val (.ref o6), .val (.int i7), .val (.int i8), .val (.int c2), .val (.int md), .unset, .val (.int sb)]) rfl (pc' := 372) rfl ?_
          refine k_iload X at_372 rfl (pc' := 374) rfl ?_
          by_cases hc354 : sb = (0 : Int32)
          · refine k_ifNo X at_374 ((if0 _ _).trans (teq hc354).2) (pc' := 377) rfl ?_
            refine k_aconstNull X at_377 (pc' := 378) rfl ?_
            refine k_astore X at_378 rfl (Ls' := #[.val (.int p0), .val (.int p1), .val (.int p2), .val (.int p3), .val (.int p4), .val (.ref o5), .val (.ref o6), .val (.int i7), .val (.int i8), .val (.int c2), .val (.int md), .val .null, .val (.int sb)]) rfl (pc' := 380) rfl ?_
            refine k_goto X at_380 (pc' := 442) (by decide) (by decide) ?_
            refine k_aconstNull X at_442 (pc' := 443) rfl ?_
            refine k_astore X at_443 rfl (Ls' := #[.val (.int p0), .val (.int p1), .val (.int p2), .val (.int p3), .val (.int p4), .val (.ref o5), .val (.ref o6), .val (.int i7), .val (.int i8), .val (.int c2), .val (.int md), .val .null, .val .null]) rfl (pc' := 445) rfl ?_
            refine k_aload X at_445 rfl rfl (pc' := 447) rfl ?_
            refine k_ifnullYes X at_447 (pc' := 483) (by decide) (by decide) ?_
            refine k_aload X at_483 rfl rfl (pc' := 485) rfl ?_
            refine k_callSVF X (y := (⟨"com/example/wirewright/wirewright/definition/Scope", "ofAttribute", "(Ljava/lang/String;)Lcom/example/wirewright/wirewright/definition/Scope;"⟩ : MethodName)) at_485 (w_66 hw) (w_67 hw) (w_68 hw) (w_69 hw) (by decide) (argsL := [.null]) (rest := []) (own_of0 l Z a0 hw G n0 h X.old  ) rfl pd_14 rfl rfl (by decide) (W := 0) (Nat.le_of_eq rfl) (by decide) (by decide) (by decide) all0 (pc' := 488) rfl ?_
            rintro _ T355 h355 L355 X355 K355 ⟨rfl, -⟩
            have sz_h355 := K355.1
            have K0_h355 : Keep h0 h355 [] := K.trans K355 all0
            refine k_aload X355 at_488 rfl rfl (pc' := 490) rfl ?_
            refine k_acmp X355 true at_490 rfl rfl (decide_eq_true rfl) (by decide) (pc' := 493) (by decide) ?_
            refine k_iconst X355 at_493 (w := (1 : Int32)) rfl (pc' := 494) rfl ?_
            refine k_goto X355 at_494 (pc' := 498) (by decide) (by decide) ?_
            exact k_retHN X355 (w := (1 : Int32)) at_498 (t := .boolean) rfl (by simp) rfl K0_h355 (fun v' C' => ⟨_, rfl, rfl, trivial⟩) (by decide) (by decide)
          · refine k_ifYes X at_374 ((if0 _ _).trans (feq hc354).2) (pc' := 383) (by decide) (by decide) ?_
            refine k_iload X at_383 rfl (pc' := 385) rfl ?_
            refine k_iconst X at_385 (w := (1 : Int32)) rfl (pc' := 386) rfl ?_
            by_cases hc357 : sb = (1 : Int32)
            · refine k_icmpNo X at_386 (teq hc357).2 (pc' := 389) rfl ?_
              refine k_newO X at_389 (w_35 hw) (w_2 hw) (w_1 hw) (by decide) (by decide) (pc' := 392) rfl fun T358 h358 b358 g358 X358 K358 E358 D358 S358 lt358 ge358 => ?_
              have sz_h358 := K358.1
              have K0_h358 : Keep h0 h358 [] := K.trans K358 all0
              have Fn358_value : Fld Z h358 b358 "java/lang/String" "value" "[B" .null := D358 (Or.inr (w_4 hw)) (ty := (.array .byte)) (by decide)
              have Fn358_coder : Fld Z h358 b358 "java/lang/String" "coder" "B" (.int (0 : Int32)) := D358 (Or.inr (w_5 hw)) (ty := .byte) (by decide)
              refine k_dup X358 at_392 rfl (pc' := 393) rfl ?_
              refine k_iconst X358 at_393 (w := (0 : Int32)) rfl (pc' := 394) rfl ?_
              refine k_newP X358 at_394 (w_8 hw) (by decide) (cap := 0) (by decide) (by decide) (by decide) (by decide) (pc' := 396) rfl fun T359 h359 b359 k359 g359 X359 K359 V359 S359 lt359 ge359 => ?_
              have sz_h359 := K359.1
              have K0_h359 : Keep h0 h359 [] := K0_h358.trans K359 all0
              have V359' : Arv Z h359 b359 k359 .char (0 : Int32) [] (.int (0 : Int32)) := Arv.pad V359 (pad_rep [] (.int (0 : Int32)) 0)
              have c360 := (E358.keep K359)
              have c361 := (Fn358_value.keep K359 nin0)
              have c362 := (Fn358_coder.keep K359 nin0)
              have c365 := (X358.sf K359 all0 S358)
              have ge366 : n0 ≤ b358 := by omega
              refine k_callPNH X359 (y := (⟨"java/lang/String", "<init>", "([C)V"⟩ : MethodName)) at_396 (w_36 hw) (w_37 hw) (w_1 hw) (w_38 hw) (by decide) rfl rfl (argsL := [(.ref b359)]) (rest := [(.ref b358)]) (own_initE l Z a0 hw G n0 h359 X359.old b358 b359 k359 [] (.int (0 : Int32)) (by omega) c360 c361 c362 V359') rfl pd_15 rfl rfl (by decide) (W := 1) (Nat.le_of_eq rfl) (by decide) (by decide) (by decide) (allS ⟨⟨own_n (by omega), c365⟩, ge366⟩ all0) (pc' := 399) rfl ?_
              rintro v367 T367 h367 L367 X367 K367 C367 ⟨t_363, kt_364, q367_0, q367_1, q367_2, q367_3⟩
              have sz_h367 := K367.1
              have K0_h367 : Keep h0 h367 [] := K0_h359.trans K367 (allS (Or.inr (by omega)) all0)
              have lt367_0 := own_n q367_0.lt
              have lt367_1 := own_n q367_1.lt
              have lt367_2 := own_n q367_2.lt
              have lt367_3 := own_n q367_3.lt
              refine k_astore X367 at_399 rfl (Ls' := #[.val (.int p0), .val (.int p1), .val (.int p2), .val (.int p3), .val (.int p4), .val (.ref o5), .val (.ref o6), .val (.int i7), .val (.int i8), .val (.int c2), .val (.int md), .val (.ref b358), .val (.int sb)]) rfl (pc' := 401) rfl ?_
              refine k_goto X367 at_401 (pc' := 442) (by decide) (by decide) ?_
              exact tail _ _ _ _ _ _ _ _ _ _ _ _ _ _ _ _ [] (One.val rfl) (X367.up (by decide) (by decide)) K0_h367 q367_0 q367_2 q367_1 q367_3 (Or.inl ⟨rfl, rfl, rfl, rfl⟩) (by decide) (own_l1_chs own_l10)
            · refine k_icmpYes X at_386 (feq hc357).2 (pc' := 404) (by decide) (by decide) ?_
              refine k_iload X at_404 rfl (pc' := 406) rfl ?_
              refine k_iconst X at_406 (w := (2 : Int32)) rfl (pc' := 407) rfl ?_
              by_cases hc368 : sb = (2 : Int32)
              · refine k_icmpNo X at_407 (teq hc368).2 (pc' := 410) rfl ?_
                refine k_iload X at_410 rfl (pc' := 412) rfl ?_
                refine k_callSVF X (y := (⟨"java/lang/String", "valueOf", "(C)Ljava/lang/String;"⟩ : MethodName)) at_412 (w_93 hw) (w_94 hw) (w_1 hw) (w_95 hw) (by decide) (argsL := [(.int i8)]) (rest := []) (own_vocL l Z a0 hw G n0 h X.old i8 (h8.2) ) rfl pd_16 rfl rfl (by decide) (W := 0) (Nat.le_of_eq rfl) (by decide) (by decide) (by decide) all0 (pc' := 415) rfl ?_
                rintro _ T372 h372 L372 X372 K372 ⟨r_369, t_370, kt_371, rfl, q372_0, q372_1, q372_2, q372_3, q372_4, q372_5⟩
                have sz_h372 := K372.1
                have K0_h372 : Keep h0 h372 [] := K.trans K372 all0
                have lt372_0 := own_n q372_0.lt
                have lt372_1 := own_n q372_1.lt
                have lt372_2 := own_n q372_2.lt
                have lt372_3 := own_n q372_3.lt
                refine k_astore X372 at_415 rfl (Ls' := #[.val (.int p0), .val (.int p1), .val (.int p2), .val (.int p3), .val (.int p4), .val (.ref o5), .val (.ref o6), .val (.int i7), .val (.int i8), .val (.int c2), .val (.int md), .val (.ref r_369), .val (.int sb)]) rfl (pc' := 417) rfl ?_
                refine k_goto X372 at_417 (pc' := 442) (by decide) (by decide) ?_
                exact tail _ _ _ _ _ _ _ _ _ _ _ _ _ _ _ _ [i8] (One.val rfl) (X372.up (by decide) (by decide)) K0_h372 q372_0 q372_1 q372_2 q372_3 (own_codOfL (own_l1S h8 own_l10)) (by simp) (own_l1_chs (own_l1S h8 own_l10))
              · refine k_icmpYes X at_407 (feq hc368).2 (pc' := 420) (by decide) (by decide) ?_
                refine k_newO X at_420 (w_35 hw) (w_2 hw) (w_1 hw) (by decide) (by decide) (pc' := 423) rfl fun T374 h374 b374 g374 X374 K374 E374 D374 S374 lt374 ge374 => ?_
                have sz_h374 := K374.1
                have K0_h374 : Keep h0 h374 [] := K.trans K374 all0
                have Fn374_value : Fld Z h374 b374 "java/lang/String" "value" "[B" .null := D374 (Or.inr (w_4 hw)) (ty := (.array .byte)) (by decide)
                have Fn374_coder : Fld Z h374 b374 "java/lang/String" "coder" "B" (.int (0 : Int32)) := D374 (Or.inr (w_5 hw)) (ty := .byte) (by decide)
                refine k_dup X374 at_423 rfl (pc' := 424) rfl ?_
                refine k_iconst X374 at_424 (w := (2 : Int32)) rfl (pc' := 425) rfl ?_
                refine k_newP X374 at_425 (w_8 hw) (by decide) (cap := 2) (by decide) (by decide) (by decide) (by decide) (pc' := 427) rfl fun T375 h375 b375 k375 g375 X375 K375 V375 S375 lt375 ge375 => ?_
                have sz_h375 := K375.1
                have K0_h375 : Keep h0 h375 [] := K0_h374.trans K375 all0
                have V375' : Arv Z h375 b375 k375 .char (2 : Int32) [(.int (0 : Int32)), (.int (0 : Int32))] (.int (0 : Int32)) := Arv.pad V375 (pad_rep [] (.int (0 : Int32)) 2)
                refine k_dup X375 at_427 rfl (pc' := 428) rfl ?_
                refine k_iconst X375 at_428 (w := (0 : Int32)) rfl (pc' := 429) rfl ?_
                refine k_iload X375 at_429 rfl (pc' := 431) rfl ?_
                have ge377 : n0 ≤ b375 := by omega
                refine k_castore X375 (w := i8) 0 at_431 V375' (by decide) (by decide) rfl (Nat.le_of_ble_eq_true rfl) (own_i2c_id h8.1 (own_255 h8.2)) (vs' := [(.int i8), (.int (0 : Int32))]) rfl S375 ge377 (pc' := 432) rfl fun T376 h376 L376 X376 K376 V376 => ?_
                have sz_h376 := K376.1
                have K0_h376 : Keep h0 h376 [] := K0_h375.trans K376 (allS (Or.inr (by omega)) all0)
                refine k_dup X376 at_432 rfl (pc' := 433) rfl ?_
                refine k_iconst X376 at_433 (w := (1 : Int32)) rfl (pc' := 434) rfl ?_
                refine k_iload X376 at_434 rfl (pc' := 436) rfl ?_
                have c379 := (X375.sf K376 (allS ⟨S375, ge377⟩ all0) S375)
                have ge380 : n0 ≤ b375 := by omega
                refine k_castore X376 (w := c2) 1 at_436 V376 (by decide) (by decide) rfl (Nat.le_of_ble_eq_true rfl) (own_i2c_id h2.1 (own_255 h2.2)) (vs' := [(.int i8), (.int c2)]) rfl c379 ge380 (pc' := 437) rfl fun T378 h378 L378 X378 K378 V378 => ?_
                have sz_h378 := K378.1
                have K0_h378 : Keep h0 h378 [] := K0_h376.trans K378 (allS (Or.inr (by omega)) all0)
                have c381 := (((E374.keep K375).keep K376).keep K378)
                have c382 := (((Fn374_value.keep K375 nin0).keep K376 (ninS (own_ne (by omega) : b374 ≠ b375) nin0)).keep K378 (ninS (own_ne (by omega) : b374 ≠ b375) nin0))
                have c383 := (((Fn374_coder.keep K375 nin0).keep K376 (ninS (own_ne (by omega) : b374 ≠ b375) nin0)).keep K378 (ninS (own_ne (by omega) : b374 ≠ b375) nin0))
                have c386 := (X376.sf K378 (allS ⟨c379, ge380⟩ all0) (X375.sf K376 (allS ⟨S375, ge377⟩ all0) (X374.sf K375 all0 S374)))
                have ge387 : n0 ≤ b374 := by omega
                refine k_callPNF X378 (y := (⟨"java/lang/String", "<init>", "([C)V"⟩ : MethodName)) at_437 (w_36 hw) (w_37 hw) (w_1 hw) (w_38 hw) (by decide) rfl rfl (argsL := [(.ref b375)]) (rest := [(.ref b374)]) (own_initL l Z a0 hw G n0 h378 X378.old b374 b375 k375 (2 : Int32) [(.int i8), (.int c2)] [i8, c2] rfl rfl (by simp) (by simp) (own_l1_all (own_l1S h8 (own_l1S h2 own_l10))) (by omega) c381 c382 c383 V378) rfl pd_15 rfl rfl (by decide) (W := 1) (Nat.le_of_eq rfl) (by decide) (by decide) (by decide) (allS ⟨c386, ge387⟩ all0) (pc' := 440) rfl ?_
                rintro T388 h388 L388 X388 K388 ⟨t_384, kt_385, q388_0, q388_1, q388_2, q388_3, q388_4⟩
                have sz_h388 := K388.1
                have K0_h388 : Keep h0 h388 [] := K0_h378.trans K388 (allS (Or.inr (by omega)) all0)
                have lt388_0 := own_n q388_0.lt
                have lt388_1 := own_n q388_1.lt
                have lt388_2 := own_n q388_2.lt
                have lt388_3 := own_n q388_3.lt
                refine k_astore X388 at_440 rfl (Ls' := #[.val (.int p0), .val (.int p1), .val (.int p2), .val (.int p3), .val (.int p4), .val (.ref o5), .val (.ref o6), .val (.int i7), .val (.int i8), .val (.int c2), .val (.int md), .val (.ref b374), .val (.int sb)]) rfl (pc' := 442) rfl ?_
                exact tail _ _ _ _ _ _ _ _ _ _ _ _ _ _ _ _ [i8, c2] (One.val rfl) (X388.up (by decide) (by decide)) K0_h388 q388_0 q388_2 q388_1 q388_3 (own_codOfL (own_l1S h8 (own_l1S h2 own_l10))) (by simp) (own_l1_chs (own_l1S h8 (own_l1S h2 own_l10)))
  obtain ⟨kk, hkk⟩ : ∃ kk, (p1 &&& (2147483647 : Int32)) - ((p1 &&& (2147483647 : Int32)) / (10 : Int32)) * (10 : Int32) = kk := ⟨_, rfl⟩
  have hk0 : ¬ kk < 0 := hkk ▸ own_rem_nn p1 10 (by decide)
  refine k_iloadN X0 at_0 rfl (pc' := 1) rfl ?_
  refine k_iconst X0 at_1 (w := (1 : Int32)) rfl (pc' := 2) rfl ?_
  refine k_iand X0 at_2 (w := (p0 &&& (1 : Int32))) rfl (pc' := 3) rfl ?_
  by_cases hc389 : (p0 &&& (1 : Int32)) = (0 : Int32)
  · refine k_ifNo X0 at_3 ((if0 _ _).trans (teq hc389).2) (pc' := 6) rfl ?_
    refine k_ldcR X0 at_6 (w_0 hw) (own_wS hw) (List.mem_of_getElem? (i := 1) rfl) (vs := [(.int (115 : Int32)), (.int (105 : Int32)), (.int (110 : Int32)), (.int (103 : Int32)), (.int (108 : Int32)), (.int (101 : Int32)), (.int (116 : Int32)), (.int (111 : Int32)), (.int (110 : Int32))]) (z := (9 : Int32)) (by decide) (by decide) rfl (n := 36) (by decide) (by decide) (by decide) (by decide) (pc' := 8) rfl fun s390 bb390 kb390 v390 T390 h390 X390 K390 C390 E390 Fc390 Fv390 V390 nq390 => ?_
    have sz_h390 := K390.1
    have K0_h390 : Keep h0 h390 [] := K0_h0.trans K390 all0
    have lt390 := own_n E390.lt
    have ltb390 := own_n V390.lt
    refine k_goto X390 at_8 (pc' := 13) (by decide) (by decide) ?_
    refine k_astore X390 at_13 rfl (Ls' := #[.val (.int p0), .val (.int p1), .val (.int p2), .val (.int p3), .val (.int p4), .val (.ref s390), .unset, .unset, .unset, .unset, .unset, .unset, .unset]) rfl (pc' := 15) rfl ?_
    refine k_bipush X390 at_15 (w := (9 : Int32)) rfl (pc' := 17) rfl ?_
    refine k_newP X390 at_17 (w_8 hw) (by decide) (cap := 9) (by decide) (by decide) (by decide) (by decide) (pc' := 19) rfl fun T391 h391 b391 k391 g391 X391 K391 V391 S391 lt391 ge391 => ?_
    have sz_h391 := K391.1
    have K0_h391 : Keep h0 h391 [] := K0_h390.trans K391 all0
    have V391' : Arv Z h391 b391 k391 .char (9 : Int32) [(.int (0 : Int32)), (.int (0 : Int32)), (.int (0 : Int32)), (.int (0 : Int32)), (.int (0 : Int32)), (.int (0 : Int32)), (.int (0 : Int32)), (.int (0 : Int32)), (.int (0 : Int32))] (.int (0 : Int32)) := Arv.pad V391 (pad_rep [] (.int (0 : Int32)) 9)
    refine k_astore X391 at_19 rfl (Ls' := #[.val (.int p0), .val (.int p1), .val (.int p2), .val (.int p3), .val (.int p4), .val (.ref s390), .val (.ref b391), .unset, .unset, .unset, .unset, .unset, .unset]) rfl (pc' := 21) rfl ?_
    refine k_aload X391 at_21 rfl rfl (pc' := 23) rfl ?_
    refine k_iconst X391 at_23 (w := (0 : Int32)) rfl (pc' := 24) rfl ?_
    refine k_aload X391 at_24 rfl rfl (pc' := 26) rfl ?_
    refine k_iconst X391 at_26 (w := (0 : Int32)) rfl (pc' := 27) rfl ?_
    have c392 := (E390.keep K391)
    have c393 := (Fv390.keep K391 nin0)
    have c394 := (Fc390.keep K391 nin0)
    have c395 := (V390.keep K391 nin0)
    refine k_callVVF X391 (y := (⟨"java/lang/String", "charAt", "(I)C"⟩ : MethodName)) at_27 (w_9 hw) (w_10 hw) (w_12 hw) (w_11 hw) (w_1 hw) (w_13 hw) (by decide) (notFace_of_selects (args := #[]) (mvT X391.hZ (w_12 hw))) c392 (argsL := [(.int (0 : Int32))]) (rest := [(.int (0 : Int32)), (.ref b391)]) (own_charAt l Z a0 hw G n0 h391 X391.old s390 bb390 kb390 (0 : Int32) (9 : Int32) [(.int (115 : Int32)), (.int (105 : Int32)), (.int (110 : Int32)), (.int (103 : Int32)), (.int (108 : Int32)), (.int (101 : Int32)), (.int (116 : Int32)), (.int (111 : Int32)), (.int (110 : Int32))] [(115 : Int32), (105 : Int32), (110 : Int32), (103 : Int32), (108 : Int32), (101 : Int32), (116 : Int32), (111 : Int32), (110 : Int32)] 0 (0 : Int32) rfl (by decide) (by decide) (by decide) (by decide) c392 c393 c394 c395 (Or.inl ⟨by decide, rfl, rfl, by decide⟩)) rfl pd_17 rfl rfl (by decide) (W := 2) (Nat.le_of_eq rfl) (by decide) (by decide) (by decide) all0 (pc' := 30) rfl ?_
    rintro _ T396 h396 L396 X396 K396 ⟨rfl, -⟩
    have sz_h396 := K396.1
    have K0_h396 : Keep h0 h396 [] := K0_h391.trans K396 all0
    have c398 := (V391'.keep K396 nin0)
    have c400 := (X391.sf K396 all0 S391)
    have ge401 : n0 ≤ b391 := by omega
    refine k_castore X396 (w := ([(115 : Int32), (105 : Int32), (110 : Int32), (103 : Int32), (108 : Int32), (101 : Int32), (116 : Int32), (111 : Int32), (110 : Int32)].getD 0 0)) 0 at_30 c398 (by decide) (by decide) rfl (Nat.le_of_ble_eq_true rfl) (by decide) (vs' := [(.int ([(115 : Int32), (105 : Int32), (110 : Int32), (103 : Int32), (108 : Int32), (101 : Int32), (116 : Int32), (111 : Int32), (110 : Int32)].getD 0 0)), (.int (0 : Int32)), (.int (0 : Int32)), (.int (0 : Int32)), (.int (0 : Int32)), (.int (0 : Int32)), (.int (0 : Int32)), (.int (0 : Int32)), (.int (0 : Int32))]) rfl c400 ge401 (pc' := 31) rfl fun T399 h399 L399 X399 K399 V399 => ?_
    have sz_h399 := K399.1
    have K0_h399 : Keep h0 h399 [] := K0_h396.trans K399 (allS (Or.inr (by omega)) all0)
    refine k_aload X399 at_31 rfl rfl (pc' := 33) rfl ?_
    refine k_iconst X399 at_33 (w := (1 : Int32)) rfl (pc' := 34) rfl ?_
    refine k_aload X399 at_34 rfl rfl (pc' := 36) rfl ?_
    refine k_iconst X399 at_36 (w := (1 : Int32)) rfl (pc' := 37) rfl ?_
    have c402 := ((c392.keep K396).keep K399)
    have c403 := ((c393.keep K396 nin0).keep K399 (ninS (own_ne (by omega) : s390 ≠ b391) nin0))
    have c404 := ((c394.keep K396 nin0).keep K399 (ninS (own_ne (by omega) : s390 ≠ b391) nin0))
    have c405 := ((c395.keep K396 nin0).keep K399 (ninS (own_ne (by omega) : bb390 ≠ b391) nin0))
    refine k_callVVF X399 (y := (⟨"java/lang/String", "charAt", "(I)C"⟩ : MethodName)) at_37 (w_9 hw) (w_10 hw) (w_12 hw) (w_11 hw) (w_1 hw) (w_13 hw) (by decide) (notFace_of_selects (args := #[]) (mvT X399.hZ (w_12 hw))) c402 (argsL := [(.int (1 : Int32))]) (rest := [(.int (1 : Int32)), (.ref b391)]) (own_charAt l Z a0 hw G n0 h399 X399.old s390 bb390 kb390 (0 : Int32) (9 : Int32) [(.int (115 : Int32)), (.int (105 : Int32)), (.int (110 : Int32)), (.int (103 : Int32)), (.int (108 : Int32)), (.int (101 : Int32)), (.int (116 : Int32)), (.int (111 : Int32)), (.int (110 : Int32))] [(115 : Int32), (105 : Int32), (110 : Int32), (103 : Int32), (108 : Int32), (101 : Int32), (116 : Int32), (111 : Int32), (110 : Int32)] 1 (1 : Int32) rfl (by decide) (by decide) (by decide) (by decide) c402 c403 c404 c405 (Or.inl ⟨by decide, rfl, rfl, by decide⟩)) rfl pd_17 rfl rfl (by decide) (W := 2) (Nat.le_of_eq rfl) (by decide) (by decide) (by decide) all0 (pc' := 40) rfl ?_
    rintro _ T406 h406 L406 X406 K406 ⟨rfl, -⟩
    have sz_h406 := K406.1
    have K0_h406 : Keep h0 h406 [] := K0_h399.trans K406 all0
    have c408 := (V399.keep K406 nin0)
    have c410 := (X399.sf K406 all0 (X396.sf K399 (allS ⟨c400, ge401⟩ all0) c400))
    have ge411 : n0 ≤ b391 := by omega
    refine k_castore X406 (w := ([(115 : Int32), (105 : Int32), (110 : Int32), (103 : Int32), (108 : Int32), (101 : Int32), (116 : Int32), (111 : Int32), (110 : Int32)].getD 1 0)) 1 at_40 c408 (by decide) (by decide) rfl (Nat.le_of_ble_eq_true rfl) (by decide) (vs' := [(.int ([(115 : Int32), (105 : Int32), (110 : Int32), (103 : Int32), (108 : Int32), (101 : Int32), (116 : Int32), (111 : Int32), (110 : Int32)].getD 0 0)), (.int ([(115 : Int32), (105 : Int32), (110 : Int32), (103 : Int32), (108 : Int32), (101 : Int32), (116 : Int32), (111 : Int32), (110 : Int32)].getD 1 0)), (.int (0 : Int32)), (.int (0 : Int32)), (.int (0 : Int32)), (.int (0 : Int32)), (.int (0 : Int32)), (.int (0 : Int32)), (.int (0 : Int32))]) rfl c410 ge411 (pc' := 41) rfl fun T409 h409 L409 X409 K409 V409 => ?_
    have sz_h409 := K409.1
    have K0_h409 : Keep h0 h409 [] := K0_h406.trans K409 (allS (Or.inr (by omega)) all0)
    refine k_aload X409 at_41 rfl rfl (pc' := 43) rfl ?_
    refine k_iconst X409 at_43 (w := (2 : Int32)) rfl (pc' := 44) rfl ?_
    refine k_aload X409 at_44 rfl rfl (pc' := 46) rfl ?_
    refine k_iconst X409 at_46 (w := (2 : Int32)) rfl (pc' := 47) rfl ?_
    have c412 := ((c402.keep K406).keep K409)
    have c413 := ((c403.keep K406 nin0).keep K409 (ninS (own_ne (by omega) : s390 ≠ b391) nin0))
    have c414 := ((c404.keep K406 nin0).keep K409 (ninS (own_ne (by omega) : s390 ≠ b391) nin0))
    have c415 := ((c405.keep K406 nin0).keep K409 (ninS (own_ne (by omega) : bb390 ≠ b391) nin0))
    refine k_callVVF X409 (y := (⟨"java/lang/String", "charAt", "(I)C"⟩ : MethodName)) at_47 (w_9 hw) (w_10 hw) (w_12 hw) (w_11 hw) (w_1 hw) (w_13 hw) (by decide) (notFace_of_selects (args := #[]) (mvT X409.hZ (w_12 hw))) c412 (argsL := [(.int (2 : Int32))]) (rest := [(.int (2 : Int32)), (.ref b391)]) (own_charAt l Z a0 hw G n0 h409 X409.old s390 bb390 kb390 (0 : Int32) (9 : Int32) [(.int (115 : Int32)), (.int (105 : Int32)), (.int (110 : Int32)), (.int (103 : Int32)), (.int (108 : Int32)), (.int (101 : Int32)), (.int (116 : Int32)), (.int (111 : Int32)), (.int (110 : Int32))] [(115 : Int32), (105 : Int32), (110 : Int32), (103 : Int32), (108 : Int32), (101 : Int32), (116 : Int32), (111 : Int32), (110 : Int32)] 2 (2 : Int32) rfl (by decide) (by decide) (by decide) (by decide) c412 c413 c414 c415 (Or.inl ⟨by decide, rfl, rfl, by decide⟩)) rfl pd_17 rfl rfl (by decide) (W := 2) (Nat.le_of_eq rfl) (by decide) (by decide) (by decide) all0 (pc' := 50) rfl ?_
    rintro _ T416 h416 L416 X416 K416 ⟨rfl, -⟩
    have sz_h416 := K416.1
    have K0_h416 : Keep h0 h416 [] := K0_h409.trans K416 all0
    have c418 := (V409.keep K416 nin0)
    have c420 := (X409.sf K416 all0 (X406.sf K409 (allS ⟨c410, ge411⟩ all0) c410))
    have ge421 : n0 ≤ b391 := by omega
    refine k_castore X416 (w := ([(115 : Int32), (105 : Int32), (110 : Int32), (103 : Int32), (108 : Int32), (101 : Int32), (116 : Int32), (111 : Int32), (110 : Int32)].getD 2 0)) 2 at_50 c418 (by decide) (by decide) rfl (Nat.le_of_ble_eq_true rfl) (by decide) (vs' := [(.int ([(115 : Int32), (105 : Int32), (110 : Int32), (103 : Int32), (108 : Int32), (101 : Int32), (116 : Int32), (111 : Int32), (110 : Int32)].getD 0 0)), (.int ([(115 : Int32), (105 : Int32), (110 : Int32), (103 : Int32), (108 : Int32), (101 : Int32), (116 : Int32), (111 : Int32), (110 : Int32)].getD 1 0)), (.int ([(115 : Int32), (105 : Int32), (110 : Int32), (103 : Int32), (108 : Int32), (101 : Int32), (116 : Int32), (111 : Int32), (110 : Int32)].getD 2 0)), (.int (0 : Int32)), (.int (0 : Int32)), (.int (0 : Int32)), (.int (0 : Int32)), (.int (0 : Int32)), (.int (0 : Int32))]) rfl c420 ge421 (pc' := 51) rfl fun T419 h419 L419 X419 K419 V419 => ?_
    have sz_h419 := K419.1
    have K0_h419 : Keep h0 h419 [] := K0_h416.trans K419 (allS (Or.inr (by omega)) all0)
    refine k_aload X419 at_51 rfl rfl (pc' := 53) rfl ?_
    refine k_iconst X419 at_53 (w := (3 : Int32)) rfl (pc' := 54) rfl ?_
    refine k_aload X419 at_54 rfl rfl (pc' := 56) rfl ?_
    refine k_iconst X419 at_56 (w := (3 : Int32)) rfl (pc' := 57) rfl ?_
    have c422 := ((c412.keep K416).keep K419)
    have c423 := ((c413.keep K416 nin0).keep K419 (ninS (own_ne (by omega) : s390 ≠ b391) nin0))
    have c424 := ((c414.keep K416 nin0).keep K419 (ninS (own_ne (by omega) : s390 ≠ b391) nin0))
    have c425 := ((c415.keep K416 nin0).keep K419 (ninS (own_ne (by omega) : bb390 ≠ b391) nin0))
    refine k_callVVF X419 (y := (⟨"java/lang/String", "charAt", "(I)C"⟩ : MethodName)) at_57 (w_9 hw) (w_10 hw) (w_12 hw) (w_11 hw) (w_1 hw) (w_13 hw) (by decide) (notFace_of_selects (args := #[]) (mvT X419.hZ (w_12 hw))) c422 (argsL := [(.int (3 : Int32))]) (rest := [(.int (3 : Int32)), (.ref b391)]) (own_charAt l Z a0 hw G n0 h419 X419.old s390 bb390 kb390 (0 : Int32) (9 : Int32) [(.int (115 : Int32)), (.int (105 : Int32)), (.int (110 : Int32)), (.int (103 : Int32)), (.int (108 : Int32)), (.int (101 : Int32)), (.int (116 : Int32)), (.int (111 : Int32)), (.int (110 : Int32))] [(115 : Int32), (105 : Int32), (110 : Int32), (103 : Int32), (108 : Int32), (101 : Int32), (116 : Int32), (111 : Int32), (110 : Int32)] 3 (3 : Int32) rfl (by decide) (by decide) (by decide) (by decide) c422 c423 c424 c425 (Or.inl ⟨by decide, rfl, rfl, by decide⟩)) rfl pd_17 rfl rfl (by decide) (W := 2) (Nat.le_of_eq rfl) (by decide) (by decide) (by decide) all0 (pc' := 60) rfl ?_
    rintro _ T426 h426 L426 X426 K426 ⟨rfl, -⟩
    have sz_h426 := K426.1
    have K0_h426 : Keep h0 h426 [] := K0_h419.trans K426 all0
    have c428 := (V419.keep K426 nin0)
    have c430 := (X419.sf K426 all0 (X416.sf K419 (allS ⟨c420, ge421⟩ all0) c420))
    have ge431 : n0 ≤ b391 := by omega
    refine k_castore X426 (w := ([(115 : Int32), (105 : Int32), (110 : Int32), (103 : Int32), (108 : Int32), (101 : Int32), (116 : Int32), (111 : Int32), (110 : Int32)].getD 3 0)) 3 at_60 c428 (by decide) (by decide) rfl (Nat.le_of_ble_eq_true rfl) (by decide) (vs' := [(.int ([(115 : Int32), (105 : Int32), (110 : Int32), (103 : Int32), (108 : Int32), (101 : Int32), (116 : Int32), (111 : Int32), (110 : Int32)].getD 0 0)), (.int ([(115 : Int32), (105 : Int32), (110 : Int32), (103 : Int32), (108 : Int32), (101 : Int32), (116 : Int32), (111 : Int32), (110 : Int32)].getD 1 0)), (.int ([(115 : Int32), (105 : Int32), (110 : Int32), (103 : Int32), (108 : Int32), (101 : Int32), (116 : Int32), (111 : Int32), (110 : Int32)].getD 2 0)), (.int ([(115 : Int32), (105 : Int32), (110 : Int32), (103 : Int32), (108 : Int32), (101 : Int32), (116 : Int32), (111 : Int32), (110 : Int32)].getD 3 0)), (.int (0 : Int32)), (.int (0 : Int32)), (.int (0 : Int32)), (.int (0 : Int32)), (.int (0 : Int32))]) rfl c430 ge431 (pc' := 61) rfl fun T429 h429 L429 X429 K429 V429 => ?_
    have sz_h429 := K429.1
    have K0_h429 : Keep h0 h429 [] := K0_h426.trans K429 (allS (Or.inr (by omega)) all0)
    refine k_aload X429 at_61 rfl rfl (pc' := 63) rfl ?_
    refine k_iconst X429 at_63 (w := (4 : Int32)) rfl (pc' := 64) rfl ?_
    refine k_aload X429 at_64 rfl rfl (pc' := 66) rfl ?_
    refine k_iconst X429 at_66 (w := (4 : Int32)) rfl (pc' := 67) rfl ?_
    have c432 := ((c422.keep K426).keep K429)
    have c433 := ((c423.keep K426 nin0).keep K429 (ninS (own_ne (by omega) : s390 ≠ b391) nin0))
    have c434 := ((c424.keep K426 nin0).keep K429 (ninS (own_ne (by omega) : s390 ≠ b391) nin0))
    have c435 := ((c425.keep K426 nin0).keep K429 (ninS (own_ne (by omega) : bb390 ≠ b391) nin0))
    refine k_callVVF X429 (y := (⟨"java/lang/String", "charAt", "(I)C"⟩ : MethodName)) at_67 (w_9 hw) (w_10 hw) (w_12 hw) (w_11 hw) (w_1 hw) (w_13 hw) (by decide) (notFace_of_selects (args := #[]) (mvT X429.hZ (w_12 hw))) c432 (argsL := [(.int (4 : Int32))]) (rest := [(.int (4 : Int32)), (.ref b391)]) (own_charAt l Z a0 hw G n0 h429 X429.old s390 bb390 kb390 (0 : Int32) (9 : Int32) [(.int (115 : Int32)), (.int (105 : Int32)), (.int (110 : Int32)), (.int (103 : Int32)), (.int (108 : Int32)), (.int (101 : Int32)), (.int (116 : Int32)), (.int (111 : Int32)), (.int (110 : Int32))] [(115 : Int32), (105 : Int32), (110 : Int32), (103 : Int32), (108 : Int32), (101 : Int32), (116 : Int32), (111 : Int32), (110 : Int32)] 4 (4 : Int32) rfl (by decide) (by decide) (by decide) (by decide) c432 c433 c434 c435 (Or.inl ⟨by decide, rfl, rfl, by decide⟩)) rfl pd_17 rfl rfl (by decide) (W := 2) (Nat.le_of_eq rfl) (by decide) (by decide) (by decide) all0 (pc' := 70) rfl ?_
    rintro _ T436 h436 L436 X436 K436 ⟨rfl, -⟩
    have sz_h436 := K436.1
    have K0_h436 : Keep h0 h436 [] := K0_h429.trans K436 all0
    have c438 := (V429.keep K436 nin0)
    have c440 := (X429.sf K436 all0 (X426.sf K429 (allS ⟨c430, ge431⟩ all0) c430))
    have ge441 : n0 ≤ b391 := by omega
    refine k_castore X436 (w := ([(115 : Int32), (105 : Int32), (110 : Int32), (103 : Int32), (108 : Int32), (101 : Int32), (116 : Int32), (111 : Int32), (110 : Int32)].getD 4 0)) 4 at_70 c438 (by decide) (by decide) rfl (Nat.le_of_ble_eq_true rfl) (by decide) (vs' := [(.int ([(115 : Int32), (105 : Int32), (110 : Int32), (103 : Int32), (108 : Int32), (101 : Int32), (116 : Int32), (111 : Int32), (110 : Int32)].getD 0 0)), (.int ([(115 : Int32), (105 : Int32), (110 : Int32), (103 : Int32), (108 : Int32), (101 : Int32), (116 : Int32), (111 : Int32), (110 : Int32)].getD 1 0)), (.int ([(115 : Int32), (105 : Int32), (110 : Int32), (103 : Int32), (108 : Int32), (101 : Int32), (116 : Int32), (111 : Int32), (110 : Int32)].getD 2 0)), (.int ([(115 : Int32), (105 : Int32), (110 : Int32), (103 : Int32), (108 : Int32), (101 : Int32), (116 : Int32), (111 : Int32), (110 : Int32)].getD 3 0)), (.int ([(115 : Int32), (105 : Int32), (110 : Int32), (103 : Int32), (108 : Int32), (101 : Int32), (116 : Int32), (111 : Int32), (110 : Int32)].getD 4 0)), (.int (0 : Int32)), (.int (0 : Int32)), (.int (0 : Int32)), (.int (0 : Int32))]) rfl c440 ge441 (pc' := 71) rfl fun T439 h439 L439 X439 K439 V439 => ?_
    have sz_h439 := K439.1
    have K0_h439 : Keep h0 h439 [] := K0_h436.trans K439 (allS (Or.inr (by omega)) all0)
    refine k_aload X439 at_71 rfl rfl (pc' := 73) rfl ?_
    refine k_iconst X439 at_73 (w := (5 : Int32)) rfl (pc' := 74) rfl ?_
    refine k_aload X439 at_74 rfl rfl (pc' := 76) rfl ?_
    refine k_iconst X439 at_76 (w := (5 : Int32)) rfl (pc' := 77) rfl ?_
    have c442 := ((c432.keep K436).keep K439)
    have c443 := ((c433.keep K436 nin0).keep K439 (ninS (own_ne (by omega) : s390 ≠ b391) nin0))
    have c444 := ((c434.keep K436 nin0).keep K439 (ninS (own_ne (by omega) : s390 ≠ b391) nin0))
    have c445 := ((c435.keep K436 nin0).keep K439 (ninS (own_ne (by omega) : bb390 ≠ b391) nin0))
    refine k_callVVF X439 (y := (⟨"java/lang/String", "charAt", "(I)C"⟩ : MethodName)) at_77 (w_9 hw) (w_10 hw) (w_12 hw) (w_11 hw) (w_1 hw) (w_13 hw) (by decide) (notFace_of_selects (args := #[]) (mvT X439.hZ (w_12 hw))) c442 (argsL := [(.int (5 : Int32))]) (rest := [(.int (5 : Int32)), (.ref b391)]) (own_charAt l Z a0 hw G n0 h439 X439.old s390 bb390 kb390 (0 : Int32) (9 : Int32) [(.int (115 : Int32)), (.int (105 : Int32)), (.int (110 : Int32)), (.int (103 : Int32)), (.int (108 : Int32)), (.int (101 : Int32)), (.int (116 : Int32)), (.int (111 : Int32)), (.int (110 : Int32))] [(115 : Int32), (105 : Int32), (110 : Int32), (103 : Int32), (108 : Int32), (101 : Int32), (116 : Int32), (111 : Int32), (110 : Int32)] 5 (5 : Int32) rfl (by decide) (by decide) (by decide) (by decide) c442 c443 c444 c445 (Or.inl ⟨by decide, rfl, rfl, by decide⟩)) rfl pd_17 rfl rfl (by decide) (W := 2) (Nat.le_of_eq rfl) (by decide) (by decide) (by decide) all0 (pc' := 80) rfl ?_
    rintro _ T446 h446 L446 X446 K446 ⟨rfl, -⟩
    have sz_h446 := K446.1
    have K0_h446 : Keep h0 h446 [] := K0_h439.trans K446 all0
    have c448 := (V439.keep K446 nin0)
    have c450 := (X439.sf K446 all0 (X436.sf K439 (allS ⟨c440, ge441⟩ all0) c440))
    have ge451 : n0 ≤ b391 := by omega
    refine k_castore X446 (w := ([(115 : Int32), (105 : Int32), (110 : Int32), (103 : Int32), (108 : Int32), (101 : Int32), (116 : Int32), (111 : Int32), (110 : Int32)].getD 5 0)) 5 at_80 c448 (by decide) (by decide) rfl (Nat.le_of_ble_eq_true rfl) (by decide) (vs' := [(.int ([(115 : Int32), (105 : Int32), (110 : Int32), (103 : Int32), (108 : Int32), (101 : Int32), (116 : Int32), (111 : Int32), (110 : Int32)].getD 0 0)), (.int ([(115 : Int32), (105 : Int32), (110 : Int32), (103 : Int32), (108 : Int32), (101 : Int32), (116 : Int32), (111 : Int32), (110 : Int32)].getD 1 0)), (.int ([(115 : Int32), (105 : Int32), (110 : Int32), (103 : Int32), (108 : Int32), (101 : Int32), (116 : Int32), (111 : Int32), (110 : Int32)].getD 2 0)), (.int ([(115 : Int32), (105 : Int32), (110 : Int32), (103 : Int32), (108 : Int32), (101 : Int32), (116 : Int32), (111 : Int32), (110 : Int32)].getD 3 0)), (.int ([(115 : Int32), (105 : Int32), (110 : Int32), (103 : Int32), (108 : Int32), (101 : Int32), (116 : Int32), (111 : Int32), (110 : Int32)].getD 4 0)), (.int ([(115 : Int32), (105 : Int32), (110 : Int32), (103 : Int32), (108 : Int32), (101 : Int32), (116 : Int32), (111 : Int32), (110 : Int32)].getD 5 0)), (.int (0 : Int32)), (.int (0 : Int32)), (.int (0 : Int32))]) rfl c450 ge451 (pc' := 81) rfl fun T449 h449 L449 X449 K449 V449 => ?_
    have sz_h449 := K449.1
    have K0_h449 : Keep h0 h449 [] := K0_h446.trans K449 (allS (Or.inr (by omega)) all0)
    refine k_aload X449 at_81 rfl rfl (pc' := 83) rfl ?_
    refine k_bipush X449 at_83 (w := (6 : Int32)) rfl (pc' := 85) rfl ?_
    refine k_aload X449 at_85 rfl rfl (pc' := 87) rfl ?_
    refine k_bipush X449 at_87 (w := (6 : Int32)) rfl (pc' := 89) rfl ?_
    have c452 := ((c442.keep K446).keep K449)
    have c453 := ((c443.keep K446 nin0).keep K449 (ninS (own_ne (by omega) : s390 ≠ b391) nin0))
    have c454 := ((c444.keep K446 nin0).keep K449 (ninS (own_ne (by omega) : s390 ≠ b391) nin0))
    have c455 := ((c445.keep K446 nin0).keep K449 (ninS (own_ne (by omega) : bb390 ≠ b391) nin0))
    refine k_callVVF X449 (y := (⟨"java/lang/String", "charAt", "(I)C"⟩ : MethodName)) at_89 (w_9 hw) (w_10 hw) (w_12 hw) (w_11 hw) (w_1 hw) (w_13 hw) (by decide) (notFace_of_selects (args := #[]) (mvT X449.hZ (w_12 hw))) c452 (argsL := [(.int (6 : Int32))]) (rest := [(.int (6 : Int32)), (.ref b391)]) (own_charAt l Z a0 hw G n0 h449 X449.old s390 bb390 kb390 (0 : Int32) (9 : Int32) [(.int (115 : Int32)), (.int (105 : Int32)), (.int (110 : Int32)), (.int (103 : Int32)), (.int (108 : Int32)), (.int (101 : Int32)), (.int (116 : Int32)), (.int (111 : Int32)), (.int (110 : Int32))] [(115 : Int32), (105 : Int32), (110 : Int32), (103 : Int32), (108 : Int32), (101 : Int32), (116 : Int32), (111 : Int32), (110 : Int32)] 6 (6 : Int32) rfl (by decide) (by decide) (by decide) (by decide) c452 c453 c454 c455 (Or.inl ⟨by decide, rfl, rfl, by decide⟩)) rfl pd_17 rfl rfl (by decide) (W := 2) (Nat.le_of_eq rfl) (by decide) (by decide) (by decide) all0 (pc' := 92) rfl ?_
    rintro _ T456 h456 L456 X456 K456 ⟨rfl, -⟩
    have sz_h456 := K456.1
    have K0_h456 : Keep h0 h456 [] := K0_h449.trans K456 all0
    have c458 := (V449.keep K456 nin0)
    have c460 := (X449.sf K456 all0 (X446.sf K449 (allS ⟨c450, ge451⟩ all0) c450))
    have ge461 : n0 ≤ b391 := by omega
    refine k_castore X456 (w := ([(115 : Int32), (105 : Int32), (110 : Int32), (103 : Int32), (108 : Int32), (101 : Int32), (116 : Int32), (111 : Int32), (110 : Int32)].getD 6 0)) 6 at_92 c458 (by decide) (by decide) rfl (Nat.le_of_ble_eq_true rfl) (by decide) (vs' := [(.int ([(115 : Int32), (105 : Int32), (110 : Int32), (103 : Int32), (108 : Int32), (101 : Int32), (116 : Int32), (111 : Int32), (110 : Int32)].getD 0 0)), (.int ([(115 : Int32), (105 : Int32), (110 : Int32), (103 : Int32), (108 : Int32), (101 : Int32), (116 : Int32), (111 : Int32), (110 : Int32)].getD 1 0)), (.int ([(115 : Int32), (105 : Int32), (110 : Int32), (103 : Int32), (108 : Int32), (101 : Int32), (116 : Int32), (111 : Int32), (110 : Int32)].getD 2 0)), (.int ([(115 : Int32), (105 : Int32), (110 : Int32), (103 : Int32), (108 : Int32), (101 : Int32), (116 : Int32), (111 : Int32), (110 : Int32)].getD 3 0)), (.int ([(115 : Int32), (105 : Int32), (110 : Int32), (103 : Int32), (108 : Int32), (101 : Int32), (116 : Int32), (111 : Int32), (110 : Int32)].getD 4 0)), (.int ([(115 : Int32), (105 : Int32), (110 : Int32), (103 : Int32), (108 : Int32), (101 : Int32), (116 : Int32), (111 : Int32), (110 : Int32)].getD 5 0)), (.int ([(115 : Int32), (105 : Int32), (110 : Int32), (103 : Int32), (108 : Int32), (101 : Int32), (116 : Int32), (111 : Int32), (110 : Int32)].getD 6 0)), (.int (0 : Int32)), (.int (0 : Int32))]) rfl c460 ge461 (pc' := 93) rfl fun T459 h459 L459 X459 K459 V459 => ?_
    have sz_h459 := K459.1
    have K0_h459 : Keep h0 h459 [] := K0_h456.trans K459 (allS (Or.inr (by omega)) all0)
    refine k_aload X459 at_93 rfl rfl (pc' := 95) rfl ?_
    refine k_bipush X459 at_95 (w := (7 : Int32)) rfl (pc' := 97) rfl ?_
    refine k_aload X459 at_97 rfl rfl (pc' := 99) rfl ?_
    refine k_bipush X459 at_99 (w := (7 : Int32)) rfl (pc' := 101) rfl ?_
    have c462 := ((c452.keep K456).keep K459)
    have c463 := ((c453.keep K456 nin0).keep K459 (ninS (own_ne (by omega) : s390 ≠ b391) nin0))
    have c464 := ((c454.keep K456 nin0).keep K459 (ninS (own_ne (by omega) : s390 ≠ b391) nin0))
    have c465 := ((c455.keep K456 nin0).keep K459 (ninS (own_ne (by omega) : bb390 ≠ b391) nin0))
    refine k_callVVF X459 (y := (⟨"java/lang/String", "charAt", "(I)C"⟩ : MethodName)) at_101 (w_9 hw) (w_10 hw) (w_12 hw) (w_11 hw) (w_1 hw) (w_13 hw) (by decide) (notFace_of_selects (args := #[]) (mvT X459.hZ (w_12 hw))) c462 (argsL := [(.int (7 : Int32))]) (rest := [(.int (7 : Int32)), (.ref b391)]) (own_charAt l Z a0 hw G n0 h459 X459.old s390 bb390 kb390 (0 : Int32) (9 : Int32) [(.int (115 : Int32)), (.int (105 : Int32)), (.int (110 : Int32)), (.int (103 : Int32)), (.int (108 : Int32)), (.int (101 : Int32)), (.int (116 : Int32)), (.int (111 : Int32)), (.int (110 : Int32))] [(115 : Int32), (105 : Int32), (110 : Int32), (103 : Int32), (108 : Int32), (101 : Int32), (116 : Int32), (111 : Int32), (110 : Int32)] 7 (7 : Int32) rfl (by decide) (by decide) (by decide) (by decide) c462 c463 c464 c465 (Or.inl ⟨by decide, rfl, rfl, by decide⟩)) rfl pd_17 rfl rfl (by decide) (W := 2) (Nat.le_of_eq rfl) (by decide) (by decide) (by decide) all0 (pc' := 104) rfl ?_
    rintro _ T466 h466 L466 X466 K466 ⟨rfl, -⟩
    have sz_h466 := K466.1
    have K0_h466 : Keep h0 h466 [] := K0_h459.trans K466 all0
    have c468 := (V459.keep K466 nin0)
    have c470 := (X459.sf K466 all0 (X456.sf K459 (allS ⟨c460, ge461⟩ all0) c460))
    have ge471 : n0 ≤ b391 := by omega
    refine k_castore X466 (w := ([(115 : Int32), (105 : Int32), (110 : Int32), (103 : Int32), (108 : Int32), (101 : Int32), (116 : Int32), (111 : Int32), (110 : Int32)].getD 7 0)) 7 at_104 c468 (by decide) (by decide) rfl (Nat.le_of_ble_eq_true rfl) (by decide) (vs' := [(.int ([(115 : Int32), (105 : Int32), (110 : Int32), (103 : Int32), (108 : Int32), (101 : Int32), (116 : Int32), (111 : Int32), (110 : Int32)].getD 0 0)), (.int ([(115 : Int32), (105 : Int32), (110 : Int32), (103 : Int32), (108 : Int32), (101 : Int32), (116 : Int32), (111 : Int32), (110 : Int32)].getD 1 0)), (.int ([(115 : Int32), (105 : Int32), (110 : Int32), (103 : Int32), (108 : Int32), (101 : Int32), (116 : Int32), (111 : Int32), (110 : Int32)].getD 2 0)), (.int ([(115 : Int32), (105 : Int32), (110 : Int32), (103 : Int32), (108 : Int32), (101 : Int32), (116 : Int32), (111 : Int32), (110 : Int32)].getD 3 0)), (.int ([(115 : Int32), (105 : Int32), (110 : Int32), (103 : Int32), (108 : Int32), (101 : Int32), (116 : Int32), (111 : Int32), (110 : Int32)].getD 4 0)), (.int ([(115 : Int32), (105 : Int32), (110 : Int32), (103 : Int32), (108 : Int32), (101 : Int32), (116 : Int32), (111 : Int32), (110 : Int32)].getD 5 0)), (.int ([(115 : Int32), (105 : Int32), (110 : Int32), (103 : Int32), (108 : Int32), (101 : Int32), (116 : Int32), (111 : Int32), (110 : Int32)].getD 6 0)), (.int ([(115 : Int32), (105 : Int32), (110 : Int32), (103 : Int32), (108 : Int32), (101 : Int32), (116 : Int32), (111 : Int32), (110 : Int32)].getD 7 0)), (.int (0 : Int32))]) rfl c470 ge471 (pc' := 105) rfl fun T469 h469 L469 X469 K469 V469 => ?_
    have sz_h469 := K469.1
    have K0_h469 : Keep h0 h469 [] := K0_h466.trans K469 (allS (Or.inr (by omega)) all0)
    refine k_aload X469 at_105 rfl rfl (pc' := 107) rfl ?_
    refine k_bipush X469 at_107 (w := (8 : Int32)) rfl (pc' := 109) rfl ?_
    refine k_aload X469 at_109 rfl rfl (pc' := 111) rfl ?_
    refine k_bipush X469 at_111 (w := (8 : Int32)) rfl (pc' := 113) rfl ?_
    have c472 := ((c462.keep K466).keep K469)
    have c473 := ((c463.keep K466 nin0).keep K469 (ninS (own_ne (by omega) : s390 ≠ b391) nin0))
    have c474 := ((c464.keep K466 nin0).keep K469 (ninS (own_ne (by omega) : s390 ≠ b391) nin0))
    have c475 := ((c465.keep K466 nin0).keep K469 (ninS (own_ne (by omega) : bb390 ≠ b391) nin0))
    refine k_callVVF X469 (y := (⟨"java/lang/String", "charAt", "(I)C"⟩ : MethodName)) at_113 (w_9 hw) (w_10 hw) (w_12 hw) (w_11 hw) (w_1 hw) (w_13 hw) (by decide) (notFace_of_selects (args := #[]) (mvT X469.hZ (w_12 hw))) c472 (argsL := [(.int (8 : Int32))]) (rest := [(.int (8 : Int32)), (.ref b391)]) (own_charAt l Z a0 hw G n0 h469 X469.old s390 bb390 kb390 (0 : Int32) (9 : Int32) [(.int (115 : Int32)), (.int (105 : Int32)), (.int (110 : Int32)), (.int (103 : Int32)), (.int (108 : Int32)), (.int (101 : Int32)), (.int (116 : Int32)), (.int (111 : Int32)), (.int (110 : Int32))] [(115 : Int32), (105 : Int32), (110 : Int32), (103 : Int32), (108 : Int32), (101 : Int32), (116 : Int32), (111 : Int32), (110 : Int32)] 8 (8 : Int32) rfl (by decide) (by decide) (by decide) (by decide) c472 c473 c474 c475 (Or.inl ⟨by decide, rfl, rfl, by decide⟩)) rfl pd_17 rfl rfl (by decide) (W := 2) (Nat.le_of_eq rfl) (by decide) (by decide) (by decide) all0 (pc' := 116) rfl ?_
    rintro _ T476 h476 L476 X476 K476 ⟨rfl, -⟩
    have sz_h476 := K476.1
    have K0_h476 : Keep h0 h476 [] := K0_h469.trans K476 all0
    have c478 := (V469.keep K476 nin0)
    have c480 := (X469.sf K476 all0 (X466.sf K469 (allS ⟨c470, ge471⟩ all0) c470))
    have ge481 : n0 ≤ b391 := by omega
    refine k_castore X476 (w := ([(115 : Int32), (105 : Int32), (110 : Int32), (103 : Int32), (108 : Int32), (101 : Int32), (116 : Int32), (111 : Int32), (110 : Int32)].getD 8 0)) 8 at_116 c478 (by decide) (by decide) rfl (Nat.le_of_ble_eq_true rfl) (by decide) (vs' := [(.int ([(115 : Int32), (105 : Int32), (110 : Int32), (103 : Int32), (108 : Int32), (101 : Int32), (116 : Int32), (111 : Int32), (110 : Int32)].getD 0 0)), (.int ([(115 : Int32), (105 : Int32), (110 : Int32), (103 : Int32), (108 : Int32), (101 : Int32), (116 : Int32), (111 : Int32), (110 : Int32)].getD 1 0)), (.int ([(115 : Int32), (105 : Int32), (110 : Int32), (103 : Int32), (108 : Int32), (101 : Int32), (116 : Int32), (111 : Int32), (110 : Int32)].getD 2 0)), (.int ([(115 : Int32), (105 : Int32), (110 : Int32), (103 : Int32), (108 : Int32), (101 : Int32), (116 : Int32), (111 : Int32), (110 : Int32)].getD 3 0)), (.int ([(115 : Int32), (105 : Int32), (110 : Int32), (103 : Int32), (108 : Int32), (101 : Int32), (116 : Int32), (111 : Int32), (110 : Int32)].getD 4 0)), (.int ([(115 : Int32), (105 : Int32), (110 : Int32), (103 : Int32), (108 : Int32), (101 : Int32), (116 : Int32), (111 : Int32), (110 : Int32)].getD 5 0)), (.int ([(115 : Int32), (105 : Int32), (110 : Int32), (103 : Int32), (108 : Int32), (101 : Int32), (116 : Int32), (111 : Int32), (110 : Int32)].getD 6 0)), (.int ([(115 : Int32), (105 : Int32), (110 : Int32), (103 : Int32), (108 : Int32), (101 : Int32), (116 : Int32), (111 : Int32), (110 : Int32)].getD 7 0)), (.int ([(115 : Int32), (105 : Int32), (110 : Int32), (103 : Int32), (108 : Int32), (101 : Int32), (116 : Int32), (111 : Int32), (110 : Int32)].getD 8 0))]) rfl c480 ge481 (pc' := 117) rfl fun T479 h479 L479 X479 K479 V479 => ?_
    have sz_h479 := K479.1
    have K0_h479 : Keep h0 h479 [] := K0_h476.trans K479 (allS (Or.inr (by omega)) all0)
    refine k_iloadN X479 at_117 rfl (pc' := 118) rfl ?_
    refine k_ldcI X479 at_118 (w_34 hw) (pc' := 120) rfl ?_
    refine k_iand X479 at_120 (w := (p1 &&& (2147483647 : Int32))) rfl (pc' := 121) rfl ?_
    refine k_bipush X479 at_121 (w := (10 : Int32)) rfl (pc' := 123) rfl ?_
    refine k_irem X479 at_123 (by decide) (w := kk) hkk (pc' := 124) rfl ?_
    refine k_istore X479 at_124 (Ls' := #[.val (.int p0), .val (.int p1), .val (.int p2), .val (.int p3), .val (.int p4), .val (.ref s390), .val (.ref b391), .val (.int kk), .unset, .unset, .unset, .unset, .unset]) rfl (pc' := 126) rfl ?_
    refine k_iloadN X479 at_126 rfl (pc' := 127) rfl ?_
    refine k_sipush X479 at_127 (w := (255 : Int32)) rfl (pc' := 130) rfl ?_
    refine k_iand X479 at_130 (w := (p2 &&& (255 : Int32))) rfl (pc' := 131) rfl ?_
    refine k_i2c X479 at_131 (w := (p2 &&& (255 : Int32))) (i2c_mask _) (pc' := 132) rfl ?_
    refine k_istore X479 at_132 (Ls' := #[.val (.int p0), .val (.int p1), .val (.int p2), .val (.int p3), .val (.int p4), .val (.ref s390), .val (.ref b391), .val (.int kk), .val (.int (p2 &&& (255 : Int32))), .unset, .unset, .unset, .unset]) rfl (pc' := 134) rfl ?_
    refine k_iload X479 at_134 rfl (pc' := 136) rfl ?_
    refine k_bipush X479 at_136 (w := (9 : Int32)) rfl (pc' := 138) rfl ?_
    have Vm : Arv Z h479 b391 k391 .char (9 : Int32) ([(115 : Int32), (105 : Int32), (110 : Int32), (103 : Int32), (108 : Int32), (101 : Int32), (116 : Int32), (111 : Int32), (110 : Int32)].map Value.int) (.int (0 : Int32)) := V479
    by_cases hc482 : kk < (9 : Int32)
    · refine k_icmpNo X479 at_138 (tlt hc482).2.1 (pc' := 141) rfl ?_
      refine k_aload X479 at_141 rfl rfl (pc' := 143) rfl ?_
      refine k_iload X479 at_143 rfl (pc' := 145) rfl ?_
      refine k_iload X479 at_145 rfl (pc' := 147) rfl ?_
      have hk9 : kk.toNatClampNeg < 9 := own_clamp_lt hk0 hc482
      have c484 := (X476.sf K479 (allS ⟨c480, ge481⟩ all0) c480)
      have ge485 : n0 ≤ b391 := by omega
      refine k_castore X479 (w := (p2 &&& (255 : Int32))) (kk.toNatClampNeg) at_147 Vm hk0 hc482 rfl (by simpa using hk9) (i2c_mask _) (vs' := (([(115 : Int32), (105 : Int32), (110 : Int32), (103 : Int32), (108 : Int32), (101 : Int32), (116 : Int32), (111 : Int32), (110 : Int32)].set kk.toNatClampNeg (p2 &&& (255 : Int32))).map Value.int)) (own_mapset _ _ _) c484 ge485 (pc' := 148) rfl fun T483 h483 L483 X483 K483 V483 => ?_
      have sz_h483 := K483.1
      have K0_h483 : Keep h0 h483 [] := K0_h479.trans K483 (allS (Or.inr (by omega)) all0)
      exact mid _ _ _ _ _ _ _ _ _ _ X483 K0_h483 V483 (by simp) (own_l1_set own_sing (own_mask_rng p2) _) (own_mask_rng p2) (by omega)
    · refine k_icmpYes X479 at_138 (flt hc482).2.1 (pc' := 148) (by decide) (by decide) ?_
      exact mid _ _ _ _ _ _ _ _ _ _ X479 K0_h479 Vm rfl own_sing (own_mask_rng p2) (by omega)
  · refine k_ifYes X0 at_3 ((if0 _ _).trans (feq hc389).2) (pc' := 11) (by decide) (by decide) ?_
    refine k_ldcR X0 at_11 (w_65 hw) (own_wS hw) (List.mem_of_getElem? (i := 2) rfl) (vs := [(.int (112 : Int32)), (.int (114 : Int32)), (.int (111 : Int32)), (.int (116 : Int32)), (.int (111 : Int32)), (.int (116 : Int32)), (.int (121 : Int32)), (.int (112 : Int32)), (.int (101 : Int32))]) (z := (9 : Int32)) (by decide) (by decide) rfl (n := 36) (by decide) (by decide) (by decide) (by decide) (pc' := 13) rfl fun s486 bb486 kb486 v486 T486 h486 X486 K486 C486 E486 Fc486 Fv486 V486 nq486 => ?_
    have sz_h486 := K486.1
    have K0_h486 : Keep h0 h486 [] := K0_h0.trans K486 all0
    have lt486 := own_n E486.lt
    have ltb486 := own_n V486.lt
    refine k_astore X486 at_13 rfl (Ls' := #[.val (.int p0), .val (.int p1), .val (.int p2), .val (.int p3), .val (.int p4), .val (.ref s486), .unset, .unset, .unset, .unset, .unset, .unset, .unset]) rfl (pc' := 15) rfl ?_
    refine k_bipush X486 at_15 (w := (9 : Int32)) rfl (pc' := 17) rfl ?_
    refine k_newP X486 at_17 (w_8 hw) (by decide) (cap := 9) (by decide) (by decide) (by decide) (by decide) (pc' := 19) rfl fun T487 h487 b487 k487 g487 X487 K487 V487 S487 lt487 ge487 => ?_
    have sz_h487 := K487.1
    have K0_h487 : Keep h0 h487 [] := K0_h486.trans K487 all0
    have V487' : Arv Z h487 b487 k487 .char (9 : Int32) [(.int (0 : Int32)), (.int (0 : Int32)), (.int (0 : Int32)), (.int (0 : Int32)), (.int (0 : Int32)), (.int (0 : Int32)), (.int (0 : Int32)), (.int (0 : Int32)), (.int (0 : Int32))] (.int (0 : Int32)) := Arv.pad V487 (pad_rep [] (.int (0 : Int32)) 9)
    refine k_astore X487 at_19 rfl (Ls' := #[.val (.int p0), .val (.int p1), .val (.int p2), .val (.int p3), .val (.int p4), .val (.ref s486), .val (.ref b487), .unset, .unset, .unset, .unset, .unset, .unset]) rfl (pc' := 21) rfl ?_
    refine k_aload X487 at_21 rfl rfl (pc' := 23) rfl ?_
    refine k_iconst X487 at_23 (w := (0 : Int32)) rfl (pc' := 24) rfl ?_
    refine k_aload X487 at_24 rfl rfl (pc' := 26) rfl ?_
    refine k_iconst X487 at_26 (w := (0 : Int32)) rfl (pc' := 27) rfl ?_
    have c488 := (E486.keep K487)
    have c489 := (Fv486.keep K487 nin0)
    have c490 := (Fc486.keep K487 nin0)
    have c491 := (V486.keep K487 nin0)
    refine k_callVVF X487 (y := (⟨"java/lang/String", "charAt", "(I)C"⟩ : MethodName)) at_27 (w_9 hw) (w_10 hw) (w_12 hw) (w_11 hw) (w_1 hw) (w_13 hw) (by decide) (notFace_of_selects (args := #[]) (mvT X487.hZ (w_12 hw))) c488 (argsL := [(.int (0 : Int32))]) (rest := [(.int (0 : Int32)), (.ref b487)]) (own_charAt l Z a0 hw G n0 h487 X487.old s486 bb486 kb486 (0 : Int32) (9 : Int32) [(.int (112 : Int32)), (.int (114 : Int32)), (.int (111 : Int32)), (.int (116 : Int32)), (.int (111 : Int32)), (.int (116 : Int32)), (.int (121 : Int32)), (.int (112 : Int32)), (.int (101 : Int32))] [(112 : Int32), (114 : Int32), (111 : Int32), (116 : Int32), (111 : Int32), (116 : Int32), (121 : Int32), (112 : Int32), (101 : Int32)] 0 (0 : Int32) rfl (by decide) (by decide) (by decide) (by decide) c488 c489 c490 c491 (Or.inl ⟨by decide, rfl, rfl, by decide⟩)) rfl pd_17 rfl rfl (by decide) (W := 2) (Nat.le_of_eq rfl) (by decide) (by decide) (by decide) all0 (pc' := 30) rfl ?_
    rintro _ T492 h492 L492 X492 K492 ⟨rfl, -⟩
    have sz_h492 := K492.1
    have K0_h492 : Keep h0 h492 [] := K0_h487.trans K492 all0
    have c494 := (V487'.keep K492 nin0)
    have c496 := (X487.sf K492 all0 S487)
    have ge497 : n0 ≤ b487 := by omega
    refine k_castore X492 (w := ([(112 : Int32), (114 : Int32), (111 : Int32), (116 : Int32), (111 : Int32), (116 : Int32), (121 : Int32), (112 : Int32), (101 : Int32)].getD 0 0)) 0 at_30 c494 (by decide) (by decide) rfl (Nat.le_of_ble_eq_true rfl) (by decide) (vs' := [(.int ([(112 : Int32), (114 : Int32), (111 : Int32), (116 : Int32), (111 : Int32), (116 : Int32), (121 : Int32), (112 : Int32), (101 : Int32)].getD 0 0)), (.int (0 : Int32)), (.int (0 : Int32)), (.int (0 : Int32)), (.int (0 : Int32)), (.int (0 : Int32)), (.int (0 : Int32)), (.int (0 : Int32)), (.int (0 : Int32))]) rfl c496 ge497 (pc' := 31) rfl fun T495 h495 L495 X495 K495 V495 => ?_
    have sz_h495 := K495.1
    have K0_h495 : Keep h0 h495 [] := K0_h492.trans K495 (allS (Or.inr (by omega)) all0)
    refine k_aload X495 at_31 rfl rfl (pc' := 33) rfl ?_
    refine k_iconst X495 at_33 (w := (1 : Int32)) rfl (pc' := 34) rfl ?_
    refine k_aload X495 at_34 rfl rfl (pc' := 36) rfl ?_
    refine k_iconst X495 at_36 (w := (1 : Int32)) rfl (pc' := 37) rfl ?_
    have c498 := ((c488.keep K492).keep K495)
    have c499 := ((c489.keep K492 nin0).keep K495 (ninS (own_ne (by omega) : s486 ≠ b487) nin0))
    have c500 := ((c490.keep K492 nin0).keep K495 (ninS (own_ne (by omega) : s486 ≠ b487) nin0))
    have c501 := ((c491.keep K492 nin0).keep K495 (ninS (own_ne (by omega) : bb486 ≠ b487) nin0))
    refine k_callVVF X495 (y := (⟨"java/lang/String", "charAt", "(I)C"⟩ : MethodName)) at_37 (w_9 hw) (w_10 hw) (w_12 hw) (w_11 hw) (w_1 hw) (w_13 hw) (by decide) (notFace_of_selects (args := #[]) (mvT X495.hZ (w_12 hw))) c498 (argsL := [(.int (1 : Int32))]) (rest := [(.int (1 : Int32)), (.ref b487)]) (own_charAt l Z a0 hw G n0 h495 X495.old s486 bb486 kb486 (0 : Int32) (9 : Int32) [(.int (112 : Int32)), (.int (114 : Int32)), (.int (111 : Int32)), (.int (116 : Int32)), (.int (111 : Int32)), (.int (116 : Int32)), (.int (121 : Int32)), (.int (112 : Int32)), (.int (101 : Int32))] [(112 : Int32), (114 : Int32), (111 : Int32), (116 : Int32), (111 : Int32), (116 : Int32), (121 : Int32), (112 : Int32), (101 : Int32)] 1 (1 : Int32) rfl (by decide) (by decide) (by decide) (by decide) c498 c499 c500 c501 (Or.inl ⟨by decide, rfl, rfl, by decide⟩)) rfl pd_17 rfl rfl (by decide) (W := 2) (Nat.le_of_eq rfl) (by decide) (by decide) (by decide) all0 (pc' := 40) rfl ?_
    rintro _ T502 h502 L502 X502 K502 ⟨rfl, -⟩
    have sz_h502 := K502.1
    have K0_h502 : Keep h0 h502 [] := K0_h495.trans K502 all0
    have c504 := (V495.keep K502 nin0)
    have c506 := (X495.sf K502 all0 (X492.sf K495 (allS ⟨c496, ge497⟩ all0) c496))
    have ge507 : n0 ≤ b487 := by omega
    refine k_castore X502 (w := ([(112 : Int32), (114 : Int32), (111 : Int32), (116 : Int32), (111 : Int32), (116 : Int32), (121 : Int32), (112 : Int32), (101 : Int32)].getD 1 0)) 1 at_40 c504 (by decide) (by decide) rfl (Nat.le_of_ble_eq_true rfl) (by decide) (vs' := [(.int ([(112 : Int32), (114 : Int32), (111 : Int32), (116 : Int32), (111 : Int32), (116 : Int32), (121 : Int32), (112 : Int32), (101 : Int32)].getD 0 0)), (.int ([(112 : Int32), (114 : Int32), (111 : Int32), (116 : Int32), (111 : Int32), (116 : Int32), (121 : Int32), (112 : Int32), (101 : Int32)].getD 1 0)), (.int (0 : Int32)), (.int (0 : Int32)), (.int (0 : Int32)), (.int (0 : Int32)), (.int (0 : Int32)), (.int (0 : Int32)), (.int (0 : Int32))]) rfl c506 ge507 (pc' := 41) rfl fun T505 h505 L505 X505 K505 V505 => ?_
    have sz_h505 := K505.1
    have K0_h505 : Keep h0 h505 [] := K0_h502.trans K505 (allS (Or.inr (by omega)) all0)
    refine k_aload X505 at_41 rfl rfl (pc' := 43) rfl ?_
    refine k_iconst X505 at_43 (w := (2 : Int32)) rfl (pc' := 44) rfl ?_
    refine k_aload X505 at_44 rfl rfl (pc' := 46) rfl ?_
    refine k_iconst X505 at_46 (w := (2 : Int32)) rfl (pc' := 47) rfl ?_
    have c508 := ((c498.keep K502).keep K505)
    have c509 := ((c499.keep K502 nin0).keep K505 (ninS (own_ne (by omega) : s486 ≠ b487) nin0))
    have c510 := ((c500.keep K502 nin0).keep K505 (ninS (own_ne (by omega) : s486 ≠ b487) nin0))
    have c511 := ((c501.keep K502 nin0).keep K505 (ninS (own_ne (by omega) : bb486 ≠ b487) nin0))
    refine k_callVVF X505 (y := (⟨"java/lang/String", "charAt", "(I)C"⟩ : MethodName)) at_47 (w_9 hw) (w_10 hw) (w_12 hw) (w_11 hw) (w_1 hw) (w_13 hw) (by decide) (notFace_of_selects (args := #[]) (mvT X505.hZ (w_12 hw))) c508 (argsL := [(.int (2 : Int32))]) (rest := [(.int (2 : Int32)), (.ref b487)]) (own_charAt l Z a0 hw G n0 h505 X505.old s486 bb486 kb486 (0 : Int32) (9 : Int32) [(.int (112 : Int32)), (.int (114 : Int32)), (.int (111 : Int32)), (.int (116 : Int32)), (.int (111 : Int32)), (.int (116 : Int32)), (.int (121 : Int32)), (.int (112 : Int32)), (.int (101 : Int32))] [(112 : Int32), (114 : Int32), (111 : Int32), (116 : Int32), (111 : Int32), (116 : Int32), (121 : Int32), (112 : Int32), (101 : Int32)] 2 (2 : Int32) rfl (by decide) (by decide) (by decide) (by decide) c508 c509 c510 c511 (Or.inl ⟨by decide, rfl, rfl, by decide⟩)) rfl pd_17 rfl rfl (by decide) (W := 2) (Nat.le_of_eq rfl) (by decide) (by decide) (by decide) all0 (pc' := 50) rfl ?_
    rintro _ T512 h512 L512 X512 K512 ⟨rfl, -⟩
    have sz_h512 := K512.1
    have K0_h512 : Keep h0 h512 [] := K0_h505.trans K512 all0
    have c514 := (V505.keep K512 nin0)
    have c516 := (X505.sf K512 all0 (X502.sf K505 (allS ⟨c506, ge507⟩ all0) c506))
    have ge517 : n0 ≤ b487 := by omega
    refine k_castore X512 (w := ([(112 : Int32), (114 : Int32), (111 : Int32), (116 : Int32), (111 : Int32), (116 : Int32), (121 : Int32), (112 : Int32), (101 : Int32)].getD 2 0)) 2 at_50 c514 (by decide) (by decide) rfl (Nat.le_of_ble_eq_true rfl) (by decide) (vs' := [(.int ([(112 : Int32), (114 : Int32), (111 : Int32), (116 : Int32), (111 : Int32), (116 : Int32), (121 : Int32), (112 : Int32), (101 : Int32)].getD 0 0)), (.int ([(112 : Int32), (114 : Int32), (111 : Int32), (116 : Int32), (111 : Int32), (116 : Int32), (121 : Int32), (112 : Int32), (101 : Int32)].getD 1 0)), (.int ([(112 : Int32), (114 : Int32), (111 : Int32), (116 : Int32), (111 : Int32), (116 : Int32), (121 : Int32), (112 : Int32), (101 : Int32)].getD 2 0)), (.int (0 : Int32)), (.int (0 : Int32)), (.int (0 : Int32)), (.int (0 : Int32)), (.int (0 : Int32)), (.int (0 : Int32))]) rfl c516 ge517 (pc' := 51) rfl fun T515 h515 L515 X515 K515 V515 => ?_
    have sz_h515 := K515.1
    have K0_h515 : Keep h0 h515 [] := K0_h512.trans K515 (allS (Or.inr (by omega)) all0)
    refine k_aload X515 at_51 rfl rfl (pc' := 53) rfl ?_
    refine k_iconst X515 at_53 (w := (3 : Int32)) rfl (pc' := 54) rfl ?_
    refine k_aload X515 at_54 rfl rfl (pc' := 56) rfl ?_
    refine k_iconst X515 at_56 (w := (3 : Int32)) rfl (pc' := 57) rfl ?_
    have c518 := ((c508.keep K512).keep K515)
    have c519 := ((c509.keep K512 nin0).keep K515 (ninS (own_ne (by omega) : s486 ≠ b487) nin0))
    have c520 := ((c510.keep K512 nin0).keep K515 (ninS (own_ne (by omega) : s486 ≠ b487) nin0))
    have c521 := ((c511.keep K512 nin0).keep K515 (ninS (own_ne (by omega) : bb486 ≠ b487) nin0))
    refine k_callVVF X515 (y := (⟨"java/lang/String", "charAt", "(I)C"⟩ : MethodName)) at_57 (w_9 hw) (w_10 hw) (w_12 hw) (w_11 hw) (w_1 hw) (w_13 hw) (by decide) (notFace_of_selects (args := #[]) (mvT X515.hZ (w_12 hw))) c518 (argsL := [(.int (3 : Int32))]) (rest := [(.int (3 : Int32)), (.ref b487)]) (own_charAt l Z a0 hw G n0 h515 X515.old s486 bb486 kb486 (0 : Int32) (9 : Int32) [(.int (112 : Int32)), (.int (114 : Int32)), (.int (111 : Int32)), (.int (116 : Int32)), (.int (111 : Int32)), (.int (116 : Int32)), (.int (121 : Int32)), (.int (112 : Int32)), (.int (101 : Int32))] [(112 : Int32), (114 : Int32), (111 : Int32), (116 : Int32), (111 : Int32), (116 : Int32), (121 : Int32), (112 : Int32), (101 : Int32)] 3 (3 : Int32) rfl (by decide) (by decide) (by decide) (by decide) c518 c519 c520 c521 (Or.inl ⟨by decide, rfl, rfl, by decide⟩)) rfl pd_17 rfl rfl (by decide) (W := 2) (Nat.le_of_eq rfl) (by decide) (by decide) (by decide) all0 (pc' := 60) rfl ?_
    rintro _ T522 h522 L522 X522 K522 ⟨rfl, -⟩
    have sz_h522 := K522.1
    have K0_h522 : Keep h0 h522 [] := K0_h515.trans K522 all0
    have c524 := (V515.keep K522 nin0)
    have c526 := (X515.sf K522 all0 (X512.sf K515 (allS ⟨c516, ge517⟩ all0) c516))
    have ge527 : n0 ≤ b487 := by omega
    refine k_castore X522 (w := ([(112 : Int32), (114 : Int32), (111 : Int32), (116 : Int32), (111 : Int32), (116 : Int32), (121 : Int32), (112 : Int32), (101 : Int32)].getD 3 0)) 3 at_60 c524 (by decide) (by decide) rfl (Nat.le_of_ble_eq_true rfl) (by decide) (vs' := [(.int ([(112 : Int32), (114 : Int32), (111 : Int32), (116 : Int32), (111 : Int32), (116 : Int32), (121 : Int32), (112 : Int32), (101 : Int32)].getD 0 0)), (.int ([(112 : Int32), (114 : Int32), (111 : Int32), (116 : Int32), (111 : Int32), (116 : Int32), (121 : Int32), (112 : Int32), (101 : Int32)].getD 1 0)), (.int ([(112 : Int32), (114 : Int32), (111 : Int32), (116 : Int32), (111 : Int32), (116 : Int32), (121 : Int32), (112 : Int32), (101 : Int32)].getD 2 0)), (.int ([(112 : Int32), (114 : Int32), (111 : Int32), (116 : Int32), (111 : Int32), (116 : Int32), (121 : Int32), (112 : Int32), (101 : Int32)].getD 3 0)), (.int (0 : Int32)), (.int (0 : Int32)), (.int (0 : Int32)), (.int (0 : Int32)), (.int (0 : Int32))]) rfl c526 ge527 (pc' := 61) rfl fun T525 h525 L525 X525 K525 V525 => ?_
    have sz_h525 := K525.1
    have K0_h525 : Keep h0 h525 [] := K0_h522.trans K525 (allS (Or.inr (by omega)) all0)
    refine k_aload X525 at_61 rfl rfl (pc' := 63) rfl ?_
    refine k_iconst X525 at_63 (w := (4 : Int32)) rfl (pc' := 64) rfl ?_
    refine k_aload X525 at_64 rfl rfl (pc' := 66) rfl ?_
    refine k_iconst X525 at_66 (w := (4 : Int32)) rfl (pc' := 67) rfl ?_
    have c528 := ((c518.keep K522).keep K525)
    have c529 := ((c519.keep K522 nin0).keep K525 (ninS (own_ne (by omega) : s486 ≠ b487) nin0))
    have c530 := ((c520.keep K522 nin0).keep K525 (ninS (own_ne (by omega) : s486 ≠ b487) nin0))
    have c531 := ((c521.keep K522 nin0).keep K525 (ninS (own_ne (by omega) : bb486 ≠ b487) nin0))
    refine k_callVVF X525 (y := (⟨"java/lang/String", "charAt", "(I)C"⟩ : MethodName)) at_67 (w_9 hw) (w_10 hw) (w_12 hw) (w_11 hw) (w_1 hw) (w_13 hw) (by decide) (notFace_of_selects (args := #[]) (mvT X525.hZ (w_12 hw))) c528 (argsL := [(.int (4 : Int32))]) (rest := [(.int (4 : Int32)), (.ref b487)]) (own_charAt l Z a0 hw G n0 h525 X525.old s486 bb486 kb486 (0 : Int32) (9 : Int32) [(.int (112 : Int32)), (.int (114 : Int32)), (.int (111 : Int32)), (.int (116 : Int32)), (.int (111 : Int32)), (.int (116 : Int32)), (.int (121 : Int32)), (.int (112 : Int32)), (.int (101 : Int32))] [(112 : Int32), (114 : Int32), (111 : Int32), (116 : Int32), (111 : Int32), (116 : Int32), (121 : Int32), (112 : Int32), (101 : Int32)] 4 (4 : Int32) rfl (by decide) (by decide) (by decide) (by decide) c528 c529 c530 c531 (Or.inl ⟨by decide, rfl, rfl, by decide⟩)) rfl pd_17 rfl rfl (by decide) (W := 2) (Nat.le_of_eq rfl) (by decide) (by decide) (by decide) all0 (pc' := 70) rfl ?_
    rintro _ T532 h532 L532 X532 K532 ⟨rfl, -⟩
    have sz_h532 := K532.1
    have K0_h532 : Keep h0 h532 [] := K0_h525.trans K532 all0
    have c534 := (V525.keep K532 nin0)
    have c536 := (X525.sf K532 all0 (X522.sf K525 (allS ⟨c526, ge527⟩ all0) c526))
    have ge537 : n0 ≤ b487 := by omega
    refine k_castore X532 (w := ([(112 : Int32), (114 : Int32), (111 : Int32), (116 : Int32), (111 : Int32), (116 : Int32), (121 : Int32), (112 : Int32), (101 : Int32)].getD 4 0)) 4 at_70 c534 (by decide) (by decide) rfl (Nat.le_of_ble_eq_true rfl) (by decide) (vs' := [(.int ([(112 : Int32), (114 : Int32), (111 : Int32), (116 : Int32), (111 : Int32), (116 : Int32), (121 : Int32), (112 : Int32), (101 : Int32)].getD 0 0)), (.int ([(112 : Int32), (114 : Int32), (111 : Int32), (116 : Int32), (111 : Int32), (116 : Int32), (121 : Int32), (112 : Int32), (101 : Int32)].getD 1 0)), (.int ([(112 : Int32), (114 : Int32), (111 : Int32), (116 : Int32), (111 : Int32), (116 : Int32), (121 : Int32), (112 : Int32), (101 : Int32)].getD 2 0)), (.int ([(112 : Int32), (114 : Int32), (111 : Int32), (116 : Int32), (111 : Int32), (116 : Int32), (121 : Int32), (112 : Int32), (101 : Int32)].getD 3 0)), (.int ([(112 : Int32), (114 : Int32), (111 : Int32), (116 : Int32), (111 : Int32), (116 : Int32), (121 : Int32), (112 : Int32), (101 : Int32)].getD 4 0)), (.int (0 : Int32)), (.int (0 : Int32)), (.int (0 : Int32)), (.int (0 : Int32))]) rfl c536 ge537 (pc' := 71) rfl fun T535 h535 L535 X535 K535 V535 => ?_
    have sz_h535 := K535.1
    have K0_h535 : Keep h0 h535 [] := K0_h532.trans K535 (allS (Or.inr (by omega)) all0)
    refine k_aload X535 at_71 rfl rfl (pc' := 73) rfl ?_
    refine k_iconst X535 at_73 (w := (5 : Int32)) rfl (pc' := 74) rfl ?_
    refine k_aload X535 at_74 rfl rfl (pc' := 76) rfl ?_
    refine k_iconst X535 at_76 (w := (5 : Int32)) rfl (pc' := 77) rfl ?_
    have c538 := ((c528.keep K532).keep K535)
    have c539 := ((c529.keep K532 nin0).keep K535 (ninS (own_ne (by omega) : s486 ≠ b487) nin0))
    have c540 := ((c530.keep K532 nin0).keep K535 (ninS (own_ne (by omega) : s486 ≠ b487) nin0))
    have c541 := ((c531.keep K532 nin0).keep K535 (ninS (own_ne (by omega) : bb486 ≠ b487) nin0))
    refine k_callVVF X535 (y := (⟨"java/lang/String", "charAt", "(I)C"⟩ : MethodName)) at_77 (w_9 hw) (w_10 hw) (w_12 hw) (w_11 hw) (w_1 hw) (w_13 hw) (by decide) (notFace_of_selects (args := #[]) (mvT X535.hZ (w_12 hw))) c538 (argsL := [(.int (5 : Int32))]) (rest := [(.int (5 : Int32)), (.ref b487)]) (own_charAt l Z a0 hw G n0 h535 X535.old s486 bb486 kb486 (0 : Int32) (9 : Int32) [(.int (112 : Int32)), (.int (114 : Int32)), (.int (111 : Int32)), (.int (116 : Int32)), (.int (111 : Int32)), (.int (116 : Int32)), (.int (121 : Int32)), (.int (112 : Int32)), (.int (101 : Int32))] [(112 : Int32), (114 : Int32), (111 : Int32), (116 : Int32), (111 : Int32), (116 : Int32), (121 : Int32), (112 : Int32), (101 : Int32)] 5 (5 : Int32) rfl (by decide) (by decide) (by decide) (by decide) c538 c539 c540 c541 (Or.inl ⟨by decide, rfl, rfl, by decide⟩)) rfl pd_17 rfl rfl (by decide) (W := 2) (Nat.le_of_eq rfl) (by decide) (by decide) (by decide) all0 (pc' := 80) rfl ?_
    rintro _ T542 h542 L542 X542 K542 ⟨rfl, -⟩
    have sz_h542 := K542.1
    have K0_h542 : Keep h0 h542 [] := K0_h535.trans K542 all0
    have c544 := (V535.keep K542 nin0)
    have c546 := (X535.sf K542 all0 (X532.sf K535 (allS ⟨c536, ge537⟩ all0) c536))
    have ge547 : n0 ≤ b487 := by omega
    refine k_castore X542 (w := ([(112 : Int32), (114 : Int32), (111 : Int32), (116 : Int32), (111 : Int32), (116 : Int32), (121 : Int32), (112 : Int32), (101 : Int32)].getD 5 0)) 5 at_80 c544 (by decide) (by decide) rfl (Nat.le_of_ble_eq_true rfl) (by decide) (vs' := [(.int ([(112 : Int32), (114 : Int32), (111 : Int32), (116 : Int32), (111 : Int32), (116 : Int32), (121 : Int32), (112 : Int32), (101 : Int32)].getD 0 0)), (.int ([(112 : Int32), (114 : Int32), (111 : Int32), (116 : Int32), (111 : Int32), (116 : Int32), (121 : Int32), (112 : Int32), (101 : Int32)].getD 1 0)), (.int ([(112 : Int32), (114 : Int32), (111 : Int32), (116 : Int32), (111 : Int32), (116 : Int32), (121 : Int32), (112 : Int32), (101 : Int32)].getD 2 0)), (.int ([(112 : Int32), (114 : Int32), (111 : Int32), (116 : Int32), (111 : Int32), (116 : Int32), (121 : Int32), (112 : Int32), (101 : Int32)].getD 3 0)), (.int ([(112 : Int32), (114 : Int32), (111 : Int32), (116 : Int32), (111 : Int32), (116 : Int32), (121 : Int32), (112 : Int32), (101 : Int32)].getD 4 0)), (.int ([(112 : Int32), (114 : Int32), (111 : Int32), (116 : Int32), (111 : Int32), (116 : Int32), (121 : Int32), (112 : Int32), (101 : Int32)].getD 5 0)), (.int (0 : Int32)), (.int (0 : Int32)), (.int (0 : Int32))]) rfl c546 ge547 (pc' := 81) rfl fun T545 h545 L545 X545 K545 V545 => ?_
    have sz_h545 := K545.1
    have K0_h545 : Keep h0 h545 [] := K0_h542.trans K545 (allS (Or.inr (by omega)) all0)
    refine k_aload X545 at_81 rfl rfl (pc' := 83) rfl ?_
    refine k_bipush X545 at_83 (w := (6 : Int32)) rfl (pc' := 85) rfl ?_
    refine k_aload X545 at_85 rfl rfl (pc' := 87) rfl ?_
    refine k_bipush X545 at_87 (w := (6 : Int32)) rfl (pc' := 89) rfl ?_
    have c548 := ((c538.keep K542).keep K545)
    have c549 := ((c539.keep K542 nin0).keep K545 (ninS (own_ne (by omega) : s486 ≠ b487) nin0))
    have c550 := ((c540.keep K542 nin0).keep K545 (ninS (own_ne (by omega) : s486 ≠ b487) nin0))
    have c551 := ((c541.keep K542 nin0).keep K545 (ninS (own_ne (by omega) : bb486 ≠ b487) nin0))
    refine k_callVVF X545 (y := (⟨"java/lang/String", "charAt", "(I)C"⟩ : MethodName)) at_89 (w_9 hw) (w_10 hw) (w_12 hw) (w_11 hw) (w_1 hw) (w_13 hw) (by decide) (notFace_of_selects (args := #[]) (mvT X545.hZ (w_12 hw))) c548 (argsL := [(.int (6 : Int32))]) (rest := [(.int (6 : Int32)), (.ref b487)]) (own_charAt l Z a0 hw G n0 h545 X545.old s486 bb486 kb486 (0 : Int32) (9 : Int32) [(.int (112 : Int32)), (.int (114 : Int32)), (.int (111 : Int32)), (.int (116 : Int32)), (.int (111 : Int32)), (.int (116 : Int32)), (.int (121 : Int32)), (.int (112 : Int32)), (.int (101 : Int32))] [(112 : Int32), (114 : Int32), (111 : Int32), (116 : Int32), (111 : Int32), (116 : Int32), (121 : Int32), (112 : Int32), (101 : Int32)] 6 (6 : Int32) rfl (by decide) (by decide) (by decide) (by decide) c548 c549 c550 c551 (Or.inl ⟨by decide, rfl, rfl, by decide⟩)) rfl pd_17 rfl rfl (by decide) (W := 2) (Nat.le_of_eq rfl) (by decide) (by decide) (by decide) all0 (pc' := 92) rfl ?_
    rintro _ T552 h552 L552 X552 K552 ⟨rfl, -⟩
    have sz_h552 := K552.1
    have K0_h552 : Keep h0 h552 [] := K0_h545.trans K552 all0
    have c554 := (V545.keep K552 nin0)
    have c556 := (X545.sf K552 all0 (X542.sf K545 (allS ⟨c546, ge547⟩ all0) c546))
    have ge557 : n0 ≤ b487 := by omega
    refine k_castore X552 (w := ([(112 : Int32), (114 : Int32), (111 : Int32), (116 : Int32), (111 : Int32), (116 : Int32), (121 : Int32), (112 : Int32), (101 : Int32)].getD 6 0)) 6 at_92 c554 (by decide) (by decide) rfl (Nat.le_of_ble_eq_true rfl) (by decide) (vs' := [(.int ([(112 : Int32), (114 : Int32), (111 : Int32), (116 : Int32), (111 : Int32), (116 : Int32), (121 : Int32), (112 : Int32), (101 : Int32)].getD 0 0)), (.int ([(112 : Int32), (114 : Int32), (111 : Int32), (116 : Int32), (111 : Int32), (116 : Int32), (121 : Int32), (112 : Int32), (101 : Int32)].getD 1 0)), (.int ([(112 : Int32), (114 : Int32), (111 : Int32), (116 : Int32), (111 : Int32), (116 : Int32), (121 : Int32), (112 : Int32), (101 : Int32)].getD 2 0)), (.int ([(112 : Int32), (114 : Int32), (111 : Int32), (116 : Int32), (111 : Int32), (116 : Int32), (121 : Int32), (112 : Int32), (101 : Int32)].getD 3 0)), (.int ([(112 : Int32), (114 : Int32), (111 : Int32), (116 : Int32), (111 : Int32), (116 : Int32), (121 : Int32), (112 : Int32), (101 : Int32)].getD 4 0)), (.int ([(112 : Int32), (114 : Int32), (111 : Int32), (116 : Int32), (111 : Int32), (116 : Int32), (121 : Int32), (112 : Int32), (101 : Int32)].getD 5 0)), (.int ([(112 : Int32), (114 : Int32), (111 : Int32), (116 : Int32), (111 : Int32), (116 : Int32), (121 : Int32), (112 : Int32), (101 : Int32)].getD 6 0)), (.int (0 : Int32)), (.int (0 : Int32))]) rfl c556 ge557 (pc' := 93) rfl fun T555 h555 L555 X555 K555 V555 => ?_
    have sz_h555 := K555.1
    have K0_h555 : Keep h0 h555 [] := K0_h552.trans K555 (allS (Or.inr (by omega)) all0)
    refine k_aload X555 at_93 rfl rfl (pc' := 95) rfl ?_
    refine k_bipush X555 at_95 (w := (7 : Int32)) rfl (pc' := 97) rfl ?_
    refine k_aload X555 at_97 rfl rfl (pc' := 99) rfl ?_
    refine k_bipush X555 at_99 (w := (7 : Int32)) rfl (pc' := 101) rfl ?_
    have c558 := ((c548.keep K552).keep K555)
    have c559 := ((c549.keep K552 nin0).keep K555 (ninS (own_ne (by omega) : s486 ≠ b487) nin0))
    have c560 := ((c550.keep K552 nin0).keep K555 (ninS (own_ne (by omega) : s486 ≠ b487) nin0))
    have c561 := ((c551.keep K552 nin0).keep K555 (ninS (own_ne (by omega) : bb486 ≠ b487) nin0))
    refine k_callVVF X555 (y := (⟨"java/lang/String", "charAt", "(I)C"⟩ : MethodName)) at_101 (w_9 hw) (w_10 hw) (w_12 hw) (w_11 hw) (w_1 hw) (w_13 hw) (by decide) (notFace_of_selects (args := #[]) (mvT X555.hZ (w_12 hw))) c558 (argsL := [(.int (7 : Int32))]) (rest := [(.int (7 : Int32)), (.ref b487)]) (own_charAt l Z a0 hw G n0 h555 X555.old s486 bb486 kb486 (0 : Int32) (9 : Int32) [(.int (112 : Int32)), (.int (114 : Int32)), (.int (111 : Int32)), (.int (116 : Int32)), (.int (111 : Int32)), (.int (116 : Int32)), (.int (121 : Int32)), (.int (112 : Int32)), (.int (101 : Int32))] [(112 : Int32), (114 : Int32), (111 : Int32), (116 : Int32), (111 : Int32), (116 : Int32), (121 : Int32), (112 : Int32), (101 : Int32)] 7 (7 : Int32) rfl (by decide) (by decide) (by decide) (by decide) c558 c559 c560 c561 (Or.inl ⟨by decide, rfl, rfl, by decide⟩)) rfl pd_17 rfl rfl (by decide) (W := 2) (Nat.le_of_eq rfl) (by decide) (by decide) (by decide) all0 (pc' := 104) rfl ?_
    rintro _ T562 h562 L562 X562 K562 ⟨rfl, -⟩
    have sz_h562 := K562.1
    have K0_h562 : Keep h0 h562 [] := K0_h555.trans K562 all0
    have c564 := (V555.keep K562 nin0)
    have c566 := (X555.sf K562 all0 (X552.sf K555 (allS ⟨c556, ge557⟩ all0) c556))
    have ge567 : n0 ≤ b487 := by omega
    refine k_castore X562 (w := ([(112 : Int32), (114 : Int32), (111 : Int32), (116 : Int32), (111 : Int32), (116 : Int32), (121 : Int32), (112 : Int32), (101 : Int32)].getD 7 0)) 7 at_104 c564 (by decide) (by decide) rfl (Nat.le_of_ble_eq_true rfl) (by decide) (vs' := [(.int ([(112 : Int32), (114 : Int32), (111 : Int32), (116 : Int32), (111 : Int32), (116 : Int32), (121 : Int32), (112 : Int32), (101 : Int32)].getD 0 0)), (.int ([(112 : Int32), (114 : Int32), (111 : Int32), (116 : Int32), (111 : Int32), (116 : Int32), (121 : Int32), (112 : Int32), (101 : Int32)].getD 1 0)), (.int ([(112 : Int32), (114 : Int32), (111 : Int32), (116 : Int32), (111 : Int32), (116 : Int32), (121 : Int32), (112 : Int32), (101 : Int32)].getD 2 0)), (.int ([(112 : Int32), (114 : Int32), (111 : Int32), (116 : Int32), (111 : Int32), (116 : Int32), (121 : Int32), (112 : Int32), (101 : Int32)].getD 3 0)), (.int ([(112 : Int32), (114 : Int32), (111 : Int32), (116 : Int32), (111 : Int32), (116 : Int32), (121 : Int32), (112 : Int32), (101 : Int32)].getD 4 0)), (.int ([(112 : Int32), (114 : Int32), (111 : Int32), (116 : Int32), (111 : Int32), (116 : Int32), (121 : Int32), (112 : Int32), (101 : Int32)].getD 5 0)), (.int ([(112 : Int32), (114 : Int32), (111 : Int32), (116 : Int32), (111 : Int32), (116 : Int32), (121 : Int32), (112 : Int32), (101 : Int32)].getD 6 0)), (.int ([(112 : Int32), (114 : Int32), (111 : Int32), (116 : Int32), (111 : Int32), (116 : Int32), (121 : Int32), (112 : Int32), (101 : Int32)].getD 7 0)), (.int (0 : Int32))]) rfl c566 ge567 (pc' := 105) rfl fun T565 h565 L565 X565 K565 V565 => ?_
    have sz_h565 := K565.1
    have K0_h565 : Keep h0 h565 [] := K0_h562.trans K565 (allS (Or.inr (by omega)) all0)
    refine k_aload X565 at_105 rfl rfl (pc' := 107) rfl ?_
    refine k_bipush X565 at_107 (w := (8 : Int32)) rfl (pc' := 109) rfl ?_
    refine k_aload X565 at_109 rfl rfl (pc' := 111) rfl ?_
    refine k_bipush X565 at_111 (w := (8 : Int32)) rfl (pc' := 113) rfl ?_
    have c568 := ((c558.keep K562).keep K565)
    have c569 := ((c559.keep K562 nin0).keep K565 (ninS (own_ne (by omega) : s486 ≠ b487) nin0))
    have c570 := ((c560.keep K562 nin0).keep K565 (ninS (own_ne (by omega) : s486 ≠ b487) nin0))
    have c571 := ((c561.keep K562 nin0).keep K565 (ninS (own_ne (by omega) : bb486 ≠ b487) nin0))
    refine k_callVVF X565 (y := (⟨"java/lang/String", "charAt", "(I)C"⟩ : MethodName)) at_113 (w_9 hw) (w_10 hw) (w_12 hw) (w_11 hw) (w_1 hw) (w_13 hw) (by decide) (notFace_of_selects (args := #[]) (mvT X565.hZ (w_12 hw))) c568 (argsL := [(.int (8 : Int32))]) (rest := [(.int (8 : Int32)), (.ref b487)]) (own_charAt l Z a0 hw G n0 h565 X565.old s486 bb486 kb486 (0 : Int32) (9 : Int32) [(.int (112 : Int32)), (.int (114 : Int32)), (.int (111 : Int32)), (.int (116 : Int32)), (.int (111 : Int32)), (.int (116 : Int32)), (.int (121 : Int32)), (.int (112 : Int32)), (.int (101 : Int32))] [(112 : Int32), (114 : Int32), (111 : Int32), (116 : Int32), (111 : Int32), (116 : Int32), (121 : Int32), (112 : Int32), (101 : Int32)] 8 (8 : Int32) rfl (by decide) (by decide) (by decide) (by decide) c568 c569 c570 c571 (Or.inl ⟨by decide, rfl, rfl, by decide⟩)) rfl pd_17 rfl rfl (by decide) (W := 2) (Nat.le_of_eq rfl) (by decide) (by decide) (by decide) all0 (pc' := 116) rfl ?_
    rintro _ T572 h572 L572 X572 K572 ⟨rfl, -⟩
    have sz_h572 := K572.1
    have K0_h572 : Keep h0 h572 [] := K0_h565.trans K572 all0
    have c574 := (V565.keep K572 nin0)
    have c576 := (X565.sf K572 all0 (X562.sf K565 (allS ⟨c566, ge567⟩ all0) c566))
    have ge577 : n0 ≤ b487 := by omega
    refine k_castore X572 (w := ([(112 : Int32), (114 : Int32), (111 : Int32), (116 : Int32), (111 : Int32), (116 : Int32), (121 : Int32), (112 : Int32), (101 : Int32)].getD 8 0)) 8 at_116 c574 (by decide) (by decide) rfl (Nat.le_of_ble_eq_true rfl) (by decide) (vs' := [(.int ([(112 : Int32), (114 : Int32), (111 : Int32), (116 : Int32), (111 : Int32), (116 : Int32), (121 : Int32), (112 : Int32), (101 : Int32)].getD 0 0)), (.int ([(112 : Int32), (114 : Int32), (111 : Int32), (116 : Int32), (111 : Int32), (116 : Int32), (121 : Int32), (112 : Int32), (101 : Int32)].getD 1 0)), (.int ([(112 : Int32), (114 : Int32), (111 : Int32), (116 : Int32), (111 : Int32), (116 : Int32), (121 : Int32), (112 : Int32), (101 : Int32)].getD 2 0)), (.int ([(112 : Int32), (114 : Int32), (111 : Int32), (116 : Int32), (111 : Int32), (116 : Int32), (121 : Int32), (112 : Int32), (101 : Int32)].getD 3 0)), (.int ([(112 : Int32), (114 : Int32), (111 : Int32), (116 : Int32), (111 : Int32), (116 : Int32), (121 : Int32), (112 : Int32), (101 : Int32)].getD 4 0)), (.int ([(112 : Int32), (114 : Int32), (111 : Int32), (116 : Int32), (111 : Int32), (116 : Int32), (121 : Int32), (112 : Int32), (101 : Int32)].getD 5 0)), (.int ([(112 : Int32), (114 : Int32), (111 : Int32), (116 : Int32), (111 : Int32), (116 : Int32), (121 : Int32), (112 : Int32), (101 : Int32)].getD 6 0)), (.int ([(112 : Int32), (114 : Int32), (111 : Int32), (116 : Int32), (111 : Int32), (116 : Int32), (121 : Int32), (112 : Int32), (101 : Int32)].getD 7 0)), (.int ([(112 : Int32), (114 : Int32), (111 : Int32), (116 : Int32), (111 : Int32), (116 : Int32), (121 : Int32), (112 : Int32), (101 : Int32)].getD 8 0))]) rfl c576 ge577 (pc' := 117) rfl fun T575 h575 L575 X575 K575 V575 => ?_
    have sz_h575 := K575.1
    have K0_h575 : Keep h0 h575 [] := K0_h572.trans K575 (allS (Or.inr (by omega)) all0)
    refine k_iloadN X575 at_117 rfl (pc' := 118) rfl ?_
    refine k_ldcI X575 at_118 (w_34 hw) (pc' := 120) rfl ?_
    refine k_iand X575 at_120 (w := (p1 &&& (2147483647 : Int32))) rfl (pc' := 121) rfl ?_
    refine k_bipush X575 at_121 (w := (10 : Int32)) rfl (pc' := 123) rfl ?_
    refine k_irem X575 at_123 (by decide) (w := kk) hkk (pc' := 124) rfl ?_
    refine k_istore X575 at_124 (Ls' := #[.val (.int p0), .val (.int p1), .val (.int p2), .val (.int p3), .val (.int p4), .val (.ref s486), .val (.ref b487), .val (.int kk), .unset, .unset, .unset, .unset, .unset]) rfl (pc' := 126) rfl ?_
    refine k_iloadN X575 at_126 rfl (pc' := 127) rfl ?_
    refine k_sipush X575 at_127 (w := (255 : Int32)) rfl (pc' := 130) rfl ?_
    refine k_iand X575 at_130 (w := (p2 &&& (255 : Int32))) rfl (pc' := 131) rfl ?_
    refine k_i2c X575 at_131 (w := (p2 &&& (255 : Int32))) (i2c_mask _) (pc' := 132) rfl ?_
    refine k_istore X575 at_132 (Ls' := #[.val (.int p0), .val (.int p1), .val (.int p2), .val (.int p3), .val (.int p4), .val (.ref s486), .val (.ref b487), .val (.int kk), .val (.int (p2 &&& (255 : Int32))), .unset, .unset, .unset, .unset]) rfl (pc' := 134) rfl ?_
    refine k_iload X575 at_134 rfl (pc' := 136) rfl ?_
    refine k_bipush X575 at_136 (w := (9 : Int32)) rfl (pc' := 138) rfl ?_
    have Vm : Arv Z h575 b487 k487 .char (9 : Int32) ([(112 : Int32), (114 : Int32), (111 : Int32), (116 : Int32), (111 : Int32), (116 : Int32), (121 : Int32), (112 : Int32), (101 : Int32)].map Value.int) (.int (0 : Int32)) := V575
    by_cases hc578 : kk < (9 : Int32)
    · refine k_icmpNo X575 at_138 (tlt hc578).2.1 (pc' := 141) rfl ?_
      refine k_aload X575 at_141 rfl rfl (pc' := 143) rfl ?_
      refine k_iload X575 at_143 rfl (pc' := 145) rfl ?_
      refine k_iload X575 at_145 rfl (pc' := 147) rfl ?_
      have hk9 : kk.toNatClampNeg < 9 := own_clamp_lt hk0 hc578
      have c580 := (X572.sf K575 (allS ⟨c576, ge577⟩ all0) c576)
      have ge581 : n0 ≤ b487 := by omega
      refine k_castore X575 (w := (p2 &&& (255 : Int32))) (kk.toNatClampNeg) at_147 Vm hk0 hc578 rfl (by simpa using hk9) (i2c_mask _) (vs' := (([(112 : Int32), (114 : Int32), (111 : Int32), (116 : Int32), (111 : Int32), (116 : Int32), (121 : Int32), (112 : Int32), (101 : Int32)].set kk.toNatClampNeg (p2 &&& (255 : Int32))).map Value.int)) (own_mapset _ _ _) c580 ge581 (pc' := 148) rfl fun T579 h579 L579 X579 K579 V579 => ?_
      have sz_h579 := K579.1
      have K0_h579 : Keep h0 h579 [] := K0_h575.trans K579 (allS (Or.inr (by omega)) all0)
      exact mid _ _ _ _ _ _ _ _ _ _ X579 K0_h579 V579 (by simp) (own_l1_set own_proto (own_mask_rng p2) _) (own_mask_rng p2) (by omega)
    · refine k_icmpYes X575 at_138 (flt hc578).2.1 (pc' := 148) (by decide) (by decide) ?_
      exact mid _ _ _ _ _ _ _ _ _ _ X575 K0_h575 Vm rfl own_proto (own_mask_rng p2) (by omega)
set_option maxRecDepth 65536 in
set_option maxHeartbeats 40000000 in
theorem comes_1 {Post : Tables → Env → Array Value → State → Outcome → State → Prop} (hpost : ∀ tb e args s v u, (limb_1_1.after args s (.returned v) u = true ∧ limb_1_2.after args s (.returned v) u = true ∧ True) → ReturnedEndW s (.returned v) u (Jvm.fieldLocs frame_1_writes args s ++ Jvm.arrayLocs frame_1_arrays args s ++ Jvm.staticLocs frame_1_statics s) 24 3264 → Post tb e args s (.returned v) u) :
    ArmFor flags0 classFile x code maxLocals ret World_1 tables_1 room_1 Calls_1 rest_1 Pre_1 Post := by
  intro l hfl _ _ p e ha hc hk s m args below hf hA hF happ hP
  obtain ⟨hcalls, hrest, hpre⟩ := hP
  obtain ⟨-, -, -, hnamed, -, -, -, hat⟩ := (Spec.applies_iff hf).mp happ
  obtain ⟨hg, hn⟩ := and_e (Cond.before_iff.mp (show (Jvm.Cond.and given_1 narrow_1).before args s = true from hpre))
  obtain ⟨hcnt, g0⟩ := and_e hg
  obtain ⟨j0, g1⟩ := and_e g0
  obtain ⟨j1, g2⟩ := and_e g1
  obtain ⟨j2, g3⟩ := and_e g2
  obtain ⟨j3, g4⟩ := and_e g3
  obtain ⟨w0, w1, w2, w3, w4, rfl⟩ : ∃ w0 w1 w2 w3 w4 : Value, args = #[w0, w1, w2, w3, w4] := by
    have hs : args.size = 5 := by simpa [Cond.value, given_1] using hcnt
    obtain ⟨L⟩ := args
    match L, hs with
    | [w0, w1, w2, w3, w4], _ => exact ⟨w0, w1, w2, w3, w4, rfl⟩
  have hw := fun d (hd : d ∈ tables_1) => atoms_spec (ws := Jvm.Cond.code x code maxLocals ret :: tables_1) hat d (List.mem_cons_of_mem _ hd)
  obtain ⟨hsets, hown0⟩ := atoms_of _ (rest_1_c_eq ▸ (show rest_1_c.before _ s = true from hrest))
  have hfit : Fit s := fun {y c} hc i hi => by
    obtain ⟨ha, rfl⟩ := Array.getElem?_eq_some_iff.mp hc
    have q := List.all_eq_true.mp ((Array.all_eq_true_iff_forall_mem.mp hF) _ (Array.getElem_mem ha)) i (List.mem_range.mpr hi)
    simpa [Array.getElem?_eq_getElem hi] using q
  obtain ⟨i0, e0⟩ := is_v j0
  obtain rfl : w0 = (.int i0) := Option.some.inj e0
  obtain ⟨i1, e1⟩ := is_v j1
  obtain rfl : w1 = (.int i1) := Option.some.inj e1
  obtain ⟨i2, e2⟩ := is_v j2
  obtain rfl : w2 = (.int i2) := Option.some.inj e2
  obtain ⟨i3, e3⟩ := is_v j3
  obtain rfl : w3 = (.int i3) := Option.some.inj e3
  obtain ⟨i4, e4⟩ := is_v g4
  obtain rfl : w4 = (.int i4) := Option.some.inj e4
  obtain ⟨zc, ezc⟩ := is_v (Cond.before_iff.mp (hsets _ (List.mem_of_getElem? (i := 1) rfl)))
  have nzc := not_v (Cond.before_iff.mp (hsets _ (List.mem_of_getElem? (i := 2) rfl)))
  obtain ⟨fm, efm, rfm⟩ := isR_v (Cond.before_iff.mp (hsets _ (List.mem_of_getElem? (i := 8) rfl)))
  obtain ⟨n_0, r_0⟩ := and_e hn
  obtain ⟨n_1, r_1⟩ := and_e r_0
  obtain ⟨n_2, r_2⟩ := and_e r_1
  obtain ⟨n_3, r_3⟩ := and_e r_2
  obtain ⟨n_4, r_4⟩ := and_e r_3
  obtain ⟨n_5, r_5⟩ := and_e r_4
  obtain ⟨n_6, r_6⟩ := and_e r_5
  obtain ⟨n_7, r_7⟩ := and_e r_6
  obtain ⟨n_8, r_8⟩ := and_e r_7
  obtain ⟨n_9, r_9⟩ := and_e r_8
  obtain ⟨n_10, r_10⟩ := and_e r_9
  obtain ⟨n_11, r_11⟩ := and_e r_10
  obtain ⟨n_12, r_12⟩ := and_e r_11
  obtain ⟨n_13, r_13⟩ := and_e r_12
  obtain ⟨n_14, r_14⟩ := and_e r_13
  obtain ⟨n_15, r_15⟩ := and_e r_14
  obtain ⟨n_16, r_16⟩ := and_e r_15
  obtain ⟨n_17, r_17⟩ := and_e r_16
  obtain ⟨n_18, r_18⟩ := and_e r_17
  obtain ⟨n_19, r_19⟩ := and_e r_18
  obtain ⟨n_20, r_20⟩ := and_e r_19
  obtain ⟨n_21, r_21⟩ := and_e r_20
  obtain ⟨n_22, r_22⟩ := and_e r_21
  obtain ⟨n_23, r_23⟩ := and_e r_22
  obtain ⟨n_24, r_24⟩ := and_e r_23
  obtain ⟨n_25, r_25⟩ := and_e r_24
  obtain ⟨n_26, r_26⟩ := and_e r_25
  obtain ⟨n_27, r_27⟩ := and_e r_26
  obtain ⟨n_28, r_28⟩ := and_e r_27
  obtain ⟨n_29, r_29⟩ := and_e r_28
  obtain ⟨n_30, r_30⟩ := and_e r_29
  obtain ⟨n_31, r_31⟩ := and_e r_30
  have n_32 := r_31
  obtain ⟨va, _, _, _, e_va, -⟩ := Cond.exactly_spec (Cond.before_iff.mpr n_1)
  obtain ⟨sg, _, _, _, e_sg, -⟩ := Cond.exactly_spec (Cond.before_iff.mpr n_3)
  obtain ⟨pr, _, _, _, e_pr, -⟩ := Cond.exactly_spec (Cond.before_iff.mpr n_5)
  obtain ⟨cva, Ava⟩ := Arr.start e_va n_0
  have lva := own_len_start e_va Ava n_2
  have va0 := own_elem_start e_va Ava (own_ref_start n_4 e_sg rfl)
  have va1 := own_elem_start e_va Ava (own_ref_start n_6 e_pr rfl)
  obtain ⟨sgs, _, _, _, e_sgs, -⟩ := Cond.exactly_spec (Cond.before_iff.mpr n_7)
  obtain ⟨sgt, e_sgt⟩ := len_v (own_eq_int n_10)
  obtain ⟨sgc, Asgt⟩ := Arr.start e_sgt n_9
  have lsgt := own_len_start e_sgt Asgt n_10
  have sgt_0 := own_elem_start e_sgt Asgt (own_eq_int n_15)
  have sgt_1 := own_elem_start e_sgt Asgt (own_eq_int n_16)
  have sgt_2 := own_elem_start e_sgt Asgt (own_eq_int n_17)
  have sgt_3 := own_elem_start e_sgt Asgt (own_eq_int n_18)
  have sgt_4 := own_elem_start e_sgt Asgt (own_eq_int n_19)
  have sgt_5 := own_elem_start e_sgt Asgt (own_eq_int n_20)
  have sgt_6 := own_elem_start e_sgt Asgt (own_eq_int n_21)
  have sgt_7 := own_elem_start e_sgt Asgt (own_eq_int n_22)
  have sgt_8 := own_elem_start e_sgt Asgt (own_eq_int n_23)
  obtain ⟨prs, _, _, _, e_prs, -⟩ := Cond.exactly_spec (Cond.before_iff.mpr n_11)
  obtain ⟨prt, e_prt⟩ := len_v (own_eq_int n_14)
  obtain ⟨prc, Aprt⟩ := Arr.start e_prt n_13
  have lprt := own_len_start e_prt Aprt n_14
  have prt_0 := own_elem_start e_prt Aprt (own_eq_int n_24)
  have prt_1 := own_elem_start e_prt Aprt (own_eq_int n_25)
  have prt_2 := own_elem_start e_prt Aprt (own_eq_int n_26)
  have prt_3 := own_elem_start e_prt Aprt (own_eq_int n_27)
  have prt_4 := own_elem_start e_prt Aprt (own_eq_int n_28)
  have prt_5 := own_elem_start e_prt Aprt (own_eq_int n_29)
  have prt_6 := own_elem_start e_prt Aprt (own_eq_int n_30)
  have prt_7 := own_elem_start e_prt Aprt (own_eq_int n_31)
  have prt_8 := own_elem_start e_prt Aprt (own_eq_int n_32)
  have G : Gl s zc fm va (cva.cls) sg pr sgs sgt (sgc.cls) prs prt (prc.cls) := ⟨Sta.start ezc (Or.inl (hsets _ (List.mem_of_getElem? (i := 0) rfl))), gotF (Cond.eq_ints ezc (Term.int_eval (0))) nzc, Sta.start efm (Or.inl (hsets _ (List.mem_of_getElem? (i := 7) rfl))), rfm, Sta.start e_va (Or.inr ⟨(w_68 hw), (w_74 hw)⟩), Arv.start hfit Ava lva.1 lva.2 (by decide) rfl ⟨va0, va1, trivial⟩, Exa.start e_va n_1, Sta.start e_sg (Or.inr ⟨(w_68 hw), (w_82 hw)⟩), Exa.start e_sg n_3, own_field_start e_sg e_sgs, Exa.start e_sgs n_7, own_field_start e_sgs (own_eq_int n_8), own_field_start e_sgs e_sgt, Arv.start hfit Asgt lsgt.1 lsgt.2 (by decide) rfl ⟨sgt_0, sgt_1, sgt_2, sgt_3, sgt_4, sgt_5, sgt_6, sgt_7, sgt_8, trivial⟩, Sta.start e_pr (Or.inr ⟨(w_68 hw), (w_83 hw)⟩), Exa.start e_pr n_5, own_field_start e_pr e_prs, Exa.start e_prs n_11, own_field_start e_prs (own_eq_int n_12), own_field_start e_prs e_prt, Arv.start hfit Aprt lprt.1 lprt.2 (by decide) rfl ⟨prt_0, prt_1, prt_2, prt_3, prt_4, prt_5, prt_6, prt_7, prt_8, trivial⟩⟩
  have hh := hcalls.1
  have hcw : Jvm.Lit.compactW.before #[(.int i0), (.int i1), (.int i2), (.int i3), (.int i4)] s = true := hsets _ (List.mem_of_getElem? (i := 2) rfl)
  have hCH : CHv s EL s.vm s.heap := CHv.start (hEL hw) (fun q hq => hh q (own_ELsub q hq)) hcw (w_3 hw) (w_2 hw)
  obtain ⟨n, o, r1, r2, r3, _, L, rfl, ⟨⟨-, w, rfl, rfl, -⟩, N⟩, -, hq⟩ := own_law l s _ hw G s.heap.size s.heap (Old.start s) i0 i1 i2 i3 i4 p e ha hc hk s m _ below hf ((Spec.applies_iff_loose hf).mp happ).1 ⟨rfl, State.Warmed39.refl s, rfl, hCH, fun _ q => nomatch q⟩ trivial
  exact ⟨n, _, r1, r2, r3, hpost _ _ _ _ _ _ ⟨Cond.after_iff.mpr rfl, Cond.after_iff.mpr (eq_i res_at (Term.int_eval (1)) rfl), trivial⟩ ⟨hq.1, hq.2.1, hq.2.2.1, (hq.2.2.2.sift fun y hy => Or.inr (N y hy)).mono (by decide) (by decide)⟩⟩
theorem main_1_1 : Claimed_1_1 := comes_1 fun _ _ _ _ _ _ h hF => ⟨h.1, hF⟩
theorem main_1_2 : Claimed_1_2 := comes_1 fun _ _ _ _ _ _ h hF => ⟨h.2.1, hF⟩
end OwnProof
end Jvm.Pilot.@@N@@
namespace Jvm.Pilot.@@N@@
open Jvm Jvm.ClassFile Sem Op Lib Jvm.Free Jvm.Stand Jvm.Pilot.@@N@@.Jvm.D
/-! MADE BY PROGRAM (witnessworld.py) out of the Statement's table words and the real class files: 22 classes; the members and pool entries that the words name. The judged class is class 1, her method 1. -/
namespace start1
open Jvm.ClassFile
def u (s : String) : CpInfo := .utf8 (stringToUtf16 s)
/-- a pool by its gaps: so many unusable entries, then the entry; so many at the end -/
def gap : Nat → List CpInfo → List CpInfo
  | 0, r => r
  | n + 1, r => .unusable :: gap n r
def poolList (es : List (Nat × CpInfo)) (last : Nat) : List CpInfo := es.foldr (fun e r => gap e.1 (e.2 :: r)) (gap last [])
def pool (es : List (Nat × CpInfo)) (last : Nat) : Array CpInfo := ⟨poolList es last⟩
def fileOf (pool : Array CpInfo) (this : Nat) (attrs : Array Attribute := #[]) (ms : Array MethodInfo := #[]) (fl : Nat := 33) (sup : Nat := 0) (ifs : Array Nat := #[]) (fds : Array FieldInfo := #[]) : ClassFile where
  minorVersion := 0
  majorVersion := 65
  constantPool := pool
  accessFlags := fl
  thisClass := this
  superClass := sup
  interfaces := ifs
  fields := fds
  methods := ms
  attributes := attrs
def plain (name : String) (sup : Option ClassId) : Class where
  name := name
  kind := .ordinary
  loader := none
  accessFlags := 33
  super := sup
  interfaces := #[]
  cf := none
  fields := #[]
  methods := #[]
  instanceTypes := #[]
  staticTypes := #[]
  resolved := #[]
  callSites := []
  init := .initialized
  statics := none
  mirror := none

def pool0 : Array CpInfo := pool [(5, u "<init>"), (0, u "()V"), (1, .class_ 10), (1, u "java/lang/Object"), (85, u "clone"), (0, u "()Ljava/lang/Object;")] 26

def k0c0 : Code := { maxStack := 0, maxLocals := 1, code := object_method_1_code, exceptionTable := #[], attributes := #[] }
def k0m0 : Method := { name := "<init>", desc := "()V", sig := { parameters := [], returnType := none }, accessFlags := 1, code := some k0c0 }
def k0m1 : Method := { name := "clone", desc := "()Ljava/lang/Object;", sig := { parameters := [], returnType := some (.object "java/lang/Object") }, accessFlags := 260, code := none }
/-- java/lang/Object -/
def k0 : Class := { plain "java/lang/Object" none with
  accessFlags := 33
  interfaces := #[]
  cf := some (fileOf pool0 8 #[] #[{ accessFlags := 1, nameIndex := 5, descriptorIndex := 6, attributes := #[] }, { accessFlags := 260, nameIndex := 96, descriptorIndex := 97, attributes := #[] }] 33 0 #[] #[])
  fields := #[]
  methods := #[k0m0, k0m1]
  instanceTypes := #[]
  staticTypes := #[]
  resolved := Array.replicate 124 none
  statics := none }

def pool1 : Array CpInfo := pool [(2, .class_ 4), (1, u "java/lang/Object"), (0, u "<init>"), (0, u "()V"), (0, .string 8), (0, u "singleton"), (0, .string 10), (0, u "prototype"), (0, .methodref 12 13), (0, .class_ 14), (0, .nameAndType 15 16), (0, u "java/lang/String"), (0, u "charAt"), (0, u "(I)C"), (0, .integer 2147483647), (0, .methodref 12 19), (0, .nameAndType 5 20), (0, u "([C)V"), (0, .methodref 12 22), (0, .nameAndType 23 24), (0, u "valueOf"), (0, u "(C)Ljava/lang/String;"), (0, .methodref 12 26), (0, .nameAndType 27 28), (0, u "equals"), (0, u "(Ljava/lang/Object;)Z"), (0, .fieldref 30 31), (0, .class_ 32), (0, .nameAndType 33 34), (0, u "com/example/wirewright/wirewright/definition/Scope"), (0, u "SINGLETON"), (0, u "Lcom/example/wirewright/wirewright/definition/Scope;"), (0, .fieldref 30 36), (0, .nameAndType 37 34), (0, u "PROTOTYPE"), (0, .methodref 30 39), (0, .nameAndType 40 41), (0, u "ofAttribute"), (0, u "(Ljava/lang/String;)Lcom/example/wirewright/wirewright/definition/Scope;"), (0, .class_ 43), (0, u "com/example/wirewright/wirewright/definition/ScopeOfAttributePinLaw"), (2, u "law"), (0, u "(IIIII)Z")] 5

def k1m0 : Method := { name := "<init>", desc := "()V", sig := { parameters := [], returnType := none }, accessFlags := 1, code := none }
def k1c1 : Code := { maxStack := 7, maxLocals := 13, code := code, exceptionTable := #[], attributes := #[] }
def k1m1 : Method := { name := "law", desc := "(IIIII)Z", sig := { parameters := [.int, .int, .int, .int, .int], returnType := some .boolean }, accessFlags := 9, code := some k1c1 }
/-- com/example/wirewright/wirewright/definition/ScopeOfAttributePinLaw -/
def k1 : Class := { plain "com/example/wirewright/wirewright/definition/ScopeOfAttributePinLaw" (some 0) with
  accessFlags := 49
  interfaces := #[]
  cf := some (fileOf pool1 42 #[] #[{ accessFlags := 1, nameIndex := 5, descriptorIndex := 6, attributes := #[] }, { accessFlags := 9, nameIndex := 46, descriptorIndex := 47, attributes := #[] }] 49 2 #[] #[])
  fields := #[]
  methods := #[k1m0, k1m1]
  instanceTypes := #[]
  staticTypes := #[]
  resolved := Array.replicate 53 none
  statics := none }

def pool2 : Array CpInfo := pool [(1, .class_ 2), (0, u "java/io/Serializable"), (0, .class_ 4), (0, u "java/lang/Object")] 2

/-- java/io/Serializable -/
def k2 : Class := { plain "java/io/Serializable" (some 0) with
  accessFlags := 1537
  interfaces := #[]
  cf := some (fileOf pool2 1 #[] #[] 1537 3 #[] #[])
  fields := #[]
  methods := #[]
  instanceTypes := #[]
  staticTypes := #[]
  resolved := Array.replicate 7 none
  statics := none }

def pool3 : Array CpInfo := pool [(1, .class_ 2), (0, u "java/lang/Comparable"), (0, .class_ 4), (0, u "java/lang/Object")] 7

/-- java/lang/Comparable -/
def k3 : Class := { plain "java/lang/Comparable" (some 0) with
  accessFlags := 1537
  interfaces := #[]
  cf := some (fileOf pool3 1 #[] #[] 1537 3 #[] #[])
  fields := #[]
  methods := #[]
  instanceTypes := #[]
  staticTypes := #[]
  resolved := Array.replicate 12 none
  statics := none }

def pool4 : Array CpInfo := pool [(2, .class_ 4), (1, u "java/lang/CharSequence"), (42, .class_ 48), (0, u "java/lang/CharSequence$1CodePointIterator"), (10, .class_ 60), (0, u "java/lang/CharSequence$1CharIterator"), (5, .class_ 67), (0, u "java/lang/Object")] 63

/-- java/lang/CharSequence -/
def k4 : Class := { plain "java/lang/CharSequence" (some 0) with
  accessFlags := 1537
  interfaces := #[]
  cf := some (fileOf pool4 2 #[.nestMembers #[47, 59]] #[] 1537 66 #[] #[])
  fields := #[]
  methods := #[]
  instanceTypes := #[]
  staticTypes := #[]
  resolved := Array.replicate 131 none
  statics := none }

def pool5 : Array CpInfo := pool [(1, .class_ 2), (0, u "java/lang/constant/Constable"), (0, .class_ 4), (0, u "java/lang/Object")] 6

/-- java/lang/constant/Constable -/
def k5 : Class := { plain "java/lang/constant/Constable" (some 0) with
  accessFlags := 1537
  interfaces := #[]
  cf := some (fileOf pool5 1 #[] #[] 1537 3 #[] #[])
  fields := #[]
  methods := #[]
  instanceTypes := #[]
  staticTypes := #[]
  resolved := Array.replicate 11 none
  statics := none }

def pool6 : Array CpInfo := pool [(1, .class_ 2), (0, u "java/lang/constant/ConstantDesc"), (0, .class_ 4), (0, u "java/lang/Object")] 32

/-- java/lang/constant/ConstantDesc -/
def k6 : Class := { plain "java/lang/constant/ConstantDesc" (some 0) with
  accessFlags := 1537
  interfaces := #[]
  cf := some (fileOf pool6 1 #[] #[] 1537 3 #[] #[])
  fields := #[]
  methods := #[]
  instanceTypes := #[]
  staticTypes := #[]
  resolved := Array.replicate 37 none
  statics := none }

def pool7 : Array CpInfo := pool [(1, .methodref 2 3), (0, .class_ 4), (0, .nameAndType 5 6), (0, u "java/lang/Object"), (0, u "<init>"), (0, u "()V"), (0, .string 8), (0, u ""), (0, .fieldref 10 11), (0, .class_ 12), (0, .nameAndType 13 14), (0, u "java/lang/String"), (0, u "value"), (0, u "[B"), (0, .fieldref 10 16), (0, .nameAndType 17 18), (0, u "coder"), (0, u "B"), (2, u "hash"), (0, u "I"), (2, u "hashIsZero"), (0, u "Z"), (0, .methodref 10 28), (0, .nameAndType 5 29), (0, u "([CIILjava/lang/Void;)V"), (8, .fieldref 10 39), (0, .nameAndType 40 26), (0, u "COMPACT_STRINGS"), (1, .class_ 44), (1, u "java/lang/StringUTF16"), (0, u "compress"), (1, .methodref 42 48), (0, .nameAndType 49 50), (0, u "coderFromArrayLen"), (0, u "([BI)B"), (2, u "toBytes"), (53, .class_ 109), (1, u "java/lang/StringLatin1"), (32, u "()Z"), (34, .methodref 42 178), (0, .nameAndType 45 179), (0, u "([CII)[B"), (29, .methodref 10 210), (0, .nameAndType 5 211), (0, u "([BB)V"), (151, u "([BI)C"), (5, u "(C)Z"), (21, u "(II)V"), (35, u "(I)C"), (64, .methodref 10 493), (0, .nameAndType 494 142), (0, u "isLatin1"), (0, .methodref 107 496), (0, .nameAndType 497 363), (0, u "charAt"), (3, u "checkIndex"), (39, .methodref 107 542), (0, .nameAndType 543 544), (0, u "equals"), (0, u "([B[B)Z"), (28, u "(Ljava/lang/Object;)Z"), (1, .class_ 576), (0, u "java/lang/CharSequence"), (22, u "CASE_INSENSITIVE_ORDER"), (0, u "Ljava/util/Comparator;"), (181, u "valueOf"), (0, u "(C)Ljava/lang/String;"), (226, u "([C)V"), (4, .methodref 107 1016), (0, .nameAndType 1017 369), (0, u "canEncode"), (0, .methodref 107 1019), (0, .nameAndType 53 1020), (0, u "(C)[B"), (32, .fieldref 1054 1055), (0, .class_ 1056), (0, .nameAndType 1057 1058), (0, u "jdk/internal/util/Preconditions"), (0, u "SIOOBE_FORMATTER"), (0, u "Ljava/util/function/BiFunction;"), (0, .methodref 1054 1060), (0, .nameAndType 501 1061), (0, u "(IILjava/util/function/BiFunction;)I"), (39, u "serialPersistentFields"), (0, u "[Ljava/io/ObjectStreamField;"), (0, .class_ 1104), (0, u "java/lang/String$CaseInsensitiveComparator"), (1, .class_ 1107), (0, u "java/io/Serializable"), (0, .class_ 1109), (0, u "java/lang/Comparable"), (0, .class_ 1111), (0, u "java/lang/constant/Constable"), (0, .class_ 1113), (0, u "java/lang/constant/ConstantDesc"), (2, u "serialVersionUID"), (0, u "J"), (3, u "REPL"), (0, u "C"), (2, u "LATIN1"), (1, u "UTF16")] 323

def k7m0 : Method := { name := "<init>", desc := "()V", sig := { parameters := [], returnType := none }, accessFlags := 1, code := none }
def k7c1 : Code := { maxStack := 5, maxLocals := 2, code := jdk_42_method_3_code, exceptionTable := #[], attributes := #[] }
def k7m1 : Method := { name := "<init>", desc := "([C)V", sig := { parameters := [(.array .char)], returnType := none }, accessFlags := 1, code := some k7c1 }
def k7c2 : Code := { maxStack := 2, maxLocals := 2, code := jdk_42_method_56_code, exceptionTable := #[], attributes := #[] }
def k7m2 : Method := { name := "charAt", desc := "(I)C", sig := { parameters := [.int], returnType := some .char }, accessFlags := 1, code := some k7c2 }
def k7c3 : Code := { maxStack := 2, maxLocals := 3, code := jdk_42_method_66_code, exceptionTable := #[], attributes := #[] }
def k7m3 : Method := { name := "equals", desc := "(Ljava/lang/Object;)Z", sig := { parameters := [(.object "java/lang/Object")], returnType := some .boolean }, accessFlags := 1, code := some k7c3 }
def k7c4 : Code := { maxStack := 4, maxLocals := 1, code := jdk_42_method_139_code, exceptionTable := #[], attributes := #[] }
def k7m4 : Method := { name := "valueOf", desc := "(C)Ljava/lang/String;", sig := { parameters := [.char], returnType := some (.object "java/lang/String") }, accessFlags := 9, code := some k7c4 }
def k7c5 : Code := { maxStack := 4, maxLocals := 6, code := jdk_42_method_149_code, exceptionTable := #[], attributes := #[] }
def k7m5 : Method := { name := "<init>", desc := "([CIILjava/lang/Void;)V", sig := { parameters := [(.array .char), .int, .int, (.object "java/lang/Void")], returnType := none }, accessFlags := 2, code := some k7c5 }
def k7c6 : Code := { maxStack := 2, maxLocals := 3, code := jdk_42_method_151_code, exceptionTable := #[], attributes := #[] }
def k7m6 : Method := { name := "<init>", desc := "([BB)V", sig := { parameters := [(.array .byte), .byte], returnType := none }, accessFlags := 0, code := some k7c6 }
def k7c7 : Code := { maxStack := 1, maxLocals := 1, code := jdk_42_method_154_code, exceptionTable := #[], attributes := #[] }
def k7m7 : Method := { name := "isLatin1", desc := "()Z", sig := { parameters := [], returnType := some .boolean }, accessFlags := 0, code := some k7c7 }
def k7c8 : Code := { maxStack := 3, maxLocals := 2, code := jdk_42_method_155_code, exceptionTable := #[], attributes := #[] }
def k7m8 : Method := { name := "checkIndex", desc := "(II)V", sig := { parameters := [.int, .int], returnType := none }, accessFlags := 8, code := some k7c8 }
/-- java/lang/String -/
def k7 : Class := { plain "java/lang/String" (some 0) with
  accessFlags := 49
  interfaces := #[2, 3, 4, 5, 6]
  cf := some (fileOf pool7 10 #[.nestMembers #[1103]] #[{ accessFlags := 1, nameIndex := 5, descriptorIndex := 6, attributes := #[] }, { accessFlags := 1, nameIndex := 5, descriptorIndex := 1010, attributes := #[] }, { accessFlags := 1, nameIndex := 497, descriptorIndex := 427, attributes := #[] }, { accessFlags := 1, nameIndex := 543, descriptorIndex := 573, attributes := #[] }, { accessFlags := 9, nameIndex := 782, descriptorIndex := 783, attributes := #[] }, { accessFlags := 2, nameIndex := 5, descriptorIndex := 29, attributes := #[] }, { accessFlags := 0, nameIndex := 5, descriptorIndex := 211, attributes := #[] }, { accessFlags := 0, nameIndex := 494, descriptorIndex := 142, attributes := #[] }, { accessFlags := 8, nameIndex := 501, descriptorIndex := 391, attributes := #[] }] 49 2 #[1106, 1108, 575, 1110, 1112] #[{ accessFlags := 18, nameIndex := 13, descriptorIndex := 14, attributes := #[] }, { accessFlags := 18, nameIndex := 17, descriptorIndex := 18, attributes := #[] }, { accessFlags := 2, nameIndex := 21, descriptorIndex := 22, attributes := #[] }, { accessFlags := 2, nameIndex := 25, descriptorIndex := 26, attributes := #[] }, { accessFlags := 26, nameIndex := 1116, descriptorIndex := 1117, attributes := #[] }, { accessFlags := 24, nameIndex := 40, descriptorIndex := 26, attributes := #[] }, { accessFlags := 26, nameIndex := 1101, descriptorIndex := 1102, attributes := #[] }, { accessFlags := 26, nameIndex := 1121, descriptorIndex := 1122, attributes := #[] }, { accessFlags := 25, nameIndex := 599, descriptorIndex := 600, attributes := #[] }, { accessFlags := 24, nameIndex := 1125, descriptorIndex := 18, attributes := #[] }, { accessFlags := 24, nameIndex := 1127, descriptorIndex := 18, attributes := #[] }])
  fields := #[{ name := "value", type := (.array .byte), accessFlags := 18, slot := 0, constantValue := 0 }, { name := "coder", type := .byte, accessFlags := 18, slot := 1, constantValue := 0 }, { name := "hash", type := .int, accessFlags := 2, slot := 2, constantValue := 0 }, { name := "hashIsZero", type := .boolean, accessFlags := 2, slot := 3, constantValue := 0 }, { name := "serialVersionUID", type := .long, accessFlags := 26, slot := 0, constantValue := 0 }, { name := "COMPACT_STRINGS", type := .boolean, accessFlags := 24, slot := 1, constantValue := 0 }, { name := "serialPersistentFields", type := (.array (.object "java/io/ObjectStreamField")), accessFlags := 26, slot := 2, constantValue := 0 }, { name := "REPL", type := .char, accessFlags := 26, slot := 3, constantValue := 0 }, { name := "CASE_INSENSITIVE_ORDER", type := (.object "java/util/Comparator"), accessFlags := 25, slot := 4, constantValue := 0 }, { name := "LATIN1", type := .byte, accessFlags := 24, slot := 5, constantValue := 0 }, { name := "UTF16", type := .byte, accessFlags := 24, slot := 6, constantValue := 0 }]
  methods := #[k7m0, k7m1, k7m2, k7m3, k7m4, k7m5, k7m6, k7m7, k7m8]
  instanceTypes := #[(.array .byte), .byte, .int, .boolean]
  staticTypes := #[.long, .boolean, (.array (.object "java/io/ObjectStreamField")), .char, (.object "java/util/Comparator"), .byte, .byte]
  resolved := Array.replicate 1451 none
  statics := some 0 }

def pool8 : Array CpInfo := pool [(1, .class_ 2), (0, u "java/lang/String"), (1, .class_ 6), (1, u "java/lang/Object"), (0, u "<init>"), (0, u "()V"), (0, .methodref 1 10), (0, .nameAndType 11 12), (0, u "checkIndex"), (0, u "(II)V"), (1, .class_ 16), (1, u "java/lang/StringLatin1"), (36, u "([BI)C"), (36, u "canEncode"), (14, u "(C)Z"), (15, u "$assertionsDisabled"), (0, u "Z"), (98, .class_ 223), (1, u "java/lang/StringLatin1$LinesSpliterator"), (28, u "charAt"), (28, u "equals"), (0, u "([B[B)Z"), (97, u "toBytes"), (1, u "(C)[B"), (7, .class_ 391), (0, u "java/lang/StringLatin1$CharsSpliterator")] 3

def k8m0 : Method := { name := "<init>", desc := "()V", sig := { parameters := [], returnType := none }, accessFlags := 0, code := none }
def k8c1 : Code := { maxStack := 2, maxLocals := 2, code := jdk_43_method_2_code, exceptionTable := #[], attributes := #[] }
def k8m1 : Method := { name := "charAt", desc := "([BI)C", sig := { parameters := [(.array .byte), .int], returnType := some .char }, accessFlags := 9, code := some k8c1 }
def k8c2 : Code := { maxStack := 2, maxLocals := 1, code := jdk_43_method_3_code, exceptionTable := #[], attributes := #[] }
def k8m2 : Method := { name := "canEncode", desc := "(C)Z", sig := { parameters := [.char], returnType := some .boolean }, accessFlags := 9, code := some k8c2 }
def k8c3 : Code := { maxStack := 3, maxLocals := 3, code := jdk_43_method_13_code, exceptionTable := #[], attributes := #[] }
def k8m3 : Method := { name := "equals", desc := "([B[B)Z", sig := { parameters := [(.array .byte), (.array .byte)], returnType := some .boolean }, accessFlags := 9, code := some k8c3 }
def k8c4 : Code := { maxStack := 4, maxLocals := 1, code := jdk_43_method_46_code, exceptionTable := #[], attributes := #[] }
def k8m4 : Method := { name := "toBytes", desc := "(C)[B", sig := { parameters := [.char], returnType := some (.array .byte) }, accessFlags := 9, code := some k8c4 }
/-- java/lang/StringLatin1 -/
def k8 : Class := { plain "java/lang/StringLatin1" (some 0) with
  accessFlags := 48
  interfaces := #[]
  cf := some (fileOf pool8 14 #[.nestMembers #[390, 221]] #[{ accessFlags := 0, nameIndex := 7, descriptorIndex := 8, attributes := #[] }, { accessFlags := 9, nameIndex := 252, descriptorIndex := 53, attributes := #[] }, { accessFlags := 9, nameIndex := 90, descriptorIndex := 105, attributes := #[] }, { accessFlags := 9, nameIndex := 281, descriptorIndex := 282, attributes := #[] }, { accessFlags := 9, nameIndex := 380, descriptorIndex := 382, attributes := #[] }] 48 4 #[] #[{ accessFlags := 4120, nameIndex := 121, descriptorIndex := 122, attributes := #[] }])
  fields := #[{ name := "$assertionsDisabled", type := .boolean, accessFlags := 4120, slot := 0, constantValue := 0 }]
  methods := #[k8m0, k8m1, k8m2, k8m3, k8m4]
  instanceTypes := #[]
  staticTypes := #[.boolean]
  resolved := Array.replicate 395 none
  statics := none }

def pool9 : Array CpInfo := pool [(2, .class_ 4), (1, u "java/lang/Object"), (0, u "<init>"), (0, u "()V"), (17, .class_ 26), (1, u "jdk/internal/util/Preconditions"), (6, u "checkIndex"), (21, .class_ 56), (0, u "jdk/internal/util/Preconditions$4"), (57, .class_ 115), (0, u "jdk/internal/util/Preconditions$1"), (7, u "SIOOBE_FORMATTER"), (0, u "Ljava/util/function/BiFunction;"), (0, .class_ 126), (0, u "jdk/internal/util/Preconditions$2"), (3, u "AIOOBE_FORMATTER"), (0, .class_ 132), (0, u "jdk/internal/util/Preconditions$3"), (3, u "IOOBE_FORMATTER"), (41, u "(IILjava/util/function/BiFunction;)I")] 15

def k9m0 : Method := { name := "<init>", desc := "()V", sig := { parameters := [], returnType := none }, accessFlags := 1, code := none }
def k9c1 : Code := { maxStack := 3, maxLocals := 3, code := jdk_41_method_11_code, exceptionTable := #[], attributes := #[] }
def k9m1 : Method := { name := "checkIndex", desc := "(IILjava/util/function/BiFunction;)I", sig := { parameters := [.int, .int, (.object "java/util/function/BiFunction")], returnType := some .int }, accessFlags := 9, code := some k9c1 }
/-- jdk/internal/util/Preconditions -/
def k9 : Class := { plain "jdk/internal/util/Preconditions" (some 0) with
  accessFlags := 33
  interfaces := #[]
  cf := some (fileOf pool9 24 #[.nestMembers #[55, 131, 125, 114]] #[{ accessFlags := 1, nameIndex := 5, descriptorIndex := 6, attributes := #[] }, { accessFlags := 9, nameIndex := 33, descriptorIndex := 178, attributes := #[] }] 33 2 #[] #[{ accessFlags := 25, nameIndex := 123, descriptorIndex := 124, attributes := #[] }, { accessFlags := 25, nameIndex := 130, descriptorIndex := 124, attributes := #[] }, { accessFlags := 25, nameIndex := 136, descriptorIndex := 124, attributes := #[] }])
  fields := #[{ name := "SIOOBE_FORMATTER", type := (.object "java/util/function/BiFunction"), accessFlags := 25, slot := 0, constantValue := 0 }, { name := "AIOOBE_FORMATTER", type := (.object "java/util/function/BiFunction"), accessFlags := 25, slot := 1, constantValue := 0 }, { name := "IOOBE_FORMATTER", type := (.object "java/util/function/BiFunction"), accessFlags := 25, slot := 2, constantValue := 0 }]
  methods := #[k9m0, k9m1]
  instanceTypes := #[]
  staticTypes := #[(.object "java/util/function/BiFunction"), (.object "java/util/function/BiFunction"), (.object "java/util/function/BiFunction")]
  resolved := Array.replicate 194 none
  statics := some 1 }

def pool10 : Array CpInfo := pool [(6, .class_ 8), (1, u "java/lang/Object"), (0, u "<init>"), (0, u "()V"), (1, .class_ 14), (1, u "java/lang/StringUTF16"), (31, u "$assertionsDisabled"), (0, u "Z"), (13, u "HI_BYTE_SHIFT"), (0, u "I"), (2, u "LO_BYTE_SHIFT"), (49, .methodref 12 116), (0, .nameAndType 117 118), (0, u "compress"), (0, u "([CI[BII)I"), (3, u "([CII)[B"), (138, u "coderFromArrayLen"), (0, u "([BI)B"), (106, .class_ 371), (1, u "java/lang/StringUTF16$LinesSpliterator"), (58, u "MAX_LENGTH"), (196, .class_ 628), (0, u "java/lang/StringUTF16$CodePointsSpliterator"), (0, .class_ 630), (0, u "java/lang/StringUTF16$CharsSpliterator")] 4

def k10m0 : Method := { name := "<init>", desc := "()V", sig := { parameters := [], returnType := none }, accessFlags := 0, code := none }
def k10c1 : Code := { maxStack := 2, maxLocals := 2, code := jdk_52_method_15_code, exceptionTable := #[], attributes := #[] }
def k10m1 : Method := { name := "coderFromArrayLen", desc := "([BI)B", sig := { parameters := [(.array .byte), .int], returnType := some .byte }, accessFlags := 8, code := some k10c1 }
def k10c2 : Code := { maxStack := 5, maxLocals := 6, code := jdk_52_method_16_code, exceptionTable := #[], attributes := #[] }
def k10m2 : Method := { name := "compress", desc := "([CII)[B", sig := { parameters := [(.array .char), .int, .int], returnType := some (.array .byte) }, accessFlags := 9, code := some k10c2 }
def k10c3 : Code := { maxStack := 3, maxLocals := 7, code := jdk_52_method_21_code, exceptionTable := #[], attributes := #[] }
def k10m3 : Method := { name := "compress", desc := "([CI[BII)I", sig := { parameters := [(.array .char), .int, (.array .byte), .int, .int], returnType := some .int }, accessFlags := 9, code := some k10c3 }
/-- java/lang/StringUTF16 -/
def k10 : Class := { plain "java/lang/StringUTF16" (some 0) with
  accessFlags := 48
  interfaces := #[]
  cf := some (fileOf pool10 12 #[.nestMembers #[627, 629, 369]] #[{ accessFlags := 0, nameIndex := 9, descriptorIndex := 10, attributes := #[] }, { accessFlags := 8, nameIndex := 261, descriptorIndex := 262, attributes := #[] }, { accessFlags := 9, nameIndex := 117, descriptorIndex := 122, attributes := #[] }, { accessFlags := 9, nameIndex := 117, descriptorIndex := 118, attributes := #[] }] 48 6 #[] #[{ accessFlags := 26, nameIndex := 61, descriptorIndex := 62, attributes := #[] }, { accessFlags := 26, nameIndex := 65, descriptorIndex := 62, attributes := #[] }, { accessFlags := 24, nameIndex := 430, descriptorIndex := 62, attributes := #[] }, { accessFlags := 4120, nameIndex := 46, descriptorIndex := 47, attributes := #[] }])
  fields := #[{ name := "HI_BYTE_SHIFT", type := .int, accessFlags := 26, slot := 0, constantValue := 0 }, { name := "LO_BYTE_SHIFT", type := .int, accessFlags := 26, slot := 1, constantValue := 0 }, { name := "MAX_LENGTH", type := .int, accessFlags := 24, slot := 2, constantValue := 0 }, { name := "$assertionsDisabled", type := .boolean, accessFlags := 4120, slot := 3, constantValue := 0 }]
  methods := #[k10m0, k10m1, k10m2, k10m3]
  instanceTypes := #[]
  staticTypes := #[.int, .int, .int, .boolean]
  resolved := Array.replicate 635 none
  statics := none }

def pool11 : Array CpInfo := pool [(2, .class_ 4), (1, u "java/lang/Enum"), (0, u "name"), (0, u "Ljava/lang/String;"), (2, u "ordinal"), (0, u "I"), (1, .class_ 14), (1, u "java/lang/Object"), (4, u "hash"), (86, .class_ 108), (1, u "java/lang/Enum$EnumDesc"), (2, .class_ 112), (0, u "java/lang/constant/Constable"), (0, .class_ 114), (0, u "java/lang/Comparable"), (0, .class_ 116), (0, u "java/io/Serializable")] 87

/-- java/lang/Enum -/
def k11 : Class := { plain "java/lang/Enum" (some 0) with
  accessFlags := 1057
  interfaces := #[5, 3, 2]
  cf := some (fileOf pool11 2 #[.nestMembers #[106]] #[] 1057 12 #[111, 113, 115] #[{ accessFlags := 18, nameIndex := 5, descriptorIndex := 6, attributes := #[] }, { accessFlags := 18, nameIndex := 9, descriptorIndex := 10, attributes := #[] }, { accessFlags := 2, nameIndex := 19, descriptorIndex := 10, attributes := #[] }])
  fields := #[{ name := "name", type := (.object "java/lang/String"), accessFlags := 18, slot := 0, constantValue := 0 }, { name := "ordinal", type := .int, accessFlags := 18, slot := 1, constantValue := 0 }, { name := "hash", type := .int, accessFlags := 2, slot := 2, constantValue := 0 }]
  methods := #[]
  instanceTypes := #[(.object "java/lang/String"), .int, .int]
  staticTypes := #[]
  resolved := Array.replicate 204 none
  statics := none }

def pool12 : Array CpInfo := pool [(1, .class_ 2), (0, u "com/example/wirewright/wirewright/definition/Scope"), (2, u "SINGLETON"), (0, u "Lcom/example/wirewright/wirewright/definition/Scope;"), (2, u "PROTOTYPE"), (0, .fieldref 1 11), (0, .nameAndType 12 13), (0, u "$VALUES"), (0, u "[Lcom/example/wirewright/wirewright/definition/Scope;"), (0, .methodref 15 16), (0, .class_ 13), (0, .nameAndType 17 18), (0, u "clone"), (0, u "()Ljava/lang/Object;"), (1, .class_ 22), (1, u "java/lang/Enum"), (6, .fieldref 1 30), (0, .nameAndType 31 32), (0, u "attributeValue"), (0, u "Ljava/lang/String;"), (0, .methodref 1 34), (0, .nameAndType 35 36), (0, u "values"), (0, u "()[Lcom/example/wirewright/wirewright/definition/Scope;"), (0, .methodref 38 39), (0, .class_ 40), (0, .nameAndType 41 42), (0, u "java/lang/String"), (0, u "equals"), (0, u "(Ljava/lang/Object;)Z"), (14, u "(Ljava/lang/String;)Lcom/example/wirewright/wirewright/definition/Scope;"), (3, u "ofAttribute")] 7

def k12c0 : Code := { maxStack := 1, maxLocals := 0, code := prog_35_method_1_code, exceptionTable := #[], attributes := #[] }
def k12m0 : Method := { name := "values", desc := "()[Lcom/example/wirewright/wirewright/definition/Scope;", sig := { parameters := [], returnType := some (.array (.object "com/example/wirewright/wirewright/definition/Scope")) }, accessFlags := 9, code := some k12c0 }
def k12c1 : Code := { maxStack := 2, maxLocals := 6, code := prog_35_method_4_code, exceptionTable := #[], attributes := #[] }
def k12m1 : Method := { name := "ofAttribute", desc := "(Ljava/lang/String;)Lcom/example/wirewright/wirewright/definition/Scope;", sig := { parameters := [(.object "java/lang/String")], returnType := some (.object "com/example/wirewright/wirewright/definition/Scope") }, accessFlags := 9, code := some k12c1 }
/-- com/example/wirewright/wirewright/definition/Scope -/
def k12 : Class := { plain "com/example/wirewright/wirewright/definition/Scope" (some 11) with
  accessFlags := 16433
  interfaces := #[]
  cf := some (fileOf pool12 1 #[] #[{ accessFlags := 9, nameIndex := 35, descriptorIndex := 36, attributes := #[] }, { accessFlags := 9, nameIndex := 61, descriptorIndex := 57, attributes := #[] }] 16433 20 #[] #[{ accessFlags := 16409, nameIndex := 5, descriptorIndex := 6, attributes := #[] }, { accessFlags := 16409, nameIndex := 9, descriptorIndex := 6, attributes := #[] }, { accessFlags := 18, nameIndex := 31, descriptorIndex := 32, attributes := #[] }, { accessFlags := 4122, nameIndex := 12, descriptorIndex := 13, attributes := #[] }])
  fields := #[{ name := "SINGLETON", type := (.object "com/example/wirewright/wirewright/definition/Scope"), accessFlags := 16409, slot := 0, constantValue := 0 }, { name := "PROTOTYPE", type := (.object "com/example/wirewright/wirewright/definition/Scope"), accessFlags := 16409, slot := 1, constantValue := 0 }, { name := "attributeValue", type := (.object "java/lang/String"), accessFlags := 18, slot := 3, constantValue := 0 }, { name := "$VALUES", type := (.array (.object "com/example/wirewright/wirewright/definition/Scope")), accessFlags := 4122, slot := 2, constantValue := 0 }]
  methods := #[k12m0, k12m1]
  instanceTypes := #[(.object "java/lang/String"), .int, .int, (.object "java/lang/String")]
  staticTypes := #[(.object "com/example/wirewright/wirewright/definition/Scope"), (.object "com/example/wirewright/wirewright/definition/Scope"), (.array (.object "com/example/wirewright/wirewright/definition/Scope"))]
  resolved := Array.replicate 69 none
  statics := some 2 }

def pool13 : Array CpInfo := pool [(1, .class_ 2), (0, u "java/lang/Cloneable"), (0, .class_ 4), (0, u "java/lang/Object")] 2

/-- java/lang/Cloneable -/
def k13 : Class := { plain "java/lang/Cloneable" (some 0) with
  accessFlags := 1537
  interfaces := #[]
  cf := some (fileOf pool13 1 #[] #[] 1537 3 #[] #[])
  fields := #[]
  methods := #[]
  instanceTypes := #[]
  staticTypes := #[]
  resolved := Array.replicate 7 none
  statics := none }

def pool14 : Array CpInfo := pool [(9, u "<init>"), (6, .class_ 18), (1, u "java/lang/Object"), (0, u "()V"), (1, .class_ 23), (1, u "jdk/internal/util/ArraysSupport"), (0, u "LOG2_ARRAY_LONG_INDEX_SCALE"), (0, u "I"), (2, u "U"), (0, u "Ljdk/internal/misc/Unsafe;"), (8, u "BIG_ENDIAN"), (0, u "Z"), (8, u "LOG2_BYTE_BIT_SIZE"), (4, u "LOG2_ARRAY_INT_INDEX_SCALE"), (54, u "JLA"), (0, u "Ljdk/internal/access/JavaLangAccess;"), (11, u "LOG2_ARRAY_BOOLEAN_INDEX_SCALE"), (9, u "LOG2_ARRAY_BYTE_INDEX_SCALE"), (5, u "LOG2_ARRAY_CHAR_INDEX_SCALE"), (5, u "LOG2_ARRAY_SHORT_INDEX_SCALE"), (18, u "LOG2_ARRAY_FLOAT_INDEX_SCALE"), (24, u "LOG2_ARRAY_DOUBLE_INDEX_SCALE"), (89, u "T_BOOLEAN"), (2, u "T_CHAR"), (1, u "T_FLOAT"), (1, u "T_DOUBLE"), (1, u "T_BYTE"), (1, u "T_SHORT"), (1, u "T_INT"), (1, u "T_LONG"), (1, u "SOFT_MAX_ARRAY_LENGTH")] 83

def k14m0 : Method := { name := "<init>", desc := "()V", sig := { parameters := [], returnType := none }, accessFlags := 2, code := none }
/-- jdk/internal/util/ArraysSupport -/
def k14 : Class := { plain "jdk/internal/util/ArraysSupport" (some 0) with
  accessFlags := 33
  interfaces := #[]
  cf := some (fileOf pool14 21 #[] #[{ accessFlags := 2, nameIndex := 9, descriptorIndex := 19, attributes := #[] }] 33 16 #[] #[{ accessFlags := 24, nameIndex := 28, descriptorIndex := 29, attributes := #[] }, { accessFlags := 26, nameIndex := 38, descriptorIndex := 39, attributes := #[] }, { accessFlags := 25, nameIndex := 121, descriptorIndex := 25, attributes := #[] }, { accessFlags := 25, nameIndex := 131, descriptorIndex := 25, attributes := #[] }, { accessFlags := 25, nameIndex := 137, descriptorIndex := 25, attributes := #[] }, { accessFlags := 25, nameIndex := 143, descriptorIndex := 25, attributes := #[] }, { accessFlags := 25, nameIndex := 53, descriptorIndex := 25, attributes := #[] }, { accessFlags := 25, nameIndex := 24, descriptorIndex := 25, attributes := #[] }, { accessFlags := 25, nameIndex := 162, descriptorIndex := 25, attributes := #[] }, { accessFlags := 25, nameIndex := 187, descriptorIndex := 25, attributes := #[] }, { accessFlags := 26, nameIndex := 48, descriptorIndex := 25, attributes := #[] }, { accessFlags := 25, nameIndex := 277, descriptorIndex := 25, attributes := #[] }, { accessFlags := 25, nameIndex := 280, descriptorIndex := 25, attributes := #[] }, { accessFlags := 25, nameIndex := 282, descriptorIndex := 25, attributes := #[] }, { accessFlags := 25, nameIndex := 284, descriptorIndex := 25, attributes := #[] }, { accessFlags := 25, nameIndex := 286, descriptorIndex := 25, attributes := #[] }, { accessFlags := 25, nameIndex := 288, descriptorIndex := 25, attributes := #[] }, { accessFlags := 25, nameIndex := 290, descriptorIndex := 25, attributes := #[] }, { accessFlags := 25, nameIndex := 292, descriptorIndex := 25, attributes := #[] }, { accessFlags := 26, nameIndex := 108, descriptorIndex := 109, attributes := #[] }, { accessFlags := 25, nameIndex := 294, descriptorIndex := 25, attributes := #[] }])
  fields := #[{ name := "U", type := (.object "jdk/internal/misc/Unsafe"), accessFlags := 24, slot := 0, constantValue := 0 }, { name := "BIG_ENDIAN", type := .boolean, accessFlags := 26, slot := 1, constantValue := 0 }, { name := "LOG2_ARRAY_BOOLEAN_INDEX_SCALE", type := .int, accessFlags := 25, slot := 2, constantValue := 0 }, { name := "LOG2_ARRAY_BYTE_INDEX_SCALE", type := .int, accessFlags := 25, slot := 3, constantValue := 0 }, { name := "LOG2_ARRAY_CHAR_INDEX_SCALE", type := .int, accessFlags := 25, slot := 4, constantValue := 0 }, { name := "LOG2_ARRAY_SHORT_INDEX_SCALE", type := .int, accessFlags := 25, slot := 5, constantValue := 0 }, { name := "LOG2_ARRAY_INT_INDEX_SCALE", type := .int, accessFlags := 25, slot := 6, constantValue := 0 }, { name := "LOG2_ARRAY_LONG_INDEX_SCALE", type := .int, accessFlags := 25, slot := 7, constantValue := 0 }, { name := "LOG2_ARRAY_FLOAT_INDEX_SCALE", type := .int, accessFlags := 25, slot := 8, constantValue := 0 }, { name := "LOG2_ARRAY_DOUBLE_INDEX_SCALE", type := .int, accessFlags := 25, slot := 9, constantValue := 0 }, { name := "LOG2_BYTE_BIT_SIZE", type := .int, accessFlags := 26, slot := 10, constantValue := 0 }, { name := "T_BOOLEAN", type := .int, accessFlags := 25, slot := 11, constantValue := 0 }, { name := "T_CHAR", type := .int, accessFlags := 25, slot := 12, constantValue := 0 }, { name := "T_FLOAT", type := .int, accessFlags := 25, slot := 13, constantValue := 0 }, { name := "T_DOUBLE", type := .int, accessFlags := 25, slot := 14, constantValue := 0 }, { name := "T_BYTE", type := .int, accessFlags := 25, slot := 15, constantValue := 0 }, { name := "T_SHORT", type := .int, accessFlags := 25, slot := 16, constantValue := 0 }, { name := "T_INT", type := .int, accessFlags := 25, slot := 17, constantValue := 0 }, { name := "T_LONG", type := .int, accessFlags := 25, slot := 18, constantValue := 0 }, { name := "JLA", type := (.object "jdk/internal/access/JavaLangAccess"), accessFlags := 26, slot := 19, constantValue := 0 }, { name := "SOFT_MAX_ARRAY_LENGTH", type := .int, accessFlags := 25, slot := 20, constantValue := 0 }]
  methods := #[k14m0]
  instanceTypes := #[]
  staticTypes := #[(.object "jdk/internal/misc/Unsafe"), .boolean, .int, .int, .int, .int, .int, .int, .int, .int, .int, .int, .int, .int, .int, .int, .int, .int, .int, (.object "jdk/internal/access/JavaLangAccess"), .int]
  resolved := Array.replicate 378 none
  statics := none }

/-- the primitive byte -/
def k15 : Class := { plain "byte" none with kind := .primitive 'B', accessFlags := 0x411 }
/-- [B -/
def k16 : Class := { plain "[B" (some 0) with kind := .array 15 .byte, interfaces := #[13, 2], accessFlags := 1041 }

/-- the primitive char -/
def k17 : Class := { plain "char" none with kind := .primitive 'C', accessFlags := 0x411 }
/-- [C -/
def k18 : Class := { plain "[C" (some 0) with kind := .array 17 .char, interfaces := #[13, 2], accessFlags := 1041 }

/-- the primitive int -/
def k19 : Class := { plain "int" none with kind := .primitive 'I', accessFlags := 0x411 }
/-- [I -/
def k20 : Class := { plain "[I" (some 0) with kind := .array 19 .int, interfaces := #[13, 2], accessFlags := 1041 }

/-- [Lcom/example/wirewright/wirewright/definition/Scope; -/
def k21 : Class := { plain "[Lcom/example/wirewright/wirewright/definition/Scope;" (some 0) with kind := .array 12 (.object "com/example/wirewright/wirewright/definition/Scope"), interfaces := #[13, 2], accessFlags := 1041 }

def heap : Heap := #[{ cls := 7, slots := #[.long 0, .int 1, .null, .int 0, .null, .int 0, .int 0], vm := .statics 7 },
  { cls := 9, slots := #[.null, .null, .null], vm := .statics 9 },
  { cls := 12, slots := #[.ref 4, .ref 5, .ref 3], vm := .statics 12 },
  { cls := 21, slots := #[.ref 4, .ref 5], vm := .none },
  { cls := 12, slots := #[.null, .int 0, .int 0, .ref 6], vm := .none },
  { cls := 12, slots := #[.null, .int 1, .int 0, .ref 7], vm := .none },
  { cls := 7, slots := #[.ref 8, .int 0, .int 0, .int 0], vm := .none },
  { cls := 7, slots := #[.ref 9, .int 0, .int 0, .int 0], vm := .none },
  { cls := 16, slots := #[.int 115, .int 105, .int 110, .int 103, .int 108, .int 101, .int 116, .int 111, .int 110], vm := .none },
  { cls := 16, slots := #[.int 112, .int 114, .int 111, .int 116, .int 111, .int 116, .int 121, .int 112, .int 101], vm := .none }]
def classes : Array Class := #[k0, k1, k2, k3, k4, k5, k6, k7, k8, k9, k10, k11, k12, k13, k14, k15, k16, k17, k18, k19, k20, k21]
def interned : List (Array UInt16 × Addr) := []
def slotsUsed : Nat := 49
def theMethod : MethodId := ⟨1, 1⟩
def args0 : Array Value := #[.int 5, .int 6, .int 7, .int 8, .int 9]
def aboutOver (below : List Frame) : State where
  vm := { classes := classes, interned := interned.toArray }
  heap := heap
  slotsUsed := slotsUsed
  threads := #[{ frames := .invoking theMethod args0 :: below }]
def below0 : List Frame := [.native { method := ⟨0, 0⟩, args := #[] }]
def about1 : State := aboutOver below0
def p0 : Program := .bare "" "" ""
def e0 : Env := launch0.env 0 0 0
theorem w_frames : about1.frames = Frame.invoking theMethod args0 :: below0 := rfl
set_option maxRecDepth 65536 in
theorem w_args : argsFit about1.vm theMethod args0 = true := by decide +kernel
set_option maxRecDepth 65536 in
theorem w_heap : heapFits about1 = true := by decide +kernel
set_option maxRecDepth 65536 in
theorem w_runnable : about1.curStatus? = some .runnable := by decide +kernel
set_option maxRecDepth 65536 in
theorem w_alone : about1.alone = true := by decide +kernel
set_option maxRecDepth 65536 in
theorem w_named : about1.methodNamed? x = some theMethod := by decide +kernel
set_option maxRecDepth 65536 in
theorem w_hears : about1.hears theMethod below0 = true := by decide +kernel
set_option maxRecDepth 65536 in
theorem w_ripe : about1.ripe theMethod args0 below0 = true := by decide +kernel
theorem w_running : about1.status = .running := rfl
set_option maxRecDepth 65536 in
theorem w_room : about1.hasRoom e0.platform room_1 = true :=
  launch0.hasRoom_least _ room_1 (by decide +kernel) (by decide +kernel) (by decide +kernel) (by decide +kernel) (by decide +kernel) (by decide +kernel)
theorem allAtoms_all (ts : List Jvm.Cond) (a : Array Jvm.Value) (st : Jvm.State) : (allAtoms ts).before a st = ts.all (fun c => c.before a st) := by
  induction ts with
  | nil => rfl
  | cons c t ih =>
    show (Jvm.Cond.and c (allAtoms t)).before a st = _
    rw [Jvm.Cond.before_and, ih, List.all_cons]
def words1 : List Jvm.Cond := Jvm.Cond.code x code maxLocals ret :: tables_1
/-- a 'code' word, met by the world's own term for the bytes: nothing is compared byte by byte -/
theorem code_word {y : MethodName} {bytes : ByteArray} {mx : Nat} {rt : Option FieldType} {a : Array Value} {s : State} {m : MethodId} {meth : Method} {c : Code} (h1 : s.methodNamed? y = some m) (h2 : s.vm.method? m = some meth) (h3 : meth.code = some c) (h4 : c.code = bytes)
    (h5 : (c.maxLocals == mx && c.exceptionTable.isEmpty && decide (c.maxStack ≤ mostOperands) && decide (meth.sig.returnType = rt) && !meth.locks && decide (parseMethodDescriptor y.desc = some meth.sig)) = true) : (Jvm.Cond.code y bytes mx rt).before a s = true := by
  simp only [Bool.and_eq_true, beq_iff_eq, Bool.not_eq_true', decide_eq_true_eq] at h5
  obtain ⟨⟨⟨⟨⟨g1, g2⟩, g3⟩, g4⟩, g5⟩, g6⟩ := h5
  simp [Cond.before, Cond.holds, Cond.value, h1, h2, h3, h4, g1, g2, g3, g4, g5, g6]
def isCode : Jvm.Cond → Bool
  | .code _ _ _ _ => true
  | _ => false
theorem all_split {L : List Jvm.Cond} {P : Jvm.Cond → Bool} (h1 : L.all (fun c => isCode c || P c) = true) (h2 : ∀ c ∈ L.filter isCode, P c = true) : L.all P = true := by
  refine List.all_eq_true.mpr fun c hc => ?_
  have h := List.all_eq_true.mp h1 c hc
  rcases Bool.eq_false_or_eq_true (isCode c) with hi | hi
  · exact h2 c (List.mem_filter.mpr ⟨hc, hi⟩)
  · simpa [hi] using h
set_option maxRecDepth 65536 in
theorem w_c0 : (Jvm.Cond.code x code maxLocals ret).before args0 about1 = true := code_word (m := ⟨1, 1⟩) (meth := k1m1) (c := k1c1) (by decide +kernel) rfl rfl rfl (by decide +kernel)
set_option maxRecDepth 65536 in
theorem w_c1 : (Jvm.Cond.code ({ cls := "java/lang/String", name := "charAt", desc := "(I)C" } : Jvm.MethodName) jdk_42_method_56_code (2 : Nat) (Option.some Jvm.ClassFile.FieldType.char)).before args0 about1 = true := code_word (m := ⟨7, 2⟩) (meth := k7m2) (c := k7c2) (by decide +kernel) rfl rfl rfl (by decide +kernel)
set_option maxRecDepth 65536 in
theorem w_c2 : (Jvm.Cond.code ({ cls := "java/lang/String", name := "isLatin1", desc := "()Z" } : Jvm.MethodName) jdk_42_method_154_code (1 : Nat) (Option.some Jvm.ClassFile.FieldType.boolean)).before args0 about1 = true := code_word (m := ⟨7, 7⟩) (meth := k7m7) (c := k7c7) (by decide +kernel) rfl rfl rfl (by decide +kernel)
set_option maxRecDepth 65536 in
theorem w_c3 : (Jvm.Cond.code ({ cls := "java/lang/StringLatin1", name := "charAt", desc := "([BI)C" } : Jvm.MethodName) jdk_43_method_2_code (2 : Nat) (Option.some Jvm.ClassFile.FieldType.char)).before args0 about1 = true := code_word (m := ⟨8, 1⟩) (meth := k8m1) (c := k8c1) (by decide +kernel) rfl rfl rfl (by decide +kernel)
set_option maxRecDepth 65536 in
theorem w_c4 : (Jvm.Cond.code ({ cls := "java/lang/String", name := "checkIndex", desc := "(II)V" } : Jvm.MethodName) jdk_42_method_155_code (2 : Nat) (Option.none : Option Jvm.ClassFile.FieldType)).before args0 about1 = true := code_word (m := ⟨7, 8⟩) (meth := k7m8) (c := k7c8) (by decide +kernel) rfl rfl rfl (by decide +kernel)
set_option maxRecDepth 65536 in
theorem w_c5 : (Jvm.Cond.code ({ cls := "jdk/internal/util/Preconditions", name := "checkIndex", desc := "(IILjava/util/function/BiFunction;)I" } : Jvm.MethodName) jdk_41_method_11_code (3 : Nat) (Option.some Jvm.ClassFile.FieldType.int)).before args0 about1 = true := code_word (m := ⟨9, 1⟩) (meth := k9m1) (c := k9c1) (by decide +kernel) rfl rfl rfl (by decide +kernel)
set_option maxRecDepth 65536 in
theorem w_c6 : (Jvm.Cond.code ({ cls := "java/lang/String", name := "<init>", desc := "([C)V" } : Jvm.MethodName) jdk_42_method_3_code (2 : Nat) (Option.none : Option Jvm.ClassFile.FieldType)).before args0 about1 = true := code_word (m := ⟨7, 1⟩) (meth := k7m1) (c := k7c1) (by decide +kernel) rfl rfl rfl (by decide +kernel)
set_option maxRecDepth 65536 in
theorem w_c7 : (Jvm.Cond.code ({ cls := "java/lang/String", name := "<init>", desc := "([CIILjava/lang/Void;)V" } : Jvm.MethodName) jdk_42_method_149_code (6 : Nat) (Option.none : Option Jvm.ClassFile.FieldType)).before args0 about1 = true := code_word (m := ⟨7, 5⟩) (meth := k7m5) (c := k7c5) (by decide +kernel) rfl rfl rfl (by decide +kernel)
set_option maxRecDepth 65536 in
theorem w_c8 : (Jvm.Cond.code ({ cls := "java/lang/Object", name := "<init>", desc := "()V" } : Jvm.MethodName) object_method_1_code (1 : Nat) (Option.none : Option Jvm.ClassFile.FieldType)).before args0 about1 = true := code_word (m := ⟨0, 0⟩) (meth := k0m0) (c := k0c0) (by decide +kernel) rfl rfl rfl (by decide +kernel)
set_option maxRecDepth 65536 in
theorem w_c9 : (Jvm.Cond.code ({ cls := "java/lang/StringUTF16", name := "compress", desc := "([CII)[B" } : Jvm.MethodName) jdk_52_method_16_code (6 : Nat) (Option.some (Jvm.ClassFile.FieldType.array Jvm.ClassFile.FieldType.byte))).before args0 about1 = true := code_word (m := ⟨10, 2⟩) (meth := k10m2) (c := k10c2) (by decide +kernel) rfl rfl rfl (by decide +kernel)
set_option maxRecDepth 65536 in
theorem w_c10 : (Jvm.Cond.code ({ cls := "java/lang/StringUTF16", name := "compress", desc := "([CI[BII)I" } : Jvm.MethodName) jdk_52_method_21_code (7 : Nat) (Option.some Jvm.ClassFile.FieldType.int)).before args0 about1 = true := code_word (m := ⟨10, 3⟩) (meth := k10m3) (c := k10c3) (by decide +kernel) rfl rfl rfl (by decide +kernel)
set_option maxRecDepth 65536 in
theorem w_c11 : (Jvm.Cond.code ({ cls := "java/lang/StringUTF16", name := "coderFromArrayLen", desc := "([BI)B" } : Jvm.MethodName) jdk_52_method_15_code (2 : Nat) (Option.some Jvm.ClassFile.FieldType.byte)).before args0 about1 = true := code_word (m := ⟨10, 1⟩) (meth := k10m1) (c := k10c1) (by decide +kernel) rfl rfl rfl (by decide +kernel)
set_option maxRecDepth 65536 in
theorem w_c12 : (Jvm.Cond.code ({ cls := "java/lang/String", name := "equals", desc := "(Ljava/lang/Object;)Z" } : Jvm.MethodName) jdk_42_method_66_code (3 : Nat) (Option.some Jvm.ClassFile.FieldType.boolean)).before args0 about1 = true := code_word (m := ⟨7, 3⟩) (meth := k7m3) (c := k7c3) (by decide +kernel) rfl rfl rfl (by decide +kernel)
set_option maxRecDepth 65536 in
theorem w_c13 : (Jvm.Cond.code ({ cls := "java/lang/StringLatin1", name := "equals", desc := "([B[B)Z" } : Jvm.MethodName) jdk_43_method_13_code (3 : Nat) (Option.some Jvm.ClassFile.FieldType.boolean)).before args0 about1 = true := code_word (m := ⟨8, 3⟩) (meth := k8m3) (c := k8c3) (by decide +kernel) rfl rfl rfl (by decide +kernel)
set_option maxRecDepth 65536 in
theorem w_c14 : (Jvm.Cond.code ({ cls := "com/example/wirewright/wirewright/definition/Scope", name := "ofAttribute", desc := "(Ljava/lang/String;)Lcom/example/wirewright/wirewright/definition/Scope;" } : Jvm.MethodName) prog_35_method_4_code (6 : Nat) (Option.some (Jvm.ClassFile.FieldType.object "com/example/wirewright/wirewright/definition/Scope"))).before args0 about1 = true := code_word (m := ⟨12, 1⟩) (meth := k12m1) (c := k12c1) (by decide +kernel) rfl rfl rfl (by decide +kernel)
set_option maxRecDepth 65536 in
theorem w_c15 : (Jvm.Cond.code ({ cls := "com/example/wirewright/wirewright/definition/Scope", name := "values", desc := "()[Lcom/example/wirewright/wirewright/definition/Scope;" } : Jvm.MethodName) prog_35_method_1_code (0 : Nat) (Option.some (Jvm.ClassFile.FieldType.array (Jvm.ClassFile.FieldType.object "com/example/wirewright/wirewright/definition/Scope")))).before args0 about1 = true := code_word (m := ⟨12, 0⟩) (meth := k12m0) (c := k12c0) (by decide +kernel) rfl rfl rfl (by decide +kernel)
set_option maxRecDepth 65536 in
theorem w_c16 : (Jvm.Cond.code ({ cls := "java/lang/String", name := "valueOf", desc := "(C)Ljava/lang/String;" } : Jvm.MethodName) jdk_42_method_139_code (1 : Nat) (Option.some (Jvm.ClassFile.FieldType.object "java/lang/String"))).before args0 about1 = true := code_word (m := ⟨7, 4⟩) (meth := k7m4) (c := k7c4) (by decide +kernel) rfl rfl rfl (by decide +kernel)
set_option maxRecDepth 65536 in
theorem w_c17 : (Jvm.Cond.code ({ cls := "java/lang/StringLatin1", name := "canEncode", desc := "(C)Z" } : Jvm.MethodName) jdk_43_method_3_code (1 : Nat) (Option.some Jvm.ClassFile.FieldType.boolean)).before args0 about1 = true := code_word (m := ⟨8, 2⟩) (meth := k8m2) (c := k8c2) (by decide +kernel) rfl rfl rfl (by decide +kernel)
set_option maxRecDepth 65536 in
theorem w_c18 : (Jvm.Cond.code ({ cls := "java/lang/StringLatin1", name := "toBytes", desc := "(C)[B" } : Jvm.MethodName) jdk_43_method_46_code (1 : Nat) (Option.some (Jvm.ClassFile.FieldType.array Jvm.ClassFile.FieldType.byte))).before args0 about1 = true := code_word (m := ⟨8, 4⟩) (meth := k8m4) (c := k8c4) (by decide +kernel) rfl rfl rfl (by decide +kernel)
set_option maxRecDepth 65536 in
theorem w_c19 : (Jvm.Cond.code ({ cls := "java/lang/String", name := "<init>", desc := "([BB)V" } : Jvm.MethodName) jdk_42_method_151_code (3 : Nat) (Option.none : Option Jvm.ClassFile.FieldType)).before args0 about1 = true := code_word (m := ⟨7, 6⟩) (meth := k7m6) (c := k7c6) (by decide +kernel) rfl rfl rfl (by decide +kernel)
def codes1 : List Jvm.Cond := [Jvm.Cond.code x code maxLocals ret, Jvm.Cond.code ({ cls := "java/lang/String", name := "charAt", desc := "(I)C" } : Jvm.MethodName) jdk_42_method_56_code (2 : Nat) (Option.some Jvm.ClassFile.FieldType.char), Jvm.Cond.code ({ cls := "java/lang/String", name := "isLatin1", desc := "()Z" } : Jvm.MethodName) jdk_42_method_154_code (1 : Nat) (Option.some Jvm.ClassFile.FieldType.boolean), Jvm.Cond.code ({ cls := "java/lang/StringLatin1", name := "charAt", desc := "([BI)C" } : Jvm.MethodName) jdk_43_method_2_code (2 : Nat) (Option.some Jvm.ClassFile.FieldType.char), Jvm.Cond.code ({ cls := "java/lang/String", name := "checkIndex", desc := "(II)V" } : Jvm.MethodName) jdk_42_method_155_code (2 : Nat) (Option.none : Option Jvm.ClassFile.FieldType), Jvm.Cond.code ({ cls := "jdk/internal/util/Preconditions", name := "checkIndex", desc := "(IILjava/util/function/BiFunction;)I" } : Jvm.MethodName) jdk_41_method_11_code (3 : Nat) (Option.some Jvm.ClassFile.FieldType.int), Jvm.Cond.code ({ cls := "java/lang/String", name := "<init>", desc := "([C)V" } : Jvm.MethodName) jdk_42_method_3_code (2 : Nat) (Option.none : Option Jvm.ClassFile.FieldType), Jvm.Cond.code ({ cls := "java/lang/String", name := "<init>", desc := "([CIILjava/lang/Void;)V" } : Jvm.MethodName) jdk_42_method_149_code (6 : Nat) (Option.none : Option Jvm.ClassFile.FieldType), Jvm.Cond.code ({ cls := "java/lang/Object", name := "<init>", desc := "()V" } : Jvm.MethodName) object_method_1_code (1 : Nat) (Option.none : Option Jvm.ClassFile.FieldType), Jvm.Cond.code ({ cls := "java/lang/StringUTF16", name := "compress", desc := "([CII)[B" } : Jvm.MethodName) jdk_52_method_16_code (6 : Nat) (Option.some (Jvm.ClassFile.FieldType.array Jvm.ClassFile.FieldType.byte)), Jvm.Cond.code ({ cls := "java/lang/StringUTF16", name := "compress", desc := "([CI[BII)I" } : Jvm.MethodName) jdk_52_method_21_code (7 : Nat) (Option.some Jvm.ClassFile.FieldType.int), Jvm.Cond.code ({ cls := "java/lang/StringUTF16", name := "coderFromArrayLen", desc := "([BI)B" } : Jvm.MethodName) jdk_52_method_15_code (2 : Nat) (Option.some Jvm.ClassFile.FieldType.byte), Jvm.Cond.code ({ cls := "java/lang/String", name := "equals", desc := "(Ljava/lang/Object;)Z" } : Jvm.MethodName) jdk_42_method_66_code (3 : Nat) (Option.some Jvm.ClassFile.FieldType.boolean), Jvm.Cond.code ({ cls := "java/lang/StringLatin1", name := "equals", desc := "([B[B)Z" } : Jvm.MethodName) jdk_43_method_13_code (3 : Nat) (Option.some Jvm.ClassFile.FieldType.boolean), Jvm.Cond.code ({ cls := "com/example/wirewright/wirewright/definition/Scope", name := "ofAttribute", desc := "(Ljava/lang/String;)Lcom/example/wirewright/wirewright/definition/Scope;" } : Jvm.MethodName) prog_35_method_4_code (6 : Nat) (Option.some (Jvm.ClassFile.FieldType.object "com/example/wirewright/wirewright/definition/Scope")), Jvm.Cond.code ({ cls := "com/example/wirewright/wirewright/definition/Scope", name := "values", desc := "()[Lcom/example/wirewright/wirewright/definition/Scope;" } : Jvm.MethodName) prog_35_method_1_code (0 : Nat) (Option.some (Jvm.ClassFile.FieldType.array (Jvm.ClassFile.FieldType.object "com/example/wirewright/wirewright/definition/Scope"))), Jvm.Cond.code ({ cls := "java/lang/String", name := "valueOf", desc := "(C)Ljava/lang/String;" } : Jvm.MethodName) jdk_42_method_139_code (1 : Nat) (Option.some (Jvm.ClassFile.FieldType.object "java/lang/String")), Jvm.Cond.code ({ cls := "java/lang/StringLatin1", name := "canEncode", desc := "(C)Z" } : Jvm.MethodName) jdk_43_method_3_code (1 : Nat) (Option.some Jvm.ClassFile.FieldType.boolean), Jvm.Cond.code ({ cls := "java/lang/StringLatin1", name := "toBytes", desc := "(C)[B" } : Jvm.MethodName) jdk_43_method_46_code (1 : Nat) (Option.some (Jvm.ClassFile.FieldType.array Jvm.ClassFile.FieldType.byte)), Jvm.Cond.code ({ cls := "java/lang/String", name := "<init>", desc := "([BB)V" } : Jvm.MethodName) jdk_42_method_151_code (3 : Nat) (Option.none : Option Jvm.ClassFile.FieldType)]
set_option maxRecDepth 65536 in
theorem codes_eq : words1.filter isCode = codes1 := rfl
theorem w_codes : ∀ c ∈ words1.filter isCode, c.before args0 about1 = true := by
  rw [codes_eq]
  intro c hc
  simp only [codes1, List.mem_cons, List.not_mem_nil, or_false] at hc
  rcases hc with rfl | rfl | rfl | rfl | rfl | rfl | rfl | rfl | rfl | rfl | rfl | rfl | rfl | rfl | rfl | rfl | rfl | rfl | rfl | rfl
  · exact w_c0
  · exact w_c1
  · exact w_c2
  · exact w_c3
  · exact w_c4
  · exact w_c5
  · exact w_c6
  · exact w_c7
  · exact w_c8
  · exact w_c9
  · exact w_c10
  · exact w_c11
  · exact w_c12
  · exact w_c13
  · exact w_c14
  · exact w_c15
  · exact w_c16
  · exact w_c17
  · exact w_c18
  · exact w_c19
set_option maxRecDepth 65536 in
theorem w_t1 : (words1.take 24).all (fun c => isCode c || c.before args0 about1) = true := by decide +kernel
set_option maxRecDepth 65536 in
theorem w_t2 : ((words1.drop 24).take 24).all (fun c => isCode c || c.before args0 about1) = true := by decide +kernel
set_option maxRecDepth 65536 in
theorem w_t3 : (((words1.drop 24).drop 24).take 24).all (fun c => isCode c || c.before args0 about1) = true := by decide +kernel
set_option maxRecDepth 65536 in
theorem w_t4 : ((((words1.drop 24).drop 24).drop 24).take 24).all (fun c => isCode c || c.before args0 about1) = true := by decide +kernel
set_option maxRecDepth 65536 in
theorem w_t5 : ((((words1.drop 24).drop 24).drop 24).drop 24).all (fun c => isCode c || c.before args0 about1) = true := by decide +kernel
theorem w_tables : (allAtoms (Jvm.Cond.code x code maxLocals ret :: tables_1)).before args0 about1 = true := by
  rw [allAtoms_all]
  show words1.all (fun c => c.before args0 about1) = true
  refine all_split ?_ w_codes
  rw [← List.take_append_drop 24 words1, List.all_append, w_t1, ← List.take_append_drop 24 (words1.drop 24), List.all_append, w_t2, ← List.take_append_drop 24 ((words1.drop 24).drop 24), List.all_append, w_t3, ← List.take_append_drop 24 (((words1.drop 24).drop 24).drop 24), List.all_append, w_t4, w_t5]
  rfl
set_option maxRecDepth 65536 in
theorem w_rest : rest_1_c.before args0 about1 = true := by decide +kernel
set_option maxRecDepth 65536 in
theorem w_case : (Jvm.Cond.and given_1 narrow_1).before args0 about1 = true := by decide +kernel
set_option maxRecDepth 65536 in
theorem w_consts : constsHeld consts_1 about1 := Jvm.Lit.constsHeldB_iff.mp (by decide +kernel)
theorem w_applies : (headSpec (Jvm.Cond.code x code maxLocals ret :: tables_1) room_1).applies x e0.platform about1 = true :=
  (Spec.applies_iff w_frames).mpr ⟨w_running, w_runnable, w_alone, w_named, w_hears, w_ripe, w_room, w_tables⟩
theorem atStart : AtStart classFile x code maxLocals ret World_1 tables_1 room_1 Calls_1 rest_1 Pre_1 launch0 p0 e0 about1 theMethod args0 below0 :=
  ⟨lists_1, trivial, launch0.admits_env _ _ _, launch0.least_env, fairChoices_fair.cas, fairChoices_fair.clock, w_frames, w_args, w_heap, w_applies, ⟨w_consts, trivial⟩, w_rest, w_case⟩
end start1
theorem witness_1 : WitnessClaimed_1 := ⟨start1.p0, start1.e0, start1.about1, start1.theMethod, start1.args0, start1.below0, start1.atStart⟩
end Jvm.Pilot.@@N@@
