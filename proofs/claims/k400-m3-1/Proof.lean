import JvmDerived
import JvmDerived.Pilot.@@N@@Statement
import JvmDerived.Pilot.@@N@@Code
set_option linter.unusedVariables false
set_option linter.unusedSimpArgs false
namespace Jvm.OwnWalk
open Sem ClassFile Op Lib Jvm.Stand Jvm.Free Jvm.LawKit Jvm.RoadKit
/-- from t the run comes to an end of which P holds -/
def Win (tb : Tables) (e : Env) (below : List Frame) (P : State → Outcome → Prop) (t : State) : Prop :=
  ∃ s₂ o, Steps tb e below t s₂ ∧ s₂.status = .running ∧ Ended s₂ below o ∧ P s₂ o
theorem Win.go {tb : Tables} {e : Env} {below : List Frame} {P : State → Outcome → Prop} {t t' : State} (st : ∀ z, Steps tb e below t' z → Steps tb e below t z) (w : Win tb e below P t') : Win tb e below P t := by
  obtain ⟨s2, o, h, r⟩ := w; exact ⟨s2, o, st _ h, r⟩
theorem Win.come {tb : Tables} {e : Env} {below : List Frame} {P : State → Outcome → Prop} {t t' : State} (st : Steps tb e below t t') (w : Win tb e below P t') : Win tb e below P t := by
  obtain ⟨s2, o, h, r⟩ := w; exact ⟨s2, o, st.trans h, r⟩
/-- the body has returned v with the heap h, L written -/
def PostQ (s : State) (Q : Option Value → Heap → List Loc → Prop) (C S : Nat) (u : State) (o : Outcome) : Prop := ∃ v L, o = .returned v ∧ Q v u.heap L ∧ FrameEnd s o u L C S
section Ret
variable {p : Program} {l : Launch} {e : Env} {R : Room} {s : State} {m : MethodId} {args : Array Value} {below : List Frame} {meth : Method} {c : Code} {T : State} {locs : List Loc} {cells slots : Nat} {h : Heap} {Q : Option Value → Heap → List Loc → Prop} {C S : Nat}
theorem retI' (X : Stand p l e R s m args below meth c T locs cells slots) (hx : p.tables.exec = Jvm.exec) {pc : Nat} {Ls : Array Slot} {z : Int32} {rest : List Value} (hret : meth.sig.returnType = some .int) (hd : decode c.code pc = .ok (.ireturn, 1)) {fs : List Frame}
    (hl : ∀ (f : JFrame) (acts : List Action), f.method = m → f.locked = none → f.entered = [] → (doReturn e (T.setTop f) acts (some (.int z))).1 = T.setFrames fs) : Steps p.tables e below (T.setTop (mkF m pc Ls (.int z :: rest))) (T.setFrames fs) := by
  have hm' : T.vm.method? m = some meth := X.method'
  have hn : narrow .int (.int z) = .int z := rfl
  show Steps p.tables e below (T.setTop { method := m, pc := pc, locals := Ls, stack := _ :: rest, locked := none }) _
  jvm_step X.here [X.here.top, hx, hd, hm', hret, hn]
  first | (intro acts; rw [hl _ acts rfl rfl rfl]) | rw [hl _ _ rfl rfl rfl]
  exact Steps.refl _
theorem retA' (X : Stand p l e R s m args below meth c T locs cells slots) (hx : p.tables.exec = Jvm.exec) {pc : Nat} {Ls : Array Slot} {w : Value} {t : FieldType} (hret : meth.sig.returnType = some t) (ht : t.isReference = true) (hv : w.isRef = true) (hd : decode c.code pc = .ok (.areturn, 1)) {fs : List Frame}
    (hl : ∀ (f : JFrame) (acts : List Action), f.method = m → f.locked = none → f.entered = [] → (doReturn e (T.setTop f) acts (some w)).1 = T.setFrames fs) : Steps p.tables e below (T.setTop (mkF m pc Ls [w])) (T.setFrames fs) := by
  have hm' : T.vm.method? m = some meth := X.method'
  show Steps p.tables e below (T.setTop { method := m, pc := pc, locals := Ls, stack := [w], locked := none }) _
  jvm_step X.here [X.here.top, hx, hd, hm', hret, hv, ht]
  first | (intro acts; rw [hl _ acts rfl rfl rfl]) | rw [hl _ _ rfl rfl rfl]
  exact Steps.refl _
theorem winI (X : Stand p l e R s m args below meth c T locs cells slots) (hx : p.tables.exec = Jvm.exec) (hlk : meth.locks = false) (eT : T.heap = h) {pc : Nat} {Ls : Array Slot} {z : Int32} {rest : List Value} (hret : meth.sig.returnType = some .int) (hd : decode c.code pc = .ok (.ireturn, 1))
    (hc : cells ≤ C) (hs : slots ≤ S) (hQ : Q (some (.int z)) h locs) : Win p.tables e below (PostQ s Q C S) (T.setTop (mkF m pc Ls (.int z :: rest))) := by
  subst eT
  obtain ⟨fs, hr, hrun, hended, hW, hsame⟩ := X.leave (v := some (.int z)) (fun h => by rw [hret] at h; cases h) hlk
  exact ⟨_, _, retI' X hx hret hd hr, hrun, hended, _, _, rfl, hQ, ⟨_, rfl⟩, hW, hsame.mono hc hs⟩
theorem winN (X : Stand p l e R s m args below meth c T locs cells slots) (hx : p.tables.exec = Jvm.exec) (hlk : meth.locks = false) (eT : T.heap = h) {pc : Nat} {Ls : Array Slot} {z z' : Int32} {rest : List Value} {t : FieldType} (hret : meth.sig.returnType = some t) (ht : t = .boolean ∨ t = .byte ∨ t = .char ∨ t = .short) (hd : decode c.code pc = .ok (.ireturn, 1))
    (hc : cells ≤ C) (hs : slots ≤ S) (hz : nar t z = z') (hQ : Q (some (.int z')) h locs) : Win p.tables e below (PostQ s Q C S) (T.setTop (mkF m pc Ls (.int z :: rest))) := by
  subst eT hz
  obtain ⟨fs, hr, hrun, hended, hW, hsame⟩ := X.leave (v := some (.int (nar t z))) (fun h => by rw [hret] at h; cases h) hlk
  exact ⟨_, _, retN X hx hret ht hd hr, hrun, hended, _, _, rfl, hQ, ⟨_, rfl⟩, hW, hsame.mono hc hs⟩
theorem winL (X : Stand p l e R s m args below meth c T locs cells slots) (hx : p.tables.exec = Jvm.exec) (hlk : meth.locks = false) (eT : T.heap = h) {pc : Nat} {Ls : Array Slot} {z : Int64} (hret : meth.sig.returnType = some .long) (hd : decode c.code pc = .ok (.lreturn, 1))
    (hc : cells ≤ C) (hs : slots ≤ S) (hQ : Q (some (.long z)) h locs) : Win p.tables e below (PostQ s Q C S) (T.setTop (mkF m pc Ls [.long z])) := by
  subst eT
  obtain ⟨fs, hr, hrun, hended, hW, hsame⟩ := X.leave (v := some (.long z)) (fun h => by rw [hret] at h; cases h) hlk
  exact ⟨_, _, X.lreturnOut hx hret hd hr, hrun, hended, _, _, rfl, hQ, ⟨_, rfl⟩, hW, hsame.mono hc hs⟩
theorem winA (X : Stand p l e R s m args below meth c T locs cells slots) (hx : p.tables.exec = Jvm.exec) (hlk : meth.locks = false) (eT : T.heap = h) {pc : Nat} {Ls : Array Slot} {w : Value} {t : FieldType} (hret : meth.sig.returnType = some t) (ht : t.isReference = true) (hv : w.isRef = true) (hd : decode c.code pc = .ok (.areturn, 1))
    (hc : cells ≤ C) (hs : slots ≤ S) (hQ : Q (some w) h locs) : Win p.tables e below (PostQ s Q C S) (T.setTop (mkF m pc Ls [w])) := by
  subst eT
  obtain ⟨fs, hr, hrun, hended, hW, hsame⟩ := X.leave (v := some w) (fun h => by rw [hret] at h; cases h) hlk
  exact ⟨_, _, retA' X hx hret ht hv hd hr, hrun, hended, _, _, rfl, hQ, ⟨_, rfl⟩, hW, hsame.mono hc hs⟩
theorem winV (X : Stand p l e R s m args below meth c T locs cells slots) (hx : p.tables.exec = Jvm.exec) (hlk : meth.locks = false) (eT : T.heap = h) {pc : Nat} {Ls : Array Slot} (hret : meth.sig.returnType = none) (hd : decode c.code pc = .ok (.return_, 1))
    (hc : cells ≤ C) (hs : slots ≤ S) (hQ : Q none h locs) : Win p.tables e below (PostQ s Q C S) (T.setTop (mkF m pc Ls [])) := by
  subst eT
  obtain ⟨fs, hr, hrun, hended, hW, hsame⟩ := X.leave (v := none) (fun _ => rfl) hlk
  exact ⟨_, _, X.returnOut hx hret hd hr, hrun, hended, _, _, rfl, hQ, ⟨_, rfl⟩, hW, hsame.mono hc hs⟩
def PostQW (s : State) (Q : Option Value → Heap → List Loc → Prop) (C S : Nat) (u : State) (o : Outcome) : Prop := ∃ v L, o = .returned v ∧ Q v u.heap L ∧ ReturnedEndW s o u L C S
theorem winNW {vm0 : Vm} {k0 : Nat} (hS : s.Since vm0 k0) (hk : k0 ≤ h.size) (X : Stand p l e R (s.setVm vm0) m args below meth c T locs cells slots) (hx : p.tables.exec = Jvm.exec) (hlk : meth.locks = false) (eT : T.heap = h) {pc : Nat} {Ls : Array Slot} {z z' : Int32} {rest : List Value} {t : FieldType} (hret : meth.sig.returnType = some t) (ht : t = .boolean ∨ t = .byte ∨ t = .char ∨ t = .short) (hd : decode c.code pc = .ok (.ireturn, 1))
    (hc : cells ≤ C) (hs : slots ≤ S) (hz : nar t z = z') (hQ : Q (some (.int z')) h locs) : Win p.tables e below (PostQW s Q C S) (T.setTop (mkF m pc Ls (.int z :: rest))) := by
  subst eT hz
  obtain ⟨fs, hr, hrun, hended, h1, h2, h3, h4⟩ := X.leaveW hS hk (v := some (.int (nar t z))) (fun h => by rw [hret] at h; cases h) hlk
  exact ⟨_, _, retN X hx hret ht hd hr, hrun, hended, _, _, rfl, hQ, ⟨_, rfl⟩, h2, h3, h4.mono hc hs⟩
end Ret
section Steps
variable {tb : Tables} [Ours tb] {e : Env} {below : List Frame} {P : State → Outcome → Prop} {T : State} {m : MethodId} {c : Code} {pc pc' : Nat} {ls : Array Slot} {st : List Value}
theorem s_iloadN {k : Fin 4} {v : Int32} (h : At T m c below) (hx : tb.exec = Jvm.exec) (hd : decode c.code pc = .ok (.iload_n k, 1)) (hp : pc + 1 = pc') (hl : ls[k.val]? = some (.val (.int v))) (w : Win tb e below P (T.setTop (mkF m pc' ls (.int v :: st)))) : Win tb e below P (T.setTop (mkF m pc ls st)) := by
  subst hp; exact Win.go (fun _ k => XS.iloadN h hx rfl hd hl k) w
theorem s_iload {k : Nat} {v : Int32} (h : At T m c below) (hx : tb.exec = Jvm.exec) (hd : decode c.code pc = .ok (.iload k, 2)) (hp : pc + 2 = pc') (hl : ls[k]? = some (.val (.int v))) (w : Win tb e below P (T.setTop (mkF m pc' ls (.int v :: st)))) : Win tb e below P (T.setTop (mkF m pc ls st)) := by
  subst hp; exact Win.go (fun _ k => XS.iload h hx rfl hd hl k) w
theorem s_lloadN {k : Fin 4} {v : Int64} (h : At T m c below) (hx : tb.exec = Jvm.exec) (hd : decode c.code pc = .ok (.lload_n k, 1)) (hp : pc + 1 = pc') (hl : ls[k.val]? = some (.val (.long v))) (w : Win tb e below P (T.setTop (mkF m pc' ls (.long v :: st)))) : Win tb e below P (T.setTop (mkF m pc ls st)) := by
  subst hp; exact Win.go (fun _ k => XS.lloadN h hx rfl hd hl k) w
theorem s_lload {k : Nat} {v : Int64} (h : At T m c below) (hx : tb.exec = Jvm.exec) (hd : decode c.code pc = .ok (.lload k, 2)) (hp : pc + 2 = pc') (hl : ls[k]? = some (.val (.long v))) (w : Win tb e below P (T.setTop (mkF m pc' ls (.long v :: st)))) : Win tb e below P (T.setTop (mkF m pc ls st)) := by
  subst hp; exact Win.go (fun _ k => XS.lload h hx rfl hd hl k) w
theorem s_aloadN {k : Fin 4} {v : Value} (h : At T m c below) (hx : tb.exec = Jvm.exec) (hd : decode c.code pc = .ok (.aload_n k, 1)) (hp : pc + 1 = pc') (hl : ls[k.val]? = some (.val v)) (hv : v.isRef = true) (w : Win tb e below P (T.setTop (mkF m pc' ls (v :: st)))) : Win tb e below P (T.setTop (mkF m pc ls st)) := by
  subst hp; exact Win.go (fun _ k => XS.aloadN h hx rfl hd hl hv k) w
theorem s_aload {k : Nat} {v : Value} (h : At T m c below) (hx : tb.exec = Jvm.exec) (hd : decode c.code pc = .ok (.aload k, 2)) (hp : pc + 2 = pc') (hl : ls[k]? = some (.val v)) (hv : v.isRef = true) (w : Win tb e below P (T.setTop (mkF m pc' ls (v :: st)))) : Win tb e below P (T.setTop (mkF m pc ls st)) := by
  subst hp; exact Win.go (fun _ k => XS.aload h hx rfl hd hl hv k) w
theorem s_iadd {x y : Int32} (h : At T m c below) (hx : tb.exec = Jvm.exec) (hd : decode c.code pc = .ok (.iadd, 1)) (hp : pc + 1 = pc') (w : Win tb e below P (T.setTop (mkF m pc' ls (.int (x + y) :: st)))) : Win tb e below P (T.setTop (mkF m pc ls (.int y :: .int x :: st))) := by
  subst hp; exact Win.go (fun _ k => XS.iadd h hx rfl hd rfl k) w
theorem s_isub {x y : Int32} (h : At T m c below) (hx : tb.exec = Jvm.exec) (hd : decode c.code pc = .ok (.isub, 1)) (hp : pc + 1 = pc') (w : Win tb e below P (T.setTop (mkF m pc' ls (.int (x - y) :: st)))) : Win tb e below P (T.setTop (mkF m pc ls (.int y :: .int x :: st))) := by
  subst hp; exact Win.go (fun _ k => XS.isub h hx rfl hd rfl k) w
theorem s_imul {x y : Int32} (h : At T m c below) (hx : tb.exec = Jvm.exec) (hd : decode c.code pc = .ok (.imul, 1)) (hp : pc + 1 = pc') (w : Win tb e below P (T.setTop (mkF m pc' ls (.int (x * y) :: st)))) : Win tb e below P (T.setTop (mkF m pc ls (.int y :: .int x :: st))) := by
  subst hp; exact Win.go (fun _ k => XS.imul h hx rfl hd rfl k) w
theorem s_iand {x y : Int32} (h : At T m c below) (hx : tb.exec = Jvm.exec) (hd : decode c.code pc = .ok (.iand, 1)) (hp : pc + 1 = pc') (w : Win tb e below P (T.setTop (mkF m pc' ls (.int (x &&& y) :: st)))) : Win tb e below P (T.setTop (mkF m pc ls (.int y :: .int x :: st))) := by
  subst hp; exact Win.go (fun _ k => XS.iand h hx rfl hd rfl k) w
theorem s_ior {x y : Int32} (h : At T m c below) (hx : tb.exec = Jvm.exec) (hd : decode c.code pc = .ok (.ior, 1)) (hp : pc + 1 = pc') (w : Win tb e below P (T.setTop (mkF m pc' ls (.int (x ||| y) :: st)))) : Win tb e below P (T.setTop (mkF m pc ls (.int y :: .int x :: st))) := by
  subst hp; exact Win.go (fun _ k => XS.ior h hx rfl hd rfl k) w
theorem s_ixor {x y : Int32} (h : At T m c below) (hx : tb.exec = Jvm.exec) (hd : decode c.code pc = .ok (.ixor, 1)) (hp : pc + 1 = pc') (w : Win tb e below P (T.setTop (mkF m pc' ls (.int (x ^^^ y) :: st)))) : Win tb e below P (T.setTop (mkF m pc ls (.int y :: .int x :: st))) := by
  subst hp; exact Win.go (fun _ k => XS.ixor h hx rfl hd rfl k) w
theorem s_ladd {x y : Int64} (h : At T m c below) (hx : tb.exec = Jvm.exec) (hd : decode c.code pc = .ok (.ladd, 1)) (hp : pc + 1 = pc') (w : Win tb e below P (T.setTop (mkF m pc' ls (.long (x + y) :: st)))) : Win tb e below P (T.setTop (mkF m pc ls (.long y :: .long x :: st))) := by
  subst hp; exact Win.go (fun _ k => XS.ladd h hx rfl hd rfl k) w
theorem s_lsub {x y : Int64} (h : At T m c below) (hx : tb.exec = Jvm.exec) (hd : decode c.code pc = .ok (.lsub, 1)) (hp : pc + 1 = pc') (w : Win tb e below P (T.setTop (mkF m pc' ls (.long (x - y) :: st)))) : Win tb e below P (T.setTop (mkF m pc ls (.long y :: .long x :: st))) := by
  subst hp; exact Win.go (fun _ k => XS.lsub h hx rfl hd rfl k) w
theorem s_lmul {x y : Int64} (h : At T m c below) (hx : tb.exec = Jvm.exec) (hd : decode c.code pc = .ok (.lmul, 1)) (hp : pc + 1 = pc') (w : Win tb e below P (T.setTop (mkF m pc' ls (.long (x * y) :: st)))) : Win tb e below P (T.setTop (mkF m pc ls (.long y :: .long x :: st))) := by
  subst hp; exact Win.go (fun _ k => XS.lmul h hx rfl hd rfl k) w
theorem s_land {x y : Int64} (h : At T m c below) (hx : tb.exec = Jvm.exec) (hd : decode c.code pc = .ok (.land, 1)) (hp : pc + 1 = pc') (w : Win tb e below P (T.setTop (mkF m pc' ls (.long (x &&& y) :: st)))) : Win tb e below P (T.setTop (mkF m pc ls (.long y :: .long x :: st))) := by
  subst hp; exact Win.go (fun _ k => XS.land h hx rfl hd rfl k) w
theorem s_lor {x y : Int64} (h : At T m c below) (hx : tb.exec = Jvm.exec) (hd : decode c.code pc = .ok (.lor, 1)) (hp : pc + 1 = pc') (w : Win tb e below P (T.setTop (mkF m pc' ls (.long (x ||| y) :: st)))) : Win tb e below P (T.setTop (mkF m pc ls (.long y :: .long x :: st))) := by
  subst hp; exact Win.go (fun _ k => XS.lor h hx rfl hd rfl k) w
theorem s_lxor {x y : Int64} (h : At T m c below) (hx : tb.exec = Jvm.exec) (hd : decode c.code pc = .ok (.lxor, 1)) (hp : pc + 1 = pc') (w : Win tb e below P (T.setTop (mkF m pc' ls (.long (x ^^^ y) :: st)))) : Win tb e below P (T.setTop (mkF m pc ls (.long y :: .long x :: st))) := by
  subst hp; exact Win.go (fun _ k => XS.lxor h hx rfl hd rfl k) w
theorem s_iconst {i : Int} {z : Int32} (h : At T m c below) (hx : tb.exec = Jvm.exec) (hd : decode c.code pc = .ok (.iconst i, 1)) (hp : pc + 1 = pc') (hz : Int32.ofInt i = z) (w : Win tb e below P (T.setTop (mkF m pc' ls (.int z :: st)))) : Win tb e below P (T.setTop (mkF m pc ls st)) := by
  subst hp hz; exact Win.go (fun _ k => XS.iconst h hx rfl hd k) w
theorem s_bipush {i : Int} {z : Int32} (h : At T m c below) (hx : tb.exec = Jvm.exec) (hd : decode c.code pc = .ok (.bipush i, 2)) (hp : pc + 2 = pc') (hz : (Int8.ofInt i).toInt32 = z) (w : Win tb e below P (T.setTop (mkF m pc' ls (.int z :: st)))) : Win tb e below P (T.setTop (mkF m pc ls st)) := by
  subst hp hz; exact Win.go (fun _ k => XS.bipush h hx rfl hd k) w
theorem s_sipush {i : Int} {z : Int32} (h : At T m c below) (hx : tb.exec = Jvm.exec) (hd : decode c.code pc = .ok (.sipush i, 3)) (hp : pc + 3 = pc') (hz : (Int16.ofInt i).toInt32 = z) (w : Win tb e below P (T.setTop (mkF m pc' ls (.int z :: st)))) : Win tb e below P (T.setTop (mkF m pc ls st)) := by
  subst hp hz; exact Win.go (fun _ k => XS.sipush h hx rfl hd k) w
theorem s_lconst {i : Fin 2} {z : Int64} (h : At T m c below) (hx : tb.exec = Jvm.exec) (hd : decode c.code pc = .ok (.lconst i, 1)) (hp : pc + 1 = pc') (hz : Int64.ofNat i = z) (w : Win tb e below P (T.setTop (mkF m pc' ls (.long z :: st)))) : Win tb e below P (T.setTop (mkF m pc ls st)) := by
  subst hp hz; exact Win.go (fun _ k => XS.lconst h hx rfl hd k) w
theorem s_goto {o : Int} (h : At T m c below) (hx : tb.exec = Jvm.exec) (hd : decode c.code pc = .ok (.goto o, 3)) (ho : 0 ≤ (pc : Int) + o) (hp : ((pc : Int) + o).toNat = pc') (w : Win tb e below P (T.setTop (mkF m pc' ls st))) : Win tb e below P (T.setTop (mkF m pc ls st)) := by
  exact Win.go (fun _ k => XS.goto h hx rfl rfl hd ho hp k) w
theorem s_icmpYes {cd : ClassFile.Cond} {o : Int} {x y : Int32} (h : At T m c below) (hx : tb.exec = Jvm.exec) (hd : decode c.code pc = .ok (.if_icmp cd o, 3)) (hc : if_icmp.holds cd x y = true) (ho : 0 ≤ (pc : Int) + o) (hp : ((pc : Int) + o).toNat = pc') (w : Win tb e below P (T.setTop (mkF m pc' ls st))) : Win tb e below P (T.setTop (mkF m pc ls (.int y :: .int x :: st))) := by
  exact Win.go (fun _ k => XS.icmpYes h hx rfl rfl hd rfl hc ho hp k) w
theorem s_icmpNo {cd : ClassFile.Cond} {o : Int} {x y : Int32} (h : At T m c below) (hx : tb.exec = Jvm.exec) (hd : decode c.code pc = .ok (.if_icmp cd o, 3)) (hp : pc + 3 = pc') (hc : if_icmp.holds cd x y = false) (w : Win tb e below P (T.setTop (mkF m pc' ls st))) : Win tb e below P (T.setTop (mkF m pc ls (.int y :: .int x :: st))) := by
  subst hp; exact Win.go (fun _ k => XS.icmpNo h hx rfl hd rfl hc k) w
theorem s_ifYes {cd : ClassFile.Cond} {o : Int} {x : Int32} (h : At T m c below) (hx : tb.exec = Jvm.exec) (hd : decode c.code pc = .ok (.ifCond cd o, 3)) (hc : ifCond.holds cd x = true) (ho : 0 ≤ (pc : Int) + o) (hp : ((pc : Int) + o).toNat = pc') (w : Win tb e below P (T.setTop (mkF m pc' ls st))) : Win tb e below P (T.setTop (mkF m pc ls (.int x :: st))) := by
  exact Win.go (fun _ k => XS.ifYes h hx rfl rfl hd rfl hc ho hp k) w
theorem s_ifNo {cd : ClassFile.Cond} {o : Int} {x : Int32} (h : At T m c below) (hx : tb.exec = Jvm.exec) (hd : decode c.code pc = .ok (.ifCond cd o, 3)) (hp : pc + 3 = pc') (hc : ifCond.holds cd x = false) (w : Win tb e below P (T.setTop (mkF m pc' ls st))) : Win tb e below P (T.setTop (mkF m pc ls (.int x :: st))) := by
  subst hp; exact Win.go (fun _ k => XS.ifNo h hx rfl hd rfl hc k) w
theorem s_lcmp {x y : Int64} (h : At T m c below) (hx : tb.exec = Jvm.exec) (hd : decode c.code pc = .ok (.lcmp, 1)) (hp : pc + 1 = pc') (w : Win tb e below P (T.setTop (mkF m pc' ls (.int (lcmpW x y) :: st)))) : Win tb e below P (T.setTop (mkF m pc ls (.long y :: .long x :: st))) := by
  subst hp; exact Win.go (fun _ k => XS.lcmp h hx rfl hd rfl k) w
theorem s_istore {k : Nat} {x : Int32} {l' : Array Slot} (h : At T m c below) (hx : tb.exec = Jvm.exec) (hd : decode c.code pc = .ok (.istore k, 2)) (hp : pc + 2 = pc') (hl : storeLocals ls k (.int x) = some l') (w : Win tb e below P (T.setTop (mkF m pc' l' st))) : Win tb e below P (T.setTop (mkF m pc ls (.int x :: st))) := by
  subst hp; exact Win.go (fun _ k => XS.istore h hx rfl hd rfl hl k) w
theorem s_istoreN {k : Fin 4} {x : Int32} {l' : Array Slot} (h : At T m c below) (hx : tb.exec = Jvm.exec) (hd : decode c.code pc = .ok (.istore_n k, 1)) (hp : pc + 1 = pc') (hl : storeLocals ls k.val (.int x) = some l') (w : Win tb e below P (T.setTop (mkF m pc' l' st))) : Win tb e below P (T.setTop (mkF m pc ls (.int x :: st))) := by
  subst hp; exact Win.go (fun _ k => XS.istoreN h hx rfl hd rfl hl k) w
theorem s_lstore {k : Nat} {x : Int64} {l' : Array Slot} (h : At T m c below) (hx : tb.exec = Jvm.exec) (hd : decode c.code pc = .ok (.lstore k, 2)) (hp : pc + 2 = pc') (hl : storeLocals ls k (.long x) = some l') (w : Win tb e below P (T.setTop (mkF m pc' l' st))) : Win tb e below P (T.setTop (mkF m pc ls (.long x :: st))) := by
  subst hp; exact Win.go (fun _ k => XS.lstore h hx rfl hd rfl hl k) w
theorem s_lstoreN {k : Fin 4} {x : Int64} {l' : Array Slot} (h : At T m c below) (hx : tb.exec = Jvm.exec) (hd : decode c.code pc = .ok (.lstore_n k, 1)) (hp : pc + 1 = pc') (hl : storeLocals ls k.val (.long x) = some l') (w : Win tb e below P (T.setTop (mkF m pc' l' st))) : Win tb e below P (T.setTop (mkF m pc ls (.long x :: st))) := by
  subst hp; exact Win.go (fun _ k => XS.lstoreN h hx rfl hd rfl hl k) w
theorem s_astore {k : Nat} {x : Value} {l' : Array Slot} (h : At T m c below) (hx : tb.exec = Jvm.exec) (hd : decode c.code pc = .ok (.astore k, 2)) (hp : pc + 2 = pc') (hv : x.isRef = true) (hl : storeLocals ls k x = some l') (w : Win tb e below P (T.setTop (mkF m pc' l' st))) : Win tb e below P (T.setTop (mkF m pc ls (x :: st))) := by
  subst hp; exact Win.go (fun _ k => XS.astore h hx rfl hd rfl hv hl k) w
theorem s_astoreN {k : Fin 4} {x : Value} {l' : Array Slot} (h : At T m c below) (hx : tb.exec = Jvm.exec) (hd : decode c.code pc = .ok (.astore_n k, 1)) (hp : pc + 1 = pc') (hv : x.isRef = true) (hl : storeLocals ls k.val x = some l') (w : Win tb e below P (T.setTop (mkF m pc' l' st))) : Win tb e below P (T.setTop (mkF m pc ls (x :: st))) := by
  subst hp; exact Win.go (fun _ k => XS.astoreN h hx rfl hd rfl hv hl k) w
theorem s_dup {x : Value} (h : At T m c below) (hx : tb.exec = Jvm.exec) (hd : decode c.code pc = .ok (.dup, 1)) (hp : pc + 1 = pc') (hc : x.category = 1) (w : Win tb e below P (T.setTop (mkF m pc' ls (x :: x :: st)))) : Win tb e below P (T.setTop (mkF m pc ls (x :: st))) := by
  subst hp; exact Win.go (fun _ k => XS.dup h hx rfl hd rfl hc k) w
end Steps
/-- an array of ints by its places: place j holds f j -/
def AF (Z : State) (h : Heap) (a : Addr) (ty : FieldType) (n : Nat) (f : Int → Int32) : Prop := ∃ cl : Cell, Arr Z h a cl ty ∧ cl.slots.size = n ∧ ∀ j : Int32, 0 ≤ j.toInt → j.toInt < n → cl.slots[j.toNatClampNeg]? = some (.int (f j.toInt))
section AFs
variable {Z : State} {h h' : Heap} {a b : Addr} {ty : FieldType} {n : Nat} {f : Int → Int32} {ws : List Addr} {sl : Nat} {v : Value}
theorem AF.lt (F : AF Z h a ty n f) : a < h.size := by obtain ⟨c, A, -⟩ := F; exact A.lt
theorem AF.ext (F : AF Z h a ty n f) (E : Ext h h') : AF Z h' a ty n f := by obtain ⟨c, A, r⟩ := F; exact ⟨c, A.ext E, r⟩
theorem AF.other (F : AF Z h b ty n f) (W : Wr h h' a sl v) (q : b ≠ a) : AF Z h' b ty n f := by obtain ⟨c, A, r⟩ := F; exact ⟨c, A.other W q, r⟩
theorem AF.keep (F : AF Z h a ty n f) (K : Keep h h' ws) (q : a ∉ ws) : AF Z h' a ty n f := by obtain ⟨c, A, r⟩ := F; exact ⟨c, ⟨K.2.1 a c A.1 q, A.2⟩, r⟩
theorem AF.inb {c : Cell} {j : Int32} (S : c.slots.size = n) (q : 0 ≤ j.toInt ∧ j.toInt < n) : ¬ (j < 0 ∨ c.slots.size ≤ j.toNatClampNeg) := by
  rw [S, Int32.lt_iff_toInt_lt]; have e0 : (0 : Int32).toInt = 0 := rfl
  simp only [Int32.toNatClampNeg]; omega
def updF (f : Int → Int32) (j : Int) (v : Int32) : Int → Int32 := fun i => if i = j then v else f i
theorem updF_hit (f : Int → Int32) (j : Int) (v : Int32) : updF f j v j = v := if_pos rfl
theorem updF_miss {f : Int → Int32} {i j : Int} {v : Int32} (q : i ≠ j) : updF f j v i = f i := if_neg q
theorem AF.set {cl : Cell} {j v : Int32} (A : Arr Z h a cl ty) (S : cl.slots.size = n) (G : ∀ j : Int32, 0 ≤ j.toInt → j.toInt < n → cl.slots[j.toNatClampNeg]? = some (.int (f j.toInt))) (W : Wr h h' a j.toNatClampNeg (.int v)) (q : 0 ≤ j.toInt ∧ j.toInt < n) : AF Z h' a ty n (updF f j.toInt v) := by
  have e0 : (0 : Int32).toInt = 0 := rfl
  refine ⟨_, A.same W, by rw [sz_set]; exact S, fun k h0 h1 => ?_⟩
  by_cases e : k = j
  · subst e; rw [get_hit (AF.inb S q) rfl, updF_hit]
  · rw [get_miss (by rw [Int32.lt_iff_toInt_lt]; omega) (by rw [Int32.lt_iff_toInt_lt]; omega) e, updF_miss (fun z => e (Int32.toInt_inj.mp z))]; exact G k h0 h1
theorem AF.zero {k : ClassId} {z : Int32} (F : Arv Z h a k ty z [] (.int 0)) (q : z.toNatClampNeg = n) : AF Z h a ty n (fun _ => 0) := by
  obtain ⟨c, A, -, S, -, H, -⟩ := F
  refine ⟨c, A, S.trans q, fun j h0 h1 => ?_⟩
  have e : j.toNatClampNeg = j.toInt.toNat := rfl
  exact H _ (by rw [S, q, e]; omega)
theorem AF.ex {k : ClassId} {z : Int32} {vs : List Value} {dv : Value} (F : Arv Z h a k .byte z vs dv) (q : z.toNatClampNeg = n) : ∃ f, AF Z h a .byte n f := by
  obtain ⟨c, A, -, S, -, H, G⟩ := F
  refine ⟨fun i => match c.slots[i.toNat]? with | some (.int x) => x | _ => 0, c, A, S.trans q, fun j h0 h1 => ?_⟩
  have e : j.toNatClampNeg = j.toInt.toNat := rfl
  have hj : j.toInt.toNat < c.slots.size := by rw [S, q]; omega
  have e1 := H _ hj
  have e2 := G _ hj
  show c.slots[j.toInt.toNat]? = some (.int (match c.slots[j.toInt.toNat]? with | some (.int x) => x | _ => 0))
  cases hv : vs.getD j.toInt.toNat dv <;> rw [hv] at e1 e2 <;> first | (rw [e1]; done) | (exact absurd e2 (by simp [fits]))
/-- a byte array of length z -/
def BA (Z : State) (h : Heap) (a : Addr) (z : Int32) : Prop := ∃ (k : ClassId) (vs : List Value), Arv Z h a k .byte z vs (.int 0)
variable {z : Int32}
theorem BA.lt (F : BA Z h a z) : a < h.size := by obtain ⟨_, _, A⟩ := F; exact A.lt
theorem BA.ext (F : BA Z h a z) (E : Ext h h') : BA Z h' a z := by obtain ⟨k, vs, A⟩ := F; exact ⟨k, vs, A.ext E⟩
theorem BA.other (F : BA Z h b z) (W : Wr h h' a sl v) (q : b ≠ a) : BA Z h' b z := by obtain ⟨k, vs, A⟩ := F; exact ⟨k, vs, A.other W q⟩
theorem BA.keep (F : BA Z h a z) (K : Keep h h' ws) (q : a ∉ ws) : BA Z h' a z := by obtain ⟨k, vs, A⟩ := F; exact ⟨k, vs, A.keep K q⟩
theorem cpBA {p : Program} {l : Launch} {e : Env} {R : Room} {s : State} {m : MethodId} {args : Array Value} {below : List Frame} {meth : Method} {c : Code} {T : State} {locs : List Loc} {cells slots : Nat}
    (X : Stand p l e R s m args below meth c T locs cells slots) (hx : p.tables.exec = Jvm.exec) (hZ : Z.Warmed39 s.vm) {a0 : Array Value} {own : String} {index : Nat} (hown : s.vm.findClass own = some m.cls)
    (w1 : (Cond.methodLink own index Jvm.Stand.acN).before a0 Z = true) (w2 : (Cond.native Jvm.Stand.acN).before a0 Z = true) (w3 : (Cond.static Jvm.Stand.acN).before a0 Z = true) (w4 : (Cond.initialized "java/lang/System").before a0 Z = true) (eT : T.heap = h)
    {z' sp dp nn : Int32} (A : BA Z h a z) (B : BA Z h b z') (h1 : 0 ≤ sp.toInt) (h2 : 0 ≤ dp.toInt) (h3 : 0 ≤ nn.toInt) (h4 : sp.toInt + nn.toInt ≤ z.toInt) (h5 : dp.toInt + nn.toInt ≤ z'.toInt) {n0 : Nat} (N : Fr n0 locs) (ge : n0 ≤ b)
    {g : JFrame} (hg : g.method = m) (hsize : g.locals.size = c.maxLocals) {rest : List Value} (hs : g.stack = .int nn :: .int dp :: .ref b :: .int sp :: .ref a :: rest) (hd : decode c.code g.pc = .ok (.invokestatic index, 3))
    (hf : 1 ≤ R.frames) {W : Nat} (hW : 2 * g.monitorRoom + (rest.map fun v => v.category).sum ≤ W) (hlo : W + (nativeFrameWords "java/lang/System" "arraycopy" 5 + 11) ≤ R.locals) :
    ∃ T' h' L, Stand p l e R s m args below meth c T' L cells slots ∧ T'.heap = h' ∧ Fr n0 L ∧ Keep h h' [b] ∧ BA Z h' b z' ∧
      ∀ target, Steps p.tables e below (T'.setTop { g with pc := g.pc + 3, stack := rest }) target → Steps p.tables e below (T.setTop g) target := by
  have e0 : (0 : Int32).toInt = 0 := rfl
  obtain ⟨k, vs, A⟩ := A
  obtain ⟨k', vd, B⟩ := B
  have B' := B.pad (pad_rep vd (.int 0) z'.toNatClampNeg)
  obtain ⟨T', h', L, X', e', N', K, B2, st⟩ := cpA X hx hZ hown w1 w2 w3 w4 eT A B' (Or.inl ⟨rfl, rfl⟩) (by rw [Int32.lt_iff_toInt_lt]; omega) (by rw [Int32.lt_iff_toInt_lt]; omega) (by rw [Int32.lt_iff_toInt_lt]; omega) (by simp only [Int32.toNatClampNeg]; omega) (by simp only [Int32.toNatClampNeg]; omega) rfl (by simp only [List.length_append, List.length_replicate, Int32.toNatClampNeg]; omega) N ge hg hsize hs hd hf hW hlo
  exact ⟨T', h', L, X', e', N', K, ⟨k', _, B2⟩, st⟩
end AFs
theorem own_selPriv {s : State} {args : Array Value} {y y' : MethodName} (hn : y.cls = y'.cls) (w : (Cond.selects y'.cls y' y').before args s = true) (hpriv : s.PrivateAt y) (hinst : (Cond.instanceMethod y).before args s = true) (hy : y.cls ≠ "java/lang/invoke/MethodHandle" ∧ y.cls ≠ "java/lang/invoke/VarHandle") : (Cond.selects y.cls y y).before args s = true := by
  obtain ⟨c, r, m, h1, -, h3, -, k, h5, h6⟩ := Cond.selects_spec w
  have h7 := findClass_of_methodNamed h3
  cases h1.symm.trans h7
  exact selects_self_of_private (by rw [hn]; exact h7) h5 h6 hpriv hinst hy
theorem own_lremEq (x y : Int64) : x - (x / y) * y = x % y := by
  refine Int64.toInt_inj.mp ?_
  have h1 := rng64 (x % y)
  have e : x.toInt - x.toInt.tdiv y.toInt * y.toInt = (x % y).toInt := by rw [Int64.toInt_mod, Int.tmod_def, Int.mul_comm]
  rw [Int64.toInt_sub, Int64.toInt_mul, Int64.toInt_div, Int.bmod_mul_bmod, Int.sub_bmod_bmod, e]
  exact Int.bmod_eq_of_le_mul_two (by omega) (by omega)
theorem lremM {p : Program} {l : Launch} {e : Env} {R : Room} {s : State} {m : MethodId} {args : Array Value} {below : List Frame} {meth : Method} {c : Code} {T : State} {locs : List Loc} {cells slots : Nat} {g : JFrame} {target : State} (X : Stand p l e R s m args below meth c T locs cells slots) (hx : p.tables.exec = Jvm.exec) (hg : g.method = m) {x y : Int64} {rest : List Value} (hd : decode c.code g.pc = .ok (.lrem, 1)) (hs : g.stack = .long y :: .long x :: rest) (hy : y ≠ 0)
    (hr : Steps p.tables e below (T.setTop { g with pc := g.pc + 1, stack := .long (x % y) :: rest }) target) : Steps p.tables e below (T.setTop g) target :=
  XS.lrem X.here hx hg hd hs hy (by rw [own_lremEq]; exact hr)
/-! comparisons by the numbers -/
theorem tltI {x y : Int32} (h : x.toInt < y.toInt) : if_icmp.holds .lt x y = true ∧ if_icmp.holds .ge x y = false ∧ if_icmp.holds .gt y x = true ∧ if_icmp.holds .le y x = false := tlt (Int32.lt_iff_toInt_lt.mpr h)
theorem fltI {x y : Int32} (h : ¬ x.toInt < y.toInt) : if_icmp.holds .lt x y = false ∧ if_icmp.holds .ge x y = true ∧ if_icmp.holds .gt y x = false ∧ if_icmp.holds .le y x = true := flt (fun q => h (Int32.lt_iff_toInt_lt.mp q))
theorem teqI {x y : Int32} (h : x.toInt = y.toInt) : if_icmp.holds .eq x y = true ∧ if_icmp.holds .ne x y = false := teq (Int32.toInt_inj.mp h)
theorem feqI {x y : Int32} (h : ¬ x.toInt = y.toInt) : if_icmp.holds .eq x y = false ∧ if_icmp.holds .ne x y = true := feq (fun q => h (congrArg _ q))
theorem tltZ {x y : Int32} (h : x.toInt < y.toInt) : (y = 0 → ifCond.holds .lt x = true ∧ ifCond.holds .ge x = false) ∧ (x = 0 → ifCond.holds .gt y = true ∧ ifCond.holds .le y = false) :=
  ⟨fun q => by subst q; exact ⟨(if0 _ _).trans (tltI h).1, (if0 _ _).trans (tltI h).2.1⟩, fun q => by subst q; exact ⟨(if0 _ _).trans (tltI h).2.2.1, (if0 _ _).trans (tltI h).2.2.2⟩⟩
theorem tltL {x y : Int64} (h : x.toInt < y.toInt) : ifCond.holds .lt (lcmpW x y) = true ∧ ifCond.holds .ge (lcmpW x y) = false ∧ ifCond.holds .gt (lcmpW y x) = true ∧ ifCond.holds .le (lcmpW y x) = false :=
  have h' := Int64.lt_iff_toInt_lt.mpr h
  ⟨(if0 _ _).trans (tlt ((lw_lt x y).mpr h')).1, (if0 _ _).trans (tlt ((lw_lt x y).mpr h')).2.1, (if0 _ _).trans (tlt ((lw_gt y x).mpr h')).2.2.1, (if0 _ _).trans (tlt ((lw_gt y x).mpr h')).2.2.2⟩
theorem fltL {x y : Int64} (h : ¬ x.toInt < y.toInt) : ifCond.holds .lt (lcmpW x y) = false ∧ ifCond.holds .ge (lcmpW x y) = true ∧ ifCond.holds .gt (lcmpW y x) = false ∧ ifCond.holds .le (lcmpW y x) = true :=
  have h1 : ¬ lcmpW x y < 0 := fun q => h (Int64.lt_iff_toInt_lt.mp ((lw_lt x y).mp q))
  have h2 : ¬ 0 < lcmpW y x := fun q => h (Int64.lt_iff_toInt_lt.mp ((lw_gt y x).mp q))
  ⟨(if0 _ _).trans (flt h1).1, (if0 _ _).trans (flt h1).2.1, (if0 _ _).trans (flt h2).2.2.1, (if0 _ _).trans (flt h2).2.2.2⟩
theorem teqL {x y : Int64} (h : x.toInt = y.toInt) : ifCond.holds .eq (lcmpW x y) = true ∧ ifCond.holds .ne (lcmpW x y) = false :=
  have h' := (lw_eq x y).mpr (Int64.toInt_inj.mp h)
  ⟨(if0 _ _).trans (teq h').1, (if0 _ _).trans (teq h').2⟩
theorem feqL {x y : Int64} (h : ¬ x.toInt = y.toInt) : ifCond.holds .eq (lcmpW x y) = false ∧ ifCond.holds .ne (lcmpW x y) = true :=
  have h' : ¬ lcmpW x y = 0 := fun q => h (congrArg _ ((lw_eq x y).mp q))
  ⟨(if0 _ _).trans (feq h').1, (if0 _ _).trans (feq h').2⟩
end Jvm.OwnWalk
namespace Jvm.Pilot.@@N@@
open Jvm Jvm.ClassFile Sem Op Lib Jvm.Free Jvm.Stand Jvm.LawKit Jvm.RoadKit Bundle Jvm.OwnWalk Jvm.Pilot.@@N@@.Jvm.D
theorem own_frEq {n0 : Nat} {L L' : List Loc} (h : L = L') (F : Fr n0 L') : Fr n0 L := h ▸ F
theorem own_fin {v : Int32} {N : Nat} (h0 : 0 ≤ v.toInt) (h1 : v.toInt < N) : ∃ k : Fin N, v = Int32.ofNat k.val := by
  refine ⟨⟨v.toInt.toNat, by omega⟩, Int32.toInt_inj.mp ?_⟩
  have := v.toInt_lt
  rw [Int32.toInt_ofNat_of_lt (by simp only; omega)]; simp only; omega
theorem own_staK {Z : State} {h h' : Heap} {C n d : String} {v : Value} {ws : List Addr} (F : Sta Z h C n d v) (K : Keep h h' ws) (q : ∀ x ∈ ws, ∃ D, Exa Z h x D) : Sta Z h' C n d v := by
  obtain ⟨cf, i, k, f, st, cell, h1, h2, h3, h4, h5, h6, h7⟩ := F
  refine ⟨cf, i, k, f, st, cell, h1, h2, h3, h4, K.2.1 st cell h5 fun m => ?_, h6, h7⟩
  obtain ⟨D, c', k', g1, g2, g3, g4, g5⟩ := q st m
  rw [h5] at g1; cases g1; rw [h6] at g4; cases g4
theorem own_fld {Z : State} {args : Array Value} {t : Term} {a : Addr} {C n d : String} {v : Value} (ht : t.eval args Z none [] Z = some (.ref a)) (h : (Term.field t C n d).eval args Z none [] Z = some v) : Fld Z Z.heap a C n d v := Fld.start (by simpa [Term.eval, ht] using h)
theorem own_narb {z : Int32} (h : z.toInt = 0 ∨ z.toInt = 1) : nar .boolean z = z := by
  rcases h with h | h
  · have : z = 0 := Int32.toInt_inj.mp h
    subst this; rfl
  · have : z = 1 := Int32.toInt_inj.mp h
    subst this; rfl
theorem own_noinst {Z : State} {a0 : Array Value} {C K : String} {n : Nat} (w : (Cond.superclass C "java/lang/Object").before a0 Z = true) (w0 : (Cond.noSuperclass "java/lang/Object").before a0 Z = true) (wi : (Cond.instantiable K n).before a0 Z = true) (h1 : C ≠ K) (h2 : "java/lang/Object" ≠ K) : ∃ c t, Z.vm.findClass C = some c ∧ Z.vm.findClass K = some t ∧ Z.vm.assignable c t = false := by
  obtain ⟨t, kt, g0, g2, g5, g6, -, -⟩ := Cond.instantiable_spec wi
  have g7 : kt.isInterface = false := by
    cases hi : kt.isInterface
    · rfl
    · rw [hi] at g6; cases g6
  have N0 : NS Z "java/lang/Object" K := by
    obtain ⟨c, k, a1, a2, a3, -, -⟩ := Cond.noSuperclass_spec w0
    have ne := ids_ne a1 g0 h2
    refine ⟨c, t, a1, g0, fun fuel => ?_⟩
    cases fuel with
    | zero => rfl
    | succ f => simp [Vm.isSubclassAux, ne, a2, a3]
  obtain ⟨c, t', h0, g0', n3⟩ := NS.step w N0 h1
  cases g0.symm.trans g0'
  obtain ⟨p, k, kp, q1, q2, q3, q4, q5, -, q7⟩ := Cond.superclass_spec h0 w
  have ne := ids_ne h0 g0 h1
  refine ⟨c, t, h0, g0, ?_⟩
  show Z.vm.assignableAux (255 + 1) c t = false
  simp [Vm.assignableAux, ne, q2, g2, q5, g5, g7, Vm.isSubclass, n3]
theorem own_one {z : Int32} (h : z.toInt = 0 ∨ z.toInt = 1) (h0 : ¬ z.toInt = 0) : z = 1 := Int32.toInt_inj.mp (h.resolve_left h0)
theorem own_zero {z : Int32} (h0 : z.toInt = 0) : z = 0 := Int32.toInt_inj.mp h0
theorem own_b1 {z : Int32} {P : Prop} (h : (z.toInt = 1 ∧ (P)) ∨ (z.toInt = 0 ∧ ¬ (P))) (q : ¬ z.toInt = (0 : Int)) : P := h.elim (fun h => h.2) (fun h => absurd h.1 q)
theorem own_b0 {z : Int32} {P : Prop} (h : (z.toInt = 1 ∧ (P)) ∨ (z.toInt = 0 ∧ ¬ (P))) (q : z.toInt = (0 : Int)) : ¬ P := h.elim (fun h => absurd (h.1.symm.trans q) (by decide)) (fun h => h.2)
theorem own_ch (y v : Int32) (h : (y &&& (255 : Int32)).toUInt32.toUInt16.toUInt32.toInt32 = v) : 0 ≤ v.toInt ∧ v.toInt ≤ 255 := by
  have h1 := c_and y 255 (by decide)
  have e : (255 : Int32).toInt = 255 := rfl
  rw [e] at h1
  have h2 := c_i2c (y &&& (255 : Int32))
  rw [h] at h2
  clear h
  omega
theorem own_pol {fa af al : Int32} {la lb lc ld : Int64} (h0 : fa.toInt = 0 → af.toInt = 0) (h1 : fa.toInt = 0 ∨ la = 0) (h2 : fa.toInt = 0 ∨ lb = 0) (h3 : fa.toInt = 0 ∨ lc = 0) (h4 : fa.toInt = 0 ∨ ((al.toInt = 0 → ld = 1) ∧ (¬ al.toInt = 0 → ld = 0))) :
    ¬ af.toInt = 0 → la = (0 : Int64) ∧ lb = (0 : Int64) ∧ lc = (0 : Int64) ∧ (al.toInt = 0 → ld = (1 : Int64)) ∧ (¬ al.toInt = 0 → ld = (0 : Int64)) := fun q =>
  have n : ¬ fa.toInt = 0 := fun z => q (h0 z)
  ⟨h1.resolve_left n, h2.resolve_left n, h3.resolve_left n, (h4.resolve_left n).1, (h4.resolve_left n).2⟩
theorem own_byte {a b : Int32} (ha : 0 ≤ a.toInt ∧ a.toInt ≤ 255) (hb : 0 ≤ b.toInt ∧ b.toInt ≤ 255) : (nar .byte a.toInt8.toInt32).toInt = (nar .byte b.toInt8.toInt32).toInt ↔ a.toInt = b.toInt := by
  show (a.toInt8.toInt32.toInt8.toInt32).toInt = (b.toInt8.toInt32.toInt8.toInt32).toInt ↔ _
  have h1 := c_i2b a
  have h2 := c_i2b b
  have h3 := c_i2b a.toInt8.toInt32
  have h4 := c_i2b b.toInt8.toInt32
  omega
theorem own_bool {z y : Int32} {P R : Prop} (h : (z.toInt = 1 ∧ (P)) ∨ (z.toInt = 0 ∧ ¬ (P))) (g : (y.toInt = 1 ∧ (R)) ∨ (y.toInt = 0 ∧ ¬ (R))) (q : P ↔ R) : z.toInt = y.toInt := by
  rcases h with ⟨a, b⟩ | ⟨a, b⟩ <;> rcases g with ⟨a', b'⟩ | ⟨a', b'⟩
  · rw [a, a']
  · exact absurd (q.mp b) b'
  · exact absurd (q.mpr b') b
  · rw [a, a']
theorem own_sa {s1 s2 a b : Int} (h1 : s1 = 1 - a) (h2 : s2 = 1 - b) : s1 = s2 ↔ a = b := by omega
theorem d1_0 : decode method_2_code 0 = .ok (.iload_n 0, 1) := by decide +kernel
theorem d1_1 : decode method_2_code 1 = .ok (.iload_n 1, 1) := by decide +kernel
theorem d1_2 : decode method_2_code 2 = .ok (.iushr, 1) := by decide +kernel
theorem d1_3 : decode method_2_code 3 = .ok (.iconst 1, 1) := by decide +kernel
theorem d1_4 : decode method_2_code 4 = .ok (.iand, 1) := by decide +kernel
theorem d1_5 : decode method_2_code 5 = .ok (.ifCond .eq 7, 3) := by decide +kernel
theorem d1_8 : decode method_2_code 8 = .ok (.iconst 1, 1) := by decide +kernel
theorem d1_9 : decode method_2_code 9 = .ok (.goto 4, 3) := by decide +kernel
theorem d1_12 : decode method_2_code 12 = .ok (.iconst 0, 1) := by decide +kernel
theorem d1_13 : decode method_2_code 13 = .ok (.ireturn, 1) := by decide +kernel
theorem pn_1 : plainName "com/example/throttle/throttle/DecisionEqualsPinLaw" = true := by first | (simp [plainName, overriddenIn]; done) | decide +kernel
theorem ef_1 (m : MethodId) (v0 : Int32) (v1 : Int32) : entryFrame m #[(.int v0), (.int v1)] 2 = mkF m 0 #[.val (.int v0), .val (.int v1)] [] := by first | (simp [entryFrame, mkF, argsToLocals, Value.category]; done) | rfl
def Q1 (Z : State) (v0 : Int32) (v1 : Int32) (h0 : Heap) (n0 : Nat) (v : Option Value) (h : Heap) (L : List Loc) : Prop := Fr n0 L ∧ h = h0 ∧ (∃ z : Int32, v = some (.int z) ∧ (z.toInt = 0 ∨ z.toInt = 1))
set_option maxRecDepth 65536 in
set_option maxHeartbeats 40000000 in
theorem rm1 (l : Launch) (Z : State) (a0 : Array Value) (hw : ∀ d ∈ tables_1, d.before a0 Z = true) (ws : List Jvm.Cond) (v0 : Int32) (v1 : Int32) (h0 : Heap) (n0 : Nat) (Zs : n0 ≤ h0.size) :
    MetFree l (⟨"com/example/throttle/throttle/DecisionEqualsPinLaw", "bit", "(II)Z"⟩ : MethodName) (head1 (Jvm.Cond.code (⟨"com/example/throttle/throttle/DecisionEqualsPinLaw", "bit", "(II)Z"⟩ : MethodName) method_2_code 2 (some .boolean) :: ws) ({ frames := 0, cells := 0, slots := 0, locals := 0 } : Room)) (fun as' U => as' = #[(.int v0), (.int v1)] ∧ Z.Warmed39 U.vm ∧ U.heap = h0) (fun _ _ _ _ _ => True) (fun _ U o U' => ∃ v L, o = .returned v ∧ Q1 Z v0 v1 h0 n0 v U'.heap L ∧ FrameEnd U o U' L ({ frames := 0, cells := 0, slots := 0, locals := 0 } : Room).cells ({ frames := 0, cells := 0, slots := 0, locals := 0 } : Room).slots) := by
  refine MetFree.of_bodySF (plainFor_of_name pn_1) hisR ?_
  intro p e s m args below meth c s₁ Bd hml0 hP hK
  obtain ⟨rfl, hZ, hh⟩ := hP
  have hx := Bd.exec
  have hby := Bd.bytes
  have hml : c.maxLocals = 2 := hml0
  have hown : s.vm.findClass "com/example/throttle/throttle/DecisionEqualsPinLaw" = some m.cls := findClass_of_methodNamed Bd.named
  have hnm := (name_of_methodNamed Bd.named Bd.method).1
  have hlk : meth.locks = false := Bd.notSynchronized
  have X0 : Stand p l e ({ frames := 0, cells := 0, slots := 0, locals := 0 } : Room) s m #[(.int v0), (.int v1)] below meth c s₁ [] 0 0 := Stand.of_body Bd
  have e0 : s₁.heap = h0 := by rw [← hh, Bd.state]; rfl
  have Nf := Fr.nil n0
  refine (?_ : Win p.tables e below (PostQ s (Q1 Z v0 v1 h0 n0) ({ frames := 0, cells := 0, slots := 0, locals := 0 } : Room).cells ({ frames := 0, cells := 0, slots := 0, locals := 0 } : Room).slots) (s₁.setTop (entryFrame m #[(.int v0), (.int v1)] 2)))
  rw [ef_1]
  show Win p.tables e below _ (s₁.setTop (mkF m 0 #[.val (.int v0), .val (.int v1)] []))
  refine s_iloadN (pc' := 1) X0.here hx (hb hby d1_0) rfl rfl ?_
  refine s_iloadN (pc' := 2) X0.here hx (hb hby d1_1) rfl rfl ?_
  refine Win.go (fun _ k => XT.iushr X0.here hx rfl (hb hby d1_2) rfl k) ?_
  show Win p.tables e below _ (s₁.setTop (mkF m 3 #[.val (.int v0), .val (.int v1)] [(.int (XT.ushr v0 v1))]))
  refine s_iconst (pc' := 4) (z := (1 : Int32)) X0.here hx (hb hby d1_3) rfl rfl ?_
  refine s_iand (pc' := 5) X0.here hx (hb hby d1_4) rfl ?_
  by_cases hc5 : (((XT.ushr v0 v1) &&& (1 : Int32))).toInt = (0 : Int)
  · skip
    refine s_ifYes (pc' := 12) X0.here hx (hb hby d1_5) ((if0 _ _).trans (teqI (x := ((XT.ushr v0 v1) &&& (1 : Int32))) (y := (0 : Int32)) hc5).1) (by decide) (by decide) ?_
    refine s_iconst (pc' := 13) (z := (0 : Int32)) X0.here hx (hb hby d1_12) rfl rfl ?_
    refine winN X0 hx hlk e0 (t := .boolean) Bd.returns (by simp) (hb hby d1_13) (by decide) (by decide) (z' := (0 : Int32)) rfl ?_
    exact ⟨Nf, rfl, _, rfl, Or.inl rfl⟩
  · skip
    refine s_ifNo (pc' := 8) X0.here hx (hb hby d1_5) rfl ((if0 _ _).trans (feqI (x := ((XT.ushr v0 v1) &&& (1 : Int32))) (y := (0 : Int32)) hc5).1) ?_
    refine s_iconst (pc' := 9) (z := (1 : Int32)) X0.here hx (hb hby d1_8) rfl rfl ?_
    refine s_goto (pc' := 13) X0.here hx (hb hby d1_9) (by decide) (by decide) ?_
    refine winN X0 hx hlk e0 (t := .boolean) Bd.returns (by simp) (hb hby d1_13) (by decide) (by decide) (z' := (1 : Int32)) rfl ?_
    exact ⟨Nf, rfl, _, rfl, Or.inr rfl⟩
theorem d4_0 : decode jdk_43_method_3_code 0 = .ok (.iload_n 0, 1) := by decide +kernel
theorem d4_1 : decode jdk_43_method_3_code 1 = .ok (.sipush 255, 3) := by decide +kernel
theorem d4_4 : decode jdk_43_method_3_code 4 = .ok (.if_icmp .gt 7, 3) := by decide +kernel
theorem d4_7 : decode jdk_43_method_3_code 7 = .ok (.iconst 1, 1) := by decide +kernel
theorem d4_8 : decode jdk_43_method_3_code 8 = .ok (.goto 4, 3) := by decide +kernel
theorem d4_12 : decode jdk_43_method_3_code 12 = .ok (.ireturn, 1) := by decide +kernel
theorem pn_4 : plainName "java/lang/StringLatin1" = true := by first | (simp [plainName, overriddenIn]; done) | decide +kernel
theorem ef_4 (m : MethodId) (ch : Int32) : entryFrame m #[(.int ch)] 1 = mkF m 0 #[.val (.int ch)] [] := by first | (simp [entryFrame, mkF, argsToLocals, Value.category]; done) | rfl
def Q4 (Z : State) (ch : Int32) (h0 : Heap) (n0 : Nat) (v : Option Value) (h : Heap) (L : List Loc) : Prop := Fr n0 L ∧ h = h0 ∧ v = some (.int (1 : Int32))
set_option maxRecDepth 65536 in
set_option maxHeartbeats 40000000 in
theorem rm4 (l : Launch) (Z : State) (a0 : Array Value) (hw : ∀ d ∈ tables_1, d.before a0 Z = true) (ws : List Jvm.Cond) (ch : Int32) (h0 : Heap) (n0 : Nat) (Zs : n0 ≤ h0.size) (hch : 0 ≤ ch.toInt ∧ ch.toInt ≤ 255) :
    MetFree l (⟨"java/lang/StringLatin1", "canEncode", "(C)Z"⟩ : MethodName) (head1 (Jvm.Cond.code (⟨"java/lang/StringLatin1", "canEncode", "(C)Z"⟩ : MethodName) jdk_43_method_3_code 1 (some .boolean) :: ws) ({ frames := 0, cells := 0, slots := 0, locals := 0 } : Room)) (fun as' U => as' = #[(.int ch)] ∧ Z.Warmed39 U.vm ∧ U.heap = h0) (fun _ _ _ _ _ => True) (fun _ U o U' => ∃ v L, o = .returned v ∧ Q4 Z ch h0 n0 v U'.heap L ∧ FrameEnd U o U' L ({ frames := 0, cells := 0, slots := 0, locals := 0 } : Room).cells ({ frames := 0, cells := 0, slots := 0, locals := 0 } : Room).slots) := by
  refine MetFree.of_bodySF (plainFor_of_name pn_4) hisR ?_
  intro p e s m args below meth c s₁ Bd hml0 hP hK
  obtain ⟨rfl, hZ, hh⟩ := hP
  have hx := Bd.exec
  have hby := Bd.bytes
  have hml : c.maxLocals = 1 := hml0
  have hown : s.vm.findClass "java/lang/StringLatin1" = some m.cls := findClass_of_methodNamed Bd.named
  have hnm := (name_of_methodNamed Bd.named Bd.method).1
  have hlk : meth.locks = false := Bd.notSynchronized
  have X0 : Stand p l e ({ frames := 0, cells := 0, slots := 0, locals := 0 } : Room) s m #[(.int ch)] below meth c s₁ [] 0 0 := Stand.of_body Bd
  have e0 : s₁.heap = h0 := by rw [← hh, Bd.state]; rfl
  have Nf := Fr.nil n0
  refine (?_ : Win p.tables e below (PostQ s (Q4 Z ch h0 n0) ({ frames := 0, cells := 0, slots := 0, locals := 0 } : Room).cells ({ frames := 0, cells := 0, slots := 0, locals := 0 } : Room).slots) (s₁.setTop (entryFrame m #[(.int ch)] 1)))
  rw [ef_4]
  show Win p.tables e below _ (s₁.setTop (mkF m 0 #[.val (.int ch)] []))
  refine s_iloadN (pc' := 1) X0.here hx (hb hby d4_0) rfl rfl ?_
  refine s_sipush (pc' := 4) (z := (255 : Int32)) X0.here hx (hb hby d4_1) rfl rfl ?_
  by_cases hc4 : (255 : Int) < (ch).toInt
  · skip
    exfalso
    omega
  · skip
    refine s_icmpNo (pc' := 7) X0.here hx (hb hby d4_4) rfl (fltI (x := (255 : Int32)) (y := ch) hc4).2.2.1 ?_
    refine s_iconst (pc' := 8) (z := (1 : Int32)) X0.here hx (hb hby d4_7) rfl rfl ?_
    refine s_goto (pc' := 12) X0.here hx (hb hby d4_8) (by decide) (by decide) ?_
    refine winN X0 hx hlk e0 (t := .boolean) Bd.returns (by simp) (hb hby d4_12) (by decide) (by decide) (z' := (1 : Int32)) rfl ?_
    exact ⟨Nf, rfl, rfl⟩
theorem d5_0 : decode jdk_43_method_46_code 0 = .ok (.iconst 1, 1) := by decide +kernel
theorem d5_1 : decode jdk_43_method_46_code 1 = .ok (.newarray .byte, 2) := by decide +kernel
theorem d5_3 : decode jdk_43_method_46_code 3 = .ok (.dup, 1) := by decide +kernel
theorem d5_4 : decode jdk_43_method_46_code 4 = .ok (.iconst 0, 1) := by decide +kernel
theorem d5_5 : decode jdk_43_method_46_code 5 = .ok (.iload_n 0, 1) := by decide +kernel
theorem d5_6 : decode jdk_43_method_46_code 6 = .ok (.i2b, 1) := by decide +kernel
theorem d5_7 : decode jdk_43_method_46_code 7 = .ok (.bastore, 1) := by decide +kernel
theorem d5_8 : decode jdk_43_method_46_code 8 = .ok (.areturn, 1) := by decide +kernel
theorem ef_5 (m : MethodId) (ch : Int32) : entryFrame m #[(.int ch)] 1 = mkF m 0 #[.val (.int ch)] [] := by first | (simp [entryFrame, mkF, argsToLocals, Value.category]; done) | rfl
def Q5 (Z : State) (ch : Int32) (h0 : Heap) (n0 : Nat) (v : Option Value) (h : Heap) (L : List Loc) : Prop := Fr n0 L ∧ Keep h0 h [] ∧ (∃ (bb : Addr) , v = some (.ref bb) ∧ n0 ≤ bb ∧ h0.size ≤ bb ∧ AF Z h bb .byte 1 (updF (fun _ => 0) (0 : Int) (nar .byte ch.toInt8.toInt32)))
set_option maxRecDepth 65536 in
set_option maxHeartbeats 40000000 in
theorem rm5 (l : Launch) (Z : State) (a0 : Array Value) (hw : ∀ d ∈ tables_1, d.before a0 Z = true) (ws : List Jvm.Cond) (ch : Int32) (h0 : Heap) (n0 : Nat) (Zs : n0 ≤ h0.size) :
    MetFree l (⟨"java/lang/StringLatin1", "toBytes", "(C)[B"⟩ : MethodName) (head1 (Jvm.Cond.code (⟨"java/lang/StringLatin1", "toBytes", "(C)[B"⟩ : MethodName) jdk_43_method_46_code 1 (some (.array .byte)) :: ws) ({ frames := 0, cells := 1, slots := 1, locals := 0 } : Room)) (fun as' U => as' = #[(.int ch)] ∧ Z.Warmed39 U.vm ∧ U.heap = h0) (fun _ _ _ _ _ => True) (fun _ U o U' => ∃ v L, o = .returned v ∧ Q5 Z ch h0 n0 v U'.heap L ∧ FrameEnd U o U' L ({ frames := 0, cells := 1, slots := 1, locals := 0 } : Room).cells ({ frames := 0, cells := 1, slots := 1, locals := 0 } : Room).slots) := by
  refine MetFree.of_bodySF (plainFor_of_name pn_4) hisR ?_
  intro p e s m args below meth c s₁ Bd hml0 hP hK
  obtain ⟨rfl, hZ, hh⟩ := hP
  have hx := Bd.exec
  have hby := Bd.bytes
  have hml : c.maxLocals = 1 := hml0
  have hown : s.vm.findClass "java/lang/StringLatin1" = some m.cls := findClass_of_methodNamed Bd.named
  have hnm := (name_of_methodNamed Bd.named Bd.method).1
  have hlk : meth.locks = false := Bd.notSynchronized
  have X0 : Stand p l e ({ frames := 0, cells := 1, slots := 1, locals := 0 } : Room) s m #[(.int ch)] below meth c s₁ [] 0 0 := Stand.of_body Bd
  have e0 : s₁.heap = h0 := by rw [← hh, Bd.state]; rfl
  have Nf := Fr.nil n0
  refine (?_ : Win p.tables e below (PostQ s (Q5 Z ch h0 n0) ({ frames := 0, cells := 1, slots := 1, locals := 0 } : Room).cells ({ frames := 0, cells := 1, slots := 1, locals := 0 } : Room).slots) (s₁.setTop (entryFrame m #[(.int ch)] 1)))
  rw [ef_5]
  have Kp : Keep h0 h0 [] := Keep.refl h0 _
  show Win p.tables e below _ (s₁.setTop (mkF m 0 #[.val (.int ch)] []))
  refine s_iconst (pc' := 1) (z := (1 : Int32)) X0.here hx (hb hby d5_0) rfl rfl ?_
  obtain ⟨T_1, h_1, k_1, X_1, e_1, Ex_1, A_1, EA_1, st_1⟩ := newPE X0 hx hZ (hw _ (List.mem_of_getElem? (i := 24) rfl)) e0 (g := (mkF m 1 #[.val (.int ch)] [(.int (1 : Int32))])) rfl (hb hby d5_1) rfl (by decide) (cap := 1) (by decide) (by decide) (by decide) (by decide) (ad := "[B") (by decide)
  obtain ⟨b_1, g_1⟩ : ∃ z, z = h0.size := ⟨_, rfl⟩
  have g_b_1 : n0 ≤ b_1 := Nat.le_trans Zs (Nat.le_of_eq g_1.symm)
  have sz_b_1 : h0.size ≤ b_1 := Nat.le_trans Kp.1 (Nat.le_of_eq g_1.symm)
  rw [← g_1] at A_1 EA_1 st_1
  replace Zs := Nat.le_trans Zs Ex_1.1
  replace Kp := Kp.ext Ex_1
  have A_b_1 : AF Z h_1 b_1 .byte 1 (fun _ => 0) := AF.zero (Arv.new A_1 (by decide)) (by decide)
  have lt_b_1 := A_b_1.lt
  have E_b_1 := EA_1
  refine Win.go st_1 ?_
  clear st_1 Ex_1 A_1 EA_1 g_1 X0 e0
  show Win p.tables e below _ (T_1.setTop (mkF m 3 #[.val (.int ch)] [(.ref b_1)]))
  refine s_dup (pc' := 4) X_1.here hx (hb hby d5_3) rfl rfl ?_
  refine s_iconst (pc' := 5) (z := (0 : Int32)) X_1.here hx (hb hby d5_4) rfl rfl ?_
  refine s_iloadN (pc' := 6) X_1.here hx (hb hby d5_5) rfl rfl ?_
  refine Win.go (fun _ k => XS.i2b X_1.here hx rfl (hb hby d5_6) rfl k) ?_
  show Win p.tables e below _ (T_1.setTop (mkF m 7 #[.val (.int ch)] [(.int (ch.toInt8.toInt32)), (.int (0 : Int32)), (.ref b_1), (.ref b_1)]))
  obtain ⟨cl_2, Ar_2, S_2, G_2⟩ := id A_b_1
  have hb_2 : 0 ≤ ((0 : Int32)).toInt ∧ ((0 : Int32)).toInt < 1 := by decide
  obtain ⟨T_2, h_2, X_2, e_2, W_2, st_2⟩ := stB X_1 hx hZ e_1 Ar_2 (j := (0 : Int32)) (AF.inb S_2 hb_2) (g := (mkF m 7 #[.val (.int ch)] [(.int (ch.toInt8.toInt32)), (.int (0 : Int32)), (.ref b_1), (.ref b_1)])) rfl rfl (hb hby d5_7)
  have A_2 : AF Z h_2 b_1 .byte 1 (updF (fun _ => 0) (0 : Int) (nar .byte (ch.toInt8.toInt32))) := AF.set Ar_2 S_2 G_2 W_2 hb_2
  replace E_b_1 := E_b_1.wr W_2
  replace lt_b_1 := Nat.lt_of_lt_of_le lt_b_1 (Keep.of_wr W_2).1
  replace Zs := Nat.le_trans Zs (Keep.of_wr W_2).1
  replace Kp := Kp.wr W_2 (Or.inr sz_b_1)
  replace A_b_1 := A_2
  replace Nf := Fr.snoc X_2 Nf g_b_1
  refine Win.go st_2 ?_
  clear st_2 W_2 A_2 Ar_2 S_2 G_2 hb_2 X_1 e_1
  show Win p.tables e below _ (T_2.setTop (mkF m 8 #[.val (.int ch)] [(.ref b_1)]))
  refine winA X_2 hx hlk e_2 Bd.returns rfl rfl (hb hby d5_8) (by decide) (by decide) ?_
  exact ⟨Nf, Kp, b_1, rfl, g_b_1, sz_b_1, A_b_1⟩
theorem d6_0 : decode jdk_42_method_151_code 0 = .ok (.aload_n 0, 1) := by decide +kernel
theorem d6_1 : decode jdk_42_method_151_code 1 = .ok (.invokespecial 1, 3) := by decide +kernel
theorem d6_4 : decode jdk_42_method_151_code 4 = .ok (.aload_n 0, 1) := by decide +kernel
theorem d6_5 : decode jdk_42_method_151_code 5 = .ok (.aload_n 1, 1) := by decide +kernel
theorem d6_6 : decode jdk_42_method_151_code 6 = .ok (.putfield 9, 3) := by decide +kernel
theorem d6_9 : decode jdk_42_method_151_code 9 = .ok (.aload_n 0, 1) := by decide +kernel
theorem d6_10 : decode jdk_42_method_151_code 10 = .ok (.iload_n 2, 1) := by decide +kernel
theorem d6_11 : decode jdk_42_method_151_code 11 = .ok (.putfield 15, 3) := by decide +kernel
theorem d6_14 : decode jdk_42_method_151_code 14 = .ok (.return_, 1) := by decide +kernel
theorem pn_6 : plainName "java/lang/String" = true := by first | (simp [plainName, overriddenIn]; done) | decide +kernel
theorem ef_6 (m : MethodId) (a : Addr) (vv : Addr) : entryFrame m #[(.ref a), (.ref vv), (.int (0 : Int32))] 3 = mkF m 0 #[.val (.ref a), .val (.ref vv), .val (.int (0 : Int32))] [] := by first | (simp [entryFrame, mkF, argsToLocals, Value.category]; done) | rfl
def Q6 (Z : State) (a : Addr) (vv : Addr) (h0 : Heap) (n0 : Nat) (v : Option Value) (h : Heap) (L : List Loc) : Prop := Fr n0 L ∧ Keep h0 h [a] ∧ Fld Z h a "java/lang/String" "value" "[B" (.ref vv) ∧ Fld Z h a "java/lang/String" "coder" "B" (.int (0 : Int32)) ∧ v = none
set_option maxRecDepth 65536 in
set_option maxHeartbeats 40000000 in
theorem rm6 (l : Launch) (Z : State) (a0 : Array Value) (hw : ∀ d ∈ tables_1, d.before a0 Z = true) (ws : List Jvm.Cond) (a : Addr) (vv : Addr) (h0 : Heap) (n0 : Nat) (Zs : n0 ≤ h0.size) (E_a : Exa Z h0 a "java/lang/String") (F_value_a : Fld Z h0 a "java/lang/String" "value" "[B" .null) (F_coder_a : Fld Z h0 a "java/lang/String" "coder" "B" (.int (0 : Int32))) (g_a : n0 ≤ a) :
    MetFree l (⟨"java/lang/String", "<init>", "([BB)V"⟩ : MethodName) (head1 (Jvm.Cond.code (⟨"java/lang/String", "<init>", "([BB)V"⟩ : MethodName) jdk_42_method_151_code 3 none :: ws) ({ frames := 1, cells := 0, slots := 0, locals := 12 } : Room)) (fun as' U => as' = #[(.ref a), (.ref vv), (.int (0 : Int32))] ∧ Z.Warmed39 U.vm ∧ U.heap = h0) (fun _ _ _ _ _ => True) (fun _ U o U' => ∃ v L, o = .returned v ∧ Q6 Z a vv h0 n0 v U'.heap L ∧ FrameEnd U o U' L ({ frames := 1, cells := 0, slots := 0, locals := 12 } : Room).cells ({ frames := 1, cells := 0, slots := 0, locals := 12 } : Room).slots) := by
  refine MetFree.of_bodySF (plainFor_of_name pn_6) hisR ?_
  intro p e s m args below meth c s₁ Bd hml0 hP hK
  obtain ⟨rfl, hZ, hh⟩ := hP
  have hx := Bd.exec
  have hby := Bd.bytes
  have hml : c.maxLocals = 3 := hml0
  have hown : s.vm.findClass "java/lang/String" = some m.cls := findClass_of_methodNamed Bd.named
  have hnm := (name_of_methodNamed Bd.named Bd.method).1
  have hlk : meth.locks = false := Bd.notSynchronized
  have X0 : Stand p l e ({ frames := 1, cells := 0, slots := 0, locals := 12 } : Room) s m #[(.ref a), (.ref vv), (.int (0 : Int32))] below meth c s₁ [] 0 0 := Stand.of_body Bd
  have e0 : s₁.heap = h0 := by rw [← hh, Bd.state]; rfl
  have Nf := Fr.nil n0
  refine (?_ : Win p.tables e below (PostQ s (Q6 Z a vv h0 n0) ({ frames := 1, cells := 0, slots := 0, locals := 12 } : Room).cells ({ frames := 1, cells := 0, slots := 0, locals := 12 } : Room).slots) (s₁.setTop (entryFrame m #[(.ref a), (.ref vv), (.int (0 : Int32))] 3)))
  rw [ef_6]
  have Kp : Keep h0 h0 [a] := Keep.refl h0 _
  have lt_a : a < h0.size := E_a.lt
  show Win p.tables e below _ (s₁.setTop (mkF m 0 #[.val (.ref a), .val (.ref vv), .val (.int (0 : Int32))] []))
  refine s_aloadN (pc' := 1) X0.here hx (hb hby d6_0) rfl rfl rfl ?_
  obtain ⟨T_3, X_3, e_3, st_3⟩ := initO X0 hx hZ hown (hw _ (List.mem_of_getElem? (i := 29) rfl)) (hw _ (List.mem_of_getElem? (i := 30) rfl)) (hw _ (List.mem_of_getElem? (i := 31) rfl)) e0 (g := (mkF m 1 #[.val (.ref a), .val (.ref vv), .val (.int (0 : Int32))] [(.ref a)])) rfl (by rw [hml]; rfl) rfl (hb hby d6_1) (by decide) (W := 0) (by show 2 * 0 + _ ≤ _; exact Nat.le_of_eq rfl) (by decide)
  refine Win.go st_3 ?_
  clear st_3 X0 e0
  show Win p.tables e below _ (T_3.setTop (mkF m 4 #[.val (.ref a), .val (.ref vv), .val (.int (0 : Int32))] []))
  refine s_aloadN (pc' := 5) X_3.here hx (hb hby d6_4) rfl rfl rfl ?_
  refine s_aloadN (pc' := 6) X_3.here hx (hb hby d6_5) rfl rfl rfl ?_
  obtain ⟨T_4, h_4, X_4, e_4, W_4, st_4⟩ := putF X_3 hx hZ hown (host := "") (Or.inl (hw _ (List.mem_of_getElem? (i := 32) rfl))) Via.refl e_3 F_value_a E_a (Or.inr ⟨(hw _ (List.mem_of_getElem? (i := 33) rfl)), rfl, hnm⟩) (hw _ (List.mem_of_getElem? (i := 20) rfl)) (ty := (.array .byte)) (by decide) rfl rfl (g := (mkF m 6 #[.val (.ref a), .val (.ref vv), .val (.int (0 : Int32))] [(.ref vv), (.ref a)])) rfl rfl (hb hby d6_6)
  replace E_a := E_a.wr W_4
  replace F_coder_a := F_coder_a.other W_4 (Or.inr (slot_ne (Or.inr (hw _ (List.mem_of_getElem? (i := 35) rfl))) (Or.inr (hw _ (List.mem_of_getElem? (i := 33) rfl))) (by decide) (t := .byte) (t' := (.array .byte)) (by decide) (by decide)))
  replace lt_a := Nat.lt_of_lt_of_le lt_a (Keep.of_wr W_4).1
  replace Zs := Nat.le_trans Zs (Keep.of_wr W_4).1
  replace Kp := Kp.wr W_4 (Or.inl (by simp))
  replace F_value_a := F_value_a.same W_4
  replace Nf := Fr.snoc X_4 Nf g_a
  refine Win.go st_4 ?_
  clear st_4 W_4 X_3 e_3
  show Win p.tables e below _ (T_4.setTop (mkF m 9 #[.val (.ref a), .val (.ref vv), .val (.int (0 : Int32))] []))
  refine s_aloadN (pc' := 10) X_4.here hx (hb hby d6_9) rfl rfl rfl ?_
  refine s_iloadN (pc' := 11) X_4.here hx (hb hby d6_10) rfl rfl ?_
  obtain ⟨T_5, h_5, X_5, e_5, W_5, st_5⟩ := putFN X_4 hx hZ hown (hw _ (List.mem_of_getElem? (i := 34) rfl)) Via.refl e_4 F_coder_a E_a (Or.inr ⟨(hw _ (List.mem_of_getElem? (i := 35) rfl)), rfl, hnm⟩) (hw _ (List.mem_of_getElem? (i := 20) rfl)) (ty := .byte) (v' := (.int (0 : Int32))) (by decide) rfl rfl (g := (mkF m 11 #[.val (.ref a), .val (.ref vv), .val (.int (0 : Int32))] [(.int (0 : Int32)), (.ref a)])) rfl rfl (hb hby d6_11)
  replace E_a := E_a.wr W_5
  replace F_value_a := F_value_a.other W_5 (Or.inr (slot_ne (Or.inr (hw _ (List.mem_of_getElem? (i := 33) rfl))) (Or.inr (hw _ (List.mem_of_getElem? (i := 35) rfl))) (by decide) (t := (.array .byte)) (t' := .byte) (by decide) (by decide)))
  replace lt_a := Nat.lt_of_lt_of_le lt_a (Keep.of_wr W_5).1
  replace Zs := Nat.le_trans Zs (Keep.of_wr W_5).1
  replace Kp := Kp.wr W_5 (Or.inl (by simp))
  replace F_coder_a := F_coder_a.same W_5
  replace Nf := Fr.snoc X_5 Nf g_a
  refine Win.go st_5 ?_
  clear st_5 W_5 X_4 e_4
  show Win p.tables e below _ (T_5.setTop (mkF m 14 #[.val (.ref a), .val (.ref vv), .val (.int (0 : Int32))] []))
  refine winV X_5 hx hlk e_5 Bd.returns (hb hby d6_14) (by decide) (by decide) ?_
  exact ⟨Nf, Kp, F_value_a, F_coder_a, rfl⟩
theorem d3_0 : decode jdk_42_method_139_code 0 = .ok (.getstatic 38, 3) := by decide +kernel
theorem d3_3 : decode jdk_42_method_139_code 3 = .ok (.ifCond .eq 23, 3) := by decide +kernel
theorem d3_6 : decode jdk_42_method_139_code 6 = .ok (.iload_n 0, 1) := by decide +kernel
theorem d3_7 : decode jdk_42_method_139_code 7 = .ok (.invokestatic 1015, 3) := by decide +kernel
theorem d3_10 : decode jdk_42_method_139_code 10 = .ok (.ifCond .eq 16, 3) := by decide +kernel
theorem d3_13 : decode jdk_42_method_139_code 13 = .ok (.new 10, 3) := by decide +kernel
theorem d3_16 : decode jdk_42_method_139_code 16 = .ok (.dup, 1) := by decide +kernel
theorem d3_17 : decode jdk_42_method_139_code 17 = .ok (.iload_n 0, 1) := by decide +kernel
theorem d3_18 : decode jdk_42_method_139_code 18 = .ok (.invokestatic 1018, 3) := by decide +kernel
theorem d3_21 : decode jdk_42_method_139_code 21 = .ok (.iconst 0, 1) := by decide +kernel
theorem d3_22 : decode jdk_42_method_139_code 22 = .ok (.invokespecial 209, 3) := by decide +kernel
theorem d3_25 : decode jdk_42_method_139_code 25 = .ok (.areturn, 1) := by decide +kernel
theorem pd_0 : parseMethodDescriptor "(C)Z" = some ⟨[.char], some .boolean⟩ := by decide +kernel
theorem pd_1 : parseMethodDescriptor "(C)[B" = some ⟨[.char], some (.array .byte)⟩ := by decide +kernel
theorem pd_2 : parseMethodDescriptor "([BB)V" = some ⟨[(.array .byte), .byte], none⟩ := by decide +kernel
theorem ef_3 (m : MethodId) (ch : Int32) : entryFrame m #[(.int ch)] 1 = mkF m 0 #[.val (.int ch)] [] := by first | (simp [entryFrame, mkF, argsToLocals, Value.category]; done) | rfl
def Q3 (Z : State) (ch : Int32) (cs : Int32) (h0 : Heap) (n0 : Nat) (v : Option Value) (h : Heap) (L : List Loc) : Prop := Fr n0 L ∧ Keep h0 h [] ∧ (∃ (ss : Addr) (ww : Addr), v = some (.ref ss) ∧ n0 ≤ ss ∧ h0.size ≤ ss ∧ Exa Z h ss "java/lang/String" ∧ Fld Z h ss "java/lang/String" "value" "[B" (.ref ww) ∧ Fld Z h ss "java/lang/String" "coder" "B" (.int (0 : Int32)) ∧ AF Z h ww .byte 1 (updF (fun _ => 0) (0 : Int) (nar .byte ch.toInt8.toInt32)) ∧ (h0.size ≤ ww))
set_option maxRecDepth 65536 in
set_option maxHeartbeats 40000000 in
theorem rm3 (l : Launch) (Z : State) (a0 : Array Value) (hw : ∀ d ∈ tables_1, d.before a0 Z = true) (ws : List Jvm.Cond) (ch : Int32) (cs : Int32) (h0 : Heap) (n0 : Nat) (Zs : n0 ≤ h0.size) (S_COMPACT_STRINGS : Sta Z h0 "java/lang/String" "COMPACT_STRINGS" "Z" (.int cs)) (hcs : ¬ cs.toInt = 0) (hch : 0 ≤ ch.toInt ∧ ch.toInt ≤ 255) :
    MetFree l (⟨"java/lang/String", "valueOf", "(C)Ljava/lang/String;"⟩ : MethodName) (head1 (Jvm.Cond.code (⟨"java/lang/String", "valueOf", "(C)Ljava/lang/String;"⟩ : MethodName) jdk_42_method_139_code 1 (some (.object "java/lang/String")) :: ws) ({ frames := 2, cells := 2, slots := 5, locals := 27 } : Room)) (fun as' U => as' = #[(.int ch)] ∧ Z.Warmed39 U.vm ∧ U.heap = h0) (fun _ _ _ _ _ => True) (fun _ U o U' => ∃ v L, o = .returned v ∧ Q3 Z ch cs h0 n0 v U'.heap L ∧ FrameEnd U o U' L ({ frames := 2, cells := 2, slots := 5, locals := 27 } : Room).cells ({ frames := 2, cells := 2, slots := 5, locals := 27 } : Room).slots) := by
  refine MetFree.of_bodySF (plainFor_of_name pn_6) hisR ?_
  intro p e s m args below meth c s₁ Bd hml0 hP hK
  obtain ⟨rfl, hZ, hh⟩ := hP
  have hx := Bd.exec
  have hby := Bd.bytes
  have hml : c.maxLocals = 1 := hml0
  have hown : s.vm.findClass "java/lang/String" = some m.cls := findClass_of_methodNamed Bd.named
  have hnm := (name_of_methodNamed Bd.named Bd.method).1
  have hlk : meth.locks = false := Bd.notSynchronized
  have X0 : Stand p l e ({ frames := 2, cells := 2, slots := 5, locals := 27 } : Room) s m #[(.int ch)] below meth c s₁ [] 0 0 := Stand.of_body Bd
  have e0 : s₁.heap = h0 := by rw [← hh, Bd.state]; rfl
  have Nf := Fr.nil n0
  refine (?_ : Win p.tables e below (PostQ s (Q3 Z ch cs h0 n0) ({ frames := 2, cells := 2, slots := 5, locals := 27 } : Room).cells ({ frames := 2, cells := 2, slots := 5, locals := 27 } : Room).slots) (s₁.setTop (entryFrame m #[(.int ch)] 1)))
  rw [ef_3]
  have Kp : Keep h0 h0 [] := Keep.refl h0 _
  show Win p.tables e below _ (s₁.setTop (mkF m 0 #[.val (.int ch)] []))
  obtain ⟨T_6, X_6, e_6, st_6⟩ := getS2 X0 hx hZ hown (host := "") (Or.inl (hw _ (List.mem_of_getElem? (i := 14) rfl))) Via.refl e0 S_COMPACT_STRINGS (g := (mkF m 0 #[.val (.int ch)] [])) rfl (hb hby d3_0)
  refine Win.go st_6 ?_
  clear st_6 X0 e0
  show Win p.tables e below _ (T_6.setTop (mkF m 3 #[.val (.int ch)] [(.int cs)]))
  by_cases hc3 : (cs).toInt = (0 : Int)
  · skip
    exfalso
    exact hcs hc3
  · skip
    refine s_ifNo (pc' := 6) X_6.here hx (hb hby d3_3) rfl ((if0 _ _).trans (feqI (x := cs) (y := (0 : Int32)) hc3).1) ?_
    refine s_iloadN (pc' := 7) X_6.here hx (hb hby d3_6) rfl rfl ?_
    obtain ⟨_, _, ⟨T_7, L_7, k_7, n_7⟩, -, X_7, ⟨Lc_7, hQ_7, l_7, y_7, z_7⟩, st_7⟩ := Jvm.LawKit.callS X_6 hx (y := (⟨"java/lang/StringLatin1", "canEncode", "(C)Z"⟩ : MethodName)) hown (mvT hZ (hw _ (List.mem_of_getElem? (i := 15) rfl))) (mvT hZ (hw _ (List.mem_of_getElem? (i := 16) rfl))) (mvT hZ (hw _ (List.mem_of_getElem? (i := 17) rfl))) (mvT hZ (hw _ (List.mem_of_getElem? (i := 18) rfl))) (by decide) (backOf (W := 0) (rm4 l Z a0 hw [] ch h0 n0 Zs hch) hZ (hw _ (List.mem_of_getElem? (i := 18) rfl)) (hw _ (List.mem_of_getElem? (i := 17) rfl)) (by decide) (by decide)) (g := (mkF m 7 #[.val (.int ch)] [(.int ch)])) rfl (by rw [hml]; rfl) (argsL := [(.int ch)]) (rest := []) (lenOf pd_0 rfl) rfl (by show 2 * 0 + _ ≤ _; exact Nat.le_of_eq rfl) (hb hby d3_7) (fun _ _ => ⟨rfl, e_6, (by decide : 0 + 0 ≤ _), (by decide : 0 + 0 ≤ _)⟩)
    dsimp only [Pt.U, Pt.locs, Pt.cells, Pt.slots, Nat.add_zero] at X_7 l_7 y_7 z_7 st_7 hQ_7
    subst y_7 z_7
    obtain ⟨Nq_7, e_7, rfl⟩ := hQ_7
    replace Nf := own_frEq l_7 (Fr.app Nf Nq_7)
    clear l_7
    refine Win.go st_7 ?_
    clear st_7 Nq_7 X_6 e_6
    show Win p.tables e below _ (T_7.setTop (mkF m 10 #[.val (.int ch)] [(.int (1 : Int32))]))
    refine s_ifNo (pc' := 13) X_7.here hx (hb hby d3_10) rfl ((if0 _ _).trans (feqI (x := (1 : Int32)) (y := (0 : Int32)) (by decide)).1) ?_
    obtain ⟨T_8, h_8, X_8, e_8, Ex_8, A_8, D_8, -, st_8⟩ := newO X_7 hx hZ hown (hw _ (List.mem_of_getElem? (i := 19) rfl)) (hw _ (List.mem_of_getElem? (i := 20) rfl)) (hw _ (List.mem_of_getElem? (i := 12) rfl)) e_7 (g := (mkF m 13 #[.val (.int ch)] [])) rfl (hb hby d3_13) (by decide) (by decide)
    obtain ⟨b_8, g_8⟩ : ∃ z, z = h0.size := ⟨_, rfl⟩
    have g_b_8 : n0 ≤ b_8 := Nat.le_trans Zs (Nat.le_of_eq g_8.symm)
    have sz_b_8 : h0.size ≤ b_8 := Nat.le_trans Kp.1 (Nat.le_of_eq g_8.symm)
    rw [← g_8] at A_8 D_8 st_8
    replace S_COMPACT_STRINGS := S_COMPACT_STRINGS.ext Ex_8
    replace Zs := Nat.le_trans Zs Ex_8.1
    replace Kp := Kp.ext Ex_8
    have E_b_8 := A_8
    have lt_b_8 := E_b_8.lt
    have F_value_b_8 : Fld Z h_8 b_8 "java/lang/String" "value" "[B" .null := D_8 (Or.inr (hw _ (List.mem_of_getElem? (i := 33) rfl))) (ty := (.array .byte)) (by decide)
    have F_coder_b_8 : Fld Z h_8 b_8 "java/lang/String" "coder" "B" (.int (0 : Int32)) := D_8 (Or.inr (hw _ (List.mem_of_getElem? (i := 35) rfl))) (ty := .byte) (by decide)
    refine Win.go st_8 ?_
    clear st_8 Ex_8 A_8 D_8 g_8 X_7 e_7
    show Win p.tables e below _ (T_8.setTop (mkF m 16 #[.val (.int ch)] [(.ref b_8)]))
    refine s_dup (pc' := 17) X_8.here hx (hb hby d3_16) rfl rfl ?_
    refine s_iloadN (pc' := 18) X_8.here hx (hb hby d3_17) rfl rfl ?_
    obtain ⟨_, _, ⟨T_9, L_9, k_9, n_9⟩, -, X_9, ⟨Lc_9, hQ_9, l_9, y_9, z_9⟩, st_9⟩ := Jvm.LawKit.callS X_8 hx (y := (⟨"java/lang/StringLatin1", "toBytes", "(C)[B"⟩ : MethodName)) hown (mvT hZ (hw _ (List.mem_of_getElem? (i := 21) rfl))) (mvT hZ (hw _ (List.mem_of_getElem? (i := 22) rfl))) (mvT hZ (hw _ (List.mem_of_getElem? (i := 17) rfl))) (mvT hZ (hw _ (List.mem_of_getElem? (i := 23) rfl))) (by decide) (backOf (W := 2) (rm5 l Z a0 hw [] ch h_8 n0 Zs ) hZ (hw _ (List.mem_of_getElem? (i := 23) rfl)) (hw _ (List.mem_of_getElem? (i := 17) rfl)) (by decide) (by decide)) (g := (mkF m 18 #[.val (.int ch)] [(.int ch), (.ref b_8), (.ref b_8)])) rfl (by rw [hml]; rfl) (argsL := [(.int ch)]) (rest := [(.ref b_8), (.ref b_8)]) (lenOf pd_1 rfl) rfl (by show 2 * 0 + _ ≤ _; exact Nat.le_of_eq rfl) (hb hby d3_18) (fun _ _ => ⟨rfl, e_8, (by decide : 1 + 1 ≤ _), (by decide : 4 + 1 ≤ _)⟩)
    dsimp only [Pt.U, Pt.locs, Pt.cells, Pt.slots, Nat.add_zero] at X_9 l_9 y_9 z_9 st_9 hQ_9
    subst y_9 z_9
    obtain ⟨h_9, e_9⟩ : ∃ z, T_9.heap = z := ⟨_, rfl⟩
    rw [e_9] at hQ_9
    obtain ⟨Nq_9, K_9, b_9, rfl, g_b_9, so_9, n_9_A_b_9⟩ := hQ_9
    replace Nf := own_frEq l_9 (Fr.app Nf Nq_9)
    clear l_9
    have ne_b_8_b_9 : b_8 ≠ b_9 := Nat.ne_of_lt (Nat.lt_of_lt_of_le lt_b_8 so_9)
    have sz_b_9 : h0.size ≤ b_9 := Nat.le_trans Kp.1 so_9
    replace S_COMPACT_STRINGS := own_staK S_COMPACT_STRINGS K_9 all0
    replace E_b_8 := E_b_8.keep K_9
    replace F_value_b_8 := F_value_b_8.keep K_9 nin0
    replace F_coder_b_8 := F_coder_b_8.keep K_9 nin0
    replace lt_b_8 := Nat.lt_of_lt_of_le lt_b_8 K_9.1
    replace Zs := Nat.le_trans Zs K_9.1
    replace Kp := Kp.trans K_9 all0
    have A_b_9 := n_9_A_b_9
    have lt_b_9 := A_b_9.lt
    refine Win.go st_9 ?_
    clear st_9 Nq_9 X_8 e_8 K_9
    show Win p.tables e below _ (T_9.setTop (mkF m 21 #[.val (.int ch)] [(.ref b_9), (.ref b_8), (.ref b_8)]))
    refine s_iconst (pc' := 22) (z := (0 : Int32)) X_9.here hx (hb hby d3_21) rfl rfl ?_
    obtain ⟨_, _, ⟨T_10, L_10, k_10, n_10⟩, -, X_10, ⟨Lc_10, hQ_10, l_10, y_10, z_10⟩, st_10⟩ := X_9.specialBack hx (y := (⟨"java/lang/String", "<init>", "([BB)V"⟩ : MethodName)) rfl hown (mvT hZ (hw _ (List.mem_of_getElem? (i := 25) rfl))) (mvT hZ (hw _ (List.mem_of_getElem? (i := 26) rfl))) (mvT hZ (hw _ (List.mem_of_getElem? (i := 28) rfl))) (by decide) (backOf (W := 1) (rm6 l Z a0 hw [] b_8 b_9 h_9 n0 Zs E_b_8 F_value_b_8 F_coder_b_8 g_b_8) hZ (hw _ (List.mem_of_getElem? (i := 28) rfl)) (hw _ (List.mem_of_getElem? (i := 12) rfl)) (by decide) (by decide)) (g := (mkF m 22 #[.val (.int ch)] [(.int (0 : Int32)), (.ref b_9), (.ref b_8), (.ref b_8)])) rfl (by rw [hml]; rfl) (Steps.refl _) (a := b_8) (argsL := [(.ref b_9), (.int (0 : Int32))]) (rest := [(.ref b_8)]) (lenOf pd_2 rfl) rfl (by show 2 * 0 + _ ≤ _; exact Nat.le_of_eq rfl) (hb hby d3_22) (fun _ _ => ⟨rfl, e_9, (by decide : 2 + 0 ≤ _), (by decide : 5 + 0 ≤ _)⟩)
    dsimp only [Pt.U, Pt.locs, Pt.cells, Pt.slots, Nat.add_zero] at X_10 l_10 y_10 z_10 st_10 hQ_10
    subst y_10 z_10
    obtain ⟨h_10, e_10⟩ : ∃ z, T_10.heap = z := ⟨_, rfl⟩
    rw [e_10] at hQ_10
    obtain ⟨Nq_10, K_10, n_10_F_value_b_8, n_10_F_coder_b_8, rfl⟩ := hQ_10
    replace Nf := own_frEq l_10 (Fr.app Nf Nq_10)
    clear l_10
    replace S_COMPACT_STRINGS := own_staK S_COMPACT_STRINGS K_10 (allS ⟨_, E_b_8⟩ all0)
    replace E_b_8 := E_b_8.keep K_10
    clear F_value_b_8
    clear F_coder_b_8
    replace A_b_9 := A_b_9.keep K_10 (ninS (Ne.symm ne_b_8_b_9) nin0)
    replace lt_b_8 := Nat.lt_of_lt_of_le lt_b_8 K_10.1
    replace lt_b_9 := Nat.lt_of_lt_of_le lt_b_9 K_10.1
    replace Zs := Nat.le_trans Zs K_10.1
    replace Kp := Kp.trans K_10 (allS (Or.inr sz_b_8) all0)
    have F_value_b_8 := n_10_F_value_b_8
    have F_coder_b_8 := n_10_F_coder_b_8
    refine Win.come st_10 ?_
    clear st_10 Nq_10 X_9 e_9 K_10
    show Win p.tables e below _ (T_10.setTop (mkF m 25 #[.val (.int ch)] [(.ref b_8)]))
    refine winA X_10 hx hlk e_10 Bd.returns rfl rfl (hb hby d3_25) (by decide) (by decide) ?_
    exact ⟨Nf, Kp, b_8, b_9, rfl, g_b_8, sz_b_8, E_b_8, F_value_b_8, F_coder_b_8, A_b_9, sz_b_9⟩
theorem d11_0 : decode jdk_43_method_13_code 0 = .ok (.aload_n 0, 1) := by decide +kernel
theorem d11_1 : decode jdk_43_method_13_code 1 = .ok (.arraylength, 1) := by decide +kernel
theorem d11_2 : decode jdk_43_method_13_code 2 = .ok (.aload_n 1, 1) := by decide +kernel
theorem d11_3 : decode jdk_43_method_13_code 3 = .ok (.arraylength, 1) := by decide +kernel
theorem d11_4 : decode jdk_43_method_13_code 4 = .ok (.if_icmp .ne 30, 3) := by decide +kernel
theorem d11_7 : decode jdk_43_method_13_code 7 = .ok (.iconst 0, 1) := by decide +kernel
theorem d11_8 : decode jdk_43_method_13_code 8 = .ok (.istore_n 2, 1) := by decide +kernel
theorem d11_9 : decode jdk_43_method_13_code 9 = .ok (.iload_n 2, 1) := by decide +kernel
theorem d11_10 : decode jdk_43_method_13_code 10 = .ok (.aload_n 0, 1) := by decide +kernel
theorem d11_11 : decode jdk_43_method_13_code 11 = .ok (.arraylength, 1) := by decide +kernel
theorem d11_12 : decode jdk_43_method_13_code 12 = .ok (.if_icmp .ge 20, 3) := by decide +kernel
theorem d11_15 : decode jdk_43_method_13_code 15 = .ok (.aload_n 0, 1) := by decide +kernel
theorem d11_16 : decode jdk_43_method_13_code 16 = .ok (.iload_n 2, 1) := by decide +kernel
theorem d11_17 : decode jdk_43_method_13_code 17 = .ok (.baload, 1) := by decide +kernel
theorem d11_18 : decode jdk_43_method_13_code 18 = .ok (.aload_n 1, 1) := by decide +kernel
theorem d11_19 : decode jdk_43_method_13_code 19 = .ok (.iload_n 2, 1) := by decide +kernel
theorem d11_20 : decode jdk_43_method_13_code 20 = .ok (.baload, 1) := by decide +kernel
theorem d11_21 : decode jdk_43_method_13_code 21 = .ok (.if_icmp .eq 5, 3) := by decide +kernel
theorem d11_24 : decode jdk_43_method_13_code 24 = .ok (.iconst 0, 1) := by decide +kernel
theorem d11_25 : decode jdk_43_method_13_code 25 = .ok (.ireturn, 1) := by decide +kernel
theorem d11_26 : decode jdk_43_method_13_code 26 = .ok (.iinc 2 1, 3) := by decide +kernel
theorem d11_29 : decode jdk_43_method_13_code 29 = .ok (.goto (-20), 3) := by decide +kernel
theorem d11_32 : decode jdk_43_method_13_code 32 = .ok (.iconst 1, 1) := by decide +kernel
theorem d11_33 : decode jdk_43_method_13_code 33 = .ok (.ireturn, 1) := by decide +kernel
theorem ef_11 (m : MethodId) (a : Addr) (b : Addr) : entryFrame m #[(.ref a), (.ref b)] 3 = mkF m 0 #[.val (.ref a), .val (.ref b), .unset] [] := by first | (simp [entryFrame, mkF, argsToLocals, Value.category]; done) | rfl
def Q11 (Z : State) (a : Addr) (b : Addr) (f : Int → Int32) (g : Int → Int32) (h0 : Heap) (n0 : Nat) (v : Option Value) (h : Heap) (L : List Loc) : Prop := Fr n0 L ∧ h = h0 ∧ (∃ z : Int32, v = some (.int z) ∧ ((z.toInt = 1 ∧ ((f (0 : Int)).toInt = (g (0 : Int)).toInt)) ∨ (z.toInt = 0 ∧ ¬ ((f (0 : Int)).toInt = (g (0 : Int)).toInt))))
set_option maxRecDepth 65536 in
set_option maxHeartbeats 40000000 in
theorem rm11 (l : Launch) (Z : State) (a0 : Array Value) (hw : ∀ d ∈ tables_1, d.before a0 Z = true) (ws : List Jvm.Cond) (a : Addr) (b : Addr) (f : Int → Int32) (g : Int → Int32) (h0 : Heap) (n0 : Nat) (Zs : n0 ≤ h0.size) (A_a : AF Z h0 a .byte 1 f) (A_b : AF Z h0 b .byte 1 g) :
    MetFree l (⟨"java/lang/StringLatin1", "equals", "([B[B)Z"⟩ : MethodName) (head1 (Jvm.Cond.code (⟨"java/lang/StringLatin1", "equals", "([B[B)Z"⟩ : MethodName) jdk_43_method_13_code 3 (some .boolean) :: ws) ({ frames := 0, cells := 0, slots := 0, locals := 0 } : Room)) (fun as' U => as' = #[(.ref a), (.ref b)] ∧ Z.Warmed39 U.vm ∧ U.heap = h0) (fun _ _ _ _ _ => True) (fun _ U o U' => ∃ v L, o = .returned v ∧ Q11 Z a b f g h0 n0 v U'.heap L ∧ FrameEnd U o U' L ({ frames := 0, cells := 0, slots := 0, locals := 0 } : Room).cells ({ frames := 0, cells := 0, slots := 0, locals := 0 } : Room).slots) := by
  refine MetFree.of_bodySF (plainFor_of_name pn_4) hisR ?_
  intro p e s m args below meth c s₁ Bd hml0 hP hK
  obtain ⟨rfl, hZ, hh⟩ := hP
  have hx := Bd.exec
  have hby := Bd.bytes
  have hml : c.maxLocals = 3 := hml0
  have hown : s.vm.findClass "java/lang/StringLatin1" = some m.cls := findClass_of_methodNamed Bd.named
  have hnm := (name_of_methodNamed Bd.named Bd.method).1
  have hlk : meth.locks = false := Bd.notSynchronized
  have X0 : Stand p l e ({ frames := 0, cells := 0, slots := 0, locals := 0 } : Room) s m #[(.ref a), (.ref b)] below meth c s₁ [] 0 0 := Stand.of_body Bd
  have e0 : s₁.heap = h0 := by rw [← hh, Bd.state]; rfl
  have Nf := Fr.nil n0
  refine (?_ : Win p.tables e below (PostQ s (Q11 Z a b f g h0 n0) ({ frames := 0, cells := 0, slots := 0, locals := 0 } : Room).cells ({ frames := 0, cells := 0, slots := 0, locals := 0 } : Room).slots) (s₁.setTop (entryFrame m #[(.ref a), (.ref b)] 3)))
  rw [ef_11]
  have lt_a : a < h0.size := A_a.lt
  have lt_b : b < h0.size := A_b.lt
  show Win p.tables e below _ (s₁.setTop (mkF m 0 #[.val (.ref a), .val (.ref b), .unset] []))
  refine s_aloadN (pc' := 1) X0.here hx (hb hby d11_0) rfl rfl rfl ?_
  obtain ⟨cl_11, Ar_11, S_11, G_11⟩ := id A_a
  refine Win.go (fun _ k => X0.arraylength hx (by rw [e0]; exact Ar_11.1) (State.isArrayOf_alike hZ.alike Ar_11.2.1) (g := (mkF m 1 #[.val (.ref a), .val (.ref b), .unset] [(.ref a)])) rfl rfl (hb hby d11_1) _ k) ?_
  rw [S_11]
  clear Ar_11 S_11 G_11
  show Win p.tables e below _ (s₁.setTop (mkF m 2 #[.val (.ref a), .val (.ref b), .unset] [(.int (1 : Int32))]))
  refine s_aloadN (pc' := 3) X0.here hx (hb hby d11_2) rfl rfl rfl ?_
  obtain ⟨cl_12, Ar_12, S_12, G_12⟩ := id A_b
  refine Win.go (fun _ k => X0.arraylength hx (by rw [e0]; exact Ar_12.1) (State.isArrayOf_alike hZ.alike Ar_12.2.1) (g := (mkF m 3 #[.val (.ref a), .val (.ref b), .unset] [(.ref b), (.int (1 : Int32))])) rfl rfl (hb hby d11_3) _ k) ?_
  rw [S_12]
  clear Ar_12 S_12 G_12
  show Win p.tables e below _ (s₁.setTop (mkF m 4 #[.val (.ref a), .val (.ref b), .unset] [(.int (1 : Int32)), (.int (1 : Int32))]))
  refine s_icmpNo (pc' := 7) X0.here hx (hb hby d11_4) rfl (teqI (x := (1 : Int32)) (y := (1 : Int32)) (by decide)).2 ?_
  refine s_iconst (pc' := 8) (z := (0 : Int32)) X0.here hx (hb hby d11_7) rfl rfl ?_
  refine s_istoreN (pc' := 9) (l' := #[.val (.ref a), .val (.ref b), .val (.int (0 : Int32))]) X0.here hx (hb hby d11_8) rfl rfl ?_
  refine s_iloadN (pc' := 10) X0.here hx (hb hby d11_9) rfl rfl ?_
  refine s_aloadN (pc' := 11) X0.here hx (hb hby d11_10) rfl rfl rfl ?_
  obtain ⟨cl_13, Ar_13, S_13, G_13⟩ := id A_a
  refine Win.go (fun _ k => X0.arraylength hx (by rw [e0]; exact Ar_13.1) (State.isArrayOf_alike hZ.alike Ar_13.2.1) (g := (mkF m 11 #[.val (.ref a), .val (.ref b), .val (.int (0 : Int32))] [(.ref a), (.int (0 : Int32))])) rfl rfl (hb hby d11_11) _ k) ?_
  rw [S_13]
  clear Ar_13 S_13 G_13
  show Win p.tables e below _ (s₁.setTop (mkF m 12 #[.val (.ref a), .val (.ref b), .val (.int (0 : Int32))] [(.int (1 : Int32)), (.int (0 : Int32))]))
  refine s_icmpNo (pc' := 15) X0.here hx (hb hby d11_12) rfl (tltI (x := (0 : Int32)) (y := (1 : Int32)) (by decide)).2.1 ?_
  refine s_aloadN (pc' := 16) X0.here hx (hb hby d11_15) rfl rfl rfl ?_
  refine s_iloadN (pc' := 17) X0.here hx (hb hby d11_16) rfl rfl ?_
  obtain ⟨cl_14, Ar_14, S_14, G_14⟩ := id A_a
  have hb_14 : 0 ≤ ((0 : Int32)).toInt ∧ ((0 : Int32)).toInt < 1 := by decide
  refine Win.go (fun _ k => X0.baloadBytes hx (j := (0 : Int32)) (v := (.int (f (0 : Int)))) (by rw [e0]; exact Ar_14.1) (State.isArrayOf_alike hZ.alike Ar_14.2.1) Ar_14.2.2 (AF.inb S_14 hb_14) (G_14 _ hb_14.1 hb_14.2) (g := (mkF m 17 #[.val (.ref a), .val (.ref b), .val (.int (0 : Int32))] [(.int (0 : Int32)), (.ref a)])) rfl rfl (hb hby d11_17) _ k) ?_
  show Win p.tables e below _ (s₁.setTop (mkF m 18 #[.val (.ref a), .val (.ref b), .val (.int (0 : Int32))] [(.int (f (0 : Int)))]))
  clear Ar_14 S_14 G_14 hb_14
  refine s_aloadN (pc' := 19) X0.here hx (hb hby d11_18) rfl rfl rfl ?_
  refine s_iloadN (pc' := 20) X0.here hx (hb hby d11_19) rfl rfl ?_
  obtain ⟨cl_15, Ar_15, S_15, G_15⟩ := id A_b
  have hb_15 : 0 ≤ ((0 : Int32)).toInt ∧ ((0 : Int32)).toInt < 1 := by decide
  refine Win.go (fun _ k => X0.baloadBytes hx (j := (0 : Int32)) (v := (.int (g (0 : Int)))) (by rw [e0]; exact Ar_15.1) (State.isArrayOf_alike hZ.alike Ar_15.2.1) Ar_15.2.2 (AF.inb S_15 hb_15) (G_15 _ hb_15.1 hb_15.2) (g := (mkF m 20 #[.val (.ref a), .val (.ref b), .val (.int (0 : Int32))] [(.int (0 : Int32)), (.ref b), (.int (f (0 : Int)))])) rfl rfl (hb hby d11_20) _ k) ?_
  show Win p.tables e below _ (s₁.setTop (mkF m 21 #[.val (.ref a), .val (.ref b), .val (.int (0 : Int32))] [(.int (g (0 : Int))), (.int (f (0 : Int)))]))
  clear Ar_15 S_15 G_15 hb_15
  by_cases hc21_0 : ((f (0 : Int))).toInt = ((g (0 : Int))).toInt
  · skip
    refine s_icmpYes (pc' := 26) X0.here hx (hb hby d11_21) (teqI (x := (f (0 : Int))) (y := (g (0 : Int))) hc21_0).1 (by decide) (by decide) ?_
    refine Win.go (fun _ k => XS.iinc X0.here hx rfl (hb hby d11_26) rfl (l' := #[.val (.ref a), .val (.ref b), .val (.int (1 : Int32))]) rfl k) ?_
    show Win p.tables e below _ (s₁.setTop (mkF m 29 #[.val (.ref a), .val (.ref b), .val (.int (1 : Int32))] []))
    refine s_goto (pc' := 9) X0.here hx (hb hby d11_29) (by decide) (by decide) ?_
    refine s_iloadN (pc' := 10) X0.here hx (hb hby d11_9) rfl rfl ?_
    refine s_aloadN (pc' := 11) X0.here hx (hb hby d11_10) rfl rfl rfl ?_
    obtain ⟨cl_16, Ar_16, S_16, G_16⟩ := id A_a
    refine Win.go (fun _ k => X0.arraylength hx (by rw [e0]; exact Ar_16.1) (State.isArrayOf_alike hZ.alike Ar_16.2.1) (g := (mkF m 11 #[.val (.ref a), .val (.ref b), .val (.int (1 : Int32))] [(.ref a), (.int (1 : Int32))])) rfl rfl (hb hby d11_11) _ k) ?_
    rw [S_16]
    clear Ar_16 S_16 G_16
    show Win p.tables e below _ (s₁.setTop (mkF m 12 #[.val (.ref a), .val (.ref b), .val (.int (1 : Int32))] [(.int (1 : Int32)), (.int (1 : Int32))]))
    refine s_icmpYes (pc' := 32) X0.here hx (hb hby d11_12) (fltI (x := (1 : Int32)) (y := (1 : Int32)) (by decide)).2.1 (by decide) (by decide) ?_
    refine s_iconst (pc' := 33) (z := (1 : Int32)) X0.here hx (hb hby d11_32) rfl rfl ?_
    refine winN X0 hx hlk e0 (t := .boolean) Bd.returns (by simp) (hb hby d11_33) (by decide) (by decide) (z' := (1 : Int32)) rfl ?_
    refine ⟨Nf, rfl, _, rfl, Or.inl ⟨rfl, ?_⟩⟩
    assumption
  · skip
    refine s_icmpNo (pc' := 24) X0.here hx (hb hby d11_21) rfl (feqI (x := (f (0 : Int))) (y := (g (0 : Int))) hc21_0).1 ?_
    refine s_iconst (pc' := 25) (z := (0 : Int32)) X0.here hx (hb hby d11_24) rfl rfl ?_
    refine winN X0 hx hlk e0 (t := .boolean) Bd.returns (by simp) (hb hby d11_25) (by decide) (by decide) (z' := (0 : Int32)) rfl ?_
    refine ⟨Nf, rfl, _, rfl, Or.inr ⟨rfl, ?_⟩⟩
    assumption
theorem d10_0 : decode jdk_42_method_66_code 0 = .ok (.aload_n 0, 1) := by decide +kernel
theorem d10_1 : decode jdk_42_method_66_code 1 = .ok (.aload_n 1, 1) := by decide +kernel
theorem d10_2 : decode jdk_42_method_66_code 2 = .ok (.if_acmp .ne 5, 3) := by decide +kernel
theorem d10_5 : decode jdk_42_method_66_code 5 = .ok (.iconst 1, 1) := by decide +kernel
theorem d10_6 : decode jdk_42_method_66_code 6 = .ok (.ireturn, 1) := by decide +kernel
theorem ef_10_s (m : MethodId) (a : Addr) : entryFrame m #[(.ref a), (.ref a)] 3 = mkF m 0 #[.val (.ref a), .val (.ref a), .unset] [] := by first | (simp [entryFrame, mkF, argsToLocals, Value.category]; done) | rfl
def Q10_s (Z : State) (a : Addr) (h0 : Heap) (n0 : Nat) (v : Option Value) (h : Heap) (L : List Loc) : Prop := Fr n0 L ∧ h = h0 ∧ v = some (.int (1 : Int32))
set_option maxRecDepth 65536 in
set_option maxHeartbeats 40000000 in
theorem rm10_s (l : Launch) (Z : State) (a0 : Array Value) (hw : ∀ d ∈ tables_1, d.before a0 Z = true) (ws : List Jvm.Cond) (a : Addr) (h0 : Heap) (n0 : Nat) (Zs : n0 ≤ h0.size) :
    MetFree l (⟨"java/lang/String", "equals", "(Ljava/lang/Object;)Z"⟩ : MethodName) (head1 (Jvm.Cond.code (⟨"java/lang/String", "equals", "(Ljava/lang/Object;)Z"⟩ : MethodName) jdk_42_method_66_code 3 (some .boolean) :: ws) ({ frames := 0, cells := 0, slots := 0, locals := 0 } : Room)) (fun as' U => as' = #[(.ref a), (.ref a)] ∧ Z.Warmed39 U.vm ∧ U.heap = h0) (fun _ _ _ _ _ => True) (fun _ U o U' => ∃ v L, o = .returned v ∧ Q10_s Z a h0 n0 v U'.heap L ∧ FrameEnd U o U' L ({ frames := 0, cells := 0, slots := 0, locals := 0 } : Room).cells ({ frames := 0, cells := 0, slots := 0, locals := 0 } : Room).slots) := by
  refine MetFree.of_bodySF (plainFor_of_name pn_6) hisR ?_
  intro p e s m args below meth c s₁ Bd hml0 hP hK
  obtain ⟨rfl, hZ, hh⟩ := hP
  have hx := Bd.exec
  have hby := Bd.bytes
  have hml : c.maxLocals = 3 := hml0
  have hown : s.vm.findClass "java/lang/String" = some m.cls := findClass_of_methodNamed Bd.named
  have hnm := (name_of_methodNamed Bd.named Bd.method).1
  have hlk : meth.locks = false := Bd.notSynchronized
  have X0 : Stand p l e ({ frames := 0, cells := 0, slots := 0, locals := 0 } : Room) s m #[(.ref a), (.ref a)] below meth c s₁ [] 0 0 := Stand.of_body Bd
  have e0 : s₁.heap = h0 := by rw [← hh, Bd.state]; rfl
  have Nf := Fr.nil n0
  refine (?_ : Win p.tables e below (PostQ s (Q10_s Z a h0 n0) ({ frames := 0, cells := 0, slots := 0, locals := 0 } : Room).cells ({ frames := 0, cells := 0, slots := 0, locals := 0 } : Room).slots) (s₁.setTop (entryFrame m #[(.ref a), (.ref a)] 3)))
  rw [ef_10_s]
  show Win p.tables e below _ (s₁.setTop (mkF m 0 #[.val (.ref a), .val (.ref a), .unset] []))
  refine s_aloadN (pc' := 1) X0.here hx (hb hby d10_0) rfl rfl rfl ?_
  refine s_aloadN (pc' := 2) X0.here hx (hb hby d10_1) rfl rfl rfl ?_
  refine Win.go (fun _ k => Jvm.RoadKit.acmp (g := (mkF m 2 #[.val (.ref a), .val (.ref a), .unset] [(.ref a), (.ref a)])) X0 hx rfl rfl rfl (pc0 := 2) (pc' := 5) (same := true) rfl (hb hby d10_2) rfl (decide_eq_true rfl) (by decide) (by decide) k) ?_
  show Win p.tables e below _ (s₁.setTop (mkF m 5 #[.val (.ref a), .val (.ref a), .unset] []))
  refine s_iconst (pc' := 6) (z := (1 : Int32)) X0.here hx (hb hby d10_5) rfl rfl ?_
  refine winN X0 hx hlk e0 (t := .boolean) Bd.returns (by simp) (hb hby d10_6) (by decide) (by decide) (z' := (1 : Int32)) rfl ?_
  exact ⟨Nf, rfl, rfl⟩
theorem d10_7 : decode jdk_42_method_66_code 7 = .ok (.aload_n 1, 1) := by decide +kernel
theorem d10_8 : decode jdk_42_method_66_code 8 = .ok (.instanceof 10, 3) := by decide +kernel
theorem d10_11 : decode jdk_42_method_66_code 11 = .ok (.ifCond .eq 43, 3) := by decide +kernel
theorem d10_14 : decode jdk_42_method_66_code 14 = .ok (.aload_n 1, 1) := by decide +kernel
theorem d10_15 : decode jdk_42_method_66_code 15 = .ok (.checkcast 10, 3) := by decide +kernel
theorem d10_18 : decode jdk_42_method_66_code 18 = .ok (.astore_n 2, 1) := by decide +kernel
theorem d10_19 : decode jdk_42_method_66_code 19 = .ok (.getstatic 38, 3) := by decide +kernel
theorem d10_22 : decode jdk_42_method_66_code 22 = .ok (.ifCond .eq 14, 3) := by decide +kernel
theorem d10_25 : decode jdk_42_method_66_code 25 = .ok (.aload_n 0, 1) := by decide +kernel
theorem d10_26 : decode jdk_42_method_66_code 26 = .ok (.getfield 15, 3) := by decide +kernel
theorem d10_29 : decode jdk_42_method_66_code 29 = .ok (.aload_n 2, 1) := by decide +kernel
theorem d10_30 : decode jdk_42_method_66_code 30 = .ok (.getfield 15, 3) := by decide +kernel
theorem d10_33 : decode jdk_42_method_66_code 33 = .ok (.if_icmp .ne 21, 3) := by decide +kernel
theorem d10_36 : decode jdk_42_method_66_code 36 = .ok (.aload_n 0, 1) := by decide +kernel
theorem d10_37 : decode jdk_42_method_66_code 37 = .ok (.getfield 9, 3) := by decide +kernel
theorem d10_40 : decode jdk_42_method_66_code 40 = .ok (.aload_n 2, 1) := by decide +kernel
theorem d10_41 : decode jdk_42_method_66_code 41 = .ok (.getfield 9, 3) := by decide +kernel
theorem d10_44 : decode jdk_42_method_66_code 44 = .ok (.invokestatic 541, 3) := by decide +kernel
theorem d10_47 : decode jdk_42_method_66_code 47 = .ok (.ifCond .eq 7, 3) := by decide +kernel
theorem d10_50 : decode jdk_42_method_66_code 50 = .ok (.iconst 1, 1) := by decide +kernel
theorem d10_51 : decode jdk_42_method_66_code 51 = .ok (.goto 4, 3) := by decide +kernel
theorem d10_54 : decode jdk_42_method_66_code 54 = .ok (.iconst 0, 1) := by decide +kernel
theorem d10_55 : decode jdk_42_method_66_code 55 = .ok (.ireturn, 1) := by decide +kernel
theorem pd_3 : parseMethodDescriptor "([B[B)Z" = some ⟨[(.array .byte), (.array .byte)], some .boolean⟩ := by decide +kernel
theorem ef_10_d (m : MethodId) (a : Addr) (b : Addr) : entryFrame m #[(.ref a), (.ref b)] 3 = mkF m 0 #[.val (.ref a), .val (.ref b), .unset] [] := by first | (simp [entryFrame, mkF, argsToLocals, Value.category]; done) | rfl
def Q10_d (Z : State) (a : Addr) (b : Addr) (cs : Int32) (vv : Addr) (ww : Addr) (f : Int → Int32) (g : Int → Int32) (h0 : Heap) (n0 : Nat) (v : Option Value) (h : Heap) (L : List Loc) : Prop := Fr n0 L ∧ h = h0 ∧ (∃ z : Int32, v = some (.int z) ∧ ((z.toInt = 1 ∧ ((f (0 : Int)).toInt = (g (0 : Int)).toInt)) ∨ (z.toInt = 0 ∧ ¬ ((f (0 : Int)).toInt = (g (0 : Int)).toInt))))
set_option maxRecDepth 65536 in
set_option maxHeartbeats 40000000 in
theorem rm10_d (l : Launch) (Z : State) (a0 : Array Value) (hw : ∀ d ∈ tables_1, d.before a0 Z = true) (ws : List Jvm.Cond) (a : Addr) (b : Addr) (cs : Int32) (vv : Addr) (ww : Addr) (f : Int → Int32) (g : Int → Int32) (h0 : Heap) (n0 : Nat) (Zs : n0 ≤ h0.size) (S_COMPACT_STRINGS : Sta Z h0 "java/lang/String" "COMPACT_STRINGS" "Z" (.int cs)) (hcs : ¬ cs.toInt = 0) (E_b : Exa Z h0 b "java/lang/String") (F_value_a : Fld Z h0 a "java/lang/String" "value" "[B" (.ref vv)) (F_coder_a : Fld Z h0 a "java/lang/String" "coder" "B" (.int (0 : Int32))) (F_value_b : Fld Z h0 b "java/lang/String" "value" "[B" (.ref ww)) (F_coder_b : Fld Z h0 b "java/lang/String" "coder" "B" (.int (0 : Int32))) (A_vv : AF Z h0 vv .byte 1 f) (A_ww : AF Z h0 ww .byte 1 g) (ne_a_b : a ≠ b) :
    MetFree l (⟨"java/lang/String", "equals", "(Ljava/lang/Object;)Z"⟩ : MethodName) (head1 (Jvm.Cond.code (⟨"java/lang/String", "equals", "(Ljava/lang/Object;)Z"⟩ : MethodName) jdk_42_method_66_code 3 (some .boolean) :: ws) ({ frames := 1, cells := 0, slots := 0, locals := 14 } : Room)) (fun as' U => as' = #[(.ref a), (.ref b)] ∧ Z.Warmed39 U.vm ∧ U.heap = h0) (fun _ _ _ _ _ => True) (fun _ U o U' => ∃ v L, o = .returned v ∧ Q10_d Z a b cs vv ww f g h0 n0 v U'.heap L ∧ FrameEnd U o U' L ({ frames := 1, cells := 0, slots := 0, locals := 14 } : Room).cells ({ frames := 1, cells := 0, slots := 0, locals := 14 } : Room).slots) := by
  refine MetFree.of_bodySF (plainFor_of_name pn_6) hisR ?_
  intro p e s m args below meth c s₁ Bd hml0 hP hK
  obtain ⟨rfl, hZ, hh⟩ := hP
  have hx := Bd.exec
  have hby := Bd.bytes
  have hml : c.maxLocals = 3 := hml0
  have hown : s.vm.findClass "java/lang/String" = some m.cls := findClass_of_methodNamed Bd.named
  have hnm := (name_of_methodNamed Bd.named Bd.method).1
  have hlk : meth.locks = false := Bd.notSynchronized
  have X0 : Stand p l e ({ frames := 1, cells := 0, slots := 0, locals := 14 } : Room) s m #[(.ref a), (.ref b)] below meth c s₁ [] 0 0 := Stand.of_body Bd
  have e0 : s₁.heap = h0 := by rw [← hh, Bd.state]; rfl
  have Nf := Fr.nil n0
  refine (?_ : Win p.tables e below (PostQ s (Q10_d Z a b cs vv ww f g h0 n0) ({ frames := 1, cells := 0, slots := 0, locals := 14 } : Room).cells ({ frames := 1, cells := 0, slots := 0, locals := 14 } : Room).slots) (s₁.setTop (entryFrame m #[(.ref a), (.ref b)] 3)))
  rw [ef_10_d]
  have lt_b : b < h0.size := E_b.lt
  have lt_a : a < h0.size := F_value_a.lt
  have lt_vv : vv < h0.size := A_vv.lt
  have lt_ww : ww < h0.size := A_ww.lt
  show Win p.tables e below _ (s₁.setTop (mkF m 0 #[.val (.ref a), .val (.ref b), .unset] []))
  refine s_aloadN (pc' := 1) X0.here hx (hb hby d10_0) rfl rfl rfl ?_
  refine s_aloadN (pc' := 2) X0.here hx (hb hby d10_1) rfl rfl rfl ?_
  refine Win.go (fun _ k => Jvm.RoadKit.acmp (g := (mkF m 2 #[.val (.ref a), .val (.ref b), .unset] [(.ref b), (.ref a)])) X0 hx rfl rfl rfl (pc0 := 2) (pc' := 7) (same := false) rfl (hb hby d10_2) rfl (decide_eq_false fun q => ne_a_b (Value.ref.inj q)) (by decide) (by decide) k) ?_
  show Win p.tables e below _ (s₁.setTop (mkF m 7 #[.val (.ref a), .val (.ref b), .unset] []))
  refine s_aloadN (pc' := 8) X0.here hx (hb hby d10_7) rfl rfl rfl ?_
  obtain ⟨T_17, X_17, e_17, st_17⟩ := instY X0 hx hZ hown (hw _ (List.mem_of_getElem? (i := 19) rfl)) e0 (Ins.self E_b) (g := (mkF m 8 #[.val (.ref a), .val (.ref b), .unset] [(.ref b)])) rfl rfl (hb hby d10_8)
  refine Win.go st_17 ?_
  show Win p.tables e below _ (T_17.setTop (mkF m 11 #[.val (.ref a), .val (.ref b), .unset] [(.int (1 : Int32))]))
  refine s_ifNo (pc' := 14) X_17.here hx (hb hby d10_11) rfl ((if0 _ _).trans (feqI (x := (1 : Int32)) (y := (0 : Int32)) (by decide)).1) ?_
  refine s_aloadN (pc' := 15) X_17.here hx (hb hby d10_14) rfl rfl rfl ?_
  obtain ⟨T_18, X_18, e_18, st_18⟩ := castY X_17 hx hZ hown (hw _ (List.mem_of_getElem? (i := 19) rfl)) e_17 (Ins.self E_b) (g := (mkF m 15 #[.val (.ref a), .val (.ref b), .unset] [(.ref b)])) rfl rfl (hb hby d10_15)
  refine Win.go st_18 ?_
  show Win p.tables e below _ (T_18.setTop (mkF m 18 #[.val (.ref a), .val (.ref b), .unset] [(.ref b)]))
  refine s_astoreN (pc' := 19) (l' := #[.val (.ref a), .val (.ref b), .val (.ref b)]) X_18.here hx (hb hby d10_18) rfl rfl rfl ?_
  obtain ⟨T_19, X_19, e_19, st_19⟩ := getS2 X_18 hx hZ hown (host := "") (Or.inl (hw _ (List.mem_of_getElem? (i := 14) rfl))) Via.refl e_18 S_COMPACT_STRINGS (g := (mkF m 19 #[.val (.ref a), .val (.ref b), .val (.ref b)] [])) rfl (hb hby d10_19)
  refine Win.go st_19 ?_
  clear st_19 X_18 e_18
  show Win p.tables e below _ (T_19.setTop (mkF m 22 #[.val (.ref a), .val (.ref b), .val (.ref b)] [(.int cs)]))
  by_cases hc22 : (cs).toInt = (0 : Int)
  · skip
    exfalso
    exact hcs hc22
  · skip
    refine s_ifNo (pc' := 25) X_19.here hx (hb hby d10_22) rfl ((if0 _ _).trans (feqI (x := cs) (y := (0 : Int32)) hc22).1) ?_
    refine s_aloadN (pc' := 26) X_19.here hx (hb hby d10_25) rfl rfl rfl ?_
    obtain ⟨T_20, X_20, e_20, st_20⟩ := getF X_19 hx hZ hown (host := "") (Or.inl (hw _ (List.mem_of_getElem? (i := 34) rfl))) Via.refl e_19 F_coder_a (g := (mkF m 26 #[.val (.ref a), .val (.ref b), .val (.ref b)] [(.ref a)])) rfl rfl (hb hby d10_26)
    refine Win.go st_20 ?_
    clear st_20 X_19 e_19
    show Win p.tables e below _ (T_20.setTop (mkF m 29 #[.val (.ref a), .val (.ref b), .val (.ref b)] [(.int (0 : Int32))]))
    refine s_aloadN (pc' := 30) X_20.here hx (hb hby d10_29) rfl rfl rfl ?_
    obtain ⟨T_21, X_21, e_21, st_21⟩ := getF X_20 hx hZ hown (host := "") (Or.inl (hw _ (List.mem_of_getElem? (i := 34) rfl))) Via.refl e_20 F_coder_b (g := (mkF m 30 #[.val (.ref a), .val (.ref b), .val (.ref b)] [(.ref b), (.int (0 : Int32))])) rfl rfl (hb hby d10_30)
    refine Win.go st_21 ?_
    clear st_21 X_20 e_20
    show Win p.tables e below _ (T_21.setTop (mkF m 33 #[.val (.ref a), .val (.ref b), .val (.ref b)] [(.int (0 : Int32)), (.int (0 : Int32))]))
    refine s_icmpNo (pc' := 36) X_21.here hx (hb hby d10_33) rfl (teqI (x := (0 : Int32)) (y := (0 : Int32)) (by decide)).2 ?_
    refine s_aloadN (pc' := 37) X_21.here hx (hb hby d10_36) rfl rfl rfl ?_
    obtain ⟨T_22, X_22, e_22, st_22⟩ := getF X_21 hx hZ hown (host := "") (Or.inl (hw _ (List.mem_of_getElem? (i := 32) rfl))) Via.refl e_21 F_value_a (g := (mkF m 37 #[.val (.ref a), .val (.ref b), .val (.ref b)] [(.ref a)])) rfl rfl (hb hby d10_37)
    refine Win.go st_22 ?_
    clear st_22 X_21 e_21
    show Win p.tables e below _ (T_22.setTop (mkF m 40 #[.val (.ref a), .val (.ref b), .val (.ref b)] [(.ref vv)]))
    refine s_aloadN (pc' := 41) X_22.here hx (hb hby d10_40) rfl rfl rfl ?_
    obtain ⟨T_23, X_23, e_23, st_23⟩ := getF X_22 hx hZ hown (host := "") (Or.inl (hw _ (List.mem_of_getElem? (i := 32) rfl))) Via.refl e_22 F_value_b (g := (mkF m 41 #[.val (.ref a), .val (.ref b), .val (.ref b)] [(.ref b), (.ref vv)])) rfl rfl (hb hby d10_41)
    refine Win.go st_23 ?_
    clear st_23 X_22 e_22
    show Win p.tables e below _ (T_23.setTop (mkF m 44 #[.val (.ref a), .val (.ref b), .val (.ref b)] [(.ref ww), (.ref vv)]))
    obtain ⟨_, _, ⟨T_24, L_24, k_24, n_24⟩, -, X_24, ⟨Lc_24, hQ_24, l_24, y_24, z_24⟩, st_24⟩ := Jvm.LawKit.callS X_23 hx (y := (⟨"java/lang/StringLatin1", "equals", "([B[B)Z"⟩ : MethodName)) hown (mvT hZ (hw _ (List.mem_of_getElem? (i := 68) rfl))) (mvT hZ (hw _ (List.mem_of_getElem? (i := 69) rfl))) (mvT hZ (hw _ (List.mem_of_getElem? (i := 17) rfl))) (mvT hZ (hw _ (List.mem_of_getElem? (i := 70) rfl))) (by decide) (backOf (W := 0) (rm11 l Z a0 hw [] vv ww f g h0 n0 Zs A_vv A_ww) hZ (hw _ (List.mem_of_getElem? (i := 70) rfl)) (hw _ (List.mem_of_getElem? (i := 17) rfl)) (by decide) (by decide)) (g := (mkF m 44 #[.val (.ref a), .val (.ref b), .val (.ref b)] [(.ref ww), (.ref vv)])) rfl (by rw [hml]; rfl) (argsL := [(.ref vv), (.ref ww)]) (rest := []) (lenOf pd_3 rfl) rfl (by show 2 * 0 + _ ≤ _; exact Nat.le_of_eq rfl) (hb hby d10_44) (fun _ _ => ⟨rfl, e_23, (by decide : 0 + 0 ≤ _), (by decide : 0 + 0 ≤ _)⟩)
    dsimp only [Pt.U, Pt.locs, Pt.cells, Pt.slots, Nat.add_zero] at X_24 l_24 y_24 z_24 st_24 hQ_24
    subst y_24 z_24
    obtain ⟨Nq_24, e_24, rz, rfl, hrz⟩ := hQ_24
    replace Nf := own_frEq l_24 (Fr.app Nf Nq_24)
    clear l_24
    refine Win.go st_24 ?_
    clear st_24 Nq_24 X_23 e_23
    show Win p.tables e below _ (T_24.setTop (mkF m 47 #[.val (.ref a), .val (.ref b), .val (.ref b)] [(.int rz)]))
    by_cases hc47 : (rz).toInt = (0 : Int)
    · skip
      refine s_ifYes (pc' := 54) X_24.here hx (hb hby d10_47) ((if0 _ _).trans (teqI (x := rz) (y := (0 : Int32)) hc47).1) (by decide) (by decide) ?_
      refine s_iconst (pc' := 55) (z := (0 : Int32)) X_24.here hx (hb hby d10_54) rfl rfl ?_
      refine winN X_24 hx hlk e_24 (t := .boolean) Bd.returns (by simp) (hb hby d10_55) (by decide) (by decide) (z' := (0 : Int32)) rfl ?_
      refine ⟨Nf, rfl, _, rfl, Or.inr ⟨rfl, ?_⟩⟩
      exact own_b0 hrz hc47
    · skip
      refine s_ifNo (pc' := 50) X_24.here hx (hb hby d10_47) rfl ((if0 _ _).trans (feqI (x := rz) (y := (0 : Int32)) hc47).1) ?_
      refine s_iconst (pc' := 51) (z := (1 : Int32)) X_24.here hx (hb hby d10_50) rfl rfl ?_
      refine s_goto (pc' := 55) X_24.here hx (hb hby d10_51) (by decide) (by decide) ?_
      refine winN X_24 hx hlk e_24 (t := .boolean) Bd.returns (by simp) (hb hby d10_55) (by decide) (by decide) (z' := (1 : Int32)) rfl ?_
      refine ⟨Nf, rfl, _, rfl, Or.inl ⟨rfl, ?_⟩⟩
      exact own_b1 hrz hc47
theorem d8_0 : decode prog_7_method_1_code 0 = .ok (.aload_n 0, 1) := by decide +kernel
theorem d8_1 : decode prog_7_method_1_code 1 = .ok (.invokespecial 1, 3) := by decide +kernel
theorem d8_4 : decode prog_7_method_1_code 4 = .ok (.aload_n 0, 1) := by decide +kernel
theorem d8_5 : decode prog_7_method_1_code 5 = .ok (.aload_n 1, 1) := by decide +kernel
theorem d8_6 : decode prog_7_method_1_code 6 = .ok (.putfield 7, 3) := by decide +kernel
theorem d8_9 : decode prog_7_method_1_code 9 = .ok (.aload_n 0, 1) := by decide +kernel
theorem d8_10 : decode prog_7_method_1_code 10 = .ok (.aload_n 2, 1) := by decide +kernel
theorem d8_11 : decode prog_7_method_1_code 11 = .ok (.putfield 13, 3) := by decide +kernel
theorem d8_14 : decode prog_7_method_1_code 14 = .ok (.aload_n 0, 1) := by decide +kernel
theorem d8_15 : decode prog_7_method_1_code 15 = .ok (.iload_n 3, 1) := by decide +kernel
theorem d8_16 : decode prog_7_method_1_code 16 = .ok (.putfield 16, 3) := by decide +kernel
theorem d8_19 : decode prog_7_method_1_code 19 = .ok (.aload_n 0, 1) := by decide +kernel
theorem d8_20 : decode prog_7_method_1_code 20 = .ok (.lload 4, 2) := by decide +kernel
theorem d8_22 : decode prog_7_method_1_code 22 = .ok (.putfield 20, 3) := by decide +kernel
theorem d8_25 : decode prog_7_method_1_code 25 = .ok (.aload_n 0, 1) := by decide +kernel
theorem d8_26 : decode prog_7_method_1_code 26 = .ok (.lload 6, 2) := by decide +kernel
theorem d8_28 : decode prog_7_method_1_code 28 = .ok (.putfield 24, 3) := by decide +kernel
theorem d8_31 : decode prog_7_method_1_code 31 = .ok (.aload_n 0, 1) := by decide +kernel
theorem d8_32 : decode prog_7_method_1_code 32 = .ok (.lload 8, 2) := by decide +kernel
theorem d8_34 : decode prog_7_method_1_code 34 = .ok (.putfield 27, 3) := by decide +kernel
theorem d8_37 : decode prog_7_method_1_code 37 = .ok (.aload_n 0, 1) := by decide +kernel
theorem d8_38 : decode prog_7_method_1_code 38 = .ok (.lload 10, 2) := by decide +kernel
theorem d8_40 : decode prog_7_method_1_code 40 = .ok (.putfield 30, 3) := by decide +kernel
theorem d8_43 : decode prog_7_method_1_code 43 = .ok (.aload_n 0, 1) := by decide +kernel
theorem d8_44 : decode prog_7_method_1_code 44 = .ok (.iconst 1, 1) := by decide +kernel
theorem d8_45 : decode prog_7_method_1_code 45 = .ok (.putfield 33, 3) := by decide +kernel
theorem d8_48 : decode prog_7_method_1_code 48 = .ok (.return_, 1) := by decide +kernel
theorem pn_8 : plainName "com/example/throttle/throttle/Decision" = true := by first | (simp [plainName, overriddenIn]; done) | decide +kernel
theorem ef_8 (m : MethodId) (a : Addr) (ru : Addr) (ke : Addr) (zz : Int32) (l1 : Int64) (l2 : Int64) (l3 : Int64) (l4 : Int64) : entryFrame m #[(.ref a), (.ref ru), (.ref ke), (.int zz), (.long l1), (.long l2), (.long l3), (.long l4)] 12 = mkF m 0 #[.val (.ref a), .val (.ref ru), .val (.ref ke), .val (.int zz), .val (.long l1), .second, .val (.long l2), .second, .val (.long l3), .second, .val (.long l4), .second] [] := by first | (simp [entryFrame, mkF, argsToLocals, Value.category]; done) | rfl
def Q8 (Z : State) (a : Addr) (ru : Addr) (ke : Addr) (zz : Int32) (l1 : Int64) (l2 : Int64) (l3 : Int64) (l4 : Int64) (h0 : Heap) (n0 : Nat) (v : Option Value) (h : Heap) (L : List Loc) : Prop := Fr n0 L ∧ Keep h0 h [a] ∧ Fld Z h a "com/example/throttle/throttle/Decision" "rule" "Ljava/lang/String;" (.ref ru) ∧ Fld Z h a "com/example/throttle/throttle/Decision" "key" "Ljava/lang/String;" (.ref ke) ∧ Fld Z h a "com/example/throttle/throttle/Decision" "allowed" "Z" (.int (nar .boolean zz)) ∧ Fld Z h a "com/example/throttle/throttle/Decision" "limit" "J" (.long l1) ∧ Fld Z h a "com/example/throttle/throttle/Decision" "remaining" "J" (.long l2) ∧ Fld Z h a "com/example/throttle/throttle/Decision" "reset" "J" (.long l3) ∧ Fld Z h a "com/example/throttle/throttle/Decision" "retryAfter" "J" (.long l4) ∧ Fld Z h a "com/example/throttle/throttle/Decision" "storeAnswered" "Z" (.int (1 : Int32)) ∧ v = none
set_option maxRecDepth 65536 in
set_option maxHeartbeats 40000000 in
theorem rm8 (l : Launch) (Z : State) (a0 : Array Value) (hw : ∀ d ∈ tables_1, d.before a0 Z = true) (ws : List Jvm.Cond) (a : Addr) (ru : Addr) (ke : Addr) (zz : Int32) (l1 : Int64) (l2 : Int64) (l3 : Int64) (l4 : Int64) (h0 : Heap) (n0 : Nat) (Zs : n0 ≤ h0.size) (E_a : Exa Z h0 a "com/example/throttle/throttle/Decision") (F_rule_a : Fld Z h0 a "com/example/throttle/throttle/Decision" "rule" "Ljava/lang/String;" .null) (F_key_a : Fld Z h0 a "com/example/throttle/throttle/Decision" "key" "Ljava/lang/String;" .null) (F_allowed_a : Fld Z h0 a "com/example/throttle/throttle/Decision" "allowed" "Z" (.int (0 : Int32))) (F_limit_a : Fld Z h0 a "com/example/throttle/throttle/Decision" "limit" "J" (.long (0 : Int64))) (F_remaining_a : Fld Z h0 a "com/example/throttle/throttle/Decision" "remaining" "J" (.long (0 : Int64))) (F_reset_a : Fld Z h0 a "com/example/throttle/throttle/Decision" "reset" "J" (.long (0 : Int64))) (F_retryAfter_a : Fld Z h0 a "com/example/throttle/throttle/Decision" "retryAfter" "J" (.long (0 : Int64))) (F_storeAnswered_a : Fld Z h0 a "com/example/throttle/throttle/Decision" "storeAnswered" "Z" (.int (0 : Int32))) (g_a : n0 ≤ a) :
    MetFree l (⟨"com/example/throttle/throttle/Decision", "<init>", "(Ljava/lang/String;Ljava/lang/String;ZJJJJ)V"⟩ : MethodName) (head1 (Jvm.Cond.code (⟨"com/example/throttle/throttle/Decision", "<init>", "(Ljava/lang/String;Ljava/lang/String;ZJJJJ)V"⟩ : MethodName) prog_7_method_1_code 12 none :: ws) ({ frames := 1, cells := 0, slots := 0, locals := 12 } : Room)) (fun as' U => as' = #[(.ref a), (.ref ru), (.ref ke), (.int zz), (.long l1), (.long l2), (.long l3), (.long l4)] ∧ Z.Warmed39 U.vm ∧ U.heap = h0) (fun _ _ _ _ _ => True) (fun _ U o U' => ∃ v L, o = .returned v ∧ Q8 Z a ru ke zz l1 l2 l3 l4 h0 n0 v U'.heap L ∧ FrameEnd U o U' L ({ frames := 1, cells := 0, slots := 0, locals := 12 } : Room).cells ({ frames := 1, cells := 0, slots := 0, locals := 12 } : Room).slots) := by
  refine MetFree.of_bodySF (plainFor_of_name pn_8) hisR ?_
  intro p e s m args below meth c s₁ Bd hml0 hP hK
  obtain ⟨rfl, hZ, hh⟩ := hP
  have hx := Bd.exec
  have hby := Bd.bytes
  have hml : c.maxLocals = 12 := hml0
  have hown : s.vm.findClass "com/example/throttle/throttle/Decision" = some m.cls := findClass_of_methodNamed Bd.named
  have hnm := (name_of_methodNamed Bd.named Bd.method).1
  have hlk : meth.locks = false := Bd.notSynchronized
  have X0 : Stand p l e ({ frames := 1, cells := 0, slots := 0, locals := 12 } : Room) s m #[(.ref a), (.ref ru), (.ref ke), (.int zz), (.long l1), (.long l2), (.long l3), (.long l4)] below meth c s₁ [] 0 0 := Stand.of_body Bd
  have e0 : s₁.heap = h0 := by rw [← hh, Bd.state]; rfl
  have Nf := Fr.nil n0
  refine (?_ : Win p.tables e below (PostQ s (Q8 Z a ru ke zz l1 l2 l3 l4 h0 n0) ({ frames := 1, cells := 0, slots := 0, locals := 12 } : Room).cells ({ frames := 1, cells := 0, slots := 0, locals := 12 } : Room).slots) (s₁.setTop (entryFrame m #[(.ref a), (.ref ru), (.ref ke), (.int zz), (.long l1), (.long l2), (.long l3), (.long l4)] 12)))
  rw [ef_8]
  have Kp : Keep h0 h0 [a] := Keep.refl h0 _
  have lt_a : a < h0.size := E_a.lt
  show Win p.tables e below _ (s₁.setTop (mkF m 0 #[.val (.ref a), .val (.ref ru), .val (.ref ke), .val (.int zz), .val (.long l1), .second, .val (.long l2), .second, .val (.long l3), .second, .val (.long l4), .second] []))
  refine s_aloadN (pc' := 1) X0.here hx (hb hby d8_0) rfl rfl rfl ?_
  obtain ⟨T_25, X_25, e_25, st_25⟩ := initO X0 hx hZ hown (hw _ (List.mem_of_getElem? (i := 39) rfl)) (hw _ (List.mem_of_getElem? (i := 30) rfl)) (hw _ (List.mem_of_getElem? (i := 31) rfl)) e0 (g := (mkF m 1 #[.val (.ref a), .val (.ref ru), .val (.ref ke), .val (.int zz), .val (.long l1), .second, .val (.long l2), .second, .val (.long l3), .second, .val (.long l4), .second] [(.ref a)])) rfl (by rw [hml]; rfl) rfl (hb hby d8_1) (by decide) (W := 0) (by show 2 * 0 + _ ≤ _; exact Nat.le_of_eq rfl) (by decide)
  refine Win.go st_25 ?_
  clear st_25 X0 e0
  show Win p.tables e below _ (T_25.setTop (mkF m 4 #[.val (.ref a), .val (.ref ru), .val (.ref ke), .val (.int zz), .val (.long l1), .second, .val (.long l2), .second, .val (.long l3), .second, .val (.long l4), .second] []))
  refine s_aloadN (pc' := 5) X_25.here hx (hb hby d8_4) rfl rfl rfl ?_
  refine s_aloadN (pc' := 6) X_25.here hx (hb hby d8_5) rfl rfl rfl ?_
  obtain ⟨T_26, h_26, X_26, e_26, W_26, st_26⟩ := putF X_25 hx hZ hown (host := "") (Or.inl (hw _ (List.mem_of_getElem? (i := 40) rfl))) Via.refl e_25 F_rule_a E_a (Or.inr ⟨(hw _ (List.mem_of_getElem? (i := 41) rfl)), rfl, hnm⟩) (hw _ (List.mem_of_getElem? (i := 8) rfl)) (ty := (.object "java/lang/String")) (by decide) rfl rfl (g := (mkF m 6 #[.val (.ref a), .val (.ref ru), .val (.ref ke), .val (.int zz), .val (.long l1), .second, .val (.long l2), .second, .val (.long l3), .second, .val (.long l4), .second] [(.ref ru), (.ref a)])) rfl rfl (hb hby d8_6)
  replace E_a := E_a.wr W_26
  replace F_key_a := F_key_a.other W_26 (Or.inr (slot_ne (Or.inr (hw _ (List.mem_of_getElem? (i := 43) rfl))) (Or.inr (hw _ (List.mem_of_getElem? (i := 41) rfl))) (by decide) (t := (.object "java/lang/String")) (t' := (.object "java/lang/String")) (by decide) (by decide)))
  replace F_allowed_a := F_allowed_a.other W_26 (Or.inr (slot_ne (Or.inr (hw _ (List.mem_of_getElem? (i := 45) rfl))) (Or.inr (hw _ (List.mem_of_getElem? (i := 41) rfl))) (by decide) (t := .boolean) (t' := (.object "java/lang/String")) (by decide) (by decide)))
  replace F_limit_a := F_limit_a.other W_26 (Or.inr (slot_ne (Or.inr (hw _ (List.mem_of_getElem? (i := 47) rfl))) (Or.inr (hw _ (List.mem_of_getElem? (i := 41) rfl))) (by decide) (t := .long) (t' := (.object "java/lang/String")) (by decide) (by decide)))
  replace F_remaining_a := F_remaining_a.other W_26 (Or.inr (slot_ne (Or.inr (hw _ (List.mem_of_getElem? (i := 49) rfl))) (Or.inr (hw _ (List.mem_of_getElem? (i := 41) rfl))) (by decide) (t := .long) (t' := (.object "java/lang/String")) (by decide) (by decide)))
  replace F_reset_a := F_reset_a.other W_26 (Or.inr (slot_ne (Or.inr (hw _ (List.mem_of_getElem? (i := 51) rfl))) (Or.inr (hw _ (List.mem_of_getElem? (i := 41) rfl))) (by decide) (t := .long) (t' := (.object "java/lang/String")) (by decide) (by decide)))
  replace F_retryAfter_a := F_retryAfter_a.other W_26 (Or.inr (slot_ne (Or.inr (hw _ (List.mem_of_getElem? (i := 53) rfl))) (Or.inr (hw _ (List.mem_of_getElem? (i := 41) rfl))) (by decide) (t := .long) (t' := (.object "java/lang/String")) (by decide) (by decide)))
  replace F_storeAnswered_a := F_storeAnswered_a.other W_26 (Or.inr (slot_ne (Or.inr (hw _ (List.mem_of_getElem? (i := 55) rfl))) (Or.inr (hw _ (List.mem_of_getElem? (i := 41) rfl))) (by decide) (t := .boolean) (t' := (.object "java/lang/String")) (by decide) (by decide)))
  replace lt_a := Nat.lt_of_lt_of_le lt_a (Keep.of_wr W_26).1
  replace Zs := Nat.le_trans Zs (Keep.of_wr W_26).1
  replace Kp := Kp.wr W_26 (Or.inl (by simp))
  replace F_rule_a := F_rule_a.same W_26
  replace Nf := Fr.snoc X_26 Nf g_a
  refine Win.go st_26 ?_
  clear st_26 W_26 X_25 e_25
  show Win p.tables e below _ (T_26.setTop (mkF m 9 #[.val (.ref a), .val (.ref ru), .val (.ref ke), .val (.int zz), .val (.long l1), .second, .val (.long l2), .second, .val (.long l3), .second, .val (.long l4), .second] []))
  refine s_aloadN (pc' := 10) X_26.here hx (hb hby d8_9) rfl rfl rfl ?_
  refine s_aloadN (pc' := 11) X_26.here hx (hb hby d8_10) rfl rfl rfl ?_
  obtain ⟨T_27, h_27, X_27, e_27, W_27, st_27⟩ := putF X_26 hx hZ hown (host := "") (Or.inl (hw _ (List.mem_of_getElem? (i := 42) rfl))) Via.refl e_26 F_key_a E_a (Or.inr ⟨(hw _ (List.mem_of_getElem? (i := 43) rfl)), rfl, hnm⟩) (hw _ (List.mem_of_getElem? (i := 8) rfl)) (ty := (.object "java/lang/String")) (by decide) rfl rfl (g := (mkF m 11 #[.val (.ref a), .val (.ref ru), .val (.ref ke), .val (.int zz), .val (.long l1), .second, .val (.long l2), .second, .val (.long l3), .second, .val (.long l4), .second] [(.ref ke), (.ref a)])) rfl rfl (hb hby d8_11)
  replace E_a := E_a.wr W_27
  replace F_rule_a := F_rule_a.other W_27 (Or.inr (slot_ne (Or.inr (hw _ (List.mem_of_getElem? (i := 41) rfl))) (Or.inr (hw _ (List.mem_of_getElem? (i := 43) rfl))) (by decide) (t := (.object "java/lang/String")) (t' := (.object "java/lang/String")) (by decide) (by decide)))
  replace F_allowed_a := F_allowed_a.other W_27 (Or.inr (slot_ne (Or.inr (hw _ (List.mem_of_getElem? (i := 45) rfl))) (Or.inr (hw _ (List.mem_of_getElem? (i := 43) rfl))) (by decide) (t := .boolean) (t' := (.object "java/lang/String")) (by decide) (by decide)))
  replace F_limit_a := F_limit_a.other W_27 (Or.inr (slot_ne (Or.inr (hw _ (List.mem_of_getElem? (i := 47) rfl))) (Or.inr (hw _ (List.mem_of_getElem? (i := 43) rfl))) (by decide) (t := .long) (t' := (.object "java/lang/String")) (by decide) (by decide)))
  replace F_remaining_a := F_remaining_a.other W_27 (Or.inr (slot_ne (Or.inr (hw _ (List.mem_of_getElem? (i := 49) rfl))) (Or.inr (hw _ (List.mem_of_getElem? (i := 43) rfl))) (by decide) (t := .long) (t' := (.object "java/lang/String")) (by decide) (by decide)))
  replace F_reset_a := F_reset_a.other W_27 (Or.inr (slot_ne (Or.inr (hw _ (List.mem_of_getElem? (i := 51) rfl))) (Or.inr (hw _ (List.mem_of_getElem? (i := 43) rfl))) (by decide) (t := .long) (t' := (.object "java/lang/String")) (by decide) (by decide)))
  replace F_retryAfter_a := F_retryAfter_a.other W_27 (Or.inr (slot_ne (Or.inr (hw _ (List.mem_of_getElem? (i := 53) rfl))) (Or.inr (hw _ (List.mem_of_getElem? (i := 43) rfl))) (by decide) (t := .long) (t' := (.object "java/lang/String")) (by decide) (by decide)))
  replace F_storeAnswered_a := F_storeAnswered_a.other W_27 (Or.inr (slot_ne (Or.inr (hw _ (List.mem_of_getElem? (i := 55) rfl))) (Or.inr (hw _ (List.mem_of_getElem? (i := 43) rfl))) (by decide) (t := .boolean) (t' := (.object "java/lang/String")) (by decide) (by decide)))
  replace lt_a := Nat.lt_of_lt_of_le lt_a (Keep.of_wr W_27).1
  replace Zs := Nat.le_trans Zs (Keep.of_wr W_27).1
  replace Kp := Kp.wr W_27 (Or.inl (by simp))
  replace F_key_a := F_key_a.same W_27
  replace Nf := Fr.snoc X_27 Nf g_a
  refine Win.go st_27 ?_
  clear st_27 W_27 X_26 e_26
  show Win p.tables e below _ (T_27.setTop (mkF m 14 #[.val (.ref a), .val (.ref ru), .val (.ref ke), .val (.int zz), .val (.long l1), .second, .val (.long l2), .second, .val (.long l3), .second, .val (.long l4), .second] []))
  refine s_aloadN (pc' := 15) X_27.here hx (hb hby d8_14) rfl rfl rfl ?_
  refine s_iloadN (pc' := 16) X_27.here hx (hb hby d8_15) rfl rfl ?_
  obtain ⟨T_28, h_28, X_28, e_28, W_28, st_28⟩ := putFN X_27 hx hZ hown (hw _ (List.mem_of_getElem? (i := 44) rfl)) Via.refl e_27 F_allowed_a E_a (Or.inr ⟨(hw _ (List.mem_of_getElem? (i := 45) rfl)), rfl, hnm⟩) (hw _ (List.mem_of_getElem? (i := 8) rfl)) (ty := .boolean) (v' := (.int (nar .boolean zz))) (by decide) rfl (fits_nar_bool _) (g := (mkF m 16 #[.val (.ref a), .val (.ref ru), .val (.ref ke), .val (.int zz), .val (.long l1), .second, .val (.long l2), .second, .val (.long l3), .second, .val (.long l4), .second] [(.int zz), (.ref a)])) rfl rfl (hb hby d8_16)
  replace E_a := E_a.wr W_28
  replace F_rule_a := F_rule_a.other W_28 (Or.inr (slot_ne (Or.inr (hw _ (List.mem_of_getElem? (i := 41) rfl))) (Or.inr (hw _ (List.mem_of_getElem? (i := 45) rfl))) (by decide) (t := (.object "java/lang/String")) (t' := .boolean) (by decide) (by decide)))
  replace F_key_a := F_key_a.other W_28 (Or.inr (slot_ne (Or.inr (hw _ (List.mem_of_getElem? (i := 43) rfl))) (Or.inr (hw _ (List.mem_of_getElem? (i := 45) rfl))) (by decide) (t := (.object "java/lang/String")) (t' := .boolean) (by decide) (by decide)))
  replace F_limit_a := F_limit_a.other W_28 (Or.inr (slot_ne (Or.inr (hw _ (List.mem_of_getElem? (i := 47) rfl))) (Or.inr (hw _ (List.mem_of_getElem? (i := 45) rfl))) (by decide) (t := .long) (t' := .boolean) (by decide) (by decide)))
  replace F_remaining_a := F_remaining_a.other W_28 (Or.inr (slot_ne (Or.inr (hw _ (List.mem_of_getElem? (i := 49) rfl))) (Or.inr (hw _ (List.mem_of_getElem? (i := 45) rfl))) (by decide) (t := .long) (t' := .boolean) (by decide) (by decide)))
  replace F_reset_a := F_reset_a.other W_28 (Or.inr (slot_ne (Or.inr (hw _ (List.mem_of_getElem? (i := 51) rfl))) (Or.inr (hw _ (List.mem_of_getElem? (i := 45) rfl))) (by decide) (t := .long) (t' := .boolean) (by decide) (by decide)))
  replace F_retryAfter_a := F_retryAfter_a.other W_28 (Or.inr (slot_ne (Or.inr (hw _ (List.mem_of_getElem? (i := 53) rfl))) (Or.inr (hw _ (List.mem_of_getElem? (i := 45) rfl))) (by decide) (t := .long) (t' := .boolean) (by decide) (by decide)))
  replace F_storeAnswered_a := F_storeAnswered_a.other W_28 (Or.inr (slot_ne (Or.inr (hw _ (List.mem_of_getElem? (i := 55) rfl))) (Or.inr (hw _ (List.mem_of_getElem? (i := 45) rfl))) (by decide) (t := .boolean) (t' := .boolean) (by decide) (by decide)))
  replace lt_a := Nat.lt_of_lt_of_le lt_a (Keep.of_wr W_28).1
  replace Zs := Nat.le_trans Zs (Keep.of_wr W_28).1
  replace Kp := Kp.wr W_28 (Or.inl (by simp))
  replace F_allowed_a := F_allowed_a.same W_28
  replace Nf := Fr.snoc X_28 Nf g_a
  refine Win.go st_28 ?_
  clear st_28 W_28 X_27 e_27
  show Win p.tables e below _ (T_28.setTop (mkF m 19 #[.val (.ref a), .val (.ref ru), .val (.ref ke), .val (.int zz), .val (.long l1), .second, .val (.long l2), .second, .val (.long l3), .second, .val (.long l4), .second] []))
  refine s_aloadN (pc' := 20) X_28.here hx (hb hby d8_19) rfl rfl rfl ?_
  refine s_lload (pc' := 22) X_28.here hx (hb hby d8_20) rfl rfl ?_
  obtain ⟨T_29, h_29, X_29, e_29, W_29, st_29⟩ := putF X_28 hx hZ hown (host := "") (Or.inl (hw _ (List.mem_of_getElem? (i := 46) rfl))) Via.refl e_28 F_limit_a E_a (Or.inr ⟨(hw _ (List.mem_of_getElem? (i := 47) rfl)), rfl, hnm⟩) (hw _ (List.mem_of_getElem? (i := 8) rfl)) (ty := .long) (by decide) rfl rfl (g := (mkF m 22 #[.val (.ref a), .val (.ref ru), .val (.ref ke), .val (.int zz), .val (.long l1), .second, .val (.long l2), .second, .val (.long l3), .second, .val (.long l4), .second] [(.long l1), (.ref a)])) rfl rfl (hb hby d8_22)
  replace E_a := E_a.wr W_29
  replace F_rule_a := F_rule_a.other W_29 (Or.inr (slot_ne (Or.inr (hw _ (List.mem_of_getElem? (i := 41) rfl))) (Or.inr (hw _ (List.mem_of_getElem? (i := 47) rfl))) (by decide) (t := (.object "java/lang/String")) (t' := .long) (by decide) (by decide)))
  replace F_key_a := F_key_a.other W_29 (Or.inr (slot_ne (Or.inr (hw _ (List.mem_of_getElem? (i := 43) rfl))) (Or.inr (hw _ (List.mem_of_getElem? (i := 47) rfl))) (by decide) (t := (.object "java/lang/String")) (t' := .long) (by decide) (by decide)))
  replace F_allowed_a := F_allowed_a.other W_29 (Or.inr (slot_ne (Or.inr (hw _ (List.mem_of_getElem? (i := 45) rfl))) (Or.inr (hw _ (List.mem_of_getElem? (i := 47) rfl))) (by decide) (t := .boolean) (t' := .long) (by decide) (by decide)))
  replace F_remaining_a := F_remaining_a.other W_29 (Or.inr (slot_ne (Or.inr (hw _ (List.mem_of_getElem? (i := 49) rfl))) (Or.inr (hw _ (List.mem_of_getElem? (i := 47) rfl))) (by decide) (t := .long) (t' := .long) (by decide) (by decide)))
  replace F_reset_a := F_reset_a.other W_29 (Or.inr (slot_ne (Or.inr (hw _ (List.mem_of_getElem? (i := 51) rfl))) (Or.inr (hw _ (List.mem_of_getElem? (i := 47) rfl))) (by decide) (t := .long) (t' := .long) (by decide) (by decide)))
  replace F_retryAfter_a := F_retryAfter_a.other W_29 (Or.inr (slot_ne (Or.inr (hw _ (List.mem_of_getElem? (i := 53) rfl))) (Or.inr (hw _ (List.mem_of_getElem? (i := 47) rfl))) (by decide) (t := .long) (t' := .long) (by decide) (by decide)))
  replace F_storeAnswered_a := F_storeAnswered_a.other W_29 (Or.inr (slot_ne (Or.inr (hw _ (List.mem_of_getElem? (i := 55) rfl))) (Or.inr (hw _ (List.mem_of_getElem? (i := 47) rfl))) (by decide) (t := .boolean) (t' := .long) (by decide) (by decide)))
  replace lt_a := Nat.lt_of_lt_of_le lt_a (Keep.of_wr W_29).1
  replace Zs := Nat.le_trans Zs (Keep.of_wr W_29).1
  replace Kp := Kp.wr W_29 (Or.inl (by simp))
  replace F_limit_a := F_limit_a.same W_29
  replace Nf := Fr.snoc X_29 Nf g_a
  refine Win.go st_29 ?_
  clear st_29 W_29 X_28 e_28
  show Win p.tables e below _ (T_29.setTop (mkF m 25 #[.val (.ref a), .val (.ref ru), .val (.ref ke), .val (.int zz), .val (.long l1), .second, .val (.long l2), .second, .val (.long l3), .second, .val (.long l4), .second] []))
  refine s_aloadN (pc' := 26) X_29.here hx (hb hby d8_25) rfl rfl rfl ?_
  refine s_lload (pc' := 28) X_29.here hx (hb hby d8_26) rfl rfl ?_
  obtain ⟨T_30, h_30, X_30, e_30, W_30, st_30⟩ := putF X_29 hx hZ hown (host := "") (Or.inl (hw _ (List.mem_of_getElem? (i := 48) rfl))) Via.refl e_29 F_remaining_a E_a (Or.inr ⟨(hw _ (List.mem_of_getElem? (i := 49) rfl)), rfl, hnm⟩) (hw _ (List.mem_of_getElem? (i := 8) rfl)) (ty := .long) (by decide) rfl rfl (g := (mkF m 28 #[.val (.ref a), .val (.ref ru), .val (.ref ke), .val (.int zz), .val (.long l1), .second, .val (.long l2), .second, .val (.long l3), .second, .val (.long l4), .second] [(.long l2), (.ref a)])) rfl rfl (hb hby d8_28)
  replace E_a := E_a.wr W_30
  replace F_rule_a := F_rule_a.other W_30 (Or.inr (slot_ne (Or.inr (hw _ (List.mem_of_getElem? (i := 41) rfl))) (Or.inr (hw _ (List.mem_of_getElem? (i := 49) rfl))) (by decide) (t := (.object "java/lang/String")) (t' := .long) (by decide) (by decide)))
  replace F_key_a := F_key_a.other W_30 (Or.inr (slot_ne (Or.inr (hw _ (List.mem_of_getElem? (i := 43) rfl))) (Or.inr (hw _ (List.mem_of_getElem? (i := 49) rfl))) (by decide) (t := (.object "java/lang/String")) (t' := .long) (by decide) (by decide)))
  replace F_allowed_a := F_allowed_a.other W_30 (Or.inr (slot_ne (Or.inr (hw _ (List.mem_of_getElem? (i := 45) rfl))) (Or.inr (hw _ (List.mem_of_getElem? (i := 49) rfl))) (by decide) (t := .boolean) (t' := .long) (by decide) (by decide)))
  replace F_limit_a := F_limit_a.other W_30 (Or.inr (slot_ne (Or.inr (hw _ (List.mem_of_getElem? (i := 47) rfl))) (Or.inr (hw _ (List.mem_of_getElem? (i := 49) rfl))) (by decide) (t := .long) (t' := .long) (by decide) (by decide)))
  replace F_reset_a := F_reset_a.other W_30 (Or.inr (slot_ne (Or.inr (hw _ (List.mem_of_getElem? (i := 51) rfl))) (Or.inr (hw _ (List.mem_of_getElem? (i := 49) rfl))) (by decide) (t := .long) (t' := .long) (by decide) (by decide)))
  replace F_retryAfter_a := F_retryAfter_a.other W_30 (Or.inr (slot_ne (Or.inr (hw _ (List.mem_of_getElem? (i := 53) rfl))) (Or.inr (hw _ (List.mem_of_getElem? (i := 49) rfl))) (by decide) (t := .long) (t' := .long) (by decide) (by decide)))
  replace F_storeAnswered_a := F_storeAnswered_a.other W_30 (Or.inr (slot_ne (Or.inr (hw _ (List.mem_of_getElem? (i := 55) rfl))) (Or.inr (hw _ (List.mem_of_getElem? (i := 49) rfl))) (by decide) (t := .boolean) (t' := .long) (by decide) (by decide)))
  replace lt_a := Nat.lt_of_lt_of_le lt_a (Keep.of_wr W_30).1
  replace Zs := Nat.le_trans Zs (Keep.of_wr W_30).1
  replace Kp := Kp.wr W_30 (Or.inl (by simp))
  replace F_remaining_a := F_remaining_a.same W_30
  replace Nf := Fr.snoc X_30 Nf g_a
  refine Win.go st_30 ?_
  clear st_30 W_30 X_29 e_29
  show Win p.tables e below _ (T_30.setTop (mkF m 31 #[.val (.ref a), .val (.ref ru), .val (.ref ke), .val (.int zz), .val (.long l1), .second, .val (.long l2), .second, .val (.long l3), .second, .val (.long l4), .second] []))
  refine s_aloadN (pc' := 32) X_30.here hx (hb hby d8_31) rfl rfl rfl ?_
  refine s_lload (pc' := 34) X_30.here hx (hb hby d8_32) rfl rfl ?_
  obtain ⟨T_31, h_31, X_31, e_31, W_31, st_31⟩ := putF X_30 hx hZ hown (host := "") (Or.inl (hw _ (List.mem_of_getElem? (i := 50) rfl))) Via.refl e_30 F_reset_a E_a (Or.inr ⟨(hw _ (List.mem_of_getElem? (i := 51) rfl)), rfl, hnm⟩) (hw _ (List.mem_of_getElem? (i := 8) rfl)) (ty := .long) (by decide) rfl rfl (g := (mkF m 34 #[.val (.ref a), .val (.ref ru), .val (.ref ke), .val (.int zz), .val (.long l1), .second, .val (.long l2), .second, .val (.long l3), .second, .val (.long l4), .second] [(.long l3), (.ref a)])) rfl rfl (hb hby d8_34)
  replace E_a := E_a.wr W_31
  replace F_rule_a := F_rule_a.other W_31 (Or.inr (slot_ne (Or.inr (hw _ (List.mem_of_getElem? (i := 41) rfl))) (Or.inr (hw _ (List.mem_of_getElem? (i := 51) rfl))) (by decide) (t := (.object "java/lang/String")) (t' := .long) (by decide) (by decide)))
  replace F_key_a := F_key_a.other W_31 (Or.inr (slot_ne (Or.inr (hw _ (List.mem_of_getElem? (i := 43) rfl))) (Or.inr (hw _ (List.mem_of_getElem? (i := 51) rfl))) (by decide) (t := (.object "java/lang/String")) (t' := .long) (by decide) (by decide)))
  replace F_allowed_a := F_allowed_a.other W_31 (Or.inr (slot_ne (Or.inr (hw _ (List.mem_of_getElem? (i := 45) rfl))) (Or.inr (hw _ (List.mem_of_getElem? (i := 51) rfl))) (by decide) (t := .boolean) (t' := .long) (by decide) (by decide)))
  replace F_limit_a := F_limit_a.other W_31 (Or.inr (slot_ne (Or.inr (hw _ (List.mem_of_getElem? (i := 47) rfl))) (Or.inr (hw _ (List.mem_of_getElem? (i := 51) rfl))) (by decide) (t := .long) (t' := .long) (by decide) (by decide)))
  replace F_remaining_a := F_remaining_a.other W_31 (Or.inr (slot_ne (Or.inr (hw _ (List.mem_of_getElem? (i := 49) rfl))) (Or.inr (hw _ (List.mem_of_getElem? (i := 51) rfl))) (by decide) (t := .long) (t' := .long) (by decide) (by decide)))
  replace F_retryAfter_a := F_retryAfter_a.other W_31 (Or.inr (slot_ne (Or.inr (hw _ (List.mem_of_getElem? (i := 53) rfl))) (Or.inr (hw _ (List.mem_of_getElem? (i := 51) rfl))) (by decide) (t := .long) (t' := .long) (by decide) (by decide)))
  replace F_storeAnswered_a := F_storeAnswered_a.other W_31 (Or.inr (slot_ne (Or.inr (hw _ (List.mem_of_getElem? (i := 55) rfl))) (Or.inr (hw _ (List.mem_of_getElem? (i := 51) rfl))) (by decide) (t := .boolean) (t' := .long) (by decide) (by decide)))
  replace lt_a := Nat.lt_of_lt_of_le lt_a (Keep.of_wr W_31).1
  replace Zs := Nat.le_trans Zs (Keep.of_wr W_31).1
  replace Kp := Kp.wr W_31 (Or.inl (by simp))
  replace F_reset_a := F_reset_a.same W_31
  replace Nf := Fr.snoc X_31 Nf g_a
  refine Win.go st_31 ?_
  clear st_31 W_31 X_30 e_30
  show Win p.tables e below _ (T_31.setTop (mkF m 37 #[.val (.ref a), .val (.ref ru), .val (.ref ke), .val (.int zz), .val (.long l1), .second, .val (.long l2), .second, .val (.long l3), .second, .val (.long l4), .second] []))
  refine s_aloadN (pc' := 38) X_31.here hx (hb hby d8_37) rfl rfl rfl ?_
  refine s_lload (pc' := 40) X_31.here hx (hb hby d8_38) rfl rfl ?_
  obtain ⟨T_32, h_32, X_32, e_32, W_32, st_32⟩ := putF X_31 hx hZ hown (host := "") (Or.inl (hw _ (List.mem_of_getElem? (i := 52) rfl))) Via.refl e_31 F_retryAfter_a E_a (Or.inr ⟨(hw _ (List.mem_of_getElem? (i := 53) rfl)), rfl, hnm⟩) (hw _ (List.mem_of_getElem? (i := 8) rfl)) (ty := .long) (by decide) rfl rfl (g := (mkF m 40 #[.val (.ref a), .val (.ref ru), .val (.ref ke), .val (.int zz), .val (.long l1), .second, .val (.long l2), .second, .val (.long l3), .second, .val (.long l4), .second] [(.long l4), (.ref a)])) rfl rfl (hb hby d8_40)
  replace E_a := E_a.wr W_32
  replace F_rule_a := F_rule_a.other W_32 (Or.inr (slot_ne (Or.inr (hw _ (List.mem_of_getElem? (i := 41) rfl))) (Or.inr (hw _ (List.mem_of_getElem? (i := 53) rfl))) (by decide) (t := (.object "java/lang/String")) (t' := .long) (by decide) (by decide)))
  replace F_key_a := F_key_a.other W_32 (Or.inr (slot_ne (Or.inr (hw _ (List.mem_of_getElem? (i := 43) rfl))) (Or.inr (hw _ (List.mem_of_getElem? (i := 53) rfl))) (by decide) (t := (.object "java/lang/String")) (t' := .long) (by decide) (by decide)))
  replace F_allowed_a := F_allowed_a.other W_32 (Or.inr (slot_ne (Or.inr (hw _ (List.mem_of_getElem? (i := 45) rfl))) (Or.inr (hw _ (List.mem_of_getElem? (i := 53) rfl))) (by decide) (t := .boolean) (t' := .long) (by decide) (by decide)))
  replace F_limit_a := F_limit_a.other W_32 (Or.inr (slot_ne (Or.inr (hw _ (List.mem_of_getElem? (i := 47) rfl))) (Or.inr (hw _ (List.mem_of_getElem? (i := 53) rfl))) (by decide) (t := .long) (t' := .long) (by decide) (by decide)))
  replace F_remaining_a := F_remaining_a.other W_32 (Or.inr (slot_ne (Or.inr (hw _ (List.mem_of_getElem? (i := 49) rfl))) (Or.inr (hw _ (List.mem_of_getElem? (i := 53) rfl))) (by decide) (t := .long) (t' := .long) (by decide) (by decide)))
  replace F_reset_a := F_reset_a.other W_32 (Or.inr (slot_ne (Or.inr (hw _ (List.mem_of_getElem? (i := 51) rfl))) (Or.inr (hw _ (List.mem_of_getElem? (i := 53) rfl))) (by decide) (t := .long) (t' := .long) (by decide) (by decide)))
  replace F_storeAnswered_a := F_storeAnswered_a.other W_32 (Or.inr (slot_ne (Or.inr (hw _ (List.mem_of_getElem? (i := 55) rfl))) (Or.inr (hw _ (List.mem_of_getElem? (i := 53) rfl))) (by decide) (t := .boolean) (t' := .long) (by decide) (by decide)))
  replace lt_a := Nat.lt_of_lt_of_le lt_a (Keep.of_wr W_32).1
  replace Zs := Nat.le_trans Zs (Keep.of_wr W_32).1
  replace Kp := Kp.wr W_32 (Or.inl (by simp))
  replace F_retryAfter_a := F_retryAfter_a.same W_32
  replace Nf := Fr.snoc X_32 Nf g_a
  refine Win.go st_32 ?_
  clear st_32 W_32 X_31 e_31
  show Win p.tables e below _ (T_32.setTop (mkF m 43 #[.val (.ref a), .val (.ref ru), .val (.ref ke), .val (.int zz), .val (.long l1), .second, .val (.long l2), .second, .val (.long l3), .second, .val (.long l4), .second] []))
  refine s_aloadN (pc' := 44) X_32.here hx (hb hby d8_43) rfl rfl rfl ?_
  refine s_iconst (pc' := 45) (z := (1 : Int32)) X_32.here hx (hb hby d8_44) rfl rfl ?_
  obtain ⟨T_33, h_33, X_33, e_33, W_33, st_33⟩ := putFN X_32 hx hZ hown (hw _ (List.mem_of_getElem? (i := 54) rfl)) Via.refl e_32 F_storeAnswered_a E_a (Or.inr ⟨(hw _ (List.mem_of_getElem? (i := 55) rfl)), rfl, hnm⟩) (hw _ (List.mem_of_getElem? (i := 8) rfl)) (ty := .boolean) (v' := (.int (1 : Int32))) (by decide) rfl rfl (g := (mkF m 45 #[.val (.ref a), .val (.ref ru), .val (.ref ke), .val (.int zz), .val (.long l1), .second, .val (.long l2), .second, .val (.long l3), .second, .val (.long l4), .second] [(.int (1 : Int32)), (.ref a)])) rfl rfl (hb hby d8_45)
  replace E_a := E_a.wr W_33
  replace F_rule_a := F_rule_a.other W_33 (Or.inr (slot_ne (Or.inr (hw _ (List.mem_of_getElem? (i := 41) rfl))) (Or.inr (hw _ (List.mem_of_getElem? (i := 55) rfl))) (by decide) (t := (.object "java/lang/String")) (t' := .boolean) (by decide) (by decide)))
  replace F_key_a := F_key_a.other W_33 (Or.inr (slot_ne (Or.inr (hw _ (List.mem_of_getElem? (i := 43) rfl))) (Or.inr (hw _ (List.mem_of_getElem? (i := 55) rfl))) (by decide) (t := (.object "java/lang/String")) (t' := .boolean) (by decide) (by decide)))
  replace F_allowed_a := F_allowed_a.other W_33 (Or.inr (slot_ne (Or.inr (hw _ (List.mem_of_getElem? (i := 45) rfl))) (Or.inr (hw _ (List.mem_of_getElem? (i := 55) rfl))) (by decide) (t := .boolean) (t' := .boolean) (by decide) (by decide)))
  replace F_limit_a := F_limit_a.other W_33 (Or.inr (slot_ne (Or.inr (hw _ (List.mem_of_getElem? (i := 47) rfl))) (Or.inr (hw _ (List.mem_of_getElem? (i := 55) rfl))) (by decide) (t := .long) (t' := .boolean) (by decide) (by decide)))
  replace F_remaining_a := F_remaining_a.other W_33 (Or.inr (slot_ne (Or.inr (hw _ (List.mem_of_getElem? (i := 49) rfl))) (Or.inr (hw _ (List.mem_of_getElem? (i := 55) rfl))) (by decide) (t := .long) (t' := .boolean) (by decide) (by decide)))
  replace F_reset_a := F_reset_a.other W_33 (Or.inr (slot_ne (Or.inr (hw _ (List.mem_of_getElem? (i := 51) rfl))) (Or.inr (hw _ (List.mem_of_getElem? (i := 55) rfl))) (by decide) (t := .long) (t' := .boolean) (by decide) (by decide)))
  replace F_retryAfter_a := F_retryAfter_a.other W_33 (Or.inr (slot_ne (Or.inr (hw _ (List.mem_of_getElem? (i := 53) rfl))) (Or.inr (hw _ (List.mem_of_getElem? (i := 55) rfl))) (by decide) (t := .long) (t' := .boolean) (by decide) (by decide)))
  replace lt_a := Nat.lt_of_lt_of_le lt_a (Keep.of_wr W_33).1
  replace Zs := Nat.le_trans Zs (Keep.of_wr W_33).1
  replace Kp := Kp.wr W_33 (Or.inl (by simp))
  replace F_storeAnswered_a := F_storeAnswered_a.same W_33
  replace Nf := Fr.snoc X_33 Nf g_a
  refine Win.go st_33 ?_
  clear st_33 W_33 X_32 e_32
  show Win p.tables e below _ (T_33.setTop (mkF m 48 #[.val (.ref a), .val (.ref ru), .val (.ref ke), .val (.int zz), .val (.long l1), .second, .val (.long l2), .second, .val (.long l3), .second, .val (.long l4), .second] []))
  refine winV X_33 hx hlk e_33 Bd.returns (hb hby d8_48) (by decide) (by decide) ?_
  exact ⟨Nf, Kp, F_rule_a, F_key_a, F_allowed_a, F_limit_a, F_remaining_a, F_reset_a, F_retryAfter_a, F_storeAnswered_a, rfl⟩
theorem d14_0 : decode prog_7_method_4_code 0 = .ok (.aload_n 0, 1) := by decide +kernel
theorem d14_1 : decode prog_7_method_4_code 1 = .ok (.invokespecial 1, 3) := by decide +kernel
theorem d14_4 : decode prog_7_method_4_code 4 = .ok (.aload_n 0, 1) := by decide +kernel
theorem d14_5 : decode prog_7_method_4_code 5 = .ok (.aload_n 1, 1) := by decide +kernel
theorem d14_6 : decode prog_7_method_4_code 6 = .ok (.putfield 7, 3) := by decide +kernel
theorem d14_9 : decode prog_7_method_4_code 9 = .ok (.aload_n 0, 1) := by decide +kernel
theorem d14_10 : decode prog_7_method_4_code 10 = .ok (.aload_n 2, 1) := by decide +kernel
theorem d14_11 : decode prog_7_method_4_code 11 = .ok (.putfield 13, 3) := by decide +kernel
theorem d14_14 : decode prog_7_method_4_code 14 = .ok (.aload_n 0, 1) := by decide +kernel
theorem d14_15 : decode prog_7_method_4_code 15 = .ok (.iload_n 3, 1) := by decide +kernel
theorem d14_16 : decode prog_7_method_4_code 16 = .ok (.putfield 16, 3) := by decide +kernel
theorem d14_19 : decode prog_7_method_4_code 19 = .ok (.aload_n 0, 1) := by decide +kernel
theorem d14_20 : decode prog_7_method_4_code 20 = .ok (.lconst 0, 1) := by decide +kernel
theorem d14_21 : decode prog_7_method_4_code 21 = .ok (.putfield 20, 3) := by decide +kernel
theorem d14_24 : decode prog_7_method_4_code 24 = .ok (.aload_n 0, 1) := by decide +kernel
theorem d14_25 : decode prog_7_method_4_code 25 = .ok (.lconst 0, 1) := by decide +kernel
theorem d14_26 : decode prog_7_method_4_code 26 = .ok (.putfield 24, 3) := by decide +kernel
theorem d14_29 : decode prog_7_method_4_code 29 = .ok (.aload_n 0, 1) := by decide +kernel
theorem d14_30 : decode prog_7_method_4_code 30 = .ok (.lconst 0, 1) := by decide +kernel
theorem d14_31 : decode prog_7_method_4_code 31 = .ok (.putfield 27, 3) := by decide +kernel
theorem d14_34 : decode prog_7_method_4_code 34 = .ok (.aload_n 0, 1) := by decide +kernel
theorem d14_35 : decode prog_7_method_4_code 35 = .ok (.iload_n 3, 1) := by decide +kernel
theorem d14_36 : decode prog_7_method_4_code 36 = .ok (.ifCond .eq 7, 3) := by decide +kernel
theorem d14_43 : decode prog_7_method_4_code 43 = .ok (.lconst 1, 1) := by decide +kernel
theorem d14_44 : decode prog_7_method_4_code 44 = .ok (.putfield 30, 3) := by decide +kernel
theorem d14_47 : decode prog_7_method_4_code 47 = .ok (.aload_n 0, 1) := by decide +kernel
theorem d14_48 : decode prog_7_method_4_code 48 = .ok (.iconst 0, 1) := by decide +kernel
theorem d14_49 : decode prog_7_method_4_code 49 = .ok (.putfield 33, 3) := by decide +kernel
theorem d14_52 : decode prog_7_method_4_code 52 = .ok (.return_, 1) := by decide +kernel
theorem ef_14_0 (m : MethodId) (a : Addr) (ru : Addr) (ke : Addr) : entryFrame m #[(.ref a), (.ref ru), (.ref ke), (.int (0 : Int32))] 4 = mkF m 0 #[.val (.ref a), .val (.ref ru), .val (.ref ke), .val (.int (0 : Int32))] [] := by first | (simp [entryFrame, mkF, argsToLocals, Value.category]; done) | rfl
def Q14_0 (Z : State) (a : Addr) (ru : Addr) (ke : Addr) (h0 : Heap) (n0 : Nat) (v : Option Value) (h : Heap) (L : List Loc) : Prop := Fr n0 L ∧ Keep h0 h [a] ∧ Fld Z h a "com/example/throttle/throttle/Decision" "rule" "Ljava/lang/String;" (.ref ru) ∧ Fld Z h a "com/example/throttle/throttle/Decision" "key" "Ljava/lang/String;" (.ref ke) ∧ Fld Z h a "com/example/throttle/throttle/Decision" "allowed" "Z" (.int (0 : Int32)) ∧ Fld Z h a "com/example/throttle/throttle/Decision" "limit" "J" (.long (0 : Int64)) ∧ Fld Z h a "com/example/throttle/throttle/Decision" "remaining" "J" (.long (0 : Int64)) ∧ Fld Z h a "com/example/throttle/throttle/Decision" "reset" "J" (.long (0 : Int64)) ∧ Fld Z h a "com/example/throttle/throttle/Decision" "retryAfter" "J" (.long (1 : Int64)) ∧ Fld Z h a "com/example/throttle/throttle/Decision" "storeAnswered" "Z" (.int (0 : Int32)) ∧ v = none
set_option maxRecDepth 65536 in
set_option maxHeartbeats 40000000 in
theorem rm14_0 (l : Launch) (Z : State) (a0 : Array Value) (hw : ∀ d ∈ tables_1, d.before a0 Z = true) (ws : List Jvm.Cond) (a : Addr) (ru : Addr) (ke : Addr) (h0 : Heap) (n0 : Nat) (Zs : n0 ≤ h0.size) (E_a : Exa Z h0 a "com/example/throttle/throttle/Decision") (F_rule_a : Fld Z h0 a "com/example/throttle/throttle/Decision" "rule" "Ljava/lang/String;" .null) (F_key_a : Fld Z h0 a "com/example/throttle/throttle/Decision" "key" "Ljava/lang/String;" .null) (F_allowed_a : Fld Z h0 a "com/example/throttle/throttle/Decision" "allowed" "Z" (.int (0 : Int32))) (F_limit_a : Fld Z h0 a "com/example/throttle/throttle/Decision" "limit" "J" (.long (0 : Int64))) (F_remaining_a : Fld Z h0 a "com/example/throttle/throttle/Decision" "remaining" "J" (.long (0 : Int64))) (F_reset_a : Fld Z h0 a "com/example/throttle/throttle/Decision" "reset" "J" (.long (0 : Int64))) (F_retryAfter_a : Fld Z h0 a "com/example/throttle/throttle/Decision" "retryAfter" "J" (.long (0 : Int64))) (F_storeAnswered_a : Fld Z h0 a "com/example/throttle/throttle/Decision" "storeAnswered" "Z" (.int (0 : Int32))) (g_a : n0 ≤ a) :
    MetFree l (⟨"com/example/throttle/throttle/Decision", "<init>", "(Ljava/lang/String;Ljava/lang/String;Z)V"⟩ : MethodName) (head1 (Jvm.Cond.code (⟨"com/example/throttle/throttle/Decision", "<init>", "(Ljava/lang/String;Ljava/lang/String;Z)V"⟩ : MethodName) prog_7_method_4_code 4 none :: ws) ({ frames := 1, cells := 0, slots := 0, locals := 12 } : Room)) (fun as' U => as' = #[(.ref a), (.ref ru), (.ref ke), (.int (0 : Int32))] ∧ Z.Warmed39 U.vm ∧ U.heap = h0) (fun _ _ _ _ _ => True) (fun _ U o U' => ∃ v L, o = .returned v ∧ Q14_0 Z a ru ke h0 n0 v U'.heap L ∧ FrameEnd U o U' L ({ frames := 1, cells := 0, slots := 0, locals := 12 } : Room).cells ({ frames := 1, cells := 0, slots := 0, locals := 12 } : Room).slots) := by
  refine MetFree.of_bodySF (plainFor_of_name pn_8) hisR ?_
  intro p e s m args below meth c s₁ Bd hml0 hP hK
  obtain ⟨rfl, hZ, hh⟩ := hP
  have hx := Bd.exec
  have hby := Bd.bytes
  have hml : c.maxLocals = 4 := hml0
  have hown : s.vm.findClass "com/example/throttle/throttle/Decision" = some m.cls := findClass_of_methodNamed Bd.named
  have hnm := (name_of_methodNamed Bd.named Bd.method).1
  have hlk : meth.locks = false := Bd.notSynchronized
  have X0 : Stand p l e ({ frames := 1, cells := 0, slots := 0, locals := 12 } : Room) s m #[(.ref a), (.ref ru), (.ref ke), (.int (0 : Int32))] below meth c s₁ [] 0 0 := Stand.of_body Bd
  have e0 : s₁.heap = h0 := by rw [← hh, Bd.state]; rfl
  have Nf := Fr.nil n0
  refine (?_ : Win p.tables e below (PostQ s (Q14_0 Z a ru ke h0 n0) ({ frames := 1, cells := 0, slots := 0, locals := 12 } : Room).cells ({ frames := 1, cells := 0, slots := 0, locals := 12 } : Room).slots) (s₁.setTop (entryFrame m #[(.ref a), (.ref ru), (.ref ke), (.int (0 : Int32))] 4)))
  rw [ef_14_0]
  have Kp : Keep h0 h0 [a] := Keep.refl h0 _
  have lt_a : a < h0.size := E_a.lt
  show Win p.tables e below _ (s₁.setTop (mkF m 0 #[.val (.ref a), .val (.ref ru), .val (.ref ke), .val (.int (0 : Int32))] []))
  refine s_aloadN (pc' := 1) X0.here hx (hb hby d14_0) rfl rfl rfl ?_
  obtain ⟨T_34, X_34, e_34, st_34⟩ := initO X0 hx hZ hown (hw _ (List.mem_of_getElem? (i := 39) rfl)) (hw _ (List.mem_of_getElem? (i := 30) rfl)) (hw _ (List.mem_of_getElem? (i := 31) rfl)) e0 (g := (mkF m 1 #[.val (.ref a), .val (.ref ru), .val (.ref ke), .val (.int (0 : Int32))] [(.ref a)])) rfl (by rw [hml]; rfl) rfl (hb hby d14_1) (by decide) (W := 0) (by show 2 * 0 + _ ≤ _; exact Nat.le_of_eq rfl) (by decide)
  refine Win.go st_34 ?_
  clear st_34 X0 e0
  show Win p.tables e below _ (T_34.setTop (mkF m 4 #[.val (.ref a), .val (.ref ru), .val (.ref ke), .val (.int (0 : Int32))] []))
  refine s_aloadN (pc' := 5) X_34.here hx (hb hby d14_4) rfl rfl rfl ?_
  refine s_aloadN (pc' := 6) X_34.here hx (hb hby d14_5) rfl rfl rfl ?_
  obtain ⟨T_35, h_35, X_35, e_35, W_35, st_35⟩ := putF X_34 hx hZ hown (host := "") (Or.inl (hw _ (List.mem_of_getElem? (i := 40) rfl))) Via.refl e_34 F_rule_a E_a (Or.inr ⟨(hw _ (List.mem_of_getElem? (i := 41) rfl)), rfl, hnm⟩) (hw _ (List.mem_of_getElem? (i := 8) rfl)) (ty := (.object "java/lang/String")) (by decide) rfl rfl (g := (mkF m 6 #[.val (.ref a), .val (.ref ru), .val (.ref ke), .val (.int (0 : Int32))] [(.ref ru), (.ref a)])) rfl rfl (hb hby d14_6)
  replace E_a := E_a.wr W_35
  replace F_key_a := F_key_a.other W_35 (Or.inr (slot_ne (Or.inr (hw _ (List.mem_of_getElem? (i := 43) rfl))) (Or.inr (hw _ (List.mem_of_getElem? (i := 41) rfl))) (by decide) (t := (.object "java/lang/String")) (t' := (.object "java/lang/String")) (by decide) (by decide)))
  replace F_allowed_a := F_allowed_a.other W_35 (Or.inr (slot_ne (Or.inr (hw _ (List.mem_of_getElem? (i := 45) rfl))) (Or.inr (hw _ (List.mem_of_getElem? (i := 41) rfl))) (by decide) (t := .boolean) (t' := (.object "java/lang/String")) (by decide) (by decide)))
  replace F_limit_a := F_limit_a.other W_35 (Or.inr (slot_ne (Or.inr (hw _ (List.mem_of_getElem? (i := 47) rfl))) (Or.inr (hw _ (List.mem_of_getElem? (i := 41) rfl))) (by decide) (t := .long) (t' := (.object "java/lang/String")) (by decide) (by decide)))
  replace F_remaining_a := F_remaining_a.other W_35 (Or.inr (slot_ne (Or.inr (hw _ (List.mem_of_getElem? (i := 49) rfl))) (Or.inr (hw _ (List.mem_of_getElem? (i := 41) rfl))) (by decide) (t := .long) (t' := (.object "java/lang/String")) (by decide) (by decide)))
  replace F_reset_a := F_reset_a.other W_35 (Or.inr (slot_ne (Or.inr (hw _ (List.mem_of_getElem? (i := 51) rfl))) (Or.inr (hw _ (List.mem_of_getElem? (i := 41) rfl))) (by decide) (t := .long) (t' := (.object "java/lang/String")) (by decide) (by decide)))
  replace F_retryAfter_a := F_retryAfter_a.other W_35 (Or.inr (slot_ne (Or.inr (hw _ (List.mem_of_getElem? (i := 53) rfl))) (Or.inr (hw _ (List.mem_of_getElem? (i := 41) rfl))) (by decide) (t := .long) (t' := (.object "java/lang/String")) (by decide) (by decide)))
  replace F_storeAnswered_a := F_storeAnswered_a.other W_35 (Or.inr (slot_ne (Or.inr (hw _ (List.mem_of_getElem? (i := 55) rfl))) (Or.inr (hw _ (List.mem_of_getElem? (i := 41) rfl))) (by decide) (t := .boolean) (t' := (.object "java/lang/String")) (by decide) (by decide)))
  replace lt_a := Nat.lt_of_lt_of_le lt_a (Keep.of_wr W_35).1
  replace Zs := Nat.le_trans Zs (Keep.of_wr W_35).1
  replace Kp := Kp.wr W_35 (Or.inl (by simp))
  replace F_rule_a := F_rule_a.same W_35
  replace Nf := Fr.snoc X_35 Nf g_a
  refine Win.go st_35 ?_
  clear st_35 W_35 X_34 e_34
  show Win p.tables e below _ (T_35.setTop (mkF m 9 #[.val (.ref a), .val (.ref ru), .val (.ref ke), .val (.int (0 : Int32))] []))
  refine s_aloadN (pc' := 10) X_35.here hx (hb hby d14_9) rfl rfl rfl ?_
  refine s_aloadN (pc' := 11) X_35.here hx (hb hby d14_10) rfl rfl rfl ?_
  obtain ⟨T_36, h_36, X_36, e_36, W_36, st_36⟩ := putF X_35 hx hZ hown (host := "") (Or.inl (hw _ (List.mem_of_getElem? (i := 42) rfl))) Via.refl e_35 F_key_a E_a (Or.inr ⟨(hw _ (List.mem_of_getElem? (i := 43) rfl)), rfl, hnm⟩) (hw _ (List.mem_of_getElem? (i := 8) rfl)) (ty := (.object "java/lang/String")) (by decide) rfl rfl (g := (mkF m 11 #[.val (.ref a), .val (.ref ru), .val (.ref ke), .val (.int (0 : Int32))] [(.ref ke), (.ref a)])) rfl rfl (hb hby d14_11)
  replace E_a := E_a.wr W_36
  replace F_rule_a := F_rule_a.other W_36 (Or.inr (slot_ne (Or.inr (hw _ (List.mem_of_getElem? (i := 41) rfl))) (Or.inr (hw _ (List.mem_of_getElem? (i := 43) rfl))) (by decide) (t := (.object "java/lang/String")) (t' := (.object "java/lang/String")) (by decide) (by decide)))
  replace F_allowed_a := F_allowed_a.other W_36 (Or.inr (slot_ne (Or.inr (hw _ (List.mem_of_getElem? (i := 45) rfl))) (Or.inr (hw _ (List.mem_of_getElem? (i := 43) rfl))) (by decide) (t := .boolean) (t' := (.object "java/lang/String")) (by decide) (by decide)))
  replace F_limit_a := F_limit_a.other W_36 (Or.inr (slot_ne (Or.inr (hw _ (List.mem_of_getElem? (i := 47) rfl))) (Or.inr (hw _ (List.mem_of_getElem? (i := 43) rfl))) (by decide) (t := .long) (t' := (.object "java/lang/String")) (by decide) (by decide)))
  replace F_remaining_a := F_remaining_a.other W_36 (Or.inr (slot_ne (Or.inr (hw _ (List.mem_of_getElem? (i := 49) rfl))) (Or.inr (hw _ (List.mem_of_getElem? (i := 43) rfl))) (by decide) (t := .long) (t' := (.object "java/lang/String")) (by decide) (by decide)))
  replace F_reset_a := F_reset_a.other W_36 (Or.inr (slot_ne (Or.inr (hw _ (List.mem_of_getElem? (i := 51) rfl))) (Or.inr (hw _ (List.mem_of_getElem? (i := 43) rfl))) (by decide) (t := .long) (t' := (.object "java/lang/String")) (by decide) (by decide)))
  replace F_retryAfter_a := F_retryAfter_a.other W_36 (Or.inr (slot_ne (Or.inr (hw _ (List.mem_of_getElem? (i := 53) rfl))) (Or.inr (hw _ (List.mem_of_getElem? (i := 43) rfl))) (by decide) (t := .long) (t' := (.object "java/lang/String")) (by decide) (by decide)))
  replace F_storeAnswered_a := F_storeAnswered_a.other W_36 (Or.inr (slot_ne (Or.inr (hw _ (List.mem_of_getElem? (i := 55) rfl))) (Or.inr (hw _ (List.mem_of_getElem? (i := 43) rfl))) (by decide) (t := .boolean) (t' := (.object "java/lang/String")) (by decide) (by decide)))
  replace lt_a := Nat.lt_of_lt_of_le lt_a (Keep.of_wr W_36).1
  replace Zs := Nat.le_trans Zs (Keep.of_wr W_36).1
  replace Kp := Kp.wr W_36 (Or.inl (by simp))
  replace F_key_a := F_key_a.same W_36
  replace Nf := Fr.snoc X_36 Nf g_a
  refine Win.go st_36 ?_
  clear st_36 W_36 X_35 e_35
  show Win p.tables e below _ (T_36.setTop (mkF m 14 #[.val (.ref a), .val (.ref ru), .val (.ref ke), .val (.int (0 : Int32))] []))
  refine s_aloadN (pc' := 15) X_36.here hx (hb hby d14_14) rfl rfl rfl ?_
  refine s_iloadN (pc' := 16) X_36.here hx (hb hby d14_15) rfl rfl ?_
  obtain ⟨T_37, h_37, X_37, e_37, W_37, st_37⟩ := putFN X_36 hx hZ hown (hw _ (List.mem_of_getElem? (i := 44) rfl)) Via.refl e_36 F_allowed_a E_a (Or.inr ⟨(hw _ (List.mem_of_getElem? (i := 45) rfl)), rfl, hnm⟩) (hw _ (List.mem_of_getElem? (i := 8) rfl)) (ty := .boolean) (v' := (.int (0 : Int32))) (by decide) rfl rfl (g := (mkF m 16 #[.val (.ref a), .val (.ref ru), .val (.ref ke), .val (.int (0 : Int32))] [(.int (0 : Int32)), (.ref a)])) rfl rfl (hb hby d14_16)
  replace E_a := E_a.wr W_37
  replace F_rule_a := F_rule_a.other W_37 (Or.inr (slot_ne (Or.inr (hw _ (List.mem_of_getElem? (i := 41) rfl))) (Or.inr (hw _ (List.mem_of_getElem? (i := 45) rfl))) (by decide) (t := (.object "java/lang/String")) (t' := .boolean) (by decide) (by decide)))
  replace F_key_a := F_key_a.other W_37 (Or.inr (slot_ne (Or.inr (hw _ (List.mem_of_getElem? (i := 43) rfl))) (Or.inr (hw _ (List.mem_of_getElem? (i := 45) rfl))) (by decide) (t := (.object "java/lang/String")) (t' := .boolean) (by decide) (by decide)))
  replace F_limit_a := F_limit_a.other W_37 (Or.inr (slot_ne (Or.inr (hw _ (List.mem_of_getElem? (i := 47) rfl))) (Or.inr (hw _ (List.mem_of_getElem? (i := 45) rfl))) (by decide) (t := .long) (t' := .boolean) (by decide) (by decide)))
  replace F_remaining_a := F_remaining_a.other W_37 (Or.inr (slot_ne (Or.inr (hw _ (List.mem_of_getElem? (i := 49) rfl))) (Or.inr (hw _ (List.mem_of_getElem? (i := 45) rfl))) (by decide) (t := .long) (t' := .boolean) (by decide) (by decide)))
  replace F_reset_a := F_reset_a.other W_37 (Or.inr (slot_ne (Or.inr (hw _ (List.mem_of_getElem? (i := 51) rfl))) (Or.inr (hw _ (List.mem_of_getElem? (i := 45) rfl))) (by decide) (t := .long) (t' := .boolean) (by decide) (by decide)))
  replace F_retryAfter_a := F_retryAfter_a.other W_37 (Or.inr (slot_ne (Or.inr (hw _ (List.mem_of_getElem? (i := 53) rfl))) (Or.inr (hw _ (List.mem_of_getElem? (i := 45) rfl))) (by decide) (t := .long) (t' := .boolean) (by decide) (by decide)))
  replace F_storeAnswered_a := F_storeAnswered_a.other W_37 (Or.inr (slot_ne (Or.inr (hw _ (List.mem_of_getElem? (i := 55) rfl))) (Or.inr (hw _ (List.mem_of_getElem? (i := 45) rfl))) (by decide) (t := .boolean) (t' := .boolean) (by decide) (by decide)))
  replace lt_a := Nat.lt_of_lt_of_le lt_a (Keep.of_wr W_37).1
  replace Zs := Nat.le_trans Zs (Keep.of_wr W_37).1
  replace Kp := Kp.wr W_37 (Or.inl (by simp))
  replace F_allowed_a := F_allowed_a.same W_37
  replace Nf := Fr.snoc X_37 Nf g_a
  refine Win.go st_37 ?_
  clear st_37 W_37 X_36 e_36
  show Win p.tables e below _ (T_37.setTop (mkF m 19 #[.val (.ref a), .val (.ref ru), .val (.ref ke), .val (.int (0 : Int32))] []))
  refine s_aloadN (pc' := 20) X_37.here hx (hb hby d14_19) rfl rfl rfl ?_
  refine s_lconst (pc' := 21) (z := (0 : Int64)) X_37.here hx (hb hby d14_20) rfl rfl ?_
  obtain ⟨T_38, h_38, X_38, e_38, W_38, st_38⟩ := putF X_37 hx hZ hown (host := "") (Or.inl (hw _ (List.mem_of_getElem? (i := 46) rfl))) Via.refl e_37 F_limit_a E_a (Or.inr ⟨(hw _ (List.mem_of_getElem? (i := 47) rfl)), rfl, hnm⟩) (hw _ (List.mem_of_getElem? (i := 8) rfl)) (ty := .long) (by decide) rfl rfl (g := (mkF m 21 #[.val (.ref a), .val (.ref ru), .val (.ref ke), .val (.int (0 : Int32))] [(.long (0 : Int64)), (.ref a)])) rfl rfl (hb hby d14_21)
  replace E_a := E_a.wr W_38
  replace F_rule_a := F_rule_a.other W_38 (Or.inr (slot_ne (Or.inr (hw _ (List.mem_of_getElem? (i := 41) rfl))) (Or.inr (hw _ (List.mem_of_getElem? (i := 47) rfl))) (by decide) (t := (.object "java/lang/String")) (t' := .long) (by decide) (by decide)))
  replace F_key_a := F_key_a.other W_38 (Or.inr (slot_ne (Or.inr (hw _ (List.mem_of_getElem? (i := 43) rfl))) (Or.inr (hw _ (List.mem_of_getElem? (i := 47) rfl))) (by decide) (t := (.object "java/lang/String")) (t' := .long) (by decide) (by decide)))
  replace F_allowed_a := F_allowed_a.other W_38 (Or.inr (slot_ne (Or.inr (hw _ (List.mem_of_getElem? (i := 45) rfl))) (Or.inr (hw _ (List.mem_of_getElem? (i := 47) rfl))) (by decide) (t := .boolean) (t' := .long) (by decide) (by decide)))
  replace F_remaining_a := F_remaining_a.other W_38 (Or.inr (slot_ne (Or.inr (hw _ (List.mem_of_getElem? (i := 49) rfl))) (Or.inr (hw _ (List.mem_of_getElem? (i := 47) rfl))) (by decide) (t := .long) (t' := .long) (by decide) (by decide)))
  replace F_reset_a := F_reset_a.other W_38 (Or.inr (slot_ne (Or.inr (hw _ (List.mem_of_getElem? (i := 51) rfl))) (Or.inr (hw _ (List.mem_of_getElem? (i := 47) rfl))) (by decide) (t := .long) (t' := .long) (by decide) (by decide)))
  replace F_retryAfter_a := F_retryAfter_a.other W_38 (Or.inr (slot_ne (Or.inr (hw _ (List.mem_of_getElem? (i := 53) rfl))) (Or.inr (hw _ (List.mem_of_getElem? (i := 47) rfl))) (by decide) (t := .long) (t' := .long) (by decide) (by decide)))
  replace F_storeAnswered_a := F_storeAnswered_a.other W_38 (Or.inr (slot_ne (Or.inr (hw _ (List.mem_of_getElem? (i := 55) rfl))) (Or.inr (hw _ (List.mem_of_getElem? (i := 47) rfl))) (by decide) (t := .boolean) (t' := .long) (by decide) (by decide)))
  replace lt_a := Nat.lt_of_lt_of_le lt_a (Keep.of_wr W_38).1
  replace Zs := Nat.le_trans Zs (Keep.of_wr W_38).1
  replace Kp := Kp.wr W_38 (Or.inl (by simp))
  replace F_limit_a := F_limit_a.same W_38
  replace Nf := Fr.snoc X_38 Nf g_a
  refine Win.go st_38 ?_
  clear st_38 W_38 X_37 e_37
  show Win p.tables e below _ (T_38.setTop (mkF m 24 #[.val (.ref a), .val (.ref ru), .val (.ref ke), .val (.int (0 : Int32))] []))
  refine s_aloadN (pc' := 25) X_38.here hx (hb hby d14_24) rfl rfl rfl ?_
  refine s_lconst (pc' := 26) (z := (0 : Int64)) X_38.here hx (hb hby d14_25) rfl rfl ?_
  obtain ⟨T_39, h_39, X_39, e_39, W_39, st_39⟩ := putF X_38 hx hZ hown (host := "") (Or.inl (hw _ (List.mem_of_getElem? (i := 48) rfl))) Via.refl e_38 F_remaining_a E_a (Or.inr ⟨(hw _ (List.mem_of_getElem? (i := 49) rfl)), rfl, hnm⟩) (hw _ (List.mem_of_getElem? (i := 8) rfl)) (ty := .long) (by decide) rfl rfl (g := (mkF m 26 #[.val (.ref a), .val (.ref ru), .val (.ref ke), .val (.int (0 : Int32))] [(.long (0 : Int64)), (.ref a)])) rfl rfl (hb hby d14_26)
  replace E_a := E_a.wr W_39
  replace F_rule_a := F_rule_a.other W_39 (Or.inr (slot_ne (Or.inr (hw _ (List.mem_of_getElem? (i := 41) rfl))) (Or.inr (hw _ (List.mem_of_getElem? (i := 49) rfl))) (by decide) (t := (.object "java/lang/String")) (t' := .long) (by decide) (by decide)))
  replace F_key_a := F_key_a.other W_39 (Or.inr (slot_ne (Or.inr (hw _ (List.mem_of_getElem? (i := 43) rfl))) (Or.inr (hw _ (List.mem_of_getElem? (i := 49) rfl))) (by decide) (t := (.object "java/lang/String")) (t' := .long) (by decide) (by decide)))
  replace F_allowed_a := F_allowed_a.other W_39 (Or.inr (slot_ne (Or.inr (hw _ (List.mem_of_getElem? (i := 45) rfl))) (Or.inr (hw _ (List.mem_of_getElem? (i := 49) rfl))) (by decide) (t := .boolean) (t' := .long) (by decide) (by decide)))
  replace F_limit_a := F_limit_a.other W_39 (Or.inr (slot_ne (Or.inr (hw _ (List.mem_of_getElem? (i := 47) rfl))) (Or.inr (hw _ (List.mem_of_getElem? (i := 49) rfl))) (by decide) (t := .long) (t' := .long) (by decide) (by decide)))
  replace F_reset_a := F_reset_a.other W_39 (Or.inr (slot_ne (Or.inr (hw _ (List.mem_of_getElem? (i := 51) rfl))) (Or.inr (hw _ (List.mem_of_getElem? (i := 49) rfl))) (by decide) (t := .long) (t' := .long) (by decide) (by decide)))
  replace F_retryAfter_a := F_retryAfter_a.other W_39 (Or.inr (slot_ne (Or.inr (hw _ (List.mem_of_getElem? (i := 53) rfl))) (Or.inr (hw _ (List.mem_of_getElem? (i := 49) rfl))) (by decide) (t := .long) (t' := .long) (by decide) (by decide)))
  replace F_storeAnswered_a := F_storeAnswered_a.other W_39 (Or.inr (slot_ne (Or.inr (hw _ (List.mem_of_getElem? (i := 55) rfl))) (Or.inr (hw _ (List.mem_of_getElem? (i := 49) rfl))) (by decide) (t := .boolean) (t' := .long) (by decide) (by decide)))
  replace lt_a := Nat.lt_of_lt_of_le lt_a (Keep.of_wr W_39).1
  replace Zs := Nat.le_trans Zs (Keep.of_wr W_39).1
  replace Kp := Kp.wr W_39 (Or.inl (by simp))
  replace F_remaining_a := F_remaining_a.same W_39
  replace Nf := Fr.snoc X_39 Nf g_a
  refine Win.go st_39 ?_
  clear st_39 W_39 X_38 e_38
  show Win p.tables e below _ (T_39.setTop (mkF m 29 #[.val (.ref a), .val (.ref ru), .val (.ref ke), .val (.int (0 : Int32))] []))
  refine s_aloadN (pc' := 30) X_39.here hx (hb hby d14_29) rfl rfl rfl ?_
  refine s_lconst (pc' := 31) (z := (0 : Int64)) X_39.here hx (hb hby d14_30) rfl rfl ?_
  obtain ⟨T_40, h_40, X_40, e_40, W_40, st_40⟩ := putF X_39 hx hZ hown (host := "") (Or.inl (hw _ (List.mem_of_getElem? (i := 50) rfl))) Via.refl e_39 F_reset_a E_a (Or.inr ⟨(hw _ (List.mem_of_getElem? (i := 51) rfl)), rfl, hnm⟩) (hw _ (List.mem_of_getElem? (i := 8) rfl)) (ty := .long) (by decide) rfl rfl (g := (mkF m 31 #[.val (.ref a), .val (.ref ru), .val (.ref ke), .val (.int (0 : Int32))] [(.long (0 : Int64)), (.ref a)])) rfl rfl (hb hby d14_31)
  replace E_a := E_a.wr W_40
  replace F_rule_a := F_rule_a.other W_40 (Or.inr (slot_ne (Or.inr (hw _ (List.mem_of_getElem? (i := 41) rfl))) (Or.inr (hw _ (List.mem_of_getElem? (i := 51) rfl))) (by decide) (t := (.object "java/lang/String")) (t' := .long) (by decide) (by decide)))
  replace F_key_a := F_key_a.other W_40 (Or.inr (slot_ne (Or.inr (hw _ (List.mem_of_getElem? (i := 43) rfl))) (Or.inr (hw _ (List.mem_of_getElem? (i := 51) rfl))) (by decide) (t := (.object "java/lang/String")) (t' := .long) (by decide) (by decide)))
  replace F_allowed_a := F_allowed_a.other W_40 (Or.inr (slot_ne (Or.inr (hw _ (List.mem_of_getElem? (i := 45) rfl))) (Or.inr (hw _ (List.mem_of_getElem? (i := 51) rfl))) (by decide) (t := .boolean) (t' := .long) (by decide) (by decide)))
  replace F_limit_a := F_limit_a.other W_40 (Or.inr (slot_ne (Or.inr (hw _ (List.mem_of_getElem? (i := 47) rfl))) (Or.inr (hw _ (List.mem_of_getElem? (i := 51) rfl))) (by decide) (t := .long) (t' := .long) (by decide) (by decide)))
  replace F_remaining_a := F_remaining_a.other W_40 (Or.inr (slot_ne (Or.inr (hw _ (List.mem_of_getElem? (i := 49) rfl))) (Or.inr (hw _ (List.mem_of_getElem? (i := 51) rfl))) (by decide) (t := .long) (t' := .long) (by decide) (by decide)))
  replace F_retryAfter_a := F_retryAfter_a.other W_40 (Or.inr (slot_ne (Or.inr (hw _ (List.mem_of_getElem? (i := 53) rfl))) (Or.inr (hw _ (List.mem_of_getElem? (i := 51) rfl))) (by decide) (t := .long) (t' := .long) (by decide) (by decide)))
  replace F_storeAnswered_a := F_storeAnswered_a.other W_40 (Or.inr (slot_ne (Or.inr (hw _ (List.mem_of_getElem? (i := 55) rfl))) (Or.inr (hw _ (List.mem_of_getElem? (i := 51) rfl))) (by decide) (t := .boolean) (t' := .long) (by decide) (by decide)))
  replace lt_a := Nat.lt_of_lt_of_le lt_a (Keep.of_wr W_40).1
  replace Zs := Nat.le_trans Zs (Keep.of_wr W_40).1
  replace Kp := Kp.wr W_40 (Or.inl (by simp))
  replace F_reset_a := F_reset_a.same W_40
  replace Nf := Fr.snoc X_40 Nf g_a
  refine Win.go st_40 ?_
  clear st_40 W_40 X_39 e_39
  show Win p.tables e below _ (T_40.setTop (mkF m 34 #[.val (.ref a), .val (.ref ru), .val (.ref ke), .val (.int (0 : Int32))] []))
  refine s_aloadN (pc' := 35) X_40.here hx (hb hby d14_34) rfl rfl rfl ?_
  refine s_iloadN (pc' := 36) X_40.here hx (hb hby d14_35) rfl rfl ?_
  refine s_ifYes (pc' := 43) X_40.here hx (hb hby d14_36) ((if0 _ _).trans (teqI (x := (0 : Int32)) (y := (0 : Int32)) (by decide)).1) (by decide) (by decide) ?_
  refine s_lconst (pc' := 44) (z := (1 : Int64)) X_40.here hx (hb hby d14_43) rfl rfl ?_
  obtain ⟨T_41, h_41, X_41, e_41, W_41, st_41⟩ := putF X_40 hx hZ hown (host := "") (Or.inl (hw _ (List.mem_of_getElem? (i := 52) rfl))) Via.refl e_40 F_retryAfter_a E_a (Or.inr ⟨(hw _ (List.mem_of_getElem? (i := 53) rfl)), rfl, hnm⟩) (hw _ (List.mem_of_getElem? (i := 8) rfl)) (ty := .long) (by decide) rfl rfl (g := (mkF m 44 #[.val (.ref a), .val (.ref ru), .val (.ref ke), .val (.int (0 : Int32))] [(.long (1 : Int64)), (.ref a)])) rfl rfl (hb hby d14_44)
  replace E_a := E_a.wr W_41
  replace F_rule_a := F_rule_a.other W_41 (Or.inr (slot_ne (Or.inr (hw _ (List.mem_of_getElem? (i := 41) rfl))) (Or.inr (hw _ (List.mem_of_getElem? (i := 53) rfl))) (by decide) (t := (.object "java/lang/String")) (t' := .long) (by decide) (by decide)))
  replace F_key_a := F_key_a.other W_41 (Or.inr (slot_ne (Or.inr (hw _ (List.mem_of_getElem? (i := 43) rfl))) (Or.inr (hw _ (List.mem_of_getElem? (i := 53) rfl))) (by decide) (t := (.object "java/lang/String")) (t' := .long) (by decide) (by decide)))
  replace F_allowed_a := F_allowed_a.other W_41 (Or.inr (slot_ne (Or.inr (hw _ (List.mem_of_getElem? (i := 45) rfl))) (Or.inr (hw _ (List.mem_of_getElem? (i := 53) rfl))) (by decide) (t := .boolean) (t' := .long) (by decide) (by decide)))
  replace F_limit_a := F_limit_a.other W_41 (Or.inr (slot_ne (Or.inr (hw _ (List.mem_of_getElem? (i := 47) rfl))) (Or.inr (hw _ (List.mem_of_getElem? (i := 53) rfl))) (by decide) (t := .long) (t' := .long) (by decide) (by decide)))
  replace F_remaining_a := F_remaining_a.other W_41 (Or.inr (slot_ne (Or.inr (hw _ (List.mem_of_getElem? (i := 49) rfl))) (Or.inr (hw _ (List.mem_of_getElem? (i := 53) rfl))) (by decide) (t := .long) (t' := .long) (by decide) (by decide)))
  replace F_reset_a := F_reset_a.other W_41 (Or.inr (slot_ne (Or.inr (hw _ (List.mem_of_getElem? (i := 51) rfl))) (Or.inr (hw _ (List.mem_of_getElem? (i := 53) rfl))) (by decide) (t := .long) (t' := .long) (by decide) (by decide)))
  replace F_storeAnswered_a := F_storeAnswered_a.other W_41 (Or.inr (slot_ne (Or.inr (hw _ (List.mem_of_getElem? (i := 55) rfl))) (Or.inr (hw _ (List.mem_of_getElem? (i := 53) rfl))) (by decide) (t := .boolean) (t' := .long) (by decide) (by decide)))
  replace lt_a := Nat.lt_of_lt_of_le lt_a (Keep.of_wr W_41).1
  replace Zs := Nat.le_trans Zs (Keep.of_wr W_41).1
  replace Kp := Kp.wr W_41 (Or.inl (by simp))
  replace F_retryAfter_a := F_retryAfter_a.same W_41
  replace Nf := Fr.snoc X_41 Nf g_a
  refine Win.go st_41 ?_
  clear st_41 W_41 X_40 e_40
  show Win p.tables e below _ (T_41.setTop (mkF m 47 #[.val (.ref a), .val (.ref ru), .val (.ref ke), .val (.int (0 : Int32))] []))
  refine s_aloadN (pc' := 48) X_41.here hx (hb hby d14_47) rfl rfl rfl ?_
  refine s_iconst (pc' := 49) (z := (0 : Int32)) X_41.here hx (hb hby d14_48) rfl rfl ?_
  obtain ⟨T_42, h_42, X_42, e_42, W_42, st_42⟩ := putFN X_41 hx hZ hown (hw _ (List.mem_of_getElem? (i := 54) rfl)) Via.refl e_41 F_storeAnswered_a E_a (Or.inr ⟨(hw _ (List.mem_of_getElem? (i := 55) rfl)), rfl, hnm⟩) (hw _ (List.mem_of_getElem? (i := 8) rfl)) (ty := .boolean) (v' := (.int (0 : Int32))) (by decide) rfl rfl (g := (mkF m 49 #[.val (.ref a), .val (.ref ru), .val (.ref ke), .val (.int (0 : Int32))] [(.int (0 : Int32)), (.ref a)])) rfl rfl (hb hby d14_49)
  replace E_a := E_a.wr W_42
  replace F_rule_a := F_rule_a.other W_42 (Or.inr (slot_ne (Or.inr (hw _ (List.mem_of_getElem? (i := 41) rfl))) (Or.inr (hw _ (List.mem_of_getElem? (i := 55) rfl))) (by decide) (t := (.object "java/lang/String")) (t' := .boolean) (by decide) (by decide)))
  replace F_key_a := F_key_a.other W_42 (Or.inr (slot_ne (Or.inr (hw _ (List.mem_of_getElem? (i := 43) rfl))) (Or.inr (hw _ (List.mem_of_getElem? (i := 55) rfl))) (by decide) (t := (.object "java/lang/String")) (t' := .boolean) (by decide) (by decide)))
  replace F_allowed_a := F_allowed_a.other W_42 (Or.inr (slot_ne (Or.inr (hw _ (List.mem_of_getElem? (i := 45) rfl))) (Or.inr (hw _ (List.mem_of_getElem? (i := 55) rfl))) (by decide) (t := .boolean) (t' := .boolean) (by decide) (by decide)))
  replace F_limit_a := F_limit_a.other W_42 (Or.inr (slot_ne (Or.inr (hw _ (List.mem_of_getElem? (i := 47) rfl))) (Or.inr (hw _ (List.mem_of_getElem? (i := 55) rfl))) (by decide) (t := .long) (t' := .boolean) (by decide) (by decide)))
  replace F_remaining_a := F_remaining_a.other W_42 (Or.inr (slot_ne (Or.inr (hw _ (List.mem_of_getElem? (i := 49) rfl))) (Or.inr (hw _ (List.mem_of_getElem? (i := 55) rfl))) (by decide) (t := .long) (t' := .boolean) (by decide) (by decide)))
  replace F_reset_a := F_reset_a.other W_42 (Or.inr (slot_ne (Or.inr (hw _ (List.mem_of_getElem? (i := 51) rfl))) (Or.inr (hw _ (List.mem_of_getElem? (i := 55) rfl))) (by decide) (t := .long) (t' := .boolean) (by decide) (by decide)))
  replace F_retryAfter_a := F_retryAfter_a.other W_42 (Or.inr (slot_ne (Or.inr (hw _ (List.mem_of_getElem? (i := 53) rfl))) (Or.inr (hw _ (List.mem_of_getElem? (i := 55) rfl))) (by decide) (t := .long) (t' := .boolean) (by decide) (by decide)))
  replace lt_a := Nat.lt_of_lt_of_le lt_a (Keep.of_wr W_42).1
  replace Zs := Nat.le_trans Zs (Keep.of_wr W_42).1
  replace Kp := Kp.wr W_42 (Or.inl (by simp))
  replace F_storeAnswered_a := F_storeAnswered_a.same W_42
  replace Nf := Fr.snoc X_42 Nf g_a
  refine Win.go st_42 ?_
  clear st_42 W_42 X_41 e_41
  show Win p.tables e below _ (T_42.setTop (mkF m 52 #[.val (.ref a), .val (.ref ru), .val (.ref ke), .val (.int (0 : Int32))] []))
  refine winV X_42 hx hlk e_42 Bd.returns (hb hby d14_52) (by decide) (by decide) ?_
  exact ⟨Nf, Kp, F_rule_a, F_key_a, F_allowed_a, F_limit_a, F_remaining_a, F_reset_a, F_retryAfter_a, F_storeAnswered_a, rfl⟩
theorem d13_0 : decode prog_20_method_4_code 0 = .ok (.aload_n 0, 1) := by decide +kernel
theorem d13_1 : decode prog_20_method_4_code 1 = .ok (.getfield 29, 3) := by decide +kernel
theorem d13_4 : decode prog_20_method_4_code 4 = .ok (.ireturn, 1) := by decide +kernel
theorem pn_13 : plainName "com/example/throttle/throttle/OnStoreFailure" = true := by first | (simp [plainName, overriddenIn]; done) | decide +kernel
theorem ef_13_0 (m : MethodId) (u : Addr) : entryFrame m #[(.ref u)] 1 = mkF m 0 #[.val (.ref u)] [] := by first | (simp [entryFrame, mkF, argsToLocals, Value.category]; done) | rfl
def Q13_0 (Z : State) (u : Addr) (h0 : Heap) (n0 : Nat) (v : Option Value) (h : Heap) (L : List Loc) : Prop := Fr n0 L ∧ h = h0 ∧ v = some (.int (0 : Int32))
set_option maxRecDepth 65536 in
set_option maxHeartbeats 40000000 in
theorem rm13_0 (l : Launch) (Z : State) (a0 : Array Value) (hw : ∀ d ∈ tables_1, d.before a0 Z = true) (ws : List Jvm.Cond) (u : Addr) (h0 : Heap) (n0 : Nat) (Zs : n0 ≤ h0.size) (F_allows_u : Fld Z h0 u "com/example/throttle/throttle/OnStoreFailure" "allows" "Z" (.int (0 : Int32))) :
    MetFree l (⟨"com/example/throttle/throttle/OnStoreFailure", "allows", "()Z"⟩ : MethodName) (head1 (Jvm.Cond.code (⟨"com/example/throttle/throttle/OnStoreFailure", "allows", "()Z"⟩ : MethodName) prog_20_method_4_code 1 (some .boolean) :: ws) ({ frames := 0, cells := 0, slots := 0, locals := 0 } : Room)) (fun as' U => as' = #[(.ref u)] ∧ Z.Warmed39 U.vm ∧ U.heap = h0) (fun _ _ _ _ _ => True) (fun _ U o U' => ∃ v L, o = .returned v ∧ Q13_0 Z u h0 n0 v U'.heap L ∧ FrameEnd U o U' L ({ frames := 0, cells := 0, slots := 0, locals := 0 } : Room).cells ({ frames := 0, cells := 0, slots := 0, locals := 0 } : Room).slots) := by
  refine MetFree.of_bodySF (plainFor_of_name pn_13) hisR ?_
  intro p e s m args below meth c s₁ Bd hml0 hP hK
  obtain ⟨rfl, hZ, hh⟩ := hP
  have hx := Bd.exec
  have hby := Bd.bytes
  have hml : c.maxLocals = 1 := hml0
  have hown : s.vm.findClass "com/example/throttle/throttle/OnStoreFailure" = some m.cls := findClass_of_methodNamed Bd.named
  have hnm := (name_of_methodNamed Bd.named Bd.method).1
  have hlk : meth.locks = false := Bd.notSynchronized
  have X0 : Stand p l e ({ frames := 0, cells := 0, slots := 0, locals := 0 } : Room) s m #[(.ref u)] below meth c s₁ [] 0 0 := Stand.of_body Bd
  have e0 : s₁.heap = h0 := by rw [← hh, Bd.state]; rfl
  have Nf := Fr.nil n0
  refine (?_ : Win p.tables e below (PostQ s (Q13_0 Z u h0 n0) ({ frames := 0, cells := 0, slots := 0, locals := 0 } : Room).cells ({ frames := 0, cells := 0, slots := 0, locals := 0 } : Room).slots) (s₁.setTop (entryFrame m #[(.ref u)] 1)))
  rw [ef_13_0]
  have lt_u : u < h0.size := F_allows_u.lt
  show Win p.tables e below _ (s₁.setTop (mkF m 0 #[.val (.ref u)] []))
  refine s_aloadN (pc' := 1) X0.here hx (hb hby d13_0) rfl rfl rfl ?_
  obtain ⟨T_43, X_43, e_43, st_43⟩ := getF X0 hx hZ hown (host := "") (Or.inl (hw _ (List.mem_of_getElem? (i := 84) rfl))) Via.refl e0 F_allows_u (g := (mkF m 1 #[.val (.ref u)] [(.ref u)])) rfl rfl (hb hby d13_1)
  refine Win.go st_43 ?_
  clear st_43 X0 e0
  show Win p.tables e below _ (T_43.setTop (mkF m 4 #[.val (.ref u)] [(.int (0 : Int32))]))
  refine winN X_43 hx hlk e_43 (t := .boolean) Bd.returns (by simp) (hb hby d13_4) (by decide) (by decide) (z' := (0 : Int32)) rfl ?_
  exact ⟨Nf, rfl, rfl⟩
theorem d12_0 : decode prog_7_method_5_code 0 = .ok (.new 8, 3) := by decide +kernel
theorem d12_3 : decode prog_7_method_5_code 3 = .ok (.dup, 1) := by decide +kernel
theorem d12_4 : decode prog_7_method_5_code 4 = .ok (.aload_n 0, 1) := by decide +kernel
theorem d12_5 : decode prog_7_method_5_code 5 = .ok (.aload_n 1, 1) := by decide +kernel
theorem d12_6 : decode prog_7_method_5_code 6 = .ok (.aload_n 2, 1) := by decide +kernel
theorem d12_7 : decode prog_7_method_5_code 7 = .ok (.invokevirtual 45, 3) := by decide +kernel
theorem d12_10 : decode prog_7_method_5_code 10 = .ok (.invokespecial 51, 3) := by decide +kernel
theorem d12_13 : decode prog_7_method_5_code 13 = .ok (.areturn, 1) := by decide +kernel
theorem pd_4 : parseMethodDescriptor "()Z" = some ⟨[], some .boolean⟩ := by decide +kernel
theorem pd_5 : parseMethodDescriptor "(Ljava/lang/String;Ljava/lang/String;Z)V" = some ⟨[(.object "java/lang/String"), (.object "java/lang/String"), .boolean], none⟩ := by decide +kernel
theorem ef_12_0 (m : MethodId) (ru : Addr) (ke : Addr) (u : Addr) : entryFrame m #[(.ref ru), (.ref ke), (.ref u)] 3 = mkF m 0 #[.val (.ref ru), .val (.ref ke), .val (.ref u)] [] := by first | (simp [entryFrame, mkF, argsToLocals, Value.category]; done) | rfl
def Q12_0 (Z : State) (ru : Addr) (ke : Addr) (u : Addr) (h0 : Heap) (n0 : Nat) (v : Option Value) (h : Heap) (L : List Loc) : Prop := Fr n0 L ∧ Keep h0 h [] ∧ (∃ (dd : Addr) , v = some (.ref dd) ∧ n0 ≤ dd ∧ h0.size ≤ dd ∧ Exa Z h dd "com/example/throttle/throttle/Decision" ∧ Fld Z h dd "com/example/throttle/throttle/Decision" "rule" "Ljava/lang/String;" (.ref ru) ∧ Fld Z h dd "com/example/throttle/throttle/Decision" "key" "Ljava/lang/String;" (.ref ke) ∧ Fld Z h dd "com/example/throttle/throttle/Decision" "allowed" "Z" (.int (0 : Int32)) ∧ Fld Z h dd "com/example/throttle/throttle/Decision" "limit" "J" (.long (0 : Int64)) ∧ Fld Z h dd "com/example/throttle/throttle/Decision" "remaining" "J" (.long (0 : Int64)) ∧ Fld Z h dd "com/example/throttle/throttle/Decision" "reset" "J" (.long (0 : Int64)) ∧ Fld Z h dd "com/example/throttle/throttle/Decision" "retryAfter" "J" (.long (1 : Int64)) ∧ Fld Z h dd "com/example/throttle/throttle/Decision" "storeAnswered" "Z" (.int (0 : Int32)))
set_option maxRecDepth 65536 in
set_option maxHeartbeats 40000000 in
theorem rm12_0 (l : Launch) (Z : State) (a0 : Array Value) (hw : ∀ d ∈ tables_1, d.before a0 Z = true) (ws : List Jvm.Cond) (ru : Addr) (ke : Addr) (u : Addr) (h0 : Heap) (n0 : Nat) (Zs : n0 ≤ h0.size) (E_u : Exa Z h0 u "com/example/throttle/throttle/OnStoreFailure") (F_allows_u : Fld Z h0 u "com/example/throttle/throttle/OnStoreFailure" "allows" "Z" (.int (0 : Int32))) :
    MetFree l (⟨"com/example/throttle/throttle/Decision", "onStoreFailure", "(Ljava/lang/String;Ljava/lang/String;Lcom/example/throttle/throttle/OnStoreFailure;)Lcom/example/throttle/throttle/Decision;"⟩ : MethodName) (head1 (Jvm.Cond.code (⟨"com/example/throttle/throttle/Decision", "onStoreFailure", "(Ljava/lang/String;Ljava/lang/String;Lcom/example/throttle/throttle/OnStoreFailure;)Lcom/example/throttle/throttle/Decision;"⟩ : MethodName) prog_7_method_5_code 3 (some (.object "com/example/throttle/throttle/Decision")) :: ws) ({ frames := 2, cells := 1, slots := 8, locals := 28 } : Room)) (fun as' U => as' = #[(.ref ru), (.ref ke), (.ref u)] ∧ Z.Warmed39 U.vm ∧ U.heap = h0) (fun _ _ _ _ _ => True) (fun _ U o U' => ∃ v L, o = .returned v ∧ Q12_0 Z ru ke u h0 n0 v U'.heap L ∧ FrameEnd U o U' L ({ frames := 2, cells := 1, slots := 8, locals := 28 } : Room).cells ({ frames := 2, cells := 1, slots := 8, locals := 28 } : Room).slots) := by
  refine MetFree.of_bodySF (plainFor_of_name pn_8) hisR ?_
  intro p e s m args below meth c s₁ Bd hml0 hP hK
  obtain ⟨rfl, hZ, hh⟩ := hP
  have hx := Bd.exec
  have hby := Bd.bytes
  have hml : c.maxLocals = 3 := hml0
  have hown : s.vm.findClass "com/example/throttle/throttle/Decision" = some m.cls := findClass_of_methodNamed Bd.named
  have hnm := (name_of_methodNamed Bd.named Bd.method).1
  have hlk : meth.locks = false := Bd.notSynchronized
  have X0 : Stand p l e ({ frames := 2, cells := 1, slots := 8, locals := 28 } : Room) s m #[(.ref ru), (.ref ke), (.ref u)] below meth c s₁ [] 0 0 := Stand.of_body Bd
  have e0 : s₁.heap = h0 := by rw [← hh, Bd.state]; rfl
  have Nf := Fr.nil n0
  refine (?_ : Win p.tables e below (PostQ s (Q12_0 Z ru ke u h0 n0) ({ frames := 2, cells := 1, slots := 8, locals := 28 } : Room).cells ({ frames := 2, cells := 1, slots := 8, locals := 28 } : Room).slots) (s₁.setTop (entryFrame m #[(.ref ru), (.ref ke), (.ref u)] 3)))
  rw [ef_12_0]
  have Kp : Keep h0 h0 [] := Keep.refl h0 _
  have lt_u : u < h0.size := E_u.lt
  show Win p.tables e below _ (s₁.setTop (mkF m 0 #[.val (.ref ru), .val (.ref ke), .val (.ref u)] []))
  obtain ⟨T_44, h_44, X_44, e_44, Ex_44, A_44, D_44, -, st_44⟩ := newO X0 hx hZ hown (hw _ (List.mem_of_getElem? (i := 61) rfl)) (hw _ (List.mem_of_getElem? (i := 8) rfl)) (hw _ (List.mem_of_getElem? (i := 9) rfl)) e0 (g := (mkF m 0 #[.val (.ref ru), .val (.ref ke), .val (.ref u)] [])) rfl (hb hby d12_0) (by decide) (by decide)
  obtain ⟨b_44, g_44⟩ : ∃ z, z = h0.size := ⟨_, rfl⟩
  have ne_u_b_44 : u ≠ b_44 := Nat.ne_of_lt (Nat.lt_of_lt_of_le lt_u (Nat.le_of_eq g_44.symm))
  have g_b_44 : n0 ≤ b_44 := Nat.le_trans Zs (Nat.le_of_eq g_44.symm)
  have sz_b_44 : h0.size ≤ b_44 := Nat.le_trans Kp.1 (Nat.le_of_eq g_44.symm)
  rw [← g_44] at A_44 D_44 st_44
  replace E_u := E_u.ext Ex_44
  replace F_allows_u := F_allows_u.ext Ex_44
  replace lt_u := Nat.lt_of_lt_of_le lt_u Ex_44.1
  replace Zs := Nat.le_trans Zs Ex_44.1
  replace Kp := Kp.ext Ex_44
  have E_b_44 := A_44
  have lt_b_44 := E_b_44.lt
  have F_rule_b_44 : Fld Z h_44 b_44 "com/example/throttle/throttle/Decision" "rule" "Ljava/lang/String;" .null := D_44 (Or.inr (hw _ (List.mem_of_getElem? (i := 41) rfl))) (ty := (.object "java/lang/String")) (by decide)
  have F_key_b_44 : Fld Z h_44 b_44 "com/example/throttle/throttle/Decision" "key" "Ljava/lang/String;" .null := D_44 (Or.inr (hw _ (List.mem_of_getElem? (i := 43) rfl))) (ty := (.object "java/lang/String")) (by decide)
  have F_allowed_b_44 : Fld Z h_44 b_44 "com/example/throttle/throttle/Decision" "allowed" "Z" (.int (0 : Int32)) := D_44 (Or.inr (hw _ (List.mem_of_getElem? (i := 45) rfl))) (ty := .boolean) (by decide)
  have F_limit_b_44 : Fld Z h_44 b_44 "com/example/throttle/throttle/Decision" "limit" "J" (.long (0 : Int64)) := D_44 (Or.inr (hw _ (List.mem_of_getElem? (i := 47) rfl))) (ty := .long) (by decide)
  have F_remaining_b_44 : Fld Z h_44 b_44 "com/example/throttle/throttle/Decision" "remaining" "J" (.long (0 : Int64)) := D_44 (Or.inr (hw _ (List.mem_of_getElem? (i := 49) rfl))) (ty := .long) (by decide)
  have F_reset_b_44 : Fld Z h_44 b_44 "com/example/throttle/throttle/Decision" "reset" "J" (.long (0 : Int64)) := D_44 (Or.inr (hw _ (List.mem_of_getElem? (i := 51) rfl))) (ty := .long) (by decide)
  have F_retryAfter_b_44 : Fld Z h_44 b_44 "com/example/throttle/throttle/Decision" "retryAfter" "J" (.long (0 : Int64)) := D_44 (Or.inr (hw _ (List.mem_of_getElem? (i := 53) rfl))) (ty := .long) (by decide)
  have F_storeAnswered_b_44 : Fld Z h_44 b_44 "com/example/throttle/throttle/Decision" "storeAnswered" "Z" (.int (0 : Int32)) := D_44 (Or.inr (hw _ (List.mem_of_getElem? (i := 55) rfl))) (ty := .boolean) (by decide)
  refine Win.go st_44 ?_
  clear st_44 Ex_44 A_44 D_44 g_44 X0 e0
  show Win p.tables e below _ (T_44.setTop (mkF m 3 #[.val (.ref ru), .val (.ref ke), .val (.ref u)] [(.ref b_44)]))
  refine s_dup (pc' := 4) X_44.here hx (hb hby d12_3) rfl rfl ?_
  refine s_aloadN (pc' := 5) X_44.here hx (hb hby d12_4) rfl rfl rfl ?_
  refine s_aloadN (pc' := 6) X_44.here hx (hb hby d12_5) rfl rfl rfl ?_
  refine s_aloadN (pc' := 7) X_44.here hx (hb hby d12_6) rfl rfl rfl ?_
  obtain ⟨cq_45, kq_45, q_45a, q_45b, q_45c⟩ := isOf hZ e_44 E_u
  obtain ⟨_, _, ⟨T_45, L_45, k_45, n_45⟩, -, X_45, ⟨Lc_45, hQ_45, l_45, y_45, z_45⟩, st_45⟩ := X_44.virtualBack hx (y := (⟨"com/example/throttle/throttle/OnStoreFailure", "allows", "()Z"⟩ : MethodName)) (z := (⟨"com/example/throttle/throttle/OnStoreFailure", "allows", "()Z"⟩ : MethodName)) hown (mvT hZ (hw _ (List.mem_of_getElem? (i := 79) rfl))) (mvT hZ (hw _ (List.mem_of_getElem? (i := 80) rfl))) (notFace_of_selects (args := #[]) (mvT hZ (hw _ (List.mem_of_getElem? (i := 82) rfl)))) (mvT hZ (hw _ (List.mem_of_getElem? (i := 82) rfl))) (mvT hZ (hw _ (List.mem_of_getElem? (i := 81) rfl))) (by decide) (backOf (W := 4) (rm13_0 l Z a0 hw [] u h_44 n0 Zs F_allows_u) hZ (hw _ (List.mem_of_getElem? (i := 83) rfl)) (hw _ (List.mem_of_getElem? (i := 74) rfl)) (by decide) (by decide)) q_45a q_45c (g := (mkF m 7 #[.val (.ref ru), .val (.ref ke), .val (.ref u)] [(.ref u), (.ref ke), (.ref ru), (.ref b_44), (.ref b_44)])) rfl (by rw [hml]; rfl) (Steps.refl _) (argsL := []) (rest := [(.ref ke), (.ref ru), (.ref b_44), (.ref b_44)]) (lenOf pd_4 rfl) rfl (by show 2 * 0 + _ ≤ _; exact Nat.le_of_eq rfl) (hb hby d12_7) (fun _ _ => ⟨rfl, e_44, (by decide : 1 + 0 ≤ _), (by decide : 8 + 0 ≤ _)⟩)
  dsimp only [Pt.U, Pt.locs, Pt.cells, Pt.slots, Nat.add_zero] at X_45 l_45 y_45 z_45 st_45 hQ_45
  subst y_45 z_45
  obtain ⟨Nq_45, e_45, rfl⟩ := hQ_45
  replace Nf := own_frEq l_45 (Fr.app Nf Nq_45)
  clear l_45
  refine Win.come st_45 ?_
  clear st_45 Nq_45 X_44 e_44
  show Win p.tables e below _ (T_45.setTop (mkF m 10 #[.val (.ref ru), .val (.ref ke), .val (.ref u)] [(.int (0 : Int32)), (.ref ke), (.ref ru), (.ref b_44), (.ref b_44)]))
  obtain ⟨_, _, ⟨T_46, L_46, k_46, n_46⟩, -, X_46, ⟨Lc_46, hQ_46, l_46, y_46, z_46⟩, st_46⟩ := X_45.specialBack hx (y := (⟨"com/example/throttle/throttle/Decision", "<init>", "(Ljava/lang/String;Ljava/lang/String;Z)V"⟩ : MethodName)) rfl hown (mvT hZ (hw _ (List.mem_of_getElem? (i := 86) rfl))) (mvT hZ (hw _ (List.mem_of_getElem? (i := 87) rfl))) (mvT hZ (hw _ (List.mem_of_getElem? (i := 88) rfl))) (by decide) (backOf (W := 1) (rm14_0 l Z a0 hw [] b_44 ru ke h_44 n0 Zs E_b_44 F_rule_b_44 F_key_b_44 F_allowed_b_44 F_limit_b_44 F_remaining_b_44 F_reset_b_44 F_retryAfter_b_44 F_storeAnswered_b_44 g_b_44) hZ (hw _ (List.mem_of_getElem? (i := 88) rfl)) (hw _ (List.mem_of_getElem? (i := 9) rfl)) (by decide) (by decide)) (g := (mkF m 10 #[.val (.ref ru), .val (.ref ke), .val (.ref u)] [(.int (0 : Int32)), (.ref ke), (.ref ru), (.ref b_44), (.ref b_44)])) rfl (by rw [hml]; rfl) (Steps.refl _) (a := b_44) (argsL := [(.ref ru), (.ref ke), (.int (0 : Int32))]) (rest := [(.ref b_44)]) (lenOf pd_5 rfl) rfl (by show 2 * 0 + _ ≤ _; exact Nat.le_of_eq rfl) (hb hby d12_10) (fun _ _ => ⟨rfl, e_45, (by decide : 1 + 0 ≤ _), (by decide : 8 + 0 ≤ _)⟩)
  dsimp only [Pt.U, Pt.locs, Pt.cells, Pt.slots, Nat.add_zero] at X_46 l_46 y_46 z_46 st_46 hQ_46
  subst y_46 z_46
  obtain ⟨h_46, e_46⟩ : ∃ z, T_46.heap = z := ⟨_, rfl⟩
  rw [e_46] at hQ_46
  obtain ⟨Nq_46, K_46, n_46_F_rule_b_44, n_46_F_key_b_44, n_46_F_allowed_b_44, n_46_F_limit_b_44, n_46_F_remaining_b_44, n_46_F_reset_b_44, n_46_F_retryAfter_b_44, n_46_F_storeAnswered_b_44, rfl⟩ := hQ_46
  replace Nf := own_frEq l_46 (Fr.app Nf Nq_46)
  clear l_46
  replace E_u := E_u.keep K_46
  replace F_allows_u := F_allows_u.keep K_46 (ninS ne_u_b_44 nin0)
  replace E_b_44 := E_b_44.keep K_46
  clear F_rule_b_44
  clear F_key_b_44
  clear F_allowed_b_44
  clear F_limit_b_44
  clear F_remaining_b_44
  clear F_reset_b_44
  clear F_retryAfter_b_44
  clear F_storeAnswered_b_44
  replace lt_u := Nat.lt_of_lt_of_le lt_u K_46.1
  replace lt_b_44 := Nat.lt_of_lt_of_le lt_b_44 K_46.1
  replace Zs := Nat.le_trans Zs K_46.1
  replace Kp := Kp.trans K_46 (allS (Or.inr sz_b_44) all0)
  have F_rule_b_44 := n_46_F_rule_b_44
  have F_key_b_44 := n_46_F_key_b_44
  have F_allowed_b_44 := n_46_F_allowed_b_44
  have F_limit_b_44 := n_46_F_limit_b_44
  have F_remaining_b_44 := n_46_F_remaining_b_44
  have F_reset_b_44 := n_46_F_reset_b_44
  have F_retryAfter_b_44 := n_46_F_retryAfter_b_44
  have F_storeAnswered_b_44 := n_46_F_storeAnswered_b_44
  refine Win.come st_46 ?_
  clear st_46 Nq_46 X_45 e_45 K_46
  show Win p.tables e below _ (T_46.setTop (mkF m 13 #[.val (.ref ru), .val (.ref ke), .val (.ref u)] [(.ref b_44)]))
  refine winA X_46 hx hlk e_46 Bd.returns rfl rfl (hb hby d12_13) (by decide) (by decide) ?_
  exact ⟨Nf, Kp, b_44, rfl, g_b_44, sz_b_44, E_b_44, F_rule_b_44, F_key_b_44, F_allowed_b_44, F_limit_b_44, F_remaining_b_44, F_reset_b_44, F_retryAfter_b_44, F_storeAnswered_b_44⟩
theorem d14_39 : decode prog_7_method_4_code 39 = .ok (.lconst 0, 1) := by decide +kernel
theorem d14_40 : decode prog_7_method_4_code 40 = .ok (.goto 4, 3) := by decide +kernel
theorem ef_14_1 (m : MethodId) (a : Addr) (ru : Addr) (ke : Addr) : entryFrame m #[(.ref a), (.ref ru), (.ref ke), (.int (1 : Int32))] 4 = mkF m 0 #[.val (.ref a), .val (.ref ru), .val (.ref ke), .val (.int (1 : Int32))] [] := by first | (simp [entryFrame, mkF, argsToLocals, Value.category]; done) | rfl
def Q14_1 (Z : State) (a : Addr) (ru : Addr) (ke : Addr) (h0 : Heap) (n0 : Nat) (v : Option Value) (h : Heap) (L : List Loc) : Prop := Fr n0 L ∧ Keep h0 h [a] ∧ Fld Z h a "com/example/throttle/throttle/Decision" "rule" "Ljava/lang/String;" (.ref ru) ∧ Fld Z h a "com/example/throttle/throttle/Decision" "key" "Ljava/lang/String;" (.ref ke) ∧ Fld Z h a "com/example/throttle/throttle/Decision" "allowed" "Z" (.int (1 : Int32)) ∧ Fld Z h a "com/example/throttle/throttle/Decision" "limit" "J" (.long (0 : Int64)) ∧ Fld Z h a "com/example/throttle/throttle/Decision" "remaining" "J" (.long (0 : Int64)) ∧ Fld Z h a "com/example/throttle/throttle/Decision" "reset" "J" (.long (0 : Int64)) ∧ Fld Z h a "com/example/throttle/throttle/Decision" "retryAfter" "J" (.long (0 : Int64)) ∧ Fld Z h a "com/example/throttle/throttle/Decision" "storeAnswered" "Z" (.int (0 : Int32)) ∧ v = none
set_option maxRecDepth 65536 in
set_option maxHeartbeats 40000000 in
theorem rm14_1 (l : Launch) (Z : State) (a0 : Array Value) (hw : ∀ d ∈ tables_1, d.before a0 Z = true) (ws : List Jvm.Cond) (a : Addr) (ru : Addr) (ke : Addr) (h0 : Heap) (n0 : Nat) (Zs : n0 ≤ h0.size) (E_a : Exa Z h0 a "com/example/throttle/throttle/Decision") (F_rule_a : Fld Z h0 a "com/example/throttle/throttle/Decision" "rule" "Ljava/lang/String;" .null) (F_key_a : Fld Z h0 a "com/example/throttle/throttle/Decision" "key" "Ljava/lang/String;" .null) (F_allowed_a : Fld Z h0 a "com/example/throttle/throttle/Decision" "allowed" "Z" (.int (0 : Int32))) (F_limit_a : Fld Z h0 a "com/example/throttle/throttle/Decision" "limit" "J" (.long (0 : Int64))) (F_remaining_a : Fld Z h0 a "com/example/throttle/throttle/Decision" "remaining" "J" (.long (0 : Int64))) (F_reset_a : Fld Z h0 a "com/example/throttle/throttle/Decision" "reset" "J" (.long (0 : Int64))) (F_retryAfter_a : Fld Z h0 a "com/example/throttle/throttle/Decision" "retryAfter" "J" (.long (0 : Int64))) (F_storeAnswered_a : Fld Z h0 a "com/example/throttle/throttle/Decision" "storeAnswered" "Z" (.int (0 : Int32))) (g_a : n0 ≤ a) :
    MetFree l (⟨"com/example/throttle/throttle/Decision", "<init>", "(Ljava/lang/String;Ljava/lang/String;Z)V"⟩ : MethodName) (head1 (Jvm.Cond.code (⟨"com/example/throttle/throttle/Decision", "<init>", "(Ljava/lang/String;Ljava/lang/String;Z)V"⟩ : MethodName) prog_7_method_4_code 4 none :: ws) ({ frames := 1, cells := 0, slots := 0, locals := 12 } : Room)) (fun as' U => as' = #[(.ref a), (.ref ru), (.ref ke), (.int (1 : Int32))] ∧ Z.Warmed39 U.vm ∧ U.heap = h0) (fun _ _ _ _ _ => True) (fun _ U o U' => ∃ v L, o = .returned v ∧ Q14_1 Z a ru ke h0 n0 v U'.heap L ∧ FrameEnd U o U' L ({ frames := 1, cells := 0, slots := 0, locals := 12 } : Room).cells ({ frames := 1, cells := 0, slots := 0, locals := 12 } : Room).slots) := by
  refine MetFree.of_bodySF (plainFor_of_name pn_8) hisR ?_
  intro p e s m args below meth c s₁ Bd hml0 hP hK
  obtain ⟨rfl, hZ, hh⟩ := hP
  have hx := Bd.exec
  have hby := Bd.bytes
  have hml : c.maxLocals = 4 := hml0
  have hown : s.vm.findClass "com/example/throttle/throttle/Decision" = some m.cls := findClass_of_methodNamed Bd.named
  have hnm := (name_of_methodNamed Bd.named Bd.method).1
  have hlk : meth.locks = false := Bd.notSynchronized
  have X0 : Stand p l e ({ frames := 1, cells := 0, slots := 0, locals := 12 } : Room) s m #[(.ref a), (.ref ru), (.ref ke), (.int (1 : Int32))] below meth c s₁ [] 0 0 := Stand.of_body Bd
  have e0 : s₁.heap = h0 := by rw [← hh, Bd.state]; rfl
  have Nf := Fr.nil n0
  refine (?_ : Win p.tables e below (PostQ s (Q14_1 Z a ru ke h0 n0) ({ frames := 1, cells := 0, slots := 0, locals := 12 } : Room).cells ({ frames := 1, cells := 0, slots := 0, locals := 12 } : Room).slots) (s₁.setTop (entryFrame m #[(.ref a), (.ref ru), (.ref ke), (.int (1 : Int32))] 4)))
  rw [ef_14_1]
  have Kp : Keep h0 h0 [a] := Keep.refl h0 _
  have lt_a : a < h0.size := E_a.lt
  show Win p.tables e below _ (s₁.setTop (mkF m 0 #[.val (.ref a), .val (.ref ru), .val (.ref ke), .val (.int (1 : Int32))] []))
  refine s_aloadN (pc' := 1) X0.here hx (hb hby d14_0) rfl rfl rfl ?_
  obtain ⟨T_47, X_47, e_47, st_47⟩ := initO X0 hx hZ hown (hw _ (List.mem_of_getElem? (i := 39) rfl)) (hw _ (List.mem_of_getElem? (i := 30) rfl)) (hw _ (List.mem_of_getElem? (i := 31) rfl)) e0 (g := (mkF m 1 #[.val (.ref a), .val (.ref ru), .val (.ref ke), .val (.int (1 : Int32))] [(.ref a)])) rfl (by rw [hml]; rfl) rfl (hb hby d14_1) (by decide) (W := 0) (by show 2 * 0 + _ ≤ _; exact Nat.le_of_eq rfl) (by decide)
  refine Win.go st_47 ?_
  clear st_47 X0 e0
  show Win p.tables e below _ (T_47.setTop (mkF m 4 #[.val (.ref a), .val (.ref ru), .val (.ref ke), .val (.int (1 : Int32))] []))
  refine s_aloadN (pc' := 5) X_47.here hx (hb hby d14_4) rfl rfl rfl ?_
  refine s_aloadN (pc' := 6) X_47.here hx (hb hby d14_5) rfl rfl rfl ?_
  obtain ⟨T_48, h_48, X_48, e_48, W_48, st_48⟩ := putF X_47 hx hZ hown (host := "") (Or.inl (hw _ (List.mem_of_getElem? (i := 40) rfl))) Via.refl e_47 F_rule_a E_a (Or.inr ⟨(hw _ (List.mem_of_getElem? (i := 41) rfl)), rfl, hnm⟩) (hw _ (List.mem_of_getElem? (i := 8) rfl)) (ty := (.object "java/lang/String")) (by decide) rfl rfl (g := (mkF m 6 #[.val (.ref a), .val (.ref ru), .val (.ref ke), .val (.int (1 : Int32))] [(.ref ru), (.ref a)])) rfl rfl (hb hby d14_6)
  replace E_a := E_a.wr W_48
  replace F_key_a := F_key_a.other W_48 (Or.inr (slot_ne (Or.inr (hw _ (List.mem_of_getElem? (i := 43) rfl))) (Or.inr (hw _ (List.mem_of_getElem? (i := 41) rfl))) (by decide) (t := (.object "java/lang/String")) (t' := (.object "java/lang/String")) (by decide) (by decide)))
  replace F_allowed_a := F_allowed_a.other W_48 (Or.inr (slot_ne (Or.inr (hw _ (List.mem_of_getElem? (i := 45) rfl))) (Or.inr (hw _ (List.mem_of_getElem? (i := 41) rfl))) (by decide) (t := .boolean) (t' := (.object "java/lang/String")) (by decide) (by decide)))
  replace F_limit_a := F_limit_a.other W_48 (Or.inr (slot_ne (Or.inr (hw _ (List.mem_of_getElem? (i := 47) rfl))) (Or.inr (hw _ (List.mem_of_getElem? (i := 41) rfl))) (by decide) (t := .long) (t' := (.object "java/lang/String")) (by decide) (by decide)))
  replace F_remaining_a := F_remaining_a.other W_48 (Or.inr (slot_ne (Or.inr (hw _ (List.mem_of_getElem? (i := 49) rfl))) (Or.inr (hw _ (List.mem_of_getElem? (i := 41) rfl))) (by decide) (t := .long) (t' := (.object "java/lang/String")) (by decide) (by decide)))
  replace F_reset_a := F_reset_a.other W_48 (Or.inr (slot_ne (Or.inr (hw _ (List.mem_of_getElem? (i := 51) rfl))) (Or.inr (hw _ (List.mem_of_getElem? (i := 41) rfl))) (by decide) (t := .long) (t' := (.object "java/lang/String")) (by decide) (by decide)))
  replace F_retryAfter_a := F_retryAfter_a.other W_48 (Or.inr (slot_ne (Or.inr (hw _ (List.mem_of_getElem? (i := 53) rfl))) (Or.inr (hw _ (List.mem_of_getElem? (i := 41) rfl))) (by decide) (t := .long) (t' := (.object "java/lang/String")) (by decide) (by decide)))
  replace F_storeAnswered_a := F_storeAnswered_a.other W_48 (Or.inr (slot_ne (Or.inr (hw _ (List.mem_of_getElem? (i := 55) rfl))) (Or.inr (hw _ (List.mem_of_getElem? (i := 41) rfl))) (by decide) (t := .boolean) (t' := (.object "java/lang/String")) (by decide) (by decide)))
  replace lt_a := Nat.lt_of_lt_of_le lt_a (Keep.of_wr W_48).1
  replace Zs := Nat.le_trans Zs (Keep.of_wr W_48).1
  replace Kp := Kp.wr W_48 (Or.inl (by simp))
  replace F_rule_a := F_rule_a.same W_48
  replace Nf := Fr.snoc X_48 Nf g_a
  refine Win.go st_48 ?_
  clear st_48 W_48 X_47 e_47
  show Win p.tables e below _ (T_48.setTop (mkF m 9 #[.val (.ref a), .val (.ref ru), .val (.ref ke), .val (.int (1 : Int32))] []))
  refine s_aloadN (pc' := 10) X_48.here hx (hb hby d14_9) rfl rfl rfl ?_
  refine s_aloadN (pc' := 11) X_48.here hx (hb hby d14_10) rfl rfl rfl ?_
  obtain ⟨T_49, h_49, X_49, e_49, W_49, st_49⟩ := putF X_48 hx hZ hown (host := "") (Or.inl (hw _ (List.mem_of_getElem? (i := 42) rfl))) Via.refl e_48 F_key_a E_a (Or.inr ⟨(hw _ (List.mem_of_getElem? (i := 43) rfl)), rfl, hnm⟩) (hw _ (List.mem_of_getElem? (i := 8) rfl)) (ty := (.object "java/lang/String")) (by decide) rfl rfl (g := (mkF m 11 #[.val (.ref a), .val (.ref ru), .val (.ref ke), .val (.int (1 : Int32))] [(.ref ke), (.ref a)])) rfl rfl (hb hby d14_11)
  replace E_a := E_a.wr W_49
  replace F_rule_a := F_rule_a.other W_49 (Or.inr (slot_ne (Or.inr (hw _ (List.mem_of_getElem? (i := 41) rfl))) (Or.inr (hw _ (List.mem_of_getElem? (i := 43) rfl))) (by decide) (t := (.object "java/lang/String")) (t' := (.object "java/lang/String")) (by decide) (by decide)))
  replace F_allowed_a := F_allowed_a.other W_49 (Or.inr (slot_ne (Or.inr (hw _ (List.mem_of_getElem? (i := 45) rfl))) (Or.inr (hw _ (List.mem_of_getElem? (i := 43) rfl))) (by decide) (t := .boolean) (t' := (.object "java/lang/String")) (by decide) (by decide)))
  replace F_limit_a := F_limit_a.other W_49 (Or.inr (slot_ne (Or.inr (hw _ (List.mem_of_getElem? (i := 47) rfl))) (Or.inr (hw _ (List.mem_of_getElem? (i := 43) rfl))) (by decide) (t := .long) (t' := (.object "java/lang/String")) (by decide) (by decide)))
  replace F_remaining_a := F_remaining_a.other W_49 (Or.inr (slot_ne (Or.inr (hw _ (List.mem_of_getElem? (i := 49) rfl))) (Or.inr (hw _ (List.mem_of_getElem? (i := 43) rfl))) (by decide) (t := .long) (t' := (.object "java/lang/String")) (by decide) (by decide)))
  replace F_reset_a := F_reset_a.other W_49 (Or.inr (slot_ne (Or.inr (hw _ (List.mem_of_getElem? (i := 51) rfl))) (Or.inr (hw _ (List.mem_of_getElem? (i := 43) rfl))) (by decide) (t := .long) (t' := (.object "java/lang/String")) (by decide) (by decide)))
  replace F_retryAfter_a := F_retryAfter_a.other W_49 (Or.inr (slot_ne (Or.inr (hw _ (List.mem_of_getElem? (i := 53) rfl))) (Or.inr (hw _ (List.mem_of_getElem? (i := 43) rfl))) (by decide) (t := .long) (t' := (.object "java/lang/String")) (by decide) (by decide)))
  replace F_storeAnswered_a := F_storeAnswered_a.other W_49 (Or.inr (slot_ne (Or.inr (hw _ (List.mem_of_getElem? (i := 55) rfl))) (Or.inr (hw _ (List.mem_of_getElem? (i := 43) rfl))) (by decide) (t := .boolean) (t' := (.object "java/lang/String")) (by decide) (by decide)))
  replace lt_a := Nat.lt_of_lt_of_le lt_a (Keep.of_wr W_49).1
  replace Zs := Nat.le_trans Zs (Keep.of_wr W_49).1
  replace Kp := Kp.wr W_49 (Or.inl (by simp))
  replace F_key_a := F_key_a.same W_49
  replace Nf := Fr.snoc X_49 Nf g_a
  refine Win.go st_49 ?_
  clear st_49 W_49 X_48 e_48
  show Win p.tables e below _ (T_49.setTop (mkF m 14 #[.val (.ref a), .val (.ref ru), .val (.ref ke), .val (.int (1 : Int32))] []))
  refine s_aloadN (pc' := 15) X_49.here hx (hb hby d14_14) rfl rfl rfl ?_
  refine s_iloadN (pc' := 16) X_49.here hx (hb hby d14_15) rfl rfl ?_
  obtain ⟨T_50, h_50, X_50, e_50, W_50, st_50⟩ := putFN X_49 hx hZ hown (hw _ (List.mem_of_getElem? (i := 44) rfl)) Via.refl e_49 F_allowed_a E_a (Or.inr ⟨(hw _ (List.mem_of_getElem? (i := 45) rfl)), rfl, hnm⟩) (hw _ (List.mem_of_getElem? (i := 8) rfl)) (ty := .boolean) (v' := (.int (1 : Int32))) (by decide) rfl rfl (g := (mkF m 16 #[.val (.ref a), .val (.ref ru), .val (.ref ke), .val (.int (1 : Int32))] [(.int (1 : Int32)), (.ref a)])) rfl rfl (hb hby d14_16)
  replace E_a := E_a.wr W_50
  replace F_rule_a := F_rule_a.other W_50 (Or.inr (slot_ne (Or.inr (hw _ (List.mem_of_getElem? (i := 41) rfl))) (Or.inr (hw _ (List.mem_of_getElem? (i := 45) rfl))) (by decide) (t := (.object "java/lang/String")) (t' := .boolean) (by decide) (by decide)))
  replace F_key_a := F_key_a.other W_50 (Or.inr (slot_ne (Or.inr (hw _ (List.mem_of_getElem? (i := 43) rfl))) (Or.inr (hw _ (List.mem_of_getElem? (i := 45) rfl))) (by decide) (t := (.object "java/lang/String")) (t' := .boolean) (by decide) (by decide)))
  replace F_limit_a := F_limit_a.other W_50 (Or.inr (slot_ne (Or.inr (hw _ (List.mem_of_getElem? (i := 47) rfl))) (Or.inr (hw _ (List.mem_of_getElem? (i := 45) rfl))) (by decide) (t := .long) (t' := .boolean) (by decide) (by decide)))
  replace F_remaining_a := F_remaining_a.other W_50 (Or.inr (slot_ne (Or.inr (hw _ (List.mem_of_getElem? (i := 49) rfl))) (Or.inr (hw _ (List.mem_of_getElem? (i := 45) rfl))) (by decide) (t := .long) (t' := .boolean) (by decide) (by decide)))
  replace F_reset_a := F_reset_a.other W_50 (Or.inr (slot_ne (Or.inr (hw _ (List.mem_of_getElem? (i := 51) rfl))) (Or.inr (hw _ (List.mem_of_getElem? (i := 45) rfl))) (by decide) (t := .long) (t' := .boolean) (by decide) (by decide)))
  replace F_retryAfter_a := F_retryAfter_a.other W_50 (Or.inr (slot_ne (Or.inr (hw _ (List.mem_of_getElem? (i := 53) rfl))) (Or.inr (hw _ (List.mem_of_getElem? (i := 45) rfl))) (by decide) (t := .long) (t' := .boolean) (by decide) (by decide)))
  replace F_storeAnswered_a := F_storeAnswered_a.other W_50 (Or.inr (slot_ne (Or.inr (hw _ (List.mem_of_getElem? (i := 55) rfl))) (Or.inr (hw _ (List.mem_of_getElem? (i := 45) rfl))) (by decide) (t := .boolean) (t' := .boolean) (by decide) (by decide)))
  replace lt_a := Nat.lt_of_lt_of_le lt_a (Keep.of_wr W_50).1
  replace Zs := Nat.le_trans Zs (Keep.of_wr W_50).1
  replace Kp := Kp.wr W_50 (Or.inl (by simp))
  replace F_allowed_a := F_allowed_a.same W_50
  replace Nf := Fr.snoc X_50 Nf g_a
  refine Win.go st_50 ?_
  clear st_50 W_50 X_49 e_49
  show Win p.tables e below _ (T_50.setTop (mkF m 19 #[.val (.ref a), .val (.ref ru), .val (.ref ke), .val (.int (1 : Int32))] []))
  refine s_aloadN (pc' := 20) X_50.here hx (hb hby d14_19) rfl rfl rfl ?_
  refine s_lconst (pc' := 21) (z := (0 : Int64)) X_50.here hx (hb hby d14_20) rfl rfl ?_
  obtain ⟨T_51, h_51, X_51, e_51, W_51, st_51⟩ := putF X_50 hx hZ hown (host := "") (Or.inl (hw _ (List.mem_of_getElem? (i := 46) rfl))) Via.refl e_50 F_limit_a E_a (Or.inr ⟨(hw _ (List.mem_of_getElem? (i := 47) rfl)), rfl, hnm⟩) (hw _ (List.mem_of_getElem? (i := 8) rfl)) (ty := .long) (by decide) rfl rfl (g := (mkF m 21 #[.val (.ref a), .val (.ref ru), .val (.ref ke), .val (.int (1 : Int32))] [(.long (0 : Int64)), (.ref a)])) rfl rfl (hb hby d14_21)
  replace E_a := E_a.wr W_51
  replace F_rule_a := F_rule_a.other W_51 (Or.inr (slot_ne (Or.inr (hw _ (List.mem_of_getElem? (i := 41) rfl))) (Or.inr (hw _ (List.mem_of_getElem? (i := 47) rfl))) (by decide) (t := (.object "java/lang/String")) (t' := .long) (by decide) (by decide)))
  replace F_key_a := F_key_a.other W_51 (Or.inr (slot_ne (Or.inr (hw _ (List.mem_of_getElem? (i := 43) rfl))) (Or.inr (hw _ (List.mem_of_getElem? (i := 47) rfl))) (by decide) (t := (.object "java/lang/String")) (t' := .long) (by decide) (by decide)))
  replace F_allowed_a := F_allowed_a.other W_51 (Or.inr (slot_ne (Or.inr (hw _ (List.mem_of_getElem? (i := 45) rfl))) (Or.inr (hw _ (List.mem_of_getElem? (i := 47) rfl))) (by decide) (t := .boolean) (t' := .long) (by decide) (by decide)))
  replace F_remaining_a := F_remaining_a.other W_51 (Or.inr (slot_ne (Or.inr (hw _ (List.mem_of_getElem? (i := 49) rfl))) (Or.inr (hw _ (List.mem_of_getElem? (i := 47) rfl))) (by decide) (t := .long) (t' := .long) (by decide) (by decide)))
  replace F_reset_a := F_reset_a.other W_51 (Or.inr (slot_ne (Or.inr (hw _ (List.mem_of_getElem? (i := 51) rfl))) (Or.inr (hw _ (List.mem_of_getElem? (i := 47) rfl))) (by decide) (t := .long) (t' := .long) (by decide) (by decide)))
  replace F_retryAfter_a := F_retryAfter_a.other W_51 (Or.inr (slot_ne (Or.inr (hw _ (List.mem_of_getElem? (i := 53) rfl))) (Or.inr (hw _ (List.mem_of_getElem? (i := 47) rfl))) (by decide) (t := .long) (t' := .long) (by decide) (by decide)))
  replace F_storeAnswered_a := F_storeAnswered_a.other W_51 (Or.inr (slot_ne (Or.inr (hw _ (List.mem_of_getElem? (i := 55) rfl))) (Or.inr (hw _ (List.mem_of_getElem? (i := 47) rfl))) (by decide) (t := .boolean) (t' := .long) (by decide) (by decide)))
  replace lt_a := Nat.lt_of_lt_of_le lt_a (Keep.of_wr W_51).1
  replace Zs := Nat.le_trans Zs (Keep.of_wr W_51).1
  replace Kp := Kp.wr W_51 (Or.inl (by simp))
  replace F_limit_a := F_limit_a.same W_51
  replace Nf := Fr.snoc X_51 Nf g_a
  refine Win.go st_51 ?_
  clear st_51 W_51 X_50 e_50
  show Win p.tables e below _ (T_51.setTop (mkF m 24 #[.val (.ref a), .val (.ref ru), .val (.ref ke), .val (.int (1 : Int32))] []))
  refine s_aloadN (pc' := 25) X_51.here hx (hb hby d14_24) rfl rfl rfl ?_
  refine s_lconst (pc' := 26) (z := (0 : Int64)) X_51.here hx (hb hby d14_25) rfl rfl ?_
  obtain ⟨T_52, h_52, X_52, e_52, W_52, st_52⟩ := putF X_51 hx hZ hown (host := "") (Or.inl (hw _ (List.mem_of_getElem? (i := 48) rfl))) Via.refl e_51 F_remaining_a E_a (Or.inr ⟨(hw _ (List.mem_of_getElem? (i := 49) rfl)), rfl, hnm⟩) (hw _ (List.mem_of_getElem? (i := 8) rfl)) (ty := .long) (by decide) rfl rfl (g := (mkF m 26 #[.val (.ref a), .val (.ref ru), .val (.ref ke), .val (.int (1 : Int32))] [(.long (0 : Int64)), (.ref a)])) rfl rfl (hb hby d14_26)
  replace E_a := E_a.wr W_52
  replace F_rule_a := F_rule_a.other W_52 (Or.inr (slot_ne (Or.inr (hw _ (List.mem_of_getElem? (i := 41) rfl))) (Or.inr (hw _ (List.mem_of_getElem? (i := 49) rfl))) (by decide) (t := (.object "java/lang/String")) (t' := .long) (by decide) (by decide)))
  replace F_key_a := F_key_a.other W_52 (Or.inr (slot_ne (Or.inr (hw _ (List.mem_of_getElem? (i := 43) rfl))) (Or.inr (hw _ (List.mem_of_getElem? (i := 49) rfl))) (by decide) (t := (.object "java/lang/String")) (t' := .long) (by decide) (by decide)))
  replace F_allowed_a := F_allowed_a.other W_52 (Or.inr (slot_ne (Or.inr (hw _ (List.mem_of_getElem? (i := 45) rfl))) (Or.inr (hw _ (List.mem_of_getElem? (i := 49) rfl))) (by decide) (t := .boolean) (t' := .long) (by decide) (by decide)))
  replace F_limit_a := F_limit_a.other W_52 (Or.inr (slot_ne (Or.inr (hw _ (List.mem_of_getElem? (i := 47) rfl))) (Or.inr (hw _ (List.mem_of_getElem? (i := 49) rfl))) (by decide) (t := .long) (t' := .long) (by decide) (by decide)))
  replace F_reset_a := F_reset_a.other W_52 (Or.inr (slot_ne (Or.inr (hw _ (List.mem_of_getElem? (i := 51) rfl))) (Or.inr (hw _ (List.mem_of_getElem? (i := 49) rfl))) (by decide) (t := .long) (t' := .long) (by decide) (by decide)))
  replace F_retryAfter_a := F_retryAfter_a.other W_52 (Or.inr (slot_ne (Or.inr (hw _ (List.mem_of_getElem? (i := 53) rfl))) (Or.inr (hw _ (List.mem_of_getElem? (i := 49) rfl))) (by decide) (t := .long) (t' := .long) (by decide) (by decide)))
  replace F_storeAnswered_a := F_storeAnswered_a.other W_52 (Or.inr (slot_ne (Or.inr (hw _ (List.mem_of_getElem? (i := 55) rfl))) (Or.inr (hw _ (List.mem_of_getElem? (i := 49) rfl))) (by decide) (t := .boolean) (t' := .long) (by decide) (by decide)))
  replace lt_a := Nat.lt_of_lt_of_le lt_a (Keep.of_wr W_52).1
  replace Zs := Nat.le_trans Zs (Keep.of_wr W_52).1
  replace Kp := Kp.wr W_52 (Or.inl (by simp))
  replace F_remaining_a := F_remaining_a.same W_52
  replace Nf := Fr.snoc X_52 Nf g_a
  refine Win.go st_52 ?_
  clear st_52 W_52 X_51 e_51
  show Win p.tables e below _ (T_52.setTop (mkF m 29 #[.val (.ref a), .val (.ref ru), .val (.ref ke), .val (.int (1 : Int32))] []))
  refine s_aloadN (pc' := 30) X_52.here hx (hb hby d14_29) rfl rfl rfl ?_
  refine s_lconst (pc' := 31) (z := (0 : Int64)) X_52.here hx (hb hby d14_30) rfl rfl ?_
  obtain ⟨T_53, h_53, X_53, e_53, W_53, st_53⟩ := putF X_52 hx hZ hown (host := "") (Or.inl (hw _ (List.mem_of_getElem? (i := 50) rfl))) Via.refl e_52 F_reset_a E_a (Or.inr ⟨(hw _ (List.mem_of_getElem? (i := 51) rfl)), rfl, hnm⟩) (hw _ (List.mem_of_getElem? (i := 8) rfl)) (ty := .long) (by decide) rfl rfl (g := (mkF m 31 #[.val (.ref a), .val (.ref ru), .val (.ref ke), .val (.int (1 : Int32))] [(.long (0 : Int64)), (.ref a)])) rfl rfl (hb hby d14_31)
  replace E_a := E_a.wr W_53
  replace F_rule_a := F_rule_a.other W_53 (Or.inr (slot_ne (Or.inr (hw _ (List.mem_of_getElem? (i := 41) rfl))) (Or.inr (hw _ (List.mem_of_getElem? (i := 51) rfl))) (by decide) (t := (.object "java/lang/String")) (t' := .long) (by decide) (by decide)))
  replace F_key_a := F_key_a.other W_53 (Or.inr (slot_ne (Or.inr (hw _ (List.mem_of_getElem? (i := 43) rfl))) (Or.inr (hw _ (List.mem_of_getElem? (i := 51) rfl))) (by decide) (t := (.object "java/lang/String")) (t' := .long) (by decide) (by decide)))
  replace F_allowed_a := F_allowed_a.other W_53 (Or.inr (slot_ne (Or.inr (hw _ (List.mem_of_getElem? (i := 45) rfl))) (Or.inr (hw _ (List.mem_of_getElem? (i := 51) rfl))) (by decide) (t := .boolean) (t' := .long) (by decide) (by decide)))
  replace F_limit_a := F_limit_a.other W_53 (Or.inr (slot_ne (Or.inr (hw _ (List.mem_of_getElem? (i := 47) rfl))) (Or.inr (hw _ (List.mem_of_getElem? (i := 51) rfl))) (by decide) (t := .long) (t' := .long) (by decide) (by decide)))
  replace F_remaining_a := F_remaining_a.other W_53 (Or.inr (slot_ne (Or.inr (hw _ (List.mem_of_getElem? (i := 49) rfl))) (Or.inr (hw _ (List.mem_of_getElem? (i := 51) rfl))) (by decide) (t := .long) (t' := .long) (by decide) (by decide)))
  replace F_retryAfter_a := F_retryAfter_a.other W_53 (Or.inr (slot_ne (Or.inr (hw _ (List.mem_of_getElem? (i := 53) rfl))) (Or.inr (hw _ (List.mem_of_getElem? (i := 51) rfl))) (by decide) (t := .long) (t' := .long) (by decide) (by decide)))
  replace F_storeAnswered_a := F_storeAnswered_a.other W_53 (Or.inr (slot_ne (Or.inr (hw _ (List.mem_of_getElem? (i := 55) rfl))) (Or.inr (hw _ (List.mem_of_getElem? (i := 51) rfl))) (by decide) (t := .boolean) (t' := .long) (by decide) (by decide)))
  replace lt_a := Nat.lt_of_lt_of_le lt_a (Keep.of_wr W_53).1
  replace Zs := Nat.le_trans Zs (Keep.of_wr W_53).1
  replace Kp := Kp.wr W_53 (Or.inl (by simp))
  replace F_reset_a := F_reset_a.same W_53
  replace Nf := Fr.snoc X_53 Nf g_a
  refine Win.go st_53 ?_
  clear st_53 W_53 X_52 e_52
  show Win p.tables e below _ (T_53.setTop (mkF m 34 #[.val (.ref a), .val (.ref ru), .val (.ref ke), .val (.int (1 : Int32))] []))
  refine s_aloadN (pc' := 35) X_53.here hx (hb hby d14_34) rfl rfl rfl ?_
  refine s_iloadN (pc' := 36) X_53.here hx (hb hby d14_35) rfl rfl ?_
  refine s_ifNo (pc' := 39) X_53.here hx (hb hby d14_36) rfl ((if0 _ _).trans (feqI (x := (1 : Int32)) (y := (0 : Int32)) (by decide)).1) ?_
  refine s_lconst (pc' := 40) (z := (0 : Int64)) X_53.here hx (hb hby d14_39) rfl rfl ?_
  refine s_goto (pc' := 44) X_53.here hx (hb hby d14_40) (by decide) (by decide) ?_
  obtain ⟨T_54, h_54, X_54, e_54, W_54, st_54⟩ := putF X_53 hx hZ hown (host := "") (Or.inl (hw _ (List.mem_of_getElem? (i := 52) rfl))) Via.refl e_53 F_retryAfter_a E_a (Or.inr ⟨(hw _ (List.mem_of_getElem? (i := 53) rfl)), rfl, hnm⟩) (hw _ (List.mem_of_getElem? (i := 8) rfl)) (ty := .long) (by decide) rfl rfl (g := (mkF m 44 #[.val (.ref a), .val (.ref ru), .val (.ref ke), .val (.int (1 : Int32))] [(.long (0 : Int64)), (.ref a)])) rfl rfl (hb hby d14_44)
  replace E_a := E_a.wr W_54
  replace F_rule_a := F_rule_a.other W_54 (Or.inr (slot_ne (Or.inr (hw _ (List.mem_of_getElem? (i := 41) rfl))) (Or.inr (hw _ (List.mem_of_getElem? (i := 53) rfl))) (by decide) (t := (.object "java/lang/String")) (t' := .long) (by decide) (by decide)))
  replace F_key_a := F_key_a.other W_54 (Or.inr (slot_ne (Or.inr (hw _ (List.mem_of_getElem? (i := 43) rfl))) (Or.inr (hw _ (List.mem_of_getElem? (i := 53) rfl))) (by decide) (t := (.object "java/lang/String")) (t' := .long) (by decide) (by decide)))
  replace F_allowed_a := F_allowed_a.other W_54 (Or.inr (slot_ne (Or.inr (hw _ (List.mem_of_getElem? (i := 45) rfl))) (Or.inr (hw _ (List.mem_of_getElem? (i := 53) rfl))) (by decide) (t := .boolean) (t' := .long) (by decide) (by decide)))
  replace F_limit_a := F_limit_a.other W_54 (Or.inr (slot_ne (Or.inr (hw _ (List.mem_of_getElem? (i := 47) rfl))) (Or.inr (hw _ (List.mem_of_getElem? (i := 53) rfl))) (by decide) (t := .long) (t' := .long) (by decide) (by decide)))
  replace F_remaining_a := F_remaining_a.other W_54 (Or.inr (slot_ne (Or.inr (hw _ (List.mem_of_getElem? (i := 49) rfl))) (Or.inr (hw _ (List.mem_of_getElem? (i := 53) rfl))) (by decide) (t := .long) (t' := .long) (by decide) (by decide)))
  replace F_reset_a := F_reset_a.other W_54 (Or.inr (slot_ne (Or.inr (hw _ (List.mem_of_getElem? (i := 51) rfl))) (Or.inr (hw _ (List.mem_of_getElem? (i := 53) rfl))) (by decide) (t := .long) (t' := .long) (by decide) (by decide)))
  replace F_storeAnswered_a := F_storeAnswered_a.other W_54 (Or.inr (slot_ne (Or.inr (hw _ (List.mem_of_getElem? (i := 55) rfl))) (Or.inr (hw _ (List.mem_of_getElem? (i := 53) rfl))) (by decide) (t := .boolean) (t' := .long) (by decide) (by decide)))
  replace lt_a := Nat.lt_of_lt_of_le lt_a (Keep.of_wr W_54).1
  replace Zs := Nat.le_trans Zs (Keep.of_wr W_54).1
  replace Kp := Kp.wr W_54 (Or.inl (by simp))
  replace F_retryAfter_a := F_retryAfter_a.same W_54
  replace Nf := Fr.snoc X_54 Nf g_a
  refine Win.go st_54 ?_
  clear st_54 W_54 X_53 e_53
  show Win p.tables e below _ (T_54.setTop (mkF m 47 #[.val (.ref a), .val (.ref ru), .val (.ref ke), .val (.int (1 : Int32))] []))
  refine s_aloadN (pc' := 48) X_54.here hx (hb hby d14_47) rfl rfl rfl ?_
  refine s_iconst (pc' := 49) (z := (0 : Int32)) X_54.here hx (hb hby d14_48) rfl rfl ?_
  obtain ⟨T_55, h_55, X_55, e_55, W_55, st_55⟩ := putFN X_54 hx hZ hown (hw _ (List.mem_of_getElem? (i := 54) rfl)) Via.refl e_54 F_storeAnswered_a E_a (Or.inr ⟨(hw _ (List.mem_of_getElem? (i := 55) rfl)), rfl, hnm⟩) (hw _ (List.mem_of_getElem? (i := 8) rfl)) (ty := .boolean) (v' := (.int (0 : Int32))) (by decide) rfl rfl (g := (mkF m 49 #[.val (.ref a), .val (.ref ru), .val (.ref ke), .val (.int (1 : Int32))] [(.int (0 : Int32)), (.ref a)])) rfl rfl (hb hby d14_49)
  replace E_a := E_a.wr W_55
  replace F_rule_a := F_rule_a.other W_55 (Or.inr (slot_ne (Or.inr (hw _ (List.mem_of_getElem? (i := 41) rfl))) (Or.inr (hw _ (List.mem_of_getElem? (i := 55) rfl))) (by decide) (t := (.object "java/lang/String")) (t' := .boolean) (by decide) (by decide)))
  replace F_key_a := F_key_a.other W_55 (Or.inr (slot_ne (Or.inr (hw _ (List.mem_of_getElem? (i := 43) rfl))) (Or.inr (hw _ (List.mem_of_getElem? (i := 55) rfl))) (by decide) (t := (.object "java/lang/String")) (t' := .boolean) (by decide) (by decide)))
  replace F_allowed_a := F_allowed_a.other W_55 (Or.inr (slot_ne (Or.inr (hw _ (List.mem_of_getElem? (i := 45) rfl))) (Or.inr (hw _ (List.mem_of_getElem? (i := 55) rfl))) (by decide) (t := .boolean) (t' := .boolean) (by decide) (by decide)))
  replace F_limit_a := F_limit_a.other W_55 (Or.inr (slot_ne (Or.inr (hw _ (List.mem_of_getElem? (i := 47) rfl))) (Or.inr (hw _ (List.mem_of_getElem? (i := 55) rfl))) (by decide) (t := .long) (t' := .boolean) (by decide) (by decide)))
  replace F_remaining_a := F_remaining_a.other W_55 (Or.inr (slot_ne (Or.inr (hw _ (List.mem_of_getElem? (i := 49) rfl))) (Or.inr (hw _ (List.mem_of_getElem? (i := 55) rfl))) (by decide) (t := .long) (t' := .boolean) (by decide) (by decide)))
  replace F_reset_a := F_reset_a.other W_55 (Or.inr (slot_ne (Or.inr (hw _ (List.mem_of_getElem? (i := 51) rfl))) (Or.inr (hw _ (List.mem_of_getElem? (i := 55) rfl))) (by decide) (t := .long) (t' := .boolean) (by decide) (by decide)))
  replace F_retryAfter_a := F_retryAfter_a.other W_55 (Or.inr (slot_ne (Or.inr (hw _ (List.mem_of_getElem? (i := 53) rfl))) (Or.inr (hw _ (List.mem_of_getElem? (i := 55) rfl))) (by decide) (t := .long) (t' := .boolean) (by decide) (by decide)))
  replace lt_a := Nat.lt_of_lt_of_le lt_a (Keep.of_wr W_55).1
  replace Zs := Nat.le_trans Zs (Keep.of_wr W_55).1
  replace Kp := Kp.wr W_55 (Or.inl (by simp))
  replace F_storeAnswered_a := F_storeAnswered_a.same W_55
  replace Nf := Fr.snoc X_55 Nf g_a
  refine Win.go st_55 ?_
  clear st_55 W_55 X_54 e_54
  show Win p.tables e below _ (T_55.setTop (mkF m 52 #[.val (.ref a), .val (.ref ru), .val (.ref ke), .val (.int (1 : Int32))] []))
  refine winV X_55 hx hlk e_55 Bd.returns (hb hby d14_52) (by decide) (by decide) ?_
  exact ⟨Nf, Kp, F_rule_a, F_key_a, F_allowed_a, F_limit_a, F_remaining_a, F_reset_a, F_retryAfter_a, F_storeAnswered_a, rfl⟩
theorem ef_13_1 (m : MethodId) (u : Addr) : entryFrame m #[(.ref u)] 1 = mkF m 0 #[.val (.ref u)] [] := by first | (simp [entryFrame, mkF, argsToLocals, Value.category]; done) | rfl
def Q13_1 (Z : State) (u : Addr) (h0 : Heap) (n0 : Nat) (v : Option Value) (h : Heap) (L : List Loc) : Prop := Fr n0 L ∧ h = h0 ∧ v = some (.int (1 : Int32))
set_option maxRecDepth 65536 in
set_option maxHeartbeats 40000000 in
theorem rm13_1 (l : Launch) (Z : State) (a0 : Array Value) (hw : ∀ d ∈ tables_1, d.before a0 Z = true) (ws : List Jvm.Cond) (u : Addr) (h0 : Heap) (n0 : Nat) (Zs : n0 ≤ h0.size) (F_allows_u : Fld Z h0 u "com/example/throttle/throttle/OnStoreFailure" "allows" "Z" (.int (1 : Int32))) :
    MetFree l (⟨"com/example/throttle/throttle/OnStoreFailure", "allows", "()Z"⟩ : MethodName) (head1 (Jvm.Cond.code (⟨"com/example/throttle/throttle/OnStoreFailure", "allows", "()Z"⟩ : MethodName) prog_20_method_4_code 1 (some .boolean) :: ws) ({ frames := 0, cells := 0, slots := 0, locals := 0 } : Room)) (fun as' U => as' = #[(.ref u)] ∧ Z.Warmed39 U.vm ∧ U.heap = h0) (fun _ _ _ _ _ => True) (fun _ U o U' => ∃ v L, o = .returned v ∧ Q13_1 Z u h0 n0 v U'.heap L ∧ FrameEnd U o U' L ({ frames := 0, cells := 0, slots := 0, locals := 0 } : Room).cells ({ frames := 0, cells := 0, slots := 0, locals := 0 } : Room).slots) := by
  refine MetFree.of_bodySF (plainFor_of_name pn_13) hisR ?_
  intro p e s m args below meth c s₁ Bd hml0 hP hK
  obtain ⟨rfl, hZ, hh⟩ := hP
  have hx := Bd.exec
  have hby := Bd.bytes
  have hml : c.maxLocals = 1 := hml0
  have hown : s.vm.findClass "com/example/throttle/throttle/OnStoreFailure" = some m.cls := findClass_of_methodNamed Bd.named
  have hnm := (name_of_methodNamed Bd.named Bd.method).1
  have hlk : meth.locks = false := Bd.notSynchronized
  have X0 : Stand p l e ({ frames := 0, cells := 0, slots := 0, locals := 0 } : Room) s m #[(.ref u)] below meth c s₁ [] 0 0 := Stand.of_body Bd
  have e0 : s₁.heap = h0 := by rw [← hh, Bd.state]; rfl
  have Nf := Fr.nil n0
  refine (?_ : Win p.tables e below (PostQ s (Q13_1 Z u h0 n0) ({ frames := 0, cells := 0, slots := 0, locals := 0 } : Room).cells ({ frames := 0, cells := 0, slots := 0, locals := 0 } : Room).slots) (s₁.setTop (entryFrame m #[(.ref u)] 1)))
  rw [ef_13_1]
  have lt_u : u < h0.size := F_allows_u.lt
  show Win p.tables e below _ (s₁.setTop (mkF m 0 #[.val (.ref u)] []))
  refine s_aloadN (pc' := 1) X0.here hx (hb hby d13_0) rfl rfl rfl ?_
  obtain ⟨T_56, X_56, e_56, st_56⟩ := getF X0 hx hZ hown (host := "") (Or.inl (hw _ (List.mem_of_getElem? (i := 84) rfl))) Via.refl e0 F_allows_u (g := (mkF m 1 #[.val (.ref u)] [(.ref u)])) rfl rfl (hb hby d13_1)
  refine Win.go st_56 ?_
  clear st_56 X0 e0
  show Win p.tables e below _ (T_56.setTop (mkF m 4 #[.val (.ref u)] [(.int (1 : Int32))]))
  refine winN X_56 hx hlk e_56 (t := .boolean) Bd.returns (by simp) (hb hby d13_4) (by decide) (by decide) (z' := (1 : Int32)) rfl ?_
  exact ⟨Nf, rfl, rfl⟩
theorem ef_12_1 (m : MethodId) (ru : Addr) (ke : Addr) (u : Addr) : entryFrame m #[(.ref ru), (.ref ke), (.ref u)] 3 = mkF m 0 #[.val (.ref ru), .val (.ref ke), .val (.ref u)] [] := by first | (simp [entryFrame, mkF, argsToLocals, Value.category]; done) | rfl
def Q12_1 (Z : State) (ru : Addr) (ke : Addr) (u : Addr) (h0 : Heap) (n0 : Nat) (v : Option Value) (h : Heap) (L : List Loc) : Prop := Fr n0 L ∧ Keep h0 h [] ∧ (∃ (dd : Addr) , v = some (.ref dd) ∧ n0 ≤ dd ∧ h0.size ≤ dd ∧ Exa Z h dd "com/example/throttle/throttle/Decision" ∧ Fld Z h dd "com/example/throttle/throttle/Decision" "rule" "Ljava/lang/String;" (.ref ru) ∧ Fld Z h dd "com/example/throttle/throttle/Decision" "key" "Ljava/lang/String;" (.ref ke) ∧ Fld Z h dd "com/example/throttle/throttle/Decision" "allowed" "Z" (.int (1 : Int32)) ∧ Fld Z h dd "com/example/throttle/throttle/Decision" "limit" "J" (.long (0 : Int64)) ∧ Fld Z h dd "com/example/throttle/throttle/Decision" "remaining" "J" (.long (0 : Int64)) ∧ Fld Z h dd "com/example/throttle/throttle/Decision" "reset" "J" (.long (0 : Int64)) ∧ Fld Z h dd "com/example/throttle/throttle/Decision" "retryAfter" "J" (.long (0 : Int64)) ∧ Fld Z h dd "com/example/throttle/throttle/Decision" "storeAnswered" "Z" (.int (0 : Int32)))
set_option maxRecDepth 65536 in
set_option maxHeartbeats 40000000 in
theorem rm12_1 (l : Launch) (Z : State) (a0 : Array Value) (hw : ∀ d ∈ tables_1, d.before a0 Z = true) (ws : List Jvm.Cond) (ru : Addr) (ke : Addr) (u : Addr) (h0 : Heap) (n0 : Nat) (Zs : n0 ≤ h0.size) (E_u : Exa Z h0 u "com/example/throttle/throttle/OnStoreFailure") (F_allows_u : Fld Z h0 u "com/example/throttle/throttle/OnStoreFailure" "allows" "Z" (.int (1 : Int32))) :
    MetFree l (⟨"com/example/throttle/throttle/Decision", "onStoreFailure", "(Ljava/lang/String;Ljava/lang/String;Lcom/example/throttle/throttle/OnStoreFailure;)Lcom/example/throttle/throttle/Decision;"⟩ : MethodName) (head1 (Jvm.Cond.code (⟨"com/example/throttle/throttle/Decision", "onStoreFailure", "(Ljava/lang/String;Ljava/lang/String;Lcom/example/throttle/throttle/OnStoreFailure;)Lcom/example/throttle/throttle/Decision;"⟩ : MethodName) prog_7_method_5_code 3 (some (.object "com/example/throttle/throttle/Decision")) :: ws) ({ frames := 2, cells := 1, slots := 8, locals := 28 } : Room)) (fun as' U => as' = #[(.ref ru), (.ref ke), (.ref u)] ∧ Z.Warmed39 U.vm ∧ U.heap = h0) (fun _ _ _ _ _ => True) (fun _ U o U' => ∃ v L, o = .returned v ∧ Q12_1 Z ru ke u h0 n0 v U'.heap L ∧ FrameEnd U o U' L ({ frames := 2, cells := 1, slots := 8, locals := 28 } : Room).cells ({ frames := 2, cells := 1, slots := 8, locals := 28 } : Room).slots) := by
  refine MetFree.of_bodySF (plainFor_of_name pn_8) hisR ?_
  intro p e s m args below meth c s₁ Bd hml0 hP hK
  obtain ⟨rfl, hZ, hh⟩ := hP
  have hx := Bd.exec
  have hby := Bd.bytes
  have hml : c.maxLocals = 3 := hml0
  have hown : s.vm.findClass "com/example/throttle/throttle/Decision" = some m.cls := findClass_of_methodNamed Bd.named
  have hnm := (name_of_methodNamed Bd.named Bd.method).1
  have hlk : meth.locks = false := Bd.notSynchronized
  have X0 : Stand p l e ({ frames := 2, cells := 1, slots := 8, locals := 28 } : Room) s m #[(.ref ru), (.ref ke), (.ref u)] below meth c s₁ [] 0 0 := Stand.of_body Bd
  have e0 : s₁.heap = h0 := by rw [← hh, Bd.state]; rfl
  have Nf := Fr.nil n0
  refine (?_ : Win p.tables e below (PostQ s (Q12_1 Z ru ke u h0 n0) ({ frames := 2, cells := 1, slots := 8, locals := 28 } : Room).cells ({ frames := 2, cells := 1, slots := 8, locals := 28 } : Room).slots) (s₁.setTop (entryFrame m #[(.ref ru), (.ref ke), (.ref u)] 3)))
  rw [ef_12_1]
  have Kp : Keep h0 h0 [] := Keep.refl h0 _
  have lt_u : u < h0.size := E_u.lt
  show Win p.tables e below _ (s₁.setTop (mkF m 0 #[.val (.ref ru), .val (.ref ke), .val (.ref u)] []))
  obtain ⟨T_57, h_57, X_57, e_57, Ex_57, A_57, D_57, -, st_57⟩ := newO X0 hx hZ hown (hw _ (List.mem_of_getElem? (i := 61) rfl)) (hw _ (List.mem_of_getElem? (i := 8) rfl)) (hw _ (List.mem_of_getElem? (i := 9) rfl)) e0 (g := (mkF m 0 #[.val (.ref ru), .val (.ref ke), .val (.ref u)] [])) rfl (hb hby d12_0) (by decide) (by decide)
  obtain ⟨b_57, g_57⟩ : ∃ z, z = h0.size := ⟨_, rfl⟩
  have ne_u_b_57 : u ≠ b_57 := Nat.ne_of_lt (Nat.lt_of_lt_of_le lt_u (Nat.le_of_eq g_57.symm))
  have g_b_57 : n0 ≤ b_57 := Nat.le_trans Zs (Nat.le_of_eq g_57.symm)
  have sz_b_57 : h0.size ≤ b_57 := Nat.le_trans Kp.1 (Nat.le_of_eq g_57.symm)
  rw [← g_57] at A_57 D_57 st_57
  replace E_u := E_u.ext Ex_57
  replace F_allows_u := F_allows_u.ext Ex_57
  replace lt_u := Nat.lt_of_lt_of_le lt_u Ex_57.1
  replace Zs := Nat.le_trans Zs Ex_57.1
  replace Kp := Kp.ext Ex_57
  have E_b_57 := A_57
  have lt_b_57 := E_b_57.lt
  have F_rule_b_57 : Fld Z h_57 b_57 "com/example/throttle/throttle/Decision" "rule" "Ljava/lang/String;" .null := D_57 (Or.inr (hw _ (List.mem_of_getElem? (i := 41) rfl))) (ty := (.object "java/lang/String")) (by decide)
  have F_key_b_57 : Fld Z h_57 b_57 "com/example/throttle/throttle/Decision" "key" "Ljava/lang/String;" .null := D_57 (Or.inr (hw _ (List.mem_of_getElem? (i := 43) rfl))) (ty := (.object "java/lang/String")) (by decide)
  have F_allowed_b_57 : Fld Z h_57 b_57 "com/example/throttle/throttle/Decision" "allowed" "Z" (.int (0 : Int32)) := D_57 (Or.inr (hw _ (List.mem_of_getElem? (i := 45) rfl))) (ty := .boolean) (by decide)
  have F_limit_b_57 : Fld Z h_57 b_57 "com/example/throttle/throttle/Decision" "limit" "J" (.long (0 : Int64)) := D_57 (Or.inr (hw _ (List.mem_of_getElem? (i := 47) rfl))) (ty := .long) (by decide)
  have F_remaining_b_57 : Fld Z h_57 b_57 "com/example/throttle/throttle/Decision" "remaining" "J" (.long (0 : Int64)) := D_57 (Or.inr (hw _ (List.mem_of_getElem? (i := 49) rfl))) (ty := .long) (by decide)
  have F_reset_b_57 : Fld Z h_57 b_57 "com/example/throttle/throttle/Decision" "reset" "J" (.long (0 : Int64)) := D_57 (Or.inr (hw _ (List.mem_of_getElem? (i := 51) rfl))) (ty := .long) (by decide)
  have F_retryAfter_b_57 : Fld Z h_57 b_57 "com/example/throttle/throttle/Decision" "retryAfter" "J" (.long (0 : Int64)) := D_57 (Or.inr (hw _ (List.mem_of_getElem? (i := 53) rfl))) (ty := .long) (by decide)
  have F_storeAnswered_b_57 : Fld Z h_57 b_57 "com/example/throttle/throttle/Decision" "storeAnswered" "Z" (.int (0 : Int32)) := D_57 (Or.inr (hw _ (List.mem_of_getElem? (i := 55) rfl))) (ty := .boolean) (by decide)
  refine Win.go st_57 ?_
  clear st_57 Ex_57 A_57 D_57 g_57 X0 e0
  show Win p.tables e below _ (T_57.setTop (mkF m 3 #[.val (.ref ru), .val (.ref ke), .val (.ref u)] [(.ref b_57)]))
  refine s_dup (pc' := 4) X_57.here hx (hb hby d12_3) rfl rfl ?_
  refine s_aloadN (pc' := 5) X_57.here hx (hb hby d12_4) rfl rfl rfl ?_
  refine s_aloadN (pc' := 6) X_57.here hx (hb hby d12_5) rfl rfl rfl ?_
  refine s_aloadN (pc' := 7) X_57.here hx (hb hby d12_6) rfl rfl rfl ?_
  obtain ⟨cq_58, kq_58, q_58a, q_58b, q_58c⟩ := isOf hZ e_57 E_u
  obtain ⟨_, _, ⟨T_58, L_58, k_58, n_58⟩, -, X_58, ⟨Lc_58, hQ_58, l_58, y_58, z_58⟩, st_58⟩ := X_57.virtualBack hx (y := (⟨"com/example/throttle/throttle/OnStoreFailure", "allows", "()Z"⟩ : MethodName)) (z := (⟨"com/example/throttle/throttle/OnStoreFailure", "allows", "()Z"⟩ : MethodName)) hown (mvT hZ (hw _ (List.mem_of_getElem? (i := 79) rfl))) (mvT hZ (hw _ (List.mem_of_getElem? (i := 80) rfl))) (notFace_of_selects (args := #[]) (mvT hZ (hw _ (List.mem_of_getElem? (i := 82) rfl)))) (mvT hZ (hw _ (List.mem_of_getElem? (i := 82) rfl))) (mvT hZ (hw _ (List.mem_of_getElem? (i := 81) rfl))) (by decide) (backOf (W := 4) (rm13_1 l Z a0 hw [] u h_57 n0 Zs F_allows_u) hZ (hw _ (List.mem_of_getElem? (i := 83) rfl)) (hw _ (List.mem_of_getElem? (i := 74) rfl)) (by decide) (by decide)) q_58a q_58c (g := (mkF m 7 #[.val (.ref ru), .val (.ref ke), .val (.ref u)] [(.ref u), (.ref ke), (.ref ru), (.ref b_57), (.ref b_57)])) rfl (by rw [hml]; rfl) (Steps.refl _) (argsL := []) (rest := [(.ref ke), (.ref ru), (.ref b_57), (.ref b_57)]) (lenOf pd_4 rfl) rfl (by show 2 * 0 + _ ≤ _; exact Nat.le_of_eq rfl) (hb hby d12_7) (fun _ _ => ⟨rfl, e_57, (by decide : 1 + 0 ≤ _), (by decide : 8 + 0 ≤ _)⟩)
  dsimp only [Pt.U, Pt.locs, Pt.cells, Pt.slots, Nat.add_zero] at X_58 l_58 y_58 z_58 st_58 hQ_58
  subst y_58 z_58
  obtain ⟨Nq_58, e_58, rfl⟩ := hQ_58
  replace Nf := own_frEq l_58 (Fr.app Nf Nq_58)
  clear l_58
  refine Win.come st_58 ?_
  clear st_58 Nq_58 X_57 e_57
  show Win p.tables e below _ (T_58.setTop (mkF m 10 #[.val (.ref ru), .val (.ref ke), .val (.ref u)] [(.int (1 : Int32)), (.ref ke), (.ref ru), (.ref b_57), (.ref b_57)]))
  obtain ⟨_, _, ⟨T_59, L_59, k_59, n_59⟩, -, X_59, ⟨Lc_59, hQ_59, l_59, y_59, z_59⟩, st_59⟩ := X_58.specialBack hx (y := (⟨"com/example/throttle/throttle/Decision", "<init>", "(Ljava/lang/String;Ljava/lang/String;Z)V"⟩ : MethodName)) rfl hown (mvT hZ (hw _ (List.mem_of_getElem? (i := 86) rfl))) (mvT hZ (hw _ (List.mem_of_getElem? (i := 87) rfl))) (mvT hZ (hw _ (List.mem_of_getElem? (i := 88) rfl))) (by decide) (backOf (W := 1) (rm14_1 l Z a0 hw [] b_57 ru ke h_57 n0 Zs E_b_57 F_rule_b_57 F_key_b_57 F_allowed_b_57 F_limit_b_57 F_remaining_b_57 F_reset_b_57 F_retryAfter_b_57 F_storeAnswered_b_57 g_b_57) hZ (hw _ (List.mem_of_getElem? (i := 88) rfl)) (hw _ (List.mem_of_getElem? (i := 9) rfl)) (by decide) (by decide)) (g := (mkF m 10 #[.val (.ref ru), .val (.ref ke), .val (.ref u)] [(.int (1 : Int32)), (.ref ke), (.ref ru), (.ref b_57), (.ref b_57)])) rfl (by rw [hml]; rfl) (Steps.refl _) (a := b_57) (argsL := [(.ref ru), (.ref ke), (.int (1 : Int32))]) (rest := [(.ref b_57)]) (lenOf pd_5 rfl) rfl (by show 2 * 0 + _ ≤ _; exact Nat.le_of_eq rfl) (hb hby d12_10) (fun _ _ => ⟨rfl, e_58, (by decide : 1 + 0 ≤ _), (by decide : 8 + 0 ≤ _)⟩)
  dsimp only [Pt.U, Pt.locs, Pt.cells, Pt.slots, Nat.add_zero] at X_59 l_59 y_59 z_59 st_59 hQ_59
  subst y_59 z_59
  obtain ⟨h_59, e_59⟩ : ∃ z, T_59.heap = z := ⟨_, rfl⟩
  rw [e_59] at hQ_59
  obtain ⟨Nq_59, K_59, n_59_F_rule_b_57, n_59_F_key_b_57, n_59_F_allowed_b_57, n_59_F_limit_b_57, n_59_F_remaining_b_57, n_59_F_reset_b_57, n_59_F_retryAfter_b_57, n_59_F_storeAnswered_b_57, rfl⟩ := hQ_59
  replace Nf := own_frEq l_59 (Fr.app Nf Nq_59)
  clear l_59
  replace E_u := E_u.keep K_59
  replace F_allows_u := F_allows_u.keep K_59 (ninS ne_u_b_57 nin0)
  replace E_b_57 := E_b_57.keep K_59
  clear F_rule_b_57
  clear F_key_b_57
  clear F_allowed_b_57
  clear F_limit_b_57
  clear F_remaining_b_57
  clear F_reset_b_57
  clear F_retryAfter_b_57
  clear F_storeAnswered_b_57
  replace lt_u := Nat.lt_of_lt_of_le lt_u K_59.1
  replace lt_b_57 := Nat.lt_of_lt_of_le lt_b_57 K_59.1
  replace Zs := Nat.le_trans Zs K_59.1
  replace Kp := Kp.trans K_59 (allS (Or.inr sz_b_57) all0)
  have F_rule_b_57 := n_59_F_rule_b_57
  have F_key_b_57 := n_59_F_key_b_57
  have F_allowed_b_57 := n_59_F_allowed_b_57
  have F_limit_b_57 := n_59_F_limit_b_57
  have F_remaining_b_57 := n_59_F_remaining_b_57
  have F_reset_b_57 := n_59_F_reset_b_57
  have F_retryAfter_b_57 := n_59_F_retryAfter_b_57
  have F_storeAnswered_b_57 := n_59_F_storeAnswered_b_57
  refine Win.come st_59 ?_
  clear st_59 Nq_59 X_58 e_58 K_59
  show Win p.tables e below _ (T_59.setTop (mkF m 13 #[.val (.ref ru), .val (.ref ke), .val (.ref u)] [(.ref b_57)]))
  refine winA X_59 hx hlk e_59 Bd.returns rfl rfl (hb hby d12_13) (by decide) (by decide) ?_
  exact ⟨Nf, Kp, b_57, rfl, g_b_57, sz_b_57, E_b_57, F_rule_b_57, F_key_b_57, F_allowed_b_57, F_limit_b_57, F_remaining_b_57, F_reset_b_57, F_retryAfter_b_57, F_storeAnswered_b_57⟩
theorem d2_0 : decode method_3_code 0 = .ok (.iload_n 3, 1) := by decide +kernel
theorem d2_1 : decode method_3_code 1 = .ok (.ifCond .eq 28, 3) := by decide +kernel
theorem d2_4 : decode method_3_code 4 = .ok (.iload_n 0, 1) := by decide +kernel
theorem d2_5 : decode method_3_code 5 = .ok (.invokestatic 7, 3) := by decide +kernel
theorem d2_8 : decode method_3_code 8 = .ok (.iload_n 1, 1) := by decide +kernel
theorem d2_9 : decode method_3_code 9 = .ok (.invokestatic 7, 3) := by decide +kernel
theorem d2_12 : decode method_3_code 12 = .ok (.iload_n 2, 1) := by decide +kernel
theorem d2_13 : decode method_3_code 13 = .ok (.ifCond .eq 9, 3) := by decide +kernel
theorem d2_16 : decode method_3_code 16 = .ok (.getstatic 13, 3) := by decide +kernel
theorem d2_19 : decode method_3_code 19 = .ok (.goto 6, 3) := by decide +kernel
theorem d2_22 : decode method_3_code 22 = .ok (.getstatic 19, 3) := by decide +kernel
theorem d2_25 : decode method_3_code 25 = .ok (.invokestatic 22, 3) := by decide +kernel
theorem d2_28 : decode method_3_code 28 = .ok (.areturn, 1) := by decide +kernel
theorem d2_29 : decode method_3_code 29 = .ok (.new 23, 3) := by decide +kernel
theorem d2_32 : decode method_3_code 32 = .ok (.dup, 1) := by decide +kernel
theorem d2_33 : decode method_3_code 33 = .ok (.iload_n 0, 1) := by decide +kernel
theorem d2_34 : decode method_3_code 34 = .ok (.invokestatic 7, 3) := by decide +kernel
theorem d2_37 : decode method_3_code 37 = .ok (.iload_n 1, 1) := by decide +kernel
theorem d2_38 : decode method_3_code 38 = .ok (.invokestatic 7, 3) := by decide +kernel
theorem d2_41 : decode method_3_code 41 = .ok (.iload_n 2, 1) := by decide +kernel
theorem d2_42 : decode method_3_code 42 = .ok (.lload 4, 2) := by decide +kernel
theorem d2_44 : decode method_3_code 44 = .ok (.lload 6, 2) := by decide +kernel
theorem d2_46 : decode method_3_code 46 = .ok (.lload 8, 2) := by decide +kernel
theorem d2_48 : decode method_3_code 48 = .ok (.lload 10, 2) := by decide +kernel
theorem d2_50 : decode method_3_code 50 = .ok (.invokespecial 28, 3) := by decide +kernel
theorem d2_53 : decode method_3_code 53 = .ok (.areturn, 1) := by decide +kernel
theorem pd_6 : parseMethodDescriptor "(C)Ljava/lang/String;" = some ⟨[.char], some (.object "java/lang/String")⟩ := by decide +kernel
theorem pd_7 : parseMethodDescriptor "(Ljava/lang/String;Ljava/lang/String;ZJJJJ)V" = some ⟨[(.object "java/lang/String"), (.object "java/lang/String"), .boolean, .long, .long, .long, .long], none⟩ := by decide +kernel
theorem pd_8 : parseMethodDescriptor "(Ljava/lang/String;Ljava/lang/String;Lcom/example/throttle/throttle/OnStoreFailure;)Lcom/example/throttle/throttle/Decision;" = some ⟨[(.object "java/lang/String"), (.object "java/lang/String"), (.object "com/example/throttle/throttle/OnStoreFailure")], some (.object "com/example/throttle/throttle/Decision")⟩ := by decide +kernel
theorem ef_2 (m : MethodId) (c1 : Int32) (c2 : Int32) (al : Int32) (af : Int32) (l1 : Int64) (l2 : Int64) (l3 : Int64) (l4 : Int64) : entryFrame m #[(.int c1), (.int c2), (.int al), (.int af), (.long l1), (.long l2), (.long l3), (.long l4)] 12 = mkF m 0 #[.val (.int c1), .val (.int c2), .val (.int al), .val (.int af), .val (.long l1), .second, .val (.long l2), .second, .val (.long l3), .second, .val (.long l4), .second] [] := by first | (simp [entryFrame, mkF, argsToLocals, Value.category]; done) | rfl
def Q2 (Z : State) (c1 : Int32) (c2 : Int32) (al : Int32) (af : Int32) (l1 : Int64) (l2 : Int64) (l3 : Int64) (l4 : Int64) (cs : Int32) (ua : Addr) (ud : Addr) (h0 : Heap) (n0 : Nat) (v : Option Value) (h : Heap) (L : List Loc) : Prop := Fr n0 L ∧ Keep h0 h [] ∧ (∃ (dd : Addr) (ru : Addr) (ke : Addr) (w1 : Addr) (w2 : Addr) (sa : Int32), v = some (.ref dd) ∧ n0 ≤ dd ∧ h0.size ≤ dd ∧ Exa Z h dd "com/example/throttle/throttle/Decision" ∧ Fld Z h dd "com/example/throttle/throttle/Decision" "rule" "Ljava/lang/String;" (.ref ru) ∧ Fld Z h dd "com/example/throttle/throttle/Decision" "key" "Ljava/lang/String;" (.ref ke) ∧ Fld Z h dd "com/example/throttle/throttle/Decision" "allowed" "Z" (.int al) ∧ Fld Z h dd "com/example/throttle/throttle/Decision" "limit" "J" (.long l1) ∧ Fld Z h dd "com/example/throttle/throttle/Decision" "remaining" "J" (.long l2) ∧ Fld Z h dd "com/example/throttle/throttle/Decision" "reset" "J" (.long l3) ∧ Fld Z h dd "com/example/throttle/throttle/Decision" "retryAfter" "J" (.long l4) ∧ Fld Z h dd "com/example/throttle/throttle/Decision" "storeAnswered" "Z" (.int sa) ∧ Exa Z h ru "java/lang/String" ∧ Exa Z h ke "java/lang/String" ∧ Fld Z h ru "java/lang/String" "value" "[B" (.ref w1) ∧ Fld Z h ke "java/lang/String" "value" "[B" (.ref w2) ∧ Fld Z h ru "java/lang/String" "coder" "B" (.int (0 : Int32)) ∧ Fld Z h ke "java/lang/String" "coder" "B" (.int (0 : Int32)) ∧ AF Z h w1 .byte 1 (updF (fun _ => 0) (0 : Int) (nar .byte c1.toInt8.toInt32)) ∧ AF Z h w2 .byte 1 (updF (fun _ => 0) (0 : Int) (nar .byte c2.toInt8.toInt32)) ∧ (h0.size ≤ ru) ∧ (h0.size ≤ ke) ∧ (sa.toInt = 1 - af.toInt))
set_option maxRecDepth 65536 in
set_option maxHeartbeats 40000000 in
theorem rm2 (l : Launch) (Z : State) (a0 : Array Value) (hw : ∀ d ∈ tables_1, d.before a0 Z = true) (ws : List Jvm.Cond) (c1 : Int32) (c2 : Int32) (al : Int32) (af : Int32) (l1 : Int64) (l2 : Int64) (l3 : Int64) (l4 : Int64) (cs : Int32) (ua : Addr) (ud : Addr) (h0 : Heap) (n0 : Nat) (Zs : n0 ≤ h0.size) (S_COMPACT_STRINGS : Sta Z h0 "java/lang/String" "COMPACT_STRINGS" "Z" (.int cs)) (hcs : ¬ cs.toInt = 0) (S_ALLOW : Sta Z h0 "com/example/throttle/throttle/OnStoreFailure" "ALLOW" "Lcom/example/throttle/throttle/OnStoreFailure;" (.ref ua)) (S_DENY : Sta Z h0 "com/example/throttle/throttle/OnStoreFailure" "DENY" "Lcom/example/throttle/throttle/OnStoreFailure;" (.ref ud)) (E_ua : Exa Z h0 ua "com/example/throttle/throttle/OnStoreFailure") (F_allows_ua : Fld Z h0 ua "com/example/throttle/throttle/OnStoreFailure" "allows" "Z" (.int (1 : Int32))) (E_ud : Exa Z h0 ud "com/example/throttle/throttle/OnStoreFailure") (F_allows_ud : Fld Z h0 ud "com/example/throttle/throttle/OnStoreFailure" "allows" "Z" (.int (0 : Int32))) (hc1 : 0 ≤ c1.toInt ∧ c1.toInt ≤ 255) (hc2 : 0 ≤ c2.toInt ∧ c2.toInt ≤ 255) (hal : al.toInt = 0 ∨ al.toInt = 1) (haf : af.toInt = 0 ∨ af.toInt = 1) (hpol : ¬ af.toInt = 0 → l1 = (0 : Int64) ∧ l2 = (0 : Int64) ∧ l3 = (0 : Int64) ∧ (al.toInt = 0 → l4 = (1 : Int64)) ∧ (¬ al.toInt = 0 → l4 = (0 : Int64))) :
    MetFree l (⟨"com/example/throttle/throttle/DecisionEqualsPinLaw", "make", "(CCZZJJJJ)Lcom/example/throttle/throttle/Decision;"⟩ : MethodName) (head1 (Jvm.Cond.code (⟨"com/example/throttle/throttle/DecisionEqualsPinLaw", "make", "(CCZZJJJJ)Lcom/example/throttle/throttle/Decision;"⟩ : MethodName) method_3_code 12 (some (.object "com/example/throttle/throttle/Decision")) :: ws) ({ frames := 3, cells := 5, slots := 18, locals := 42 } : Room)) (fun as' U => as' = #[(.int c1), (.int c2), (.int al), (.int af), (.long l1), (.long l2), (.long l3), (.long l4)] ∧ Z.Warmed39 U.vm ∧ U.heap = h0) (fun _ _ _ _ _ => True) (fun _ U o U' => ∃ v L, o = .returned v ∧ Q2 Z c1 c2 al af l1 l2 l3 l4 cs ua ud h0 n0 v U'.heap L ∧ FrameEnd U o U' L ({ frames := 3, cells := 5, slots := 18, locals := 42 } : Room).cells ({ frames := 3, cells := 5, slots := 18, locals := 42 } : Room).slots) := by
  refine MetFree.of_bodySF (plainFor_of_name pn_1) hisR ?_
  intro p e s m args below meth c s₁ Bd hml0 hP hK
  obtain ⟨rfl, hZ, hh⟩ := hP
  have hx := Bd.exec
  have hby := Bd.bytes
  have hml : c.maxLocals = 12 := hml0
  have hown : s.vm.findClass "com/example/throttle/throttle/DecisionEqualsPinLaw" = some m.cls := findClass_of_methodNamed Bd.named
  have hnm := (name_of_methodNamed Bd.named Bd.method).1
  have hlk : meth.locks = false := Bd.notSynchronized
  have X0 : Stand p l e ({ frames := 3, cells := 5, slots := 18, locals := 42 } : Room) s m #[(.int c1), (.int c2), (.int al), (.int af), (.long l1), (.long l2), (.long l3), (.long l4)] below meth c s₁ [] 0 0 := Stand.of_body Bd
  have e0 : s₁.heap = h0 := by rw [← hh, Bd.state]; rfl
  have Nf := Fr.nil n0
  refine (?_ : Win p.tables e below (PostQ s (Q2 Z c1 c2 al af l1 l2 l3 l4 cs ua ud h0 n0) ({ frames := 3, cells := 5, slots := 18, locals := 42 } : Room).cells ({ frames := 3, cells := 5, slots := 18, locals := 42 } : Room).slots) (s₁.setTop (entryFrame m #[(.int c1), (.int c2), (.int al), (.int af), (.long l1), (.long l2), (.long l3), (.long l4)] 12)))
  rw [ef_2]
  have Kp : Keep h0 h0 [] := Keep.refl h0 _
  have lt_ua : ua < h0.size := E_ua.lt
  have lt_ud : ud < h0.size := E_ud.lt
  have hb1 := hc1
  have hb2 := hc2
  clear hc1 hc2
  show Win p.tables e below _ (s₁.setTop (mkF m 0 #[.val (.int c1), .val (.int c2), .val (.int al), .val (.int af), .val (.long l1), .second, .val (.long l2), .second, .val (.long l3), .second, .val (.long l4), .second] []))
  refine s_iloadN (pc' := 1) X0.here hx (hb hby d2_0) rfl rfl ?_
  by_cases hc1 : (af).toInt = (0 : Int)
  · skip
    refine s_ifYes (pc' := 29) X0.here hx (hb hby d2_1) ((if0 _ _).trans (teqI (x := af) (y := (0 : Int32)) hc1).1) (by decide) (by decide) ?_
    obtain ⟨T_60, h_60, X_60, e_60, Ex_60, A_60, D_60, -, st_60⟩ := newO X0 hx hZ hown (hw _ (List.mem_of_getElem? (i := 7) rfl)) (hw _ (List.mem_of_getElem? (i := 8) rfl)) (hw _ (List.mem_of_getElem? (i := 9) rfl)) e0 (g := (mkF m 29 #[.val (.int c1), .val (.int c2), .val (.int al), .val (.int af), .val (.long l1), .second, .val (.long l2), .second, .val (.long l3), .second, .val (.long l4), .second] [])) rfl (hb hby d2_29) (by decide) (by decide)
    obtain ⟨b_60, g_60⟩ : ∃ z, z = h0.size := ⟨_, rfl⟩
    have ne_ua_b_60 : ua ≠ b_60 := Nat.ne_of_lt (Nat.lt_of_lt_of_le lt_ua (Nat.le_of_eq g_60.symm))
    have ne_ud_b_60 : ud ≠ b_60 := Nat.ne_of_lt (Nat.lt_of_lt_of_le lt_ud (Nat.le_of_eq g_60.symm))
    have g_b_60 : n0 ≤ b_60 := Nat.le_trans Zs (Nat.le_of_eq g_60.symm)
    have sz_b_60 : h0.size ≤ b_60 := Nat.le_trans Kp.1 (Nat.le_of_eq g_60.symm)
    rw [← g_60] at A_60 D_60 st_60
    replace S_COMPACT_STRINGS := S_COMPACT_STRINGS.ext Ex_60
    replace S_ALLOW := S_ALLOW.ext Ex_60
    replace S_DENY := S_DENY.ext Ex_60
    replace E_ua := E_ua.ext Ex_60
    replace F_allows_ua := F_allows_ua.ext Ex_60
    replace E_ud := E_ud.ext Ex_60
    replace F_allows_ud := F_allows_ud.ext Ex_60
    replace lt_ua := Nat.lt_of_lt_of_le lt_ua Ex_60.1
    replace lt_ud := Nat.lt_of_lt_of_le lt_ud Ex_60.1
    replace Zs := Nat.le_trans Zs Ex_60.1
    replace Kp := Kp.ext Ex_60
    have E_b_60 := A_60
    have lt_b_60 := E_b_60.lt
    have F_rule_b_60 : Fld Z h_60 b_60 "com/example/throttle/throttle/Decision" "rule" "Ljava/lang/String;" .null := D_60 (Or.inr (hw _ (List.mem_of_getElem? (i := 41) rfl))) (ty := (.object "java/lang/String")) (by decide)
    have F_key_b_60 : Fld Z h_60 b_60 "com/example/throttle/throttle/Decision" "key" "Ljava/lang/String;" .null := D_60 (Or.inr (hw _ (List.mem_of_getElem? (i := 43) rfl))) (ty := (.object "java/lang/String")) (by decide)
    have F_allowed_b_60 : Fld Z h_60 b_60 "com/example/throttle/throttle/Decision" "allowed" "Z" (.int (0 : Int32)) := D_60 (Or.inr (hw _ (List.mem_of_getElem? (i := 45) rfl))) (ty := .boolean) (by decide)
    have F_limit_b_60 : Fld Z h_60 b_60 "com/example/throttle/throttle/Decision" "limit" "J" (.long (0 : Int64)) := D_60 (Or.inr (hw _ (List.mem_of_getElem? (i := 47) rfl))) (ty := .long) (by decide)
    have F_remaining_b_60 : Fld Z h_60 b_60 "com/example/throttle/throttle/Decision" "remaining" "J" (.long (0 : Int64)) := D_60 (Or.inr (hw _ (List.mem_of_getElem? (i := 49) rfl))) (ty := .long) (by decide)
    have F_reset_b_60 : Fld Z h_60 b_60 "com/example/throttle/throttle/Decision" "reset" "J" (.long (0 : Int64)) := D_60 (Or.inr (hw _ (List.mem_of_getElem? (i := 51) rfl))) (ty := .long) (by decide)
    have F_retryAfter_b_60 : Fld Z h_60 b_60 "com/example/throttle/throttle/Decision" "retryAfter" "J" (.long (0 : Int64)) := D_60 (Or.inr (hw _ (List.mem_of_getElem? (i := 53) rfl))) (ty := .long) (by decide)
    have F_storeAnswered_b_60 : Fld Z h_60 b_60 "com/example/throttle/throttle/Decision" "storeAnswered" "Z" (.int (0 : Int32)) := D_60 (Or.inr (hw _ (List.mem_of_getElem? (i := 55) rfl))) (ty := .boolean) (by decide)
    refine Win.go st_60 ?_
    clear st_60 Ex_60 A_60 D_60 g_60 X0 e0
    show Win p.tables e below _ (T_60.setTop (mkF m 32 #[.val (.int c1), .val (.int c2), .val (.int al), .val (.int af), .val (.long l1), .second, .val (.long l2), .second, .val (.long l3), .second, .val (.long l4), .second] [(.ref b_60)]))
    refine s_dup (pc' := 33) X_60.here hx (hb hby d2_32) rfl rfl ?_
    refine s_iloadN (pc' := 34) X_60.here hx (hb hby d2_33) rfl rfl ?_
    obtain ⟨_, _, ⟨T_61, L_61, k_61, n_61⟩, -, X_61, ⟨Lc_61, hQ_61, l_61, y_61, z_61⟩, st_61⟩ := Jvm.LawKit.callS X_60 hx (y := (⟨"java/lang/String", "valueOf", "(C)Ljava/lang/String;"⟩ : MethodName)) hown (mvT hZ (hw _ (List.mem_of_getElem? (i := 10) rfl))) (mvT hZ (hw _ (List.mem_of_getElem? (i := 11) rfl))) (mvT hZ (hw _ (List.mem_of_getElem? (i := 12) rfl))) (mvT hZ (hw _ (List.mem_of_getElem? (i := 13) rfl))) (by decide) (backOf (W := 2) (rm3 l Z a0 hw [] c1 cs h_60 n0 Zs S_COMPACT_STRINGS hcs hb1) hZ (hw _ (List.mem_of_getElem? (i := 13) rfl)) (hw _ (List.mem_of_getElem? (i := 12) rfl)) (by decide) (by decide)) (g := (mkF m 34 #[.val (.int c1), .val (.int c2), .val (.int al), .val (.int af), .val (.long l1), .second, .val (.long l2), .second, .val (.long l3), .second, .val (.long l4), .second] [(.int c1), (.ref b_60), (.ref b_60)])) rfl (by rw [hml]; rfl) (argsL := [(.int c1)]) (rest := [(.ref b_60), (.ref b_60)]) (lenOf pd_6 rfl) rfl (by show 2 * 0 + _ ≤ _; exact Nat.le_of_eq rfl) (hb hby d2_34) (fun _ _ => ⟨rfl, e_60, (by decide : 1 + 2 ≤ _), (by decide : 8 + 5 ≤ _)⟩)
    dsimp only [Pt.U, Pt.locs, Pt.cells, Pt.slots, Nat.add_zero] at X_61 l_61 y_61 z_61 st_61 hQ_61
    subst y_61 z_61
    obtain ⟨h_61, e_61⟩ : ∃ z, T_61.heap = z := ⟨_, rfl⟩
    rw [e_61] at hQ_61
    obtain ⟨Nq_61, K_61, b_61, ww_61, rfl, g_b_61, so_61, n_61_E_b_61, n_61_F_value_b_61, n_61_F_coder_b_61, n_61_A_ww_61, hp_61_0⟩ := hQ_61
    replace Nf := own_frEq l_61 (Fr.app Nf Nq_61)
    clear l_61
    have ne_ua_b_61 : ua ≠ b_61 := Nat.ne_of_lt (Nat.lt_of_lt_of_le lt_ua so_61)
    have ne_ud_b_61 : ud ≠ b_61 := Nat.ne_of_lt (Nat.lt_of_lt_of_le lt_ud so_61)
    have ne_b_60_b_61 : b_60 ≠ b_61 := Nat.ne_of_lt (Nat.lt_of_lt_of_le lt_b_60 so_61)
    have sz_b_61 : h0.size ≤ b_61 := Nat.le_trans Kp.1 so_61
    have ne_ua_ww_61 : ua ≠ ww_61 := Nat.ne_of_lt (Nat.lt_of_lt_of_le lt_ua hp_61_0)
    have ne_ud_ww_61 : ud ≠ ww_61 := Nat.ne_of_lt (Nat.lt_of_lt_of_le lt_ud hp_61_0)
    have ne_b_60_ww_61 : b_60 ≠ ww_61 := Nat.ne_of_lt (Nat.lt_of_lt_of_le lt_b_60 hp_61_0)
    have sz_ww_61 : h0.size ≤ ww_61 := Nat.le_trans Kp.1 hp_61_0
    replace S_COMPACT_STRINGS := own_staK S_COMPACT_STRINGS K_61 all0
    replace S_ALLOW := own_staK S_ALLOW K_61 all0
    replace S_DENY := own_staK S_DENY K_61 all0
    replace E_ua := E_ua.keep K_61
    replace F_allows_ua := F_allows_ua.keep K_61 nin0
    replace E_ud := E_ud.keep K_61
    replace F_allows_ud := F_allows_ud.keep K_61 nin0
    replace E_b_60 := E_b_60.keep K_61
    replace F_rule_b_60 := F_rule_b_60.keep K_61 nin0
    replace F_key_b_60 := F_key_b_60.keep K_61 nin0
    replace F_allowed_b_60 := F_allowed_b_60.keep K_61 nin0
    replace F_limit_b_60 := F_limit_b_60.keep K_61 nin0
    replace F_remaining_b_60 := F_remaining_b_60.keep K_61 nin0
    replace F_reset_b_60 := F_reset_b_60.keep K_61 nin0
    replace F_retryAfter_b_60 := F_retryAfter_b_60.keep K_61 nin0
    replace F_storeAnswered_b_60 := F_storeAnswered_b_60.keep K_61 nin0
    replace lt_ua := Nat.lt_of_lt_of_le lt_ua K_61.1
    replace lt_ud := Nat.lt_of_lt_of_le lt_ud K_61.1
    replace lt_b_60 := Nat.lt_of_lt_of_le lt_b_60 K_61.1
    replace Zs := Nat.le_trans Zs K_61.1
    replace Kp := Kp.trans K_61 all0
    have E_b_61 := n_61_E_b_61
    have F_value_b_61 := n_61_F_value_b_61
    have F_coder_b_61 := n_61_F_coder_b_61
    have A_ww_61 := n_61_A_ww_61
    have lt_b_61 := E_b_61.lt
    have lt_ww_61 := A_ww_61.lt
    refine Win.go st_61 ?_
    clear st_61 Nq_61 X_60 e_60 K_61
    show Win p.tables e below _ (T_61.setTop (mkF m 37 #[.val (.int c1), .val (.int c2), .val (.int al), .val (.int af), .val (.long l1), .second, .val (.long l2), .second, .val (.long l3), .second, .val (.long l4), .second] [(.ref b_61), (.ref b_60), (.ref b_60)]))
    refine s_iloadN (pc' := 38) X_61.here hx (hb hby d2_37) rfl rfl ?_
    obtain ⟨_, _, ⟨T_62, L_62, k_62, n_62⟩, -, X_62, ⟨Lc_62, hQ_62, l_62, y_62, z_62⟩, st_62⟩ := Jvm.LawKit.callS X_61 hx (y := (⟨"java/lang/String", "valueOf", "(C)Ljava/lang/String;"⟩ : MethodName)) hown (mvT hZ (hw _ (List.mem_of_getElem? (i := 10) rfl))) (mvT hZ (hw _ (List.mem_of_getElem? (i := 11) rfl))) (mvT hZ (hw _ (List.mem_of_getElem? (i := 12) rfl))) (mvT hZ (hw _ (List.mem_of_getElem? (i := 13) rfl))) (by decide) (backOf (W := 3) (rm3 l Z a0 hw [] c2 cs h_61 n0 Zs S_COMPACT_STRINGS hcs hb2) hZ (hw _ (List.mem_of_getElem? (i := 13) rfl)) (hw _ (List.mem_of_getElem? (i := 12) rfl)) (by decide) (by decide)) (g := (mkF m 38 #[.val (.int c1), .val (.int c2), .val (.int al), .val (.int af), .val (.long l1), .second, .val (.long l2), .second, .val (.long l3), .second, .val (.long l4), .second] [(.int c2), (.ref b_61), (.ref b_60), (.ref b_60)])) rfl (by rw [hml]; rfl) (argsL := [(.int c2)]) (rest := [(.ref b_61), (.ref b_60), (.ref b_60)]) (lenOf pd_6 rfl) rfl (by show 2 * 0 + _ ≤ _; exact Nat.le_of_eq rfl) (hb hby d2_38) (fun _ _ => ⟨rfl, e_61, (by decide : 3 + 2 ≤ _), (by decide : 13 + 5 ≤ _)⟩)
    dsimp only [Pt.U, Pt.locs, Pt.cells, Pt.slots, Nat.add_zero] at X_62 l_62 y_62 z_62 st_62 hQ_62
    subst y_62 z_62
    obtain ⟨h_62, e_62⟩ : ∃ z, T_62.heap = z := ⟨_, rfl⟩
    rw [e_62] at hQ_62
    obtain ⟨Nq_62, K_62, b_62, ww_62, rfl, g_b_62, so_62, n_62_E_b_62, n_62_F_value_b_62, n_62_F_coder_b_62, n_62_A_ww_62, hp_62_0⟩ := hQ_62
    replace Nf := own_frEq l_62 (Fr.app Nf Nq_62)
    clear l_62
    have ne_ua_b_62 : ua ≠ b_62 := Nat.ne_of_lt (Nat.lt_of_lt_of_le lt_ua so_62)
    have ne_ud_b_62 : ud ≠ b_62 := Nat.ne_of_lt (Nat.lt_of_lt_of_le lt_ud so_62)
    have ne_b_60_b_62 : b_60 ≠ b_62 := Nat.ne_of_lt (Nat.lt_of_lt_of_le lt_b_60 so_62)
    have ne_b_61_b_62 : b_61 ≠ b_62 := Nat.ne_of_lt (Nat.lt_of_lt_of_le lt_b_61 so_62)
    have ne_ww_61_b_62 : ww_61 ≠ b_62 := Nat.ne_of_lt (Nat.lt_of_lt_of_le lt_ww_61 so_62)
    have sz_b_62 : h0.size ≤ b_62 := Nat.le_trans Kp.1 so_62
    have ne_ua_ww_62 : ua ≠ ww_62 := Nat.ne_of_lt (Nat.lt_of_lt_of_le lt_ua hp_62_0)
    have ne_ud_ww_62 : ud ≠ ww_62 := Nat.ne_of_lt (Nat.lt_of_lt_of_le lt_ud hp_62_0)
    have ne_b_60_ww_62 : b_60 ≠ ww_62 := Nat.ne_of_lt (Nat.lt_of_lt_of_le lt_b_60 hp_62_0)
    have ne_b_61_ww_62 : b_61 ≠ ww_62 := Nat.ne_of_lt (Nat.lt_of_lt_of_le lt_b_61 hp_62_0)
    have ne_ww_61_ww_62 : ww_61 ≠ ww_62 := Nat.ne_of_lt (Nat.lt_of_lt_of_le lt_ww_61 hp_62_0)
    have sz_ww_62 : h0.size ≤ ww_62 := Nat.le_trans Kp.1 hp_62_0
    replace S_COMPACT_STRINGS := own_staK S_COMPACT_STRINGS K_62 all0
    replace S_ALLOW := own_staK S_ALLOW K_62 all0
    replace S_DENY := own_staK S_DENY K_62 all0
    replace E_ua := E_ua.keep K_62
    replace F_allows_ua := F_allows_ua.keep K_62 nin0
    replace E_ud := E_ud.keep K_62
    replace F_allows_ud := F_allows_ud.keep K_62 nin0
    replace E_b_60 := E_b_60.keep K_62
    replace F_rule_b_60 := F_rule_b_60.keep K_62 nin0
    replace F_key_b_60 := F_key_b_60.keep K_62 nin0
    replace F_allowed_b_60 := F_allowed_b_60.keep K_62 nin0
    replace F_limit_b_60 := F_limit_b_60.keep K_62 nin0
    replace F_remaining_b_60 := F_remaining_b_60.keep K_62 nin0
    replace F_reset_b_60 := F_reset_b_60.keep K_62 nin0
    replace F_retryAfter_b_60 := F_retryAfter_b_60.keep K_62 nin0
    replace F_storeAnswered_b_60 := F_storeAnswered_b_60.keep K_62 nin0
    replace E_b_61 := E_b_61.keep K_62
    replace F_value_b_61 := F_value_b_61.keep K_62 nin0
    replace F_coder_b_61 := F_coder_b_61.keep K_62 nin0
    replace A_ww_61 := A_ww_61.keep K_62 nin0
    replace lt_ua := Nat.lt_of_lt_of_le lt_ua K_62.1
    replace lt_ud := Nat.lt_of_lt_of_le lt_ud K_62.1
    replace lt_b_60 := Nat.lt_of_lt_of_le lt_b_60 K_62.1
    replace lt_b_61 := Nat.lt_of_lt_of_le lt_b_61 K_62.1
    replace lt_ww_61 := Nat.lt_of_lt_of_le lt_ww_61 K_62.1
    replace Zs := Nat.le_trans Zs K_62.1
    replace Kp := Kp.trans K_62 all0
    have E_b_62 := n_62_E_b_62
    have F_value_b_62 := n_62_F_value_b_62
    have F_coder_b_62 := n_62_F_coder_b_62
    have A_ww_62 := n_62_A_ww_62
    have lt_b_62 := E_b_62.lt
    have lt_ww_62 := A_ww_62.lt
    refine Win.go st_62 ?_
    clear st_62 Nq_62 X_61 e_61 K_62
    show Win p.tables e below _ (T_62.setTop (mkF m 41 #[.val (.int c1), .val (.int c2), .val (.int al), .val (.int af), .val (.long l1), .second, .val (.long l2), .second, .val (.long l3), .second, .val (.long l4), .second] [(.ref b_62), (.ref b_61), (.ref b_60), (.ref b_60)]))
    refine s_iloadN (pc' := 42) X_62.here hx (hb hby d2_41) rfl rfl ?_
    refine s_lload (pc' := 44) X_62.here hx (hb hby d2_42) rfl rfl ?_
    refine s_lload (pc' := 46) X_62.here hx (hb hby d2_44) rfl rfl ?_
    refine s_lload (pc' := 48) X_62.here hx (hb hby d2_46) rfl rfl ?_
    refine s_lload (pc' := 50) X_62.here hx (hb hby d2_48) rfl rfl ?_
    obtain ⟨_, _, ⟨T_63, L_63, k_63, n_63⟩, -, X_63, ⟨Lc_63, hQ_63, l_63, y_63, z_63⟩, st_63⟩ := X_62.specialBack hx (y := (⟨"com/example/throttle/throttle/Decision", "<init>", "(Ljava/lang/String;Ljava/lang/String;ZJJJJ)V"⟩ : MethodName)) rfl hown (mvT hZ (hw _ (List.mem_of_getElem? (i := 36) rfl))) (mvT hZ (hw _ (List.mem_of_getElem? (i := 37) rfl))) (mvT hZ (hw _ (List.mem_of_getElem? (i := 38) rfl))) (by decide) (backOf (W := 1) (rm8 l Z a0 hw [] b_60 b_61 b_62 al l1 l2 l3 l4 h_62 n0 Zs E_b_60 F_rule_b_60 F_key_b_60 F_allowed_b_60 F_limit_b_60 F_remaining_b_60 F_reset_b_60 F_retryAfter_b_60 F_storeAnswered_b_60 g_b_60) hZ (hw _ (List.mem_of_getElem? (i := 38) rfl)) (hw _ (List.mem_of_getElem? (i := 9) rfl)) (by decide) (by decide)) (g := (mkF m 50 #[.val (.int c1), .val (.int c2), .val (.int al), .val (.int af), .val (.long l1), .second, .val (.long l2), .second, .val (.long l3), .second, .val (.long l4), .second] [(.long l4), (.long l3), (.long l2), (.long l1), (.int al), (.ref b_62), (.ref b_61), (.ref b_60), (.ref b_60)])) rfl (by rw [hml]; rfl) (Steps.refl _) (a := b_60) (argsL := [(.ref b_61), (.ref b_62), (.int al), (.long l1), (.long l2), (.long l3), (.long l4)]) (rest := [(.ref b_60)]) (lenOf pd_7 rfl) rfl (by show 2 * 0 + _ ≤ _; exact Nat.le_of_eq rfl) (hb hby d2_50) (fun _ _ => ⟨rfl, e_62, (by decide : 5 + 0 ≤ _), (by decide : 18 + 0 ≤ _)⟩)
    dsimp only [Pt.U, Pt.locs, Pt.cells, Pt.slots, Nat.add_zero] at X_63 l_63 y_63 z_63 st_63 hQ_63
    subst y_63 z_63
    obtain ⟨h_63, e_63⟩ : ∃ z, T_63.heap = z := ⟨_, rfl⟩
    rw [e_63] at hQ_63
    obtain ⟨Nq_63, K_63, n_63_F_rule_b_60, n_63_F_key_b_60, n_63_F_allowed_b_60, n_63_F_limit_b_60, n_63_F_remaining_b_60, n_63_F_reset_b_60, n_63_F_retryAfter_b_60, n_63_F_storeAnswered_b_60, rfl⟩ := hQ_63
    replace Nf := own_frEq l_63 (Fr.app Nf Nq_63)
    clear l_63
    replace S_COMPACT_STRINGS := own_staK S_COMPACT_STRINGS K_63 (allS ⟨_, E_b_60⟩ all0)
    replace S_ALLOW := own_staK S_ALLOW K_63 (allS ⟨_, E_b_60⟩ all0)
    replace S_DENY := own_staK S_DENY K_63 (allS ⟨_, E_b_60⟩ all0)
    replace E_ua := E_ua.keep K_63
    replace F_allows_ua := F_allows_ua.keep K_63 (ninS ne_ua_b_60 nin0)
    replace E_ud := E_ud.keep K_63
    replace F_allows_ud := F_allows_ud.keep K_63 (ninS ne_ud_b_60 nin0)
    replace E_b_60 := E_b_60.keep K_63
    clear F_rule_b_60
    clear F_key_b_60
    clear F_allowed_b_60
    clear F_limit_b_60
    clear F_remaining_b_60
    clear F_reset_b_60
    clear F_retryAfter_b_60
    clear F_storeAnswered_b_60
    replace E_b_61 := E_b_61.keep K_63
    replace F_value_b_61 := F_value_b_61.keep K_63 (ninS (Ne.symm ne_b_60_b_61) nin0)
    replace F_coder_b_61 := F_coder_b_61.keep K_63 (ninS (Ne.symm ne_b_60_b_61) nin0)
    replace A_ww_61 := A_ww_61.keep K_63 (ninS (Ne.symm ne_b_60_ww_61) nin0)
    replace E_b_62 := E_b_62.keep K_63
    replace F_value_b_62 := F_value_b_62.keep K_63 (ninS (Ne.symm ne_b_60_b_62) nin0)
    replace F_coder_b_62 := F_coder_b_62.keep K_63 (ninS (Ne.symm ne_b_60_b_62) nin0)
    replace A_ww_62 := A_ww_62.keep K_63 (ninS (Ne.symm ne_b_60_ww_62) nin0)
    replace lt_ua := Nat.lt_of_lt_of_le lt_ua K_63.1
    replace lt_ud := Nat.lt_of_lt_of_le lt_ud K_63.1
    replace lt_b_60 := Nat.lt_of_lt_of_le lt_b_60 K_63.1
    replace lt_b_61 := Nat.lt_of_lt_of_le lt_b_61 K_63.1
    replace lt_ww_61 := Nat.lt_of_lt_of_le lt_ww_61 K_63.1
    replace lt_b_62 := Nat.lt_of_lt_of_le lt_b_62 K_63.1
    replace lt_ww_62 := Nat.lt_of_lt_of_le lt_ww_62 K_63.1
    replace Zs := Nat.le_trans Zs K_63.1
    replace Kp := Kp.trans K_63 (allS (Or.inr sz_b_60) all0)
    have F_rule_b_60 := n_63_F_rule_b_60
    have F_key_b_60 := n_63_F_key_b_60
    have F_allowed_b_60 := n_63_F_allowed_b_60
    have F_limit_b_60 := n_63_F_limit_b_60
    have F_remaining_b_60 := n_63_F_remaining_b_60
    have F_reset_b_60 := n_63_F_reset_b_60
    have F_retryAfter_b_60 := n_63_F_retryAfter_b_60
    have F_storeAnswered_b_60 := n_63_F_storeAnswered_b_60
    refine Win.come st_63 ?_
    clear st_63 Nq_63 X_62 e_62 K_63
    show Win p.tables e below _ (T_63.setTop (mkF m 53 #[.val (.int c1), .val (.int c2), .val (.int al), .val (.int af), .val (.long l1), .second, .val (.long l2), .second, .val (.long l3), .second, .val (.long l4), .second] [(.ref b_60)]))
    refine winA X_63 hx hlk e_63 Bd.returns rfl rfl (hb hby d2_53) (by decide) (by decide) ?_
    exact ⟨Nf, Kp, b_60, b_61, b_62, ww_61, ww_62, (1 : Int32), rfl, g_b_60, sz_b_60, E_b_60, F_rule_b_60, F_key_b_60, (by rw [← own_narb hal]; exact F_allowed_b_60), F_limit_b_60, F_remaining_b_60, F_reset_b_60, F_retryAfter_b_60, F_storeAnswered_b_60, E_b_61, E_b_62, F_value_b_61, F_value_b_62, F_coder_b_61, F_coder_b_62, A_ww_61, A_ww_62, sz_b_61, sz_b_62, (by rw [own_zero hc1]; decide)⟩
  · skip
    refine s_ifNo (pc' := 4) X0.here hx (hb hby d2_1) rfl ((if0 _ _).trans (feqI (x := af) (y := (0 : Int32)) hc1).1) ?_
    refine s_iloadN (pc' := 5) X0.here hx (hb hby d2_4) rfl rfl ?_
    obtain ⟨_, _, ⟨T_64, L_64, k_64, n_64⟩, -, X_64, ⟨Lc_64, hQ_64, l_64, y_64, z_64⟩, st_64⟩ := Jvm.LawKit.callS X0 hx (y := (⟨"java/lang/String", "valueOf", "(C)Ljava/lang/String;"⟩ : MethodName)) hown (mvT hZ (hw _ (List.mem_of_getElem? (i := 10) rfl))) (mvT hZ (hw _ (List.mem_of_getElem? (i := 11) rfl))) (mvT hZ (hw _ (List.mem_of_getElem? (i := 12) rfl))) (mvT hZ (hw _ (List.mem_of_getElem? (i := 13) rfl))) (by decide) (backOf (W := 0) (rm3 l Z a0 hw [] c1 cs h0 n0 Zs S_COMPACT_STRINGS hcs hb1) hZ (hw _ (List.mem_of_getElem? (i := 13) rfl)) (hw _ (List.mem_of_getElem? (i := 12) rfl)) (by decide) (by decide)) (g := (mkF m 5 #[.val (.int c1), .val (.int c2), .val (.int al), .val (.int af), .val (.long l1), .second, .val (.long l2), .second, .val (.long l3), .second, .val (.long l4), .second] [(.int c1)])) rfl (by rw [hml]; rfl) (argsL := [(.int c1)]) (rest := []) (lenOf pd_6 rfl) rfl (by show 2 * 0 + _ ≤ _; exact Nat.le_of_eq rfl) (hb hby d2_5) (fun _ _ => ⟨rfl, e0, (by decide : 0 + 2 ≤ _), (by decide : 0 + 5 ≤ _)⟩)
    dsimp only [Pt.U, Pt.locs, Pt.cells, Pt.slots, Nat.add_zero] at X_64 l_64 y_64 z_64 st_64 hQ_64
    subst y_64 z_64
    obtain ⟨h_64, e_64⟩ : ∃ z, T_64.heap = z := ⟨_, rfl⟩
    rw [e_64] at hQ_64
    obtain ⟨Nq_64, K_64, b_64, ww_64, rfl, g_b_64, so_64, n_64_E_b_64, n_64_F_value_b_64, n_64_F_coder_b_64, n_64_A_ww_64, hp_64_0⟩ := hQ_64
    replace Nf := own_frEq l_64 (Fr.app Nf Nq_64)
    clear l_64
    have ne_ua_b_64 : ua ≠ b_64 := Nat.ne_of_lt (Nat.lt_of_lt_of_le lt_ua so_64)
    have ne_ud_b_64 : ud ≠ b_64 := Nat.ne_of_lt (Nat.lt_of_lt_of_le lt_ud so_64)
    have sz_b_64 : h0.size ≤ b_64 := Nat.le_trans Kp.1 so_64
    have ne_ua_ww_64 : ua ≠ ww_64 := Nat.ne_of_lt (Nat.lt_of_lt_of_le lt_ua hp_64_0)
    have ne_ud_ww_64 : ud ≠ ww_64 := Nat.ne_of_lt (Nat.lt_of_lt_of_le lt_ud hp_64_0)
    have sz_ww_64 : h0.size ≤ ww_64 := Nat.le_trans Kp.1 hp_64_0
    replace S_COMPACT_STRINGS := own_staK S_COMPACT_STRINGS K_64 all0
    replace S_ALLOW := own_staK S_ALLOW K_64 all0
    replace S_DENY := own_staK S_DENY K_64 all0
    replace E_ua := E_ua.keep K_64
    replace F_allows_ua := F_allows_ua.keep K_64 nin0
    replace E_ud := E_ud.keep K_64
    replace F_allows_ud := F_allows_ud.keep K_64 nin0
    replace lt_ua := Nat.lt_of_lt_of_le lt_ua K_64.1
    replace lt_ud := Nat.lt_of_lt_of_le lt_ud K_64.1
    replace Zs := Nat.le_trans Zs K_64.1
    replace Kp := Kp.trans K_64 all0
    have E_b_64 := n_64_E_b_64
    have F_value_b_64 := n_64_F_value_b_64
    have F_coder_b_64 := n_64_F_coder_b_64
    have A_ww_64 := n_64_A_ww_64
    have lt_b_64 := E_b_64.lt
    have lt_ww_64 := A_ww_64.lt
    refine Win.go st_64 ?_
    clear st_64 Nq_64 X0 e0 K_64
    show Win p.tables e below _ (T_64.setTop (mkF m 8 #[.val (.int c1), .val (.int c2), .val (.int al), .val (.int af), .val (.long l1), .second, .val (.long l2), .second, .val (.long l3), .second, .val (.long l4), .second] [(.ref b_64)]))
    refine s_iloadN (pc' := 9) X_64.here hx (hb hby d2_8) rfl rfl ?_
    obtain ⟨_, _, ⟨T_65, L_65, k_65, n_65⟩, -, X_65, ⟨Lc_65, hQ_65, l_65, y_65, z_65⟩, st_65⟩ := Jvm.LawKit.callS X_64 hx (y := (⟨"java/lang/String", "valueOf", "(C)Ljava/lang/String;"⟩ : MethodName)) hown (mvT hZ (hw _ (List.mem_of_getElem? (i := 10) rfl))) (mvT hZ (hw _ (List.mem_of_getElem? (i := 11) rfl))) (mvT hZ (hw _ (List.mem_of_getElem? (i := 12) rfl))) (mvT hZ (hw _ (List.mem_of_getElem? (i := 13) rfl))) (by decide) (backOf (W := 1) (rm3 l Z a0 hw [] c2 cs h_64 n0 Zs S_COMPACT_STRINGS hcs hb2) hZ (hw _ (List.mem_of_getElem? (i := 13) rfl)) (hw _ (List.mem_of_getElem? (i := 12) rfl)) (by decide) (by decide)) (g := (mkF m 9 #[.val (.int c1), .val (.int c2), .val (.int al), .val (.int af), .val (.long l1), .second, .val (.long l2), .second, .val (.long l3), .second, .val (.long l4), .second] [(.int c2), (.ref b_64)])) rfl (by rw [hml]; rfl) (argsL := [(.int c2)]) (rest := [(.ref b_64)]) (lenOf pd_6 rfl) rfl (by show 2 * 0 + _ ≤ _; exact Nat.le_of_eq rfl) (hb hby d2_9) (fun _ _ => ⟨rfl, e_64, (by decide : 2 + 2 ≤ _), (by decide : 5 + 5 ≤ _)⟩)
    dsimp only [Pt.U, Pt.locs, Pt.cells, Pt.slots, Nat.add_zero] at X_65 l_65 y_65 z_65 st_65 hQ_65
    subst y_65 z_65
    obtain ⟨h_65, e_65⟩ : ∃ z, T_65.heap = z := ⟨_, rfl⟩
    rw [e_65] at hQ_65
    obtain ⟨Nq_65, K_65, b_65, ww_65, rfl, g_b_65, so_65, n_65_E_b_65, n_65_F_value_b_65, n_65_F_coder_b_65, n_65_A_ww_65, hp_65_0⟩ := hQ_65
    replace Nf := own_frEq l_65 (Fr.app Nf Nq_65)
    clear l_65
    have ne_ua_b_65 : ua ≠ b_65 := Nat.ne_of_lt (Nat.lt_of_lt_of_le lt_ua so_65)
    have ne_ud_b_65 : ud ≠ b_65 := Nat.ne_of_lt (Nat.lt_of_lt_of_le lt_ud so_65)
    have ne_b_64_b_65 : b_64 ≠ b_65 := Nat.ne_of_lt (Nat.lt_of_lt_of_le lt_b_64 so_65)
    have ne_ww_64_b_65 : ww_64 ≠ b_65 := Nat.ne_of_lt (Nat.lt_of_lt_of_le lt_ww_64 so_65)
    have sz_b_65 : h0.size ≤ b_65 := Nat.le_trans Kp.1 so_65
    have ne_ua_ww_65 : ua ≠ ww_65 := Nat.ne_of_lt (Nat.lt_of_lt_of_le lt_ua hp_65_0)
    have ne_ud_ww_65 : ud ≠ ww_65 := Nat.ne_of_lt (Nat.lt_of_lt_of_le lt_ud hp_65_0)
    have ne_b_64_ww_65 : b_64 ≠ ww_65 := Nat.ne_of_lt (Nat.lt_of_lt_of_le lt_b_64 hp_65_0)
    have ne_ww_64_ww_65 : ww_64 ≠ ww_65 := Nat.ne_of_lt (Nat.lt_of_lt_of_le lt_ww_64 hp_65_0)
    have sz_ww_65 : h0.size ≤ ww_65 := Nat.le_trans Kp.1 hp_65_0
    replace S_COMPACT_STRINGS := own_staK S_COMPACT_STRINGS K_65 all0
    replace S_ALLOW := own_staK S_ALLOW K_65 all0
    replace S_DENY := own_staK S_DENY K_65 all0
    replace E_ua := E_ua.keep K_65
    replace F_allows_ua := F_allows_ua.keep K_65 nin0
    replace E_ud := E_ud.keep K_65
    replace F_allows_ud := F_allows_ud.keep K_65 nin0
    replace E_b_64 := E_b_64.keep K_65
    replace F_value_b_64 := F_value_b_64.keep K_65 nin0
    replace F_coder_b_64 := F_coder_b_64.keep K_65 nin0
    replace A_ww_64 := A_ww_64.keep K_65 nin0
    replace lt_ua := Nat.lt_of_lt_of_le lt_ua K_65.1
    replace lt_ud := Nat.lt_of_lt_of_le lt_ud K_65.1
    replace lt_b_64 := Nat.lt_of_lt_of_le lt_b_64 K_65.1
    replace lt_ww_64 := Nat.lt_of_lt_of_le lt_ww_64 K_65.1
    replace Zs := Nat.le_trans Zs K_65.1
    replace Kp := Kp.trans K_65 all0
    have E_b_65 := n_65_E_b_65
    have F_value_b_65 := n_65_F_value_b_65
    have F_coder_b_65 := n_65_F_coder_b_65
    have A_ww_65 := n_65_A_ww_65
    have lt_b_65 := E_b_65.lt
    have lt_ww_65 := A_ww_65.lt
    refine Win.go st_65 ?_
    clear st_65 Nq_65 X_64 e_64 K_65
    show Win p.tables e below _ (T_65.setTop (mkF m 12 #[.val (.int c1), .val (.int c2), .val (.int al), .val (.int af), .val (.long l1), .second, .val (.long l2), .second, .val (.long l3), .second, .val (.long l4), .second] [(.ref b_65), (.ref b_64)]))
    refine s_iloadN (pc' := 13) X_65.here hx (hb hby d2_12) rfl rfl ?_
    by_cases hc13 : (al).toInt = (0 : Int)
    · skip
      refine s_ifYes (pc' := 22) X_65.here hx (hb hby d2_13) ((if0 _ _).trans (teqI (x := al) (y := (0 : Int32)) hc13).1) (by decide) (by decide) ?_
      obtain ⟨T_66, X_66, e_66, st_66⟩ := getS2 X_65 hx hZ hown (host := "") (Or.inl (hw _ (List.mem_of_getElem? (i := 73) rfl))) Via.refl e_65 S_DENY (g := (mkF m 22 #[.val (.int c1), .val (.int c2), .val (.int al), .val (.int af), .val (.long l1), .second, .val (.long l2), .second, .val (.long l3), .second, .val (.long l4), .second] [(.ref b_65), (.ref b_64)])) rfl (hb hby d2_22)
      refine Win.go st_66 ?_
      clear st_66 X_65 e_65
      show Win p.tables e below _ (T_66.setTop (mkF m 25 #[.val (.int c1), .val (.int c2), .val (.int al), .val (.int af), .val (.long l1), .second, .val (.long l2), .second, .val (.long l3), .second, .val (.long l4), .second] [(.ref ud), (.ref b_65), (.ref b_64)]))
      obtain ⟨_, _, ⟨T_67, L_67, k_67, n_67⟩, -, X_67, ⟨Lc_67, hQ_67, l_67, y_67, z_67⟩, st_67⟩ := Jvm.LawKit.callS X_66 hx (y := (⟨"com/example/throttle/throttle/Decision", "onStoreFailure", "(Ljava/lang/String;Ljava/lang/String;Lcom/example/throttle/throttle/OnStoreFailure;)Lcom/example/throttle/throttle/Decision;"⟩ : MethodName)) hown (mvT hZ (hw _ (List.mem_of_getElem? (i := 76) rfl))) (mvT hZ (hw _ (List.mem_of_getElem? (i := 77) rfl))) (mvT hZ (hw _ (List.mem_of_getElem? (i := 9) rfl))) (mvT hZ (hw _ (List.mem_of_getElem? (i := 78) rfl))) (by decide) (backOf (W := 0) (rm12_0 l Z a0 hw [] b_64 b_65 ud h_65 n0 Zs E_ud F_allows_ud) hZ (hw _ (List.mem_of_getElem? (i := 78) rfl)) (hw _ (List.mem_of_getElem? (i := 9) rfl)) (by decide) (by decide)) (g := (mkF m 25 #[.val (.int c1), .val (.int c2), .val (.int al), .val (.int af), .val (.long l1), .second, .val (.long l2), .second, .val (.long l3), .second, .val (.long l4), .second] [(.ref ud), (.ref b_65), (.ref b_64)])) rfl (by rw [hml]; rfl) (argsL := [(.ref b_64), (.ref b_65), (.ref ud)]) (rest := []) (lenOf pd_8 rfl) rfl (by show 2 * 0 + _ ≤ _; exact Nat.le_of_eq rfl) (hb hby d2_25) (fun _ _ => ⟨rfl, e_66, (by decide : 4 + 1 ≤ _), (by decide : 10 + 8 ≤ _)⟩)
      dsimp only [Pt.U, Pt.locs, Pt.cells, Pt.slots, Nat.add_zero] at X_67 l_67 y_67 z_67 st_67 hQ_67
      subst y_67 z_67
      obtain ⟨h_67, e_67⟩ : ∃ z, T_67.heap = z := ⟨_, rfl⟩
      rw [e_67] at hQ_67
      obtain ⟨Nq_67, K_67, b_67, rfl, g_b_67, so_67, n_67_E_b_67, n_67_F_rule_b_67, n_67_F_key_b_67, n_67_F_allowed_b_67, n_67_F_limit_b_67, n_67_F_remaining_b_67, n_67_F_reset_b_67, n_67_F_retryAfter_b_67, n_67_F_storeAnswered_b_67⟩ := hQ_67
      replace Nf := own_frEq l_67 (Fr.app Nf Nq_67)
      clear l_67
      have ne_ua_b_67 : ua ≠ b_67 := Nat.ne_of_lt (Nat.lt_of_lt_of_le lt_ua so_67)
      have ne_ud_b_67 : ud ≠ b_67 := Nat.ne_of_lt (Nat.lt_of_lt_of_le lt_ud so_67)
      have ne_b_64_b_67 : b_64 ≠ b_67 := Nat.ne_of_lt (Nat.lt_of_lt_of_le lt_b_64 so_67)
      have ne_ww_64_b_67 : ww_64 ≠ b_67 := Nat.ne_of_lt (Nat.lt_of_lt_of_le lt_ww_64 so_67)
      have ne_b_65_b_67 : b_65 ≠ b_67 := Nat.ne_of_lt (Nat.lt_of_lt_of_le lt_b_65 so_67)
      have ne_ww_65_b_67 : ww_65 ≠ b_67 := Nat.ne_of_lt (Nat.lt_of_lt_of_le lt_ww_65 so_67)
      have sz_b_67 : h0.size ≤ b_67 := Nat.le_trans Kp.1 so_67
      replace S_COMPACT_STRINGS := own_staK S_COMPACT_STRINGS K_67 all0
      replace S_ALLOW := own_staK S_ALLOW K_67 all0
      replace S_DENY := own_staK S_DENY K_67 all0
      replace E_ua := E_ua.keep K_67
      replace F_allows_ua := F_allows_ua.keep K_67 nin0
      replace E_ud := E_ud.keep K_67
      replace F_allows_ud := F_allows_ud.keep K_67 nin0
      replace E_b_64 := E_b_64.keep K_67
      replace F_value_b_64 := F_value_b_64.keep K_67 nin0
      replace F_coder_b_64 := F_coder_b_64.keep K_67 nin0
      replace A_ww_64 := A_ww_64.keep K_67 nin0
      replace E_b_65 := E_b_65.keep K_67
      replace F_value_b_65 := F_value_b_65.keep K_67 nin0
      replace F_coder_b_65 := F_coder_b_65.keep K_67 nin0
      replace A_ww_65 := A_ww_65.keep K_67 nin0
      replace lt_ua := Nat.lt_of_lt_of_le lt_ua K_67.1
      replace lt_ud := Nat.lt_of_lt_of_le lt_ud K_67.1
      replace lt_b_64 := Nat.lt_of_lt_of_le lt_b_64 K_67.1
      replace lt_ww_64 := Nat.lt_of_lt_of_le lt_ww_64 K_67.1
      replace lt_b_65 := Nat.lt_of_lt_of_le lt_b_65 K_67.1
      replace lt_ww_65 := Nat.lt_of_lt_of_le lt_ww_65 K_67.1
      replace Zs := Nat.le_trans Zs K_67.1
      replace Kp := Kp.trans K_67 all0
      have E_b_67 := n_67_E_b_67
      have F_rule_b_67 := n_67_F_rule_b_67
      have F_key_b_67 := n_67_F_key_b_67
      have F_allowed_b_67 := n_67_F_allowed_b_67
      have F_limit_b_67 := n_67_F_limit_b_67
      have F_remaining_b_67 := n_67_F_remaining_b_67
      have F_reset_b_67 := n_67_F_reset_b_67
      have F_retryAfter_b_67 := n_67_F_retryAfter_b_67
      have F_storeAnswered_b_67 := n_67_F_storeAnswered_b_67
      have lt_b_67 := E_b_67.lt
      refine Win.go st_67 ?_
      clear st_67 Nq_67 X_66 e_66 K_67
      show Win p.tables e below _ (T_67.setTop (mkF m 28 #[.val (.int c1), .val (.int c2), .val (.int al), .val (.int af), .val (.long l1), .second, .val (.long l2), .second, .val (.long l3), .second, .val (.long l4), .second] [(.ref b_67)]))
      refine winA X_67 hx hlk e_67 Bd.returns rfl rfl (hb hby d2_28) (by decide) (by decide) ?_
      obtain ⟨k1, k2, k3, k4, k5⟩ := hpol hc1
      exact ⟨Nf, Kp, b_67, b_64, b_65, ww_64, ww_65, (0 : Int32), rfl, g_b_67, sz_b_67, E_b_67, F_rule_b_67, F_key_b_67, (by rw [own_zero hc13]; exact F_allowed_b_67), (by rw [k1]; exact F_limit_b_67), (by rw [k2]; exact F_remaining_b_67), (by rw [k3]; exact F_reset_b_67), (by rw [k4 hc13]; exact F_retryAfter_b_67), F_storeAnswered_b_67, E_b_64, E_b_65, F_value_b_64, F_value_b_65, F_coder_b_64, F_coder_b_65, A_ww_64, A_ww_65, sz_b_64, sz_b_65, (by rw [own_one haf hc1]; decide)⟩
    · skip
      refine s_ifNo (pc' := 16) X_65.here hx (hb hby d2_13) rfl ((if0 _ _).trans (feqI (x := al) (y := (0 : Int32)) hc13).1) ?_
      obtain ⟨T_68, X_68, e_68, st_68⟩ := getS2 X_65 hx hZ hown (host := "") (Or.inl (hw _ (List.mem_of_getElem? (i := 89) rfl))) Via.refl e_65 S_ALLOW (g := (mkF m 16 #[.val (.int c1), .val (.int c2), .val (.int al), .val (.int af), .val (.long l1), .second, .val (.long l2), .second, .val (.long l3), .second, .val (.long l4), .second] [(.ref b_65), (.ref b_64)])) rfl (hb hby d2_16)
      refine Win.go st_68 ?_
      clear st_68 X_65 e_65
      show Win p.tables e below _ (T_68.setTop (mkF m 19 #[.val (.int c1), .val (.int c2), .val (.int al), .val (.int af), .val (.long l1), .second, .val (.long l2), .second, .val (.long l3), .second, .val (.long l4), .second] [(.ref ua), (.ref b_65), (.ref b_64)]))
      refine s_goto (pc' := 25) X_68.here hx (hb hby d2_19) (by decide) (by decide) ?_
      obtain ⟨_, _, ⟨T_69, L_69, k_69, n_69⟩, -, X_69, ⟨Lc_69, hQ_69, l_69, y_69, z_69⟩, st_69⟩ := Jvm.LawKit.callS X_68 hx (y := (⟨"com/example/throttle/throttle/Decision", "onStoreFailure", "(Ljava/lang/String;Ljava/lang/String;Lcom/example/throttle/throttle/OnStoreFailure;)Lcom/example/throttle/throttle/Decision;"⟩ : MethodName)) hown (mvT hZ (hw _ (List.mem_of_getElem? (i := 76) rfl))) (mvT hZ (hw _ (List.mem_of_getElem? (i := 77) rfl))) (mvT hZ (hw _ (List.mem_of_getElem? (i := 9) rfl))) (mvT hZ (hw _ (List.mem_of_getElem? (i := 78) rfl))) (by decide) (backOf (W := 0) (rm12_1 l Z a0 hw [] b_64 b_65 ua h_65 n0 Zs E_ua F_allows_ua) hZ (hw _ (List.mem_of_getElem? (i := 78) rfl)) (hw _ (List.mem_of_getElem? (i := 9) rfl)) (by decide) (by decide)) (g := (mkF m 25 #[.val (.int c1), .val (.int c2), .val (.int al), .val (.int af), .val (.long l1), .second, .val (.long l2), .second, .val (.long l3), .second, .val (.long l4), .second] [(.ref ua), (.ref b_65), (.ref b_64)])) rfl (by rw [hml]; rfl) (argsL := [(.ref b_64), (.ref b_65), (.ref ua)]) (rest := []) (lenOf pd_8 rfl) rfl (by show 2 * 0 + _ ≤ _; exact Nat.le_of_eq rfl) (hb hby d2_25) (fun _ _ => ⟨rfl, e_68, (by decide : 4 + 1 ≤ _), (by decide : 10 + 8 ≤ _)⟩)
      dsimp only [Pt.U, Pt.locs, Pt.cells, Pt.slots, Nat.add_zero] at X_69 l_69 y_69 z_69 st_69 hQ_69
      subst y_69 z_69
      obtain ⟨h_69, e_69⟩ : ∃ z, T_69.heap = z := ⟨_, rfl⟩
      rw [e_69] at hQ_69
      obtain ⟨Nq_69, K_69, b_69, rfl, g_b_69, so_69, n_69_E_b_69, n_69_F_rule_b_69, n_69_F_key_b_69, n_69_F_allowed_b_69, n_69_F_limit_b_69, n_69_F_remaining_b_69, n_69_F_reset_b_69, n_69_F_retryAfter_b_69, n_69_F_storeAnswered_b_69⟩ := hQ_69
      replace Nf := own_frEq l_69 (Fr.app Nf Nq_69)
      clear l_69
      have ne_ua_b_69 : ua ≠ b_69 := Nat.ne_of_lt (Nat.lt_of_lt_of_le lt_ua so_69)
      have ne_ud_b_69 : ud ≠ b_69 := Nat.ne_of_lt (Nat.lt_of_lt_of_le lt_ud so_69)
      have ne_b_64_b_69 : b_64 ≠ b_69 := Nat.ne_of_lt (Nat.lt_of_lt_of_le lt_b_64 so_69)
      have ne_ww_64_b_69 : ww_64 ≠ b_69 := Nat.ne_of_lt (Nat.lt_of_lt_of_le lt_ww_64 so_69)
      have ne_b_65_b_69 : b_65 ≠ b_69 := Nat.ne_of_lt (Nat.lt_of_lt_of_le lt_b_65 so_69)
      have ne_ww_65_b_69 : ww_65 ≠ b_69 := Nat.ne_of_lt (Nat.lt_of_lt_of_le lt_ww_65 so_69)
      have sz_b_69 : h0.size ≤ b_69 := Nat.le_trans Kp.1 so_69
      replace S_COMPACT_STRINGS := own_staK S_COMPACT_STRINGS K_69 all0
      replace S_ALLOW := own_staK S_ALLOW K_69 all0
      replace S_DENY := own_staK S_DENY K_69 all0
      replace E_ua := E_ua.keep K_69
      replace F_allows_ua := F_allows_ua.keep K_69 nin0
      replace E_ud := E_ud.keep K_69
      replace F_allows_ud := F_allows_ud.keep K_69 nin0
      replace E_b_64 := E_b_64.keep K_69
      replace F_value_b_64 := F_value_b_64.keep K_69 nin0
      replace F_coder_b_64 := F_coder_b_64.keep K_69 nin0
      replace A_ww_64 := A_ww_64.keep K_69 nin0
      replace E_b_65 := E_b_65.keep K_69
      replace F_value_b_65 := F_value_b_65.keep K_69 nin0
      replace F_coder_b_65 := F_coder_b_65.keep K_69 nin0
      replace A_ww_65 := A_ww_65.keep K_69 nin0
      replace lt_ua := Nat.lt_of_lt_of_le lt_ua K_69.1
      replace lt_ud := Nat.lt_of_lt_of_le lt_ud K_69.1
      replace lt_b_64 := Nat.lt_of_lt_of_le lt_b_64 K_69.1
      replace lt_ww_64 := Nat.lt_of_lt_of_le lt_ww_64 K_69.1
      replace lt_b_65 := Nat.lt_of_lt_of_le lt_b_65 K_69.1
      replace lt_ww_65 := Nat.lt_of_lt_of_le lt_ww_65 K_69.1
      replace Zs := Nat.le_trans Zs K_69.1
      replace Kp := Kp.trans K_69 all0
      have E_b_69 := n_69_E_b_69
      have F_rule_b_69 := n_69_F_rule_b_69
      have F_key_b_69 := n_69_F_key_b_69
      have F_allowed_b_69 := n_69_F_allowed_b_69
      have F_limit_b_69 := n_69_F_limit_b_69
      have F_remaining_b_69 := n_69_F_remaining_b_69
      have F_reset_b_69 := n_69_F_reset_b_69
      have F_retryAfter_b_69 := n_69_F_retryAfter_b_69
      have F_storeAnswered_b_69 := n_69_F_storeAnswered_b_69
      have lt_b_69 := E_b_69.lt
      refine Win.go st_69 ?_
      clear st_69 Nq_69 X_68 e_68 K_69
      show Win p.tables e below _ (T_69.setTop (mkF m 28 #[.val (.int c1), .val (.int c2), .val (.int al), .val (.int af), .val (.long l1), .second, .val (.long l2), .second, .val (.long l3), .second, .val (.long l4), .second] [(.ref b_69)]))
      refine winA X_69 hx hlk e_69 Bd.returns rfl rfl (hb hby d2_28) (by decide) (by decide) ?_
      obtain ⟨k1, k2, k3, k4, k5⟩ := hpol hc1
      exact ⟨Nf, Kp, b_69, b_64, b_65, ww_64, ww_65, (0 : Int32), rfl, g_b_69, sz_b_69, E_b_69, F_rule_b_69, F_key_b_69, (by rw [own_one hal hc13]; exact F_allowed_b_69), (by rw [k1]; exact F_limit_b_69), (by rw [k2]; exact F_remaining_b_69), (by rw [k3]; exact F_reset_b_69), (by rw [k5 hc13]; exact F_retryAfter_b_69), F_storeAnswered_b_69, E_b_64, E_b_65, F_value_b_64, F_value_b_65, F_coder_b_64, F_coder_b_65, A_ww_64, A_ww_65, sz_b_64, sz_b_65, (by rw [own_one haf hc1]; decide)⟩
theorem d9_0 : decode prog_7_method_15_code 0 = .ok (.aload_n 1, 1) := by decide +kernel
theorem d9_1 : decode prog_7_method_15_code 1 = .ok (.instanceof 8, 3) := by decide +kernel
theorem d9_4 : decode prog_7_method_15_code 4 = .ok (.ifCond .ne 5, 3) := by decide +kernel
theorem d9_7 : decode prog_7_method_15_code 7 = .ok (.iconst 0, 1) := by decide +kernel
theorem d9_8 : decode prog_7_method_15_code 8 = .ok (.ireturn, 1) := by decide +kernel
theorem ef_9_n (m : MethodId) (a : Addr) : entryFrame m #[(.ref a), .null] 3 = mkF m 0 #[.val (.ref a), .val .null, .unset] [] := by first | (simp [entryFrame, mkF, argsToLocals, Value.category]; done) | rfl
def Q9_n (Z : State) (a : Addr) (h0 : Heap) (n0 : Nat) (v : Option Value) (h : Heap) (L : List Loc) : Prop := Fr n0 L ∧ h = h0 ∧ v = some (.int (0 : Int32))
set_option maxRecDepth 65536 in
set_option maxHeartbeats 40000000 in
theorem rm9_n (l : Launch) (Z : State) (a0 : Array Value) (hw : ∀ d ∈ tables_1, d.before a0 Z = true) (ws : List Jvm.Cond) (a : Addr) (h0 : Heap) (n0 : Nat) (Zs : n0 ≤ h0.size) :
    MetFree l (⟨"com/example/throttle/throttle/Decision", "equals", "(Ljava/lang/Object;)Z"⟩ : MethodName) (head1 (Jvm.Cond.code (⟨"com/example/throttle/throttle/Decision", "equals", "(Ljava/lang/Object;)Z"⟩ : MethodName) prog_7_method_15_code 3 (some .boolean) :: ws) ({ frames := 0, cells := 0, slots := 0, locals := 0 } : Room)) (fun as' U => as' = #[(.ref a), .null] ∧ Z.Warmed39 U.vm ∧ U.heap = h0) (fun _ _ _ _ _ => True) (fun _ U o U' => ∃ v L, o = .returned v ∧ Q9_n Z a h0 n0 v U'.heap L ∧ FrameEnd U o U' L ({ frames := 0, cells := 0, slots := 0, locals := 0 } : Room).cells ({ frames := 0, cells := 0, slots := 0, locals := 0 } : Room).slots) := by
  refine MetFree.of_bodySF (plainFor_of_name pn_8) hisR ?_
  intro p e s m args below meth c s₁ Bd hml0 hP hK
  obtain ⟨rfl, hZ, hh⟩ := hP
  have hx := Bd.exec
  have hby := Bd.bytes
  have hml : c.maxLocals = 3 := hml0
  have hown : s.vm.findClass "com/example/throttle/throttle/Decision" = some m.cls := findClass_of_methodNamed Bd.named
  have hnm := (name_of_methodNamed Bd.named Bd.method).1
  have hlk : meth.locks = false := Bd.notSynchronized
  have X0 : Stand p l e ({ frames := 0, cells := 0, slots := 0, locals := 0 } : Room) s m #[(.ref a), .null] below meth c s₁ [] 0 0 := Stand.of_body Bd
  have e0 : s₁.heap = h0 := by rw [← hh, Bd.state]; rfl
  have Nf := Fr.nil n0
  refine (?_ : Win p.tables e below (PostQ s (Q9_n Z a h0 n0) ({ frames := 0, cells := 0, slots := 0, locals := 0 } : Room).cells ({ frames := 0, cells := 0, slots := 0, locals := 0 } : Room).slots) (s₁.setTop (entryFrame m #[(.ref a), .null] 3)))
  rw [ef_9_n]
  show Win p.tables e below _ (s₁.setTop (mkF m 0 #[.val (.ref a), .val .null, .unset] []))
  refine s_aloadN (pc' := 1) X0.here hx (hb hby d9_0) rfl rfl rfl ?_
  refine Win.go (fun _ k => X0.instanceofNull hx (g := (mkF m 1 #[.val (.ref a), .val .null, .unset] [.null])) rfl rfl (hb hby d9_1) _ k) ?_
  show Win p.tables e below _ (s₁.setTop (mkF m 4 #[.val (.ref a), .val .null, .unset] [(.int (0 : Int32))]))
  refine s_ifNo (pc' := 7) X0.here hx (hb hby d9_4) rfl ((if0 _ _).trans (teqI (x := (0 : Int32)) (y := (0 : Int32)) (by decide)).2) ?_
  refine s_iconst (pc' := 8) (z := (0 : Int32)) X0.here hx (hb hby d9_7) rfl rfl ?_
  refine winN X0 hx hlk e0 (t := .boolean) Bd.returns (by simp) (hb hby d9_8) (by decide) (by decide) (z' := (0 : Int32)) rfl ?_
  exact ⟨Nf, rfl, rfl⟩
theorem ef_9_x (m : MethodId) (a : Addr) (b : Addr) : entryFrame m #[(.ref a), (.ref b)] 3 = mkF m 0 #[.val (.ref a), .val (.ref b), .unset] [] := by first | (simp [entryFrame, mkF, argsToLocals, Value.category]; done) | rfl
def Q9_x (Z : State) (a : Addr) (b : Addr) (h0 : Heap) (n0 : Nat) (v : Option Value) (h : Heap) (L : List Loc) : Prop := Fr n0 L ∧ h = h0 ∧ v = some (.int (0 : Int32))
set_option maxRecDepth 65536 in
set_option maxHeartbeats 40000000 in
theorem rm9_x (l : Launch) (Z : State) (a0 : Array Value) (hw : ∀ d ∈ tables_1, d.before a0 Z = true) (ws : List Jvm.Cond) (a : Addr) (b : Addr) (h0 : Heap) (n0 : Nat) (Zs : n0 ≤ h0.size) (E_b : Exa Z h0 b "java/lang/String") :
    MetFree l (⟨"com/example/throttle/throttle/Decision", "equals", "(Ljava/lang/Object;)Z"⟩ : MethodName) (head1 (Jvm.Cond.code (⟨"com/example/throttle/throttle/Decision", "equals", "(Ljava/lang/Object;)Z"⟩ : MethodName) prog_7_method_15_code 3 (some .boolean) :: ws) ({ frames := 0, cells := 0, slots := 0, locals := 0 } : Room)) (fun as' U => as' = #[(.ref a), (.ref b)] ∧ Z.Warmed39 U.vm ∧ U.heap = h0) (fun _ _ _ _ _ => True) (fun _ U o U' => ∃ v L, o = .returned v ∧ Q9_x Z a b h0 n0 v U'.heap L ∧ FrameEnd U o U' L ({ frames := 0, cells := 0, slots := 0, locals := 0 } : Room).cells ({ frames := 0, cells := 0, slots := 0, locals := 0 } : Room).slots) := by
  refine MetFree.of_bodySF (plainFor_of_name pn_8) hisR ?_
  intro p e s m args below meth c s₁ Bd hml0 hP hK
  obtain ⟨rfl, hZ, hh⟩ := hP
  have hx := Bd.exec
  have hby := Bd.bytes
  have hml : c.maxLocals = 3 := hml0
  have hown : s.vm.findClass "com/example/throttle/throttle/Decision" = some m.cls := findClass_of_methodNamed Bd.named
  have hnm := (name_of_methodNamed Bd.named Bd.method).1
  have hlk : meth.locks = false := Bd.notSynchronized
  have X0 : Stand p l e ({ frames := 0, cells := 0, slots := 0, locals := 0 } : Room) s m #[(.ref a), (.ref b)] below meth c s₁ [] 0 0 := Stand.of_body Bd
  have e0 : s₁.heap = h0 := by rw [← hh, Bd.state]; rfl
  have Nf := Fr.nil n0
  refine (?_ : Win p.tables e below (PostQ s (Q9_x Z a b h0 n0) ({ frames := 0, cells := 0, slots := 0, locals := 0 } : Room).cells ({ frames := 0, cells := 0, slots := 0, locals := 0 } : Room).slots) (s₁.setTop (entryFrame m #[(.ref a), (.ref b)] 3)))
  rw [ef_9_x]
  have lt_b : b < h0.size := E_b.lt
  show Win p.tables e below _ (s₁.setTop (mkF m 0 #[.val (.ref a), .val (.ref b), .unset] []))
  refine s_aloadN (pc' := 1) X0.here hx (hb hby d9_0) rfl rfl rfl ?_
  obtain ⟨T_70, X_70, e_70, st_70⟩ := instNo X0 hx hZ hown (hw _ (List.mem_of_getElem? (i := 61) rfl)) e0 E_b (own_noinst (hw _ (List.mem_of_getElem? (i := 71) rfl)) (hw _ (List.mem_of_getElem? (i := 72) rfl)) (hw _ (List.mem_of_getElem? (i := 8) rfl)) (by decide) (by decide)) (g := (mkF m 1 #[.val (.ref a), .val (.ref b), .unset] [(.ref b)])) rfl rfl (hb hby d9_1)
  refine Win.go st_70 ?_
  show Win p.tables e below _ (T_70.setTop (mkF m 4 #[.val (.ref a), .val (.ref b), .unset] [(.int (0 : Int32))]))
  refine s_ifNo (pc' := 7) X_70.here hx (hb hby d9_4) rfl ((if0 _ _).trans (teqI (x := (0 : Int32)) (y := (0 : Int32)) (by decide)).2) ?_
  refine s_iconst (pc' := 8) (z := (0 : Int32)) X_70.here hx (hb hby d9_7) rfl rfl ?_
  refine winN X_70 hx hlk e_70 (t := .boolean) Bd.returns (by simp) (hb hby d9_8) (by decide) (by decide) (z' := (0 : Int32)) rfl ?_
  exact ⟨Nf, rfl, rfl⟩
theorem d9_9 : decode prog_7_method_15_code 9 = .ok (.aload_n 1, 1) := by decide +kernel
theorem d9_10 : decode prog_7_method_15_code 10 = .ok (.checkcast 8, 3) := by decide +kernel
theorem d9_13 : decode prog_7_method_15_code 13 = .ok (.astore_n 2, 1) := by decide +kernel
theorem d9_14 : decode prog_7_method_15_code 14 = .ok (.aload_n 0, 1) := by decide +kernel
theorem d9_15 : decode prog_7_method_15_code 15 = .ok (.getfield 7, 3) := by decide +kernel
theorem d9_18 : decode prog_7_method_15_code 18 = .ok (.aload_n 2, 1) := by decide +kernel
theorem d9_19 : decode prog_7_method_15_code 19 = .ok (.getfield 7, 3) := by decide +kernel
theorem d9_22 : decode prog_7_method_15_code 22 = .ok (.invokevirtual 73, 3) := by decide +kernel
theorem d9_25 : decode prog_7_method_15_code 25 = .ok (.ifCond .eq 91, 3) := by decide +kernel
theorem d9_28 : decode prog_7_method_15_code 28 = .ok (.aload_n 0, 1) := by decide +kernel
theorem d9_29 : decode prog_7_method_15_code 29 = .ok (.getfield 13, 3) := by decide +kernel
theorem d9_32 : decode prog_7_method_15_code 32 = .ok (.aload_n 2, 1) := by decide +kernel
theorem d9_33 : decode prog_7_method_15_code 33 = .ok (.getfield 13, 3) := by decide +kernel
theorem d9_36 : decode prog_7_method_15_code 36 = .ok (.invokevirtual 73, 3) := by decide +kernel
theorem d9_39 : decode prog_7_method_15_code 39 = .ok (.ifCond .eq 77, 3) := by decide +kernel
theorem d9_42 : decode prog_7_method_15_code 42 = .ok (.aload_n 0, 1) := by decide +kernel
theorem d9_43 : decode prog_7_method_15_code 43 = .ok (.getfield 16, 3) := by decide +kernel
theorem d9_46 : decode prog_7_method_15_code 46 = .ok (.aload_n 2, 1) := by decide +kernel
theorem d9_47 : decode prog_7_method_15_code 47 = .ok (.getfield 16, 3) := by decide +kernel
theorem d9_50 : decode prog_7_method_15_code 50 = .ok (.if_icmp .ne 66, 3) := by decide +kernel
theorem d9_53 : decode prog_7_method_15_code 53 = .ok (.aload_n 0, 1) := by decide +kernel
theorem d9_54 : decode prog_7_method_15_code 54 = .ok (.getfield 20, 3) := by decide +kernel
theorem d9_57 : decode prog_7_method_15_code 57 = .ok (.aload_n 2, 1) := by decide +kernel
theorem d9_58 : decode prog_7_method_15_code 58 = .ok (.getfield 20, 3) := by decide +kernel
theorem d9_61 : decode prog_7_method_15_code 61 = .ok (.lcmp, 1) := by decide +kernel
theorem d9_62 : decode prog_7_method_15_code 62 = .ok (.ifCond .ne 54, 3) := by decide +kernel
theorem d9_65 : decode prog_7_method_15_code 65 = .ok (.aload_n 0, 1) := by decide +kernel
theorem d9_66 : decode prog_7_method_15_code 66 = .ok (.getfield 24, 3) := by decide +kernel
theorem d9_69 : decode prog_7_method_15_code 69 = .ok (.aload_n 2, 1) := by decide +kernel
theorem d9_70 : decode prog_7_method_15_code 70 = .ok (.getfield 24, 3) := by decide +kernel
theorem d9_73 : decode prog_7_method_15_code 73 = .ok (.lcmp, 1) := by decide +kernel
theorem d9_74 : decode prog_7_method_15_code 74 = .ok (.ifCond .ne 42, 3) := by decide +kernel
theorem d9_77 : decode prog_7_method_15_code 77 = .ok (.aload_n 0, 1) := by decide +kernel
theorem d9_78 : decode prog_7_method_15_code 78 = .ok (.getfield 27, 3) := by decide +kernel
theorem d9_81 : decode prog_7_method_15_code 81 = .ok (.aload_n 2, 1) := by decide +kernel
theorem d9_82 : decode prog_7_method_15_code 82 = .ok (.getfield 27, 3) := by decide +kernel
theorem d9_85 : decode prog_7_method_15_code 85 = .ok (.lcmp, 1) := by decide +kernel
theorem d9_86 : decode prog_7_method_15_code 86 = .ok (.ifCond .ne 30, 3) := by decide +kernel
theorem d9_89 : decode prog_7_method_15_code 89 = .ok (.aload_n 0, 1) := by decide +kernel
theorem d9_90 : decode prog_7_method_15_code 90 = .ok (.getfield 30, 3) := by decide +kernel
theorem d9_93 : decode prog_7_method_15_code 93 = .ok (.aload_n 2, 1) := by decide +kernel
theorem d9_94 : decode prog_7_method_15_code 94 = .ok (.getfield 30, 3) := by decide +kernel
theorem d9_97 : decode prog_7_method_15_code 97 = .ok (.lcmp, 1) := by decide +kernel
theorem d9_98 : decode prog_7_method_15_code 98 = .ok (.ifCond .ne 18, 3) := by decide +kernel
theorem d9_101 : decode prog_7_method_15_code 101 = .ok (.aload_n 0, 1) := by decide +kernel
theorem d9_102 : decode prog_7_method_15_code 102 = .ok (.getfield 33, 3) := by decide +kernel
theorem d9_105 : decode prog_7_method_15_code 105 = .ok (.aload_n 2, 1) := by decide +kernel
theorem d9_106 : decode prog_7_method_15_code 106 = .ok (.getfield 33, 3) := by decide +kernel
theorem d9_109 : decode prog_7_method_15_code 109 = .ok (.if_icmp .ne 7, 3) := by decide +kernel
theorem d9_112 : decode prog_7_method_15_code 112 = .ok (.iconst 1, 1) := by decide +kernel
theorem d9_113 : decode prog_7_method_15_code 113 = .ok (.goto 4, 3) := by decide +kernel
theorem d9_117 : decode prog_7_method_15_code 117 = .ok (.ireturn, 1) := by decide +kernel
theorem pd_9 : parseMethodDescriptor "(Ljava/lang/Object;)Z" = some ⟨[(.object "java/lang/Object")], some .boolean⟩ := by decide +kernel
theorem ef_9_s (m : MethodId) (a : Addr) : entryFrame m #[(.ref a), (.ref a)] 3 = mkF m 0 #[.val (.ref a), .val (.ref a), .unset] [] := by first | (simp [entryFrame, mkF, argsToLocals, Value.category]; done) | rfl
def Q9_s (Z : State) (a : Addr) (ru : Addr) (ke : Addr) (al : Int32) (l1 : Int64) (l2 : Int64) (l3 : Int64) (l4 : Int64) (sa : Int32) (h0 : Heap) (n0 : Nat) (v : Option Value) (h : Heap) (L : List Loc) : Prop := Fr n0 L ∧ h = h0 ∧ v = some (.int (1 : Int32))
set_option maxRecDepth 65536 in
set_option maxHeartbeats 40000000 in
theorem rm9_s (l : Launch) (Z : State) (a0 : Array Value) (hw : ∀ d ∈ tables_1, d.before a0 Z = true) (ws : List Jvm.Cond) (a : Addr) (ru : Addr) (ke : Addr) (al : Int32) (l1 : Int64) (l2 : Int64) (l3 : Int64) (l4 : Int64) (sa : Int32) (h0 : Heap) (n0 : Nat) (Zs : n0 ≤ h0.size) (E_a : Exa Z h0 a "com/example/throttle/throttle/Decision") (F_rule_a : Fld Z h0 a "com/example/throttle/throttle/Decision" "rule" "Ljava/lang/String;" (.ref ru)) (F_key_a : Fld Z h0 a "com/example/throttle/throttle/Decision" "key" "Ljava/lang/String;" (.ref ke)) (F_allowed_a : Fld Z h0 a "com/example/throttle/throttle/Decision" "allowed" "Z" (.int al)) (F_limit_a : Fld Z h0 a "com/example/throttle/throttle/Decision" "limit" "J" (.long l1)) (F_remaining_a : Fld Z h0 a "com/example/throttle/throttle/Decision" "remaining" "J" (.long l2)) (F_reset_a : Fld Z h0 a "com/example/throttle/throttle/Decision" "reset" "J" (.long l3)) (F_retryAfter_a : Fld Z h0 a "com/example/throttle/throttle/Decision" "retryAfter" "J" (.long l4)) (F_storeAnswered_a : Fld Z h0 a "com/example/throttle/throttle/Decision" "storeAnswered" "Z" (.int sa)) (E_ru : Exa Z h0 ru "java/lang/String") (E_ke : Exa Z h0 ke "java/lang/String") :
    MetFree l (⟨"com/example/throttle/throttle/Decision", "equals", "(Ljava/lang/Object;)Z"⟩ : MethodName) (head1 (Jvm.Cond.code (⟨"com/example/throttle/throttle/Decision", "equals", "(Ljava/lang/Object;)Z"⟩ : MethodName) prog_7_method_15_code 3 (some .boolean) :: ws) ({ frames := 1, cells := 0, slots := 0, locals := 14 } : Room)) (fun as' U => as' = #[(.ref a), (.ref a)] ∧ Z.Warmed39 U.vm ∧ U.heap = h0) (fun _ _ _ _ _ => True) (fun _ U o U' => ∃ v L, o = .returned v ∧ Q9_s Z a ru ke al l1 l2 l3 l4 sa h0 n0 v U'.heap L ∧ FrameEnd U o U' L ({ frames := 1, cells := 0, slots := 0, locals := 14 } : Room).cells ({ frames := 1, cells := 0, slots := 0, locals := 14 } : Room).slots) := by
  refine MetFree.of_bodySF (plainFor_of_name pn_8) hisR ?_
  intro p e s m args below meth c s₁ Bd hml0 hP hK
  obtain ⟨rfl, hZ, hh⟩ := hP
  have hx := Bd.exec
  have hby := Bd.bytes
  have hml : c.maxLocals = 3 := hml0
  have hown : s.vm.findClass "com/example/throttle/throttle/Decision" = some m.cls := findClass_of_methodNamed Bd.named
  have hnm := (name_of_methodNamed Bd.named Bd.method).1
  have hlk : meth.locks = false := Bd.notSynchronized
  have X0 : Stand p l e ({ frames := 1, cells := 0, slots := 0, locals := 14 } : Room) s m #[(.ref a), (.ref a)] below meth c s₁ [] 0 0 := Stand.of_body Bd
  have e0 : s₁.heap = h0 := by rw [← hh, Bd.state]; rfl
  have Nf := Fr.nil n0
  refine (?_ : Win p.tables e below (PostQ s (Q9_s Z a ru ke al l1 l2 l3 l4 sa h0 n0) ({ frames := 1, cells := 0, slots := 0, locals := 14 } : Room).cells ({ frames := 1, cells := 0, slots := 0, locals := 14 } : Room).slots) (s₁.setTop (entryFrame m #[(.ref a), (.ref a)] 3)))
  rw [ef_9_s]
  have lt_a : a < h0.size := E_a.lt
  have lt_ru : ru < h0.size := E_ru.lt
  have lt_ke : ke < h0.size := E_ke.lt
  show Win p.tables e below _ (s₁.setTop (mkF m 0 #[.val (.ref a), .val (.ref a), .unset] []))
  refine s_aloadN (pc' := 1) X0.here hx (hb hby d9_0) rfl rfl rfl ?_
  obtain ⟨T_71, X_71, e_71, st_71⟩ := instY X0 hx hZ hown (hw _ (List.mem_of_getElem? (i := 61) rfl)) e0 (Ins.self E_a) (g := (mkF m 1 #[.val (.ref a), .val (.ref a), .unset] [(.ref a)])) rfl rfl (hb hby d9_1)
  refine Win.go st_71 ?_
  show Win p.tables e below _ (T_71.setTop (mkF m 4 #[.val (.ref a), .val (.ref a), .unset] [(.int (1 : Int32))]))
  refine s_ifYes (pc' := 9) X_71.here hx (hb hby d9_4) ((if0 _ _).trans (feqI (x := (1 : Int32)) (y := (0 : Int32)) (by decide)).2) (by decide) (by decide) ?_
  refine s_aloadN (pc' := 10) X_71.here hx (hb hby d9_9) rfl rfl rfl ?_
  obtain ⟨T_72, X_72, e_72, st_72⟩ := castY X_71 hx hZ hown (hw _ (List.mem_of_getElem? (i := 61) rfl)) e_71 (Ins.self E_a) (g := (mkF m 10 #[.val (.ref a), .val (.ref a), .unset] [(.ref a)])) rfl rfl (hb hby d9_10)
  refine Win.go st_72 ?_
  show Win p.tables e below _ (T_72.setTop (mkF m 13 #[.val (.ref a), .val (.ref a), .unset] [(.ref a)]))
  refine s_astoreN (pc' := 14) (l' := #[.val (.ref a), .val (.ref a), .val (.ref a)]) X_72.here hx (hb hby d9_13) rfl rfl rfl ?_
  refine s_aloadN (pc' := 15) X_72.here hx (hb hby d9_14) rfl rfl rfl ?_
  obtain ⟨T_73, X_73, e_73, st_73⟩ := getF X_72 hx hZ hown (host := "") (Or.inl (hw _ (List.mem_of_getElem? (i := 40) rfl))) Via.refl e_72 F_rule_a (g := (mkF m 15 #[.val (.ref a), .val (.ref a), .val (.ref a)] [(.ref a)])) rfl rfl (hb hby d9_15)
  refine Win.go st_73 ?_
  clear st_73 X_72 e_72
  show Win p.tables e below _ (T_73.setTop (mkF m 18 #[.val (.ref a), .val (.ref a), .val (.ref a)] [(.ref ru)]))
  refine s_aloadN (pc' := 19) X_73.here hx (hb hby d9_18) rfl rfl rfl ?_
  obtain ⟨T_74, X_74, e_74, st_74⟩ := getF X_73 hx hZ hown (host := "") (Or.inl (hw _ (List.mem_of_getElem? (i := 40) rfl))) Via.refl e_73 F_rule_a (g := (mkF m 19 #[.val (.ref a), .val (.ref a), .val (.ref a)] [(.ref a), (.ref ru)])) rfl rfl (hb hby d9_19)
  refine Win.go st_74 ?_
  clear st_74 X_73 e_73
  show Win p.tables e below _ (T_74.setTop (mkF m 22 #[.val (.ref a), .val (.ref a), .val (.ref a)] [(.ref ru), (.ref ru)]))
  obtain ⟨cq_75, kq_75, q_75a, q_75b, q_75c⟩ := isOf hZ e_74 E_ru
  obtain ⟨_, _, ⟨T_75, L_75, k_75, n_75⟩, -, X_75, ⟨Lc_75, hQ_75, l_75, y_75, z_75⟩, st_75⟩ := X_74.virtualBack hx (y := (⟨"java/lang/String", "equals", "(Ljava/lang/Object;)Z"⟩ : MethodName)) (z := (⟨"java/lang/String", "equals", "(Ljava/lang/Object;)Z"⟩ : MethodName)) hown (mvT hZ (hw _ (List.mem_of_getElem? (i := 63) rfl))) (mvT hZ (hw _ (List.mem_of_getElem? (i := 64) rfl))) (notFace_of_selects (args := #[]) (mvT hZ (hw _ (List.mem_of_getElem? (i := 66) rfl)))) (mvT hZ (hw _ (List.mem_of_getElem? (i := 66) rfl))) (mvT hZ (hw _ (List.mem_of_getElem? (i := 65) rfl))) (by decide) (backOf (W := 0) (rm10_s l Z a0 hw [] ru h0 n0 Zs ) hZ (hw _ (List.mem_of_getElem? (i := 67) rfl)) (hw _ (List.mem_of_getElem? (i := 12) rfl)) (by decide) (by decide)) q_75a q_75c (g := (mkF m 22 #[.val (.ref a), .val (.ref a), .val (.ref a)] [(.ref ru), (.ref ru)])) rfl (by rw [hml]; rfl) (Steps.refl _) (argsL := [(.ref ru)]) (rest := []) (lenOf pd_9 rfl) rfl (by show 2 * 0 + _ ≤ _; exact Nat.le_of_eq rfl) (hb hby d9_22) (fun _ _ => ⟨rfl, e_74, (by decide : 0 + 0 ≤ _), (by decide : 0 + 0 ≤ _)⟩)
  dsimp only [Pt.U, Pt.locs, Pt.cells, Pt.slots, Nat.add_zero] at X_75 l_75 y_75 z_75 st_75 hQ_75
  subst y_75 z_75
  obtain ⟨Nq_75, e_75, rfl⟩ := hQ_75
  replace Nf := own_frEq l_75 (Fr.app Nf Nq_75)
  clear l_75
  refine Win.come st_75 ?_
  clear st_75 Nq_75 X_74 e_74
  show Win p.tables e below _ (T_75.setTop (mkF m 25 #[.val (.ref a), .val (.ref a), .val (.ref a)] [(.int (1 : Int32))]))
  refine s_ifNo (pc' := 28) X_75.here hx (hb hby d9_25) rfl ((if0 _ _).trans (feqI (x := (1 : Int32)) (y := (0 : Int32)) (by decide)).1) ?_
  refine s_aloadN (pc' := 29) X_75.here hx (hb hby d9_28) rfl rfl rfl ?_
  obtain ⟨T_76, X_76, e_76, st_76⟩ := getF X_75 hx hZ hown (host := "") (Or.inl (hw _ (List.mem_of_getElem? (i := 42) rfl))) Via.refl e_75 F_key_a (g := (mkF m 29 #[.val (.ref a), .val (.ref a), .val (.ref a)] [(.ref a)])) rfl rfl (hb hby d9_29)
  refine Win.go st_76 ?_
  clear st_76 X_75 e_75
  show Win p.tables e below _ (T_76.setTop (mkF m 32 #[.val (.ref a), .val (.ref a), .val (.ref a)] [(.ref ke)]))
  refine s_aloadN (pc' := 33) X_76.here hx (hb hby d9_32) rfl rfl rfl ?_
  obtain ⟨T_77, X_77, e_77, st_77⟩ := getF X_76 hx hZ hown (host := "") (Or.inl (hw _ (List.mem_of_getElem? (i := 42) rfl))) Via.refl e_76 F_key_a (g := (mkF m 33 #[.val (.ref a), .val (.ref a), .val (.ref a)] [(.ref a), (.ref ke)])) rfl rfl (hb hby d9_33)
  refine Win.go st_77 ?_
  clear st_77 X_76 e_76
  show Win p.tables e below _ (T_77.setTop (mkF m 36 #[.val (.ref a), .val (.ref a), .val (.ref a)] [(.ref ke), (.ref ke)]))
  obtain ⟨cq_78, kq_78, q_78a, q_78b, q_78c⟩ := isOf hZ e_77 E_ke
  obtain ⟨_, _, ⟨T_78, L_78, k_78, n_78⟩, -, X_78, ⟨Lc_78, hQ_78, l_78, y_78, z_78⟩, st_78⟩ := X_77.virtualBack hx (y := (⟨"java/lang/String", "equals", "(Ljava/lang/Object;)Z"⟩ : MethodName)) (z := (⟨"java/lang/String", "equals", "(Ljava/lang/Object;)Z"⟩ : MethodName)) hown (mvT hZ (hw _ (List.mem_of_getElem? (i := 63) rfl))) (mvT hZ (hw _ (List.mem_of_getElem? (i := 64) rfl))) (notFace_of_selects (args := #[]) (mvT hZ (hw _ (List.mem_of_getElem? (i := 66) rfl)))) (mvT hZ (hw _ (List.mem_of_getElem? (i := 66) rfl))) (mvT hZ (hw _ (List.mem_of_getElem? (i := 65) rfl))) (by decide) (backOf (W := 0) (rm10_s l Z a0 hw [] ke h0 n0 Zs ) hZ (hw _ (List.mem_of_getElem? (i := 67) rfl)) (hw _ (List.mem_of_getElem? (i := 12) rfl)) (by decide) (by decide)) q_78a q_78c (g := (mkF m 36 #[.val (.ref a), .val (.ref a), .val (.ref a)] [(.ref ke), (.ref ke)])) rfl (by rw [hml]; rfl) (Steps.refl _) (argsL := [(.ref ke)]) (rest := []) (lenOf pd_9 rfl) rfl (by show 2 * 0 + _ ≤ _; exact Nat.le_of_eq rfl) (hb hby d9_36) (fun _ _ => ⟨rfl, e_77, (by decide : 0 + 0 ≤ _), (by decide : 0 + 0 ≤ _)⟩)
  dsimp only [Pt.U, Pt.locs, Pt.cells, Pt.slots, Nat.add_zero] at X_78 l_78 y_78 z_78 st_78 hQ_78
  subst y_78 z_78
  obtain ⟨Nq_78, e_78, rfl⟩ := hQ_78
  replace Nf := own_frEq l_78 (Fr.app Nf Nq_78)
  clear l_78
  refine Win.come st_78 ?_
  clear st_78 Nq_78 X_77 e_77
  show Win p.tables e below _ (T_78.setTop (mkF m 39 #[.val (.ref a), .val (.ref a), .val (.ref a)] [(.int (1 : Int32))]))
  refine s_ifNo (pc' := 42) X_78.here hx (hb hby d9_39) rfl ((if0 _ _).trans (feqI (x := (1 : Int32)) (y := (0 : Int32)) (by decide)).1) ?_
  refine s_aloadN (pc' := 43) X_78.here hx (hb hby d9_42) rfl rfl rfl ?_
  obtain ⟨T_79, X_79, e_79, st_79⟩ := getF X_78 hx hZ hown (host := "") (Or.inl (hw _ (List.mem_of_getElem? (i := 44) rfl))) Via.refl e_78 F_allowed_a (g := (mkF m 43 #[.val (.ref a), .val (.ref a), .val (.ref a)] [(.ref a)])) rfl rfl (hb hby d9_43)
  refine Win.go st_79 ?_
  clear st_79 X_78 e_78
  show Win p.tables e below _ (T_79.setTop (mkF m 46 #[.val (.ref a), .val (.ref a), .val (.ref a)] [(.int al)]))
  refine s_aloadN (pc' := 47) X_79.here hx (hb hby d9_46) rfl rfl rfl ?_
  obtain ⟨T_80, X_80, e_80, st_80⟩ := getF X_79 hx hZ hown (host := "") (Or.inl (hw _ (List.mem_of_getElem? (i := 44) rfl))) Via.refl e_79 F_allowed_a (g := (mkF m 47 #[.val (.ref a), .val (.ref a), .val (.ref a)] [(.ref a), (.int al)])) rfl rfl (hb hby d9_47)
  refine Win.go st_80 ?_
  clear st_80 X_79 e_79
  show Win p.tables e below _ (T_80.setTop (mkF m 50 #[.val (.ref a), .val (.ref a), .val (.ref a)] [(.int al), (.int al)]))
  refine s_icmpNo (pc' := 53) X_80.here hx (hb hby d9_50) rfl (teqI (x := al) (y := al) (rfl)).2 ?_
  refine s_aloadN (pc' := 54) X_80.here hx (hb hby d9_53) rfl rfl rfl ?_
  obtain ⟨T_81, X_81, e_81, st_81⟩ := getF X_80 hx hZ hown (host := "") (Or.inl (hw _ (List.mem_of_getElem? (i := 46) rfl))) Via.refl e_80 F_limit_a (g := (mkF m 54 #[.val (.ref a), .val (.ref a), .val (.ref a)] [(.ref a)])) rfl rfl (hb hby d9_54)
  refine Win.go st_81 ?_
  clear st_81 X_80 e_80
  show Win p.tables e below _ (T_81.setTop (mkF m 57 #[.val (.ref a), .val (.ref a), .val (.ref a)] [(.long l1)]))
  refine s_aloadN (pc' := 58) X_81.here hx (hb hby d9_57) rfl rfl rfl ?_
  obtain ⟨T_82, X_82, e_82, st_82⟩ := getF X_81 hx hZ hown (host := "") (Or.inl (hw _ (List.mem_of_getElem? (i := 46) rfl))) Via.refl e_81 F_limit_a (g := (mkF m 58 #[.val (.ref a), .val (.ref a), .val (.ref a)] [(.ref a), (.long l1)])) rfl rfl (hb hby d9_58)
  refine Win.go st_82 ?_
  clear st_82 X_81 e_81
  show Win p.tables e below _ (T_82.setTop (mkF m 61 #[.val (.ref a), .val (.ref a), .val (.ref a)] [(.long l1), (.long l1)]))
  refine s_lcmp (pc' := 62) X_82.here hx (hb hby d9_61) rfl ?_
  refine s_ifNo (pc' := 65) X_82.here hx (hb hby d9_62) rfl (teqL (x := l1) (y := l1) (rfl)).2 ?_
  refine s_aloadN (pc' := 66) X_82.here hx (hb hby d9_65) rfl rfl rfl ?_
  obtain ⟨T_83, X_83, e_83, st_83⟩ := getF X_82 hx hZ hown (host := "") (Or.inl (hw _ (List.mem_of_getElem? (i := 48) rfl))) Via.refl e_82 F_remaining_a (g := (mkF m 66 #[.val (.ref a), .val (.ref a), .val (.ref a)] [(.ref a)])) rfl rfl (hb hby d9_66)
  refine Win.go st_83 ?_
  clear st_83 X_82 e_82
  show Win p.tables e below _ (T_83.setTop (mkF m 69 #[.val (.ref a), .val (.ref a), .val (.ref a)] [(.long l2)]))
  refine s_aloadN (pc' := 70) X_83.here hx (hb hby d9_69) rfl rfl rfl ?_
  obtain ⟨T_84, X_84, e_84, st_84⟩ := getF X_83 hx hZ hown (host := "") (Or.inl (hw _ (List.mem_of_getElem? (i := 48) rfl))) Via.refl e_83 F_remaining_a (g := (mkF m 70 #[.val (.ref a), .val (.ref a), .val (.ref a)] [(.ref a), (.long l2)])) rfl rfl (hb hby d9_70)
  refine Win.go st_84 ?_
  clear st_84 X_83 e_83
  show Win p.tables e below _ (T_84.setTop (mkF m 73 #[.val (.ref a), .val (.ref a), .val (.ref a)] [(.long l2), (.long l2)]))
  refine s_lcmp (pc' := 74) X_84.here hx (hb hby d9_73) rfl ?_
  refine s_ifNo (pc' := 77) X_84.here hx (hb hby d9_74) rfl (teqL (x := l2) (y := l2) (rfl)).2 ?_
  refine s_aloadN (pc' := 78) X_84.here hx (hb hby d9_77) rfl rfl rfl ?_
  obtain ⟨T_85, X_85, e_85, st_85⟩ := getF X_84 hx hZ hown (host := "") (Or.inl (hw _ (List.mem_of_getElem? (i := 50) rfl))) Via.refl e_84 F_reset_a (g := (mkF m 78 #[.val (.ref a), .val (.ref a), .val (.ref a)] [(.ref a)])) rfl rfl (hb hby d9_78)
  refine Win.go st_85 ?_
  clear st_85 X_84 e_84
  show Win p.tables e below _ (T_85.setTop (mkF m 81 #[.val (.ref a), .val (.ref a), .val (.ref a)] [(.long l3)]))
  refine s_aloadN (pc' := 82) X_85.here hx (hb hby d9_81) rfl rfl rfl ?_
  obtain ⟨T_86, X_86, e_86, st_86⟩ := getF X_85 hx hZ hown (host := "") (Or.inl (hw _ (List.mem_of_getElem? (i := 50) rfl))) Via.refl e_85 F_reset_a (g := (mkF m 82 #[.val (.ref a), .val (.ref a), .val (.ref a)] [(.ref a), (.long l3)])) rfl rfl (hb hby d9_82)
  refine Win.go st_86 ?_
  clear st_86 X_85 e_85
  show Win p.tables e below _ (T_86.setTop (mkF m 85 #[.val (.ref a), .val (.ref a), .val (.ref a)] [(.long l3), (.long l3)]))
  refine s_lcmp (pc' := 86) X_86.here hx (hb hby d9_85) rfl ?_
  refine s_ifNo (pc' := 89) X_86.here hx (hb hby d9_86) rfl (teqL (x := l3) (y := l3) (rfl)).2 ?_
  refine s_aloadN (pc' := 90) X_86.here hx (hb hby d9_89) rfl rfl rfl ?_
  obtain ⟨T_87, X_87, e_87, st_87⟩ := getF X_86 hx hZ hown (host := "") (Or.inl (hw _ (List.mem_of_getElem? (i := 52) rfl))) Via.refl e_86 F_retryAfter_a (g := (mkF m 90 #[.val (.ref a), .val (.ref a), .val (.ref a)] [(.ref a)])) rfl rfl (hb hby d9_90)
  refine Win.go st_87 ?_
  clear st_87 X_86 e_86
  show Win p.tables e below _ (T_87.setTop (mkF m 93 #[.val (.ref a), .val (.ref a), .val (.ref a)] [(.long l4)]))
  refine s_aloadN (pc' := 94) X_87.here hx (hb hby d9_93) rfl rfl rfl ?_
  obtain ⟨T_88, X_88, e_88, st_88⟩ := getF X_87 hx hZ hown (host := "") (Or.inl (hw _ (List.mem_of_getElem? (i := 52) rfl))) Via.refl e_87 F_retryAfter_a (g := (mkF m 94 #[.val (.ref a), .val (.ref a), .val (.ref a)] [(.ref a), (.long l4)])) rfl rfl (hb hby d9_94)
  refine Win.go st_88 ?_
  clear st_88 X_87 e_87
  show Win p.tables e below _ (T_88.setTop (mkF m 97 #[.val (.ref a), .val (.ref a), .val (.ref a)] [(.long l4), (.long l4)]))
  refine s_lcmp (pc' := 98) X_88.here hx (hb hby d9_97) rfl ?_
  refine s_ifNo (pc' := 101) X_88.here hx (hb hby d9_98) rfl (teqL (x := l4) (y := l4) (rfl)).2 ?_
  refine s_aloadN (pc' := 102) X_88.here hx (hb hby d9_101) rfl rfl rfl ?_
  obtain ⟨T_89, X_89, e_89, st_89⟩ := getF X_88 hx hZ hown (host := "") (Or.inl (hw _ (List.mem_of_getElem? (i := 54) rfl))) Via.refl e_88 F_storeAnswered_a (g := (mkF m 102 #[.val (.ref a), .val (.ref a), .val (.ref a)] [(.ref a)])) rfl rfl (hb hby d9_102)
  refine Win.go st_89 ?_
  clear st_89 X_88 e_88
  show Win p.tables e below _ (T_89.setTop (mkF m 105 #[.val (.ref a), .val (.ref a), .val (.ref a)] [(.int sa)]))
  refine s_aloadN (pc' := 106) X_89.here hx (hb hby d9_105) rfl rfl rfl ?_
  obtain ⟨T_90, X_90, e_90, st_90⟩ := getF X_89 hx hZ hown (host := "") (Or.inl (hw _ (List.mem_of_getElem? (i := 54) rfl))) Via.refl e_89 F_storeAnswered_a (g := (mkF m 106 #[.val (.ref a), .val (.ref a), .val (.ref a)] [(.ref a), (.int sa)])) rfl rfl (hb hby d9_106)
  refine Win.go st_90 ?_
  clear st_90 X_89 e_89
  show Win p.tables e below _ (T_90.setTop (mkF m 109 #[.val (.ref a), .val (.ref a), .val (.ref a)] [(.int sa), (.int sa)]))
  refine s_icmpNo (pc' := 112) X_90.here hx (hb hby d9_109) rfl (teqI (x := sa) (y := sa) (rfl)).2 ?_
  refine s_iconst (pc' := 113) (z := (1 : Int32)) X_90.here hx (hb hby d9_112) rfl rfl ?_
  refine s_goto (pc' := 117) X_90.here hx (hb hby d9_113) (by decide) (by decide) ?_
  refine winN X_90 hx hlk e_90 (t := .boolean) Bd.returns (by simp) (hb hby d9_117) (by decide) (by decide) (z' := (1 : Int32)) rfl ?_
  exact ⟨Nf, rfl, rfl⟩
theorem d9_116 : decode prog_7_method_15_code 116 = .ok (.iconst 0, 1) := by decide +kernel
theorem ef_9_d (m : MethodId) (a : Addr) (b : Addr) : entryFrame m #[(.ref a), (.ref b)] 3 = mkF m 0 #[.val (.ref a), .val (.ref b), .unset] [] := by first | (simp [entryFrame, mkF, argsToLocals, Value.category]; done) | rfl
def Q9_d (Z : State) (a : Addr) (b : Addr) (cs : Int32) (ru : Addr) (ke : Addr) (al : Int32) (l1 : Int64) (l2 : Int64) (l3 : Int64) (l4 : Int64) (sa : Int32) (rv : Addr) (kv : Addr) (am : Int32) (m1 : Int64) (m2 : Int64) (m3 : Int64) (m4 : Int64) (sm : Int32) (w1 : Addr) (w2 : Addr) (w3 : Addr) (w4 : Addr) (f1 : Int → Int32) (f2 : Int → Int32) (g1 : Int → Int32) (g2 : Int → Int32) (h0 : Heap) (n0 : Nat) (v : Option Value) (h : Heap) (L : List Loc) : Prop := Fr n0 L ∧ h = h0 ∧ (∃ z : Int32, v = some (.int z) ∧ ((z.toInt = 1 ∧ ((f1 (0 : Int)).toInt = (g1 (0 : Int)).toInt ∧ (f2 (0 : Int)).toInt = (g2 (0 : Int)).toInt ∧ al.toInt = am.toInt ∧ l1.toInt = m1.toInt ∧ l2.toInt = m2.toInt ∧ l3.toInt = m3.toInt ∧ l4.toInt = m4.toInt ∧ sa.toInt = sm.toInt)) ∨ (z.toInt = 0 ∧ ¬ ((f1 (0 : Int)).toInt = (g1 (0 : Int)).toInt ∧ (f2 (0 : Int)).toInt = (g2 (0 : Int)).toInt ∧ al.toInt = am.toInt ∧ l1.toInt = m1.toInt ∧ l2.toInt = m2.toInt ∧ l3.toInt = m3.toInt ∧ l4.toInt = m4.toInt ∧ sa.toInt = sm.toInt))))
set_option maxRecDepth 65536 in
set_option maxHeartbeats 40000000 in
theorem rm9_d (l : Launch) (Z : State) (a0 : Array Value) (hw : ∀ d ∈ tables_1, d.before a0 Z = true) (ws : List Jvm.Cond) (a : Addr) (b : Addr) (cs : Int32) (ru : Addr) (ke : Addr) (al : Int32) (l1 : Int64) (l2 : Int64) (l3 : Int64) (l4 : Int64) (sa : Int32) (rv : Addr) (kv : Addr) (am : Int32) (m1 : Int64) (m2 : Int64) (m3 : Int64) (m4 : Int64) (sm : Int32) (w1 : Addr) (w2 : Addr) (w3 : Addr) (w4 : Addr) (f1 : Int → Int32) (f2 : Int → Int32) (g1 : Int → Int32) (g2 : Int → Int32) (h0 : Heap) (n0 : Nat) (Zs : n0 ≤ h0.size) (S_COMPACT_STRINGS : Sta Z h0 "java/lang/String" "COMPACT_STRINGS" "Z" (.int cs)) (hcs : ¬ cs.toInt = 0) (E_b : Exa Z h0 b "com/example/throttle/throttle/Decision") (F_rule_a : Fld Z h0 a "com/example/throttle/throttle/Decision" "rule" "Ljava/lang/String;" (.ref ru)) (F_key_a : Fld Z h0 a "com/example/throttle/throttle/Decision" "key" "Ljava/lang/String;" (.ref ke)) (F_allowed_a : Fld Z h0 a "com/example/throttle/throttle/Decision" "allowed" "Z" (.int al)) (F_limit_a : Fld Z h0 a "com/example/throttle/throttle/Decision" "limit" "J" (.long l1)) (F_remaining_a : Fld Z h0 a "com/example/throttle/throttle/Decision" "remaining" "J" (.long l2)) (F_reset_a : Fld Z h0 a "com/example/throttle/throttle/Decision" "reset" "J" (.long l3)) (F_retryAfter_a : Fld Z h0 a "com/example/throttle/throttle/Decision" "retryAfter" "J" (.long l4)) (F_storeAnswered_a : Fld Z h0 a "com/example/throttle/throttle/Decision" "storeAnswered" "Z" (.int sa)) (F_rule_b : Fld Z h0 b "com/example/throttle/throttle/Decision" "rule" "Ljava/lang/String;" (.ref rv)) (F_key_b : Fld Z h0 b "com/example/throttle/throttle/Decision" "key" "Ljava/lang/String;" (.ref kv)) (F_allowed_b : Fld Z h0 b "com/example/throttle/throttle/Decision" "allowed" "Z" (.int am)) (F_limit_b : Fld Z h0 b "com/example/throttle/throttle/Decision" "limit" "J" (.long m1)) (F_remaining_b : Fld Z h0 b "com/example/throttle/throttle/Decision" "remaining" "J" (.long m2)) (F_reset_b : Fld Z h0 b "com/example/throttle/throttle/Decision" "reset" "J" (.long m3)) (F_retryAfter_b : Fld Z h0 b "com/example/throttle/throttle/Decision" "retryAfter" "J" (.long m4)) (F_storeAnswered_b : Fld Z h0 b "com/example/throttle/throttle/Decision" "storeAnswered" "Z" (.int sm)) (E_ru : Exa Z h0 ru "java/lang/String") (E_ke : Exa Z h0 ke "java/lang/String") (E_rv : Exa Z h0 rv "java/lang/String") (E_kv : Exa Z h0 kv "java/lang/String") (F_value_ru : Fld Z h0 ru "java/lang/String" "value" "[B" (.ref w1)) (F_value_ke : Fld Z h0 ke "java/lang/String" "value" "[B" (.ref w2)) (F_value_rv : Fld Z h0 rv "java/lang/String" "value" "[B" (.ref w3)) (F_value_kv : Fld Z h0 kv "java/lang/String" "value" "[B" (.ref w4)) (F_coder_ru : Fld Z h0 ru "java/lang/String" "coder" "B" (.int (0 : Int32))) (F_coder_ke : Fld Z h0 ke "java/lang/String" "coder" "B" (.int (0 : Int32))) (F_coder_rv : Fld Z h0 rv "java/lang/String" "coder" "B" (.int (0 : Int32))) (F_coder_kv : Fld Z h0 kv "java/lang/String" "coder" "B" (.int (0 : Int32))) (A_w1 : AF Z h0 w1 .byte 1 f1) (A_w2 : AF Z h0 w2 .byte 1 f2) (A_w3 : AF Z h0 w3 .byte 1 g1) (A_w4 : AF Z h0 w4 .byte 1 g2) (ne_ru_rv : ru ≠ rv) (ne_ke_kv : ke ≠ kv) :
    MetFree l (⟨"com/example/throttle/throttle/Decision", "equals", "(Ljava/lang/Object;)Z"⟩ : MethodName) (head1 (Jvm.Cond.code (⟨"com/example/throttle/throttle/Decision", "equals", "(Ljava/lang/Object;)Z"⟩ : MethodName) prog_7_method_15_code 3 (some .boolean) :: ws) ({ frames := 2, cells := 0, slots := 0, locals := 28 } : Room)) (fun as' U => as' = #[(.ref a), (.ref b)] ∧ Z.Warmed39 U.vm ∧ U.heap = h0) (fun _ _ _ _ _ => True) (fun _ U o U' => ∃ v L, o = .returned v ∧ Q9_d Z a b cs ru ke al l1 l2 l3 l4 sa rv kv am m1 m2 m3 m4 sm w1 w2 w3 w4 f1 f2 g1 g2 h0 n0 v U'.heap L ∧ FrameEnd U o U' L ({ frames := 2, cells := 0, slots := 0, locals := 28 } : Room).cells ({ frames := 2, cells := 0, slots := 0, locals := 28 } : Room).slots) := by
  refine MetFree.of_bodySF (plainFor_of_name pn_8) hisR ?_
  intro p e s m args below meth c s₁ Bd hml0 hP hK
  obtain ⟨rfl, hZ, hh⟩ := hP
  have hx := Bd.exec
  have hby := Bd.bytes
  have hml : c.maxLocals = 3 := hml0
  have hown : s.vm.findClass "com/example/throttle/throttle/Decision" = some m.cls := findClass_of_methodNamed Bd.named
  have hnm := (name_of_methodNamed Bd.named Bd.method).1
  have hlk : meth.locks = false := Bd.notSynchronized
  have X0 : Stand p l e ({ frames := 2, cells := 0, slots := 0, locals := 28 } : Room) s m #[(.ref a), (.ref b)] below meth c s₁ [] 0 0 := Stand.of_body Bd
  have e0 : s₁.heap = h0 := by rw [← hh, Bd.state]; rfl
  have Nf := Fr.nil n0
  refine (?_ : Win p.tables e below (PostQ s (Q9_d Z a b cs ru ke al l1 l2 l3 l4 sa rv kv am m1 m2 m3 m4 sm w1 w2 w3 w4 f1 f2 g1 g2 h0 n0) ({ frames := 2, cells := 0, slots := 0, locals := 28 } : Room).cells ({ frames := 2, cells := 0, slots := 0, locals := 28 } : Room).slots) (s₁.setTop (entryFrame m #[(.ref a), (.ref b)] 3)))
  rw [ef_9_d]
  have lt_b : b < h0.size := E_b.lt
  have lt_a : a < h0.size := F_rule_a.lt
  have lt_ru : ru < h0.size := E_ru.lt
  have lt_ke : ke < h0.size := E_ke.lt
  have lt_rv : rv < h0.size := E_rv.lt
  have lt_kv : kv < h0.size := E_kv.lt
  have lt_w1 : w1 < h0.size := A_w1.lt
  have lt_w2 : w2 < h0.size := A_w2.lt
  have lt_w3 : w3 < h0.size := A_w3.lt
  have lt_w4 : w4 < h0.size := A_w4.lt
  show Win p.tables e below _ (s₁.setTop (mkF m 0 #[.val (.ref a), .val (.ref b), .unset] []))
  refine s_aloadN (pc' := 1) X0.here hx (hb hby d9_0) rfl rfl rfl ?_
  obtain ⟨T_91, X_91, e_91, st_91⟩ := instY X0 hx hZ hown (hw _ (List.mem_of_getElem? (i := 61) rfl)) e0 (Ins.self E_b) (g := (mkF m 1 #[.val (.ref a), .val (.ref b), .unset] [(.ref b)])) rfl rfl (hb hby d9_1)
  refine Win.go st_91 ?_
  show Win p.tables e below _ (T_91.setTop (mkF m 4 #[.val (.ref a), .val (.ref b), .unset] [(.int (1 : Int32))]))
  refine s_ifYes (pc' := 9) X_91.here hx (hb hby d9_4) ((if0 _ _).trans (feqI (x := (1 : Int32)) (y := (0 : Int32)) (by decide)).2) (by decide) (by decide) ?_
  refine s_aloadN (pc' := 10) X_91.here hx (hb hby d9_9) rfl rfl rfl ?_
  obtain ⟨T_92, X_92, e_92, st_92⟩ := castY X_91 hx hZ hown (hw _ (List.mem_of_getElem? (i := 61) rfl)) e_91 (Ins.self E_b) (g := (mkF m 10 #[.val (.ref a), .val (.ref b), .unset] [(.ref b)])) rfl rfl (hb hby d9_10)
  refine Win.go st_92 ?_
  show Win p.tables e below _ (T_92.setTop (mkF m 13 #[.val (.ref a), .val (.ref b), .unset] [(.ref b)]))
  refine s_astoreN (pc' := 14) (l' := #[.val (.ref a), .val (.ref b), .val (.ref b)]) X_92.here hx (hb hby d9_13) rfl rfl rfl ?_
  refine s_aloadN (pc' := 15) X_92.here hx (hb hby d9_14) rfl rfl rfl ?_
  obtain ⟨T_93, X_93, e_93, st_93⟩ := getF X_92 hx hZ hown (host := "") (Or.inl (hw _ (List.mem_of_getElem? (i := 40) rfl))) Via.refl e_92 F_rule_a (g := (mkF m 15 #[.val (.ref a), .val (.ref b), .val (.ref b)] [(.ref a)])) rfl rfl (hb hby d9_15)
  refine Win.go st_93 ?_
  clear st_93 X_92 e_92
  show Win p.tables e below _ (T_93.setTop (mkF m 18 #[.val (.ref a), .val (.ref b), .val (.ref b)] [(.ref ru)]))
  refine s_aloadN (pc' := 19) X_93.here hx (hb hby d9_18) rfl rfl rfl ?_
  obtain ⟨T_94, X_94, e_94, st_94⟩ := getF X_93 hx hZ hown (host := "") (Or.inl (hw _ (List.mem_of_getElem? (i := 40) rfl))) Via.refl e_93 F_rule_b (g := (mkF m 19 #[.val (.ref a), .val (.ref b), .val (.ref b)] [(.ref b), (.ref ru)])) rfl rfl (hb hby d9_19)
  refine Win.go st_94 ?_
  clear st_94 X_93 e_93
  show Win p.tables e below _ (T_94.setTop (mkF m 22 #[.val (.ref a), .val (.ref b), .val (.ref b)] [(.ref rv), (.ref ru)]))
  obtain ⟨cq_95, kq_95, q_95a, q_95b, q_95c⟩ := isOf hZ e_94 E_ru
  obtain ⟨_, _, ⟨T_95, L_95, k_95, n_95⟩, -, X_95, ⟨Lc_95, hQ_95, l_95, y_95, z_95⟩, st_95⟩ := X_94.virtualBack hx (y := (⟨"java/lang/String", "equals", "(Ljava/lang/Object;)Z"⟩ : MethodName)) (z := (⟨"java/lang/String", "equals", "(Ljava/lang/Object;)Z"⟩ : MethodName)) hown (mvT hZ (hw _ (List.mem_of_getElem? (i := 63) rfl))) (mvT hZ (hw _ (List.mem_of_getElem? (i := 64) rfl))) (notFace_of_selects (args := #[]) (mvT hZ (hw _ (List.mem_of_getElem? (i := 66) rfl)))) (mvT hZ (hw _ (List.mem_of_getElem? (i := 66) rfl))) (mvT hZ (hw _ (List.mem_of_getElem? (i := 65) rfl))) (by decide) (backOf (W := 0) (rm10_d l Z a0 hw [] ru rv cs w1 w3 f1 g1 h0 n0 Zs S_COMPACT_STRINGS hcs E_rv F_value_ru F_coder_ru F_value_rv F_coder_rv A_w1 A_w3 ne_ru_rv) hZ (hw _ (List.mem_of_getElem? (i := 67) rfl)) (hw _ (List.mem_of_getElem? (i := 12) rfl)) (by decide) (by decide)) q_95a q_95c (g := (mkF m 22 #[.val (.ref a), .val (.ref b), .val (.ref b)] [(.ref rv), (.ref ru)])) rfl (by rw [hml]; rfl) (Steps.refl _) (argsL := [(.ref rv)]) (rest := []) (lenOf pd_9 rfl) rfl (by show 2 * 0 + _ ≤ _; exact Nat.le_of_eq rfl) (hb hby d9_22) (fun _ _ => ⟨rfl, e_94, (by decide : 0 + 0 ≤ _), (by decide : 0 + 0 ≤ _)⟩)
  dsimp only [Pt.U, Pt.locs, Pt.cells, Pt.slots, Nat.add_zero] at X_95 l_95 y_95 z_95 st_95 hQ_95
  subst y_95 z_95
  obtain ⟨Nq_95, e_95, r1, rfl, hr1⟩ := hQ_95
  replace Nf := own_frEq l_95 (Fr.app Nf Nq_95)
  clear l_95
  refine Win.come st_95 ?_
  clear st_95 Nq_95 X_94 e_94
  show Win p.tables e below _ (T_95.setTop (mkF m 25 #[.val (.ref a), .val (.ref b), .val (.ref b)] [(.int r1)]))
  by_cases hc25 : (r1).toInt = (0 : Int)
  · skip
    refine s_ifYes (pc' := 116) X_95.here hx (hb hby d9_25) ((if0 _ _).trans (teqI (x := r1) (y := (0 : Int32)) hc25).1) (by decide) (by decide) ?_
    refine s_iconst (pc' := 117) (z := (0 : Int32)) X_95.here hx (hb hby d9_116) rfl rfl ?_
    refine winN X_95 hx hlk e_95 (t := .boolean) Bd.returns (by simp) (hb hby d9_117) (by decide) (by decide) (z' := (0 : Int32)) rfl ?_
    exact ⟨Nf, rfl, _, rfl, Or.inr ⟨rfl, fun h => own_b0 hr1 hc25 h.1⟩⟩
  · skip
    refine s_ifNo (pc' := 28) X_95.here hx (hb hby d9_25) rfl ((if0 _ _).trans (feqI (x := r1) (y := (0 : Int32)) hc25).1) ?_
    refine s_aloadN (pc' := 29) X_95.here hx (hb hby d9_28) rfl rfl rfl ?_
    obtain ⟨T_96, X_96, e_96, st_96⟩ := getF X_95 hx hZ hown (host := "") (Or.inl (hw _ (List.mem_of_getElem? (i := 42) rfl))) Via.refl e_95 F_key_a (g := (mkF m 29 #[.val (.ref a), .val (.ref b), .val (.ref b)] [(.ref a)])) rfl rfl (hb hby d9_29)
    refine Win.go st_96 ?_
    clear st_96 X_95 e_95
    show Win p.tables e below _ (T_96.setTop (mkF m 32 #[.val (.ref a), .val (.ref b), .val (.ref b)] [(.ref ke)]))
    refine s_aloadN (pc' := 33) X_96.here hx (hb hby d9_32) rfl rfl rfl ?_
    obtain ⟨T_97, X_97, e_97, st_97⟩ := getF X_96 hx hZ hown (host := "") (Or.inl (hw _ (List.mem_of_getElem? (i := 42) rfl))) Via.refl e_96 F_key_b (g := (mkF m 33 #[.val (.ref a), .val (.ref b), .val (.ref b)] [(.ref b), (.ref ke)])) rfl rfl (hb hby d9_33)
    refine Win.go st_97 ?_
    clear st_97 X_96 e_96
    show Win p.tables e below _ (T_97.setTop (mkF m 36 #[.val (.ref a), .val (.ref b), .val (.ref b)] [(.ref kv), (.ref ke)]))
    obtain ⟨cq_98, kq_98, q_98a, q_98b, q_98c⟩ := isOf hZ e_97 E_ke
    obtain ⟨_, _, ⟨T_98, L_98, k_98, n_98⟩, -, X_98, ⟨Lc_98, hQ_98, l_98, y_98, z_98⟩, st_98⟩ := X_97.virtualBack hx (y := (⟨"java/lang/String", "equals", "(Ljava/lang/Object;)Z"⟩ : MethodName)) (z := (⟨"java/lang/String", "equals", "(Ljava/lang/Object;)Z"⟩ : MethodName)) hown (mvT hZ (hw _ (List.mem_of_getElem? (i := 63) rfl))) (mvT hZ (hw _ (List.mem_of_getElem? (i := 64) rfl))) (notFace_of_selects (args := #[]) (mvT hZ (hw _ (List.mem_of_getElem? (i := 66) rfl)))) (mvT hZ (hw _ (List.mem_of_getElem? (i := 66) rfl))) (mvT hZ (hw _ (List.mem_of_getElem? (i := 65) rfl))) (by decide) (backOf (W := 0) (rm10_d l Z a0 hw [] ke kv cs w2 w4 f2 g2 h0 n0 Zs S_COMPACT_STRINGS hcs E_kv F_value_ke F_coder_ke F_value_kv F_coder_kv A_w2 A_w4 ne_ke_kv) hZ (hw _ (List.mem_of_getElem? (i := 67) rfl)) (hw _ (List.mem_of_getElem? (i := 12) rfl)) (by decide) (by decide)) q_98a q_98c (g := (mkF m 36 #[.val (.ref a), .val (.ref b), .val (.ref b)] [(.ref kv), (.ref ke)])) rfl (by rw [hml]; rfl) (Steps.refl _) (argsL := [(.ref kv)]) (rest := []) (lenOf pd_9 rfl) rfl (by show 2 * 0 + _ ≤ _; exact Nat.le_of_eq rfl) (hb hby d9_36) (fun _ _ => ⟨rfl, e_97, (by decide : 0 + 0 ≤ _), (by decide : 0 + 0 ≤ _)⟩)
    dsimp only [Pt.U, Pt.locs, Pt.cells, Pt.slots, Nat.add_zero] at X_98 l_98 y_98 z_98 st_98 hQ_98
    subst y_98 z_98
    obtain ⟨Nq_98, e_98, r2, rfl, hr2⟩ := hQ_98
    replace Nf := own_frEq l_98 (Fr.app Nf Nq_98)
    clear l_98
    refine Win.come st_98 ?_
    clear st_98 Nq_98 X_97 e_97
    show Win p.tables e below _ (T_98.setTop (mkF m 39 #[.val (.ref a), .val (.ref b), .val (.ref b)] [(.int r2)]))
    by_cases hc39 : (r2).toInt = (0 : Int)
    · skip
      refine s_ifYes (pc' := 116) X_98.here hx (hb hby d9_39) ((if0 _ _).trans (teqI (x := r2) (y := (0 : Int32)) hc39).1) (by decide) (by decide) ?_
      refine s_iconst (pc' := 117) (z := (0 : Int32)) X_98.here hx (hb hby d9_116) rfl rfl ?_
      refine winN X_98 hx hlk e_98 (t := .boolean) Bd.returns (by simp) (hb hby d9_117) (by decide) (by decide) (z' := (0 : Int32)) rfl ?_
      exact ⟨Nf, rfl, _, rfl, Or.inr ⟨rfl, fun h => own_b0 hr2 hc39 h.2.1⟩⟩
    · skip
      refine s_ifNo (pc' := 42) X_98.here hx (hb hby d9_39) rfl ((if0 _ _).trans (feqI (x := r2) (y := (0 : Int32)) hc39).1) ?_
      refine s_aloadN (pc' := 43) X_98.here hx (hb hby d9_42) rfl rfl rfl ?_
      obtain ⟨T_99, X_99, e_99, st_99⟩ := getF X_98 hx hZ hown (host := "") (Or.inl (hw _ (List.mem_of_getElem? (i := 44) rfl))) Via.refl e_98 F_allowed_a (g := (mkF m 43 #[.val (.ref a), .val (.ref b), .val (.ref b)] [(.ref a)])) rfl rfl (hb hby d9_43)
      refine Win.go st_99 ?_
      clear st_99 X_98 e_98
      show Win p.tables e below _ (T_99.setTop (mkF m 46 #[.val (.ref a), .val (.ref b), .val (.ref b)] [(.int al)]))
      refine s_aloadN (pc' := 47) X_99.here hx (hb hby d9_46) rfl rfl rfl ?_
      obtain ⟨T_100, X_100, e_100, st_100⟩ := getF X_99 hx hZ hown (host := "") (Or.inl (hw _ (List.mem_of_getElem? (i := 44) rfl))) Via.refl e_99 F_allowed_b (g := (mkF m 47 #[.val (.ref a), .val (.ref b), .val (.ref b)] [(.ref b), (.int al)])) rfl rfl (hb hby d9_47)
      refine Win.go st_100 ?_
      clear st_100 X_99 e_99
      show Win p.tables e below _ (T_100.setTop (mkF m 50 #[.val (.ref a), .val (.ref b), .val (.ref b)] [(.int am), (.int al)]))
      by_cases hc50 : (al).toInt = (am).toInt
      · skip
        refine s_icmpNo (pc' := 53) X_100.here hx (hb hby d9_50) rfl (teqI (x := al) (y := am) hc50).2 ?_
        refine s_aloadN (pc' := 54) X_100.here hx (hb hby d9_53) rfl rfl rfl ?_
        obtain ⟨T_101, X_101, e_101, st_101⟩ := getF X_100 hx hZ hown (host := "") (Or.inl (hw _ (List.mem_of_getElem? (i := 46) rfl))) Via.refl e_100 F_limit_a (g := (mkF m 54 #[.val (.ref a), .val (.ref b), .val (.ref b)] [(.ref a)])) rfl rfl (hb hby d9_54)
        refine Win.go st_101 ?_
        clear st_101 X_100 e_100
        show Win p.tables e below _ (T_101.setTop (mkF m 57 #[.val (.ref a), .val (.ref b), .val (.ref b)] [(.long l1)]))
        refine s_aloadN (pc' := 58) X_101.here hx (hb hby d9_57) rfl rfl rfl ?_
        obtain ⟨T_102, X_102, e_102, st_102⟩ := getF X_101 hx hZ hown (host := "") (Or.inl (hw _ (List.mem_of_getElem? (i := 46) rfl))) Via.refl e_101 F_limit_b (g := (mkF m 58 #[.val (.ref a), .val (.ref b), .val (.ref b)] [(.ref b), (.long l1)])) rfl rfl (hb hby d9_58)
        refine Win.go st_102 ?_
        clear st_102 X_101 e_101
        show Win p.tables e below _ (T_102.setTop (mkF m 61 #[.val (.ref a), .val (.ref b), .val (.ref b)] [(.long m1), (.long l1)]))
        refine s_lcmp (pc' := 62) X_102.here hx (hb hby d9_61) rfl ?_
        by_cases hc62 : (l1).toInt = (m1).toInt
        · skip
          refine s_ifNo (pc' := 65) X_102.here hx (hb hby d9_62) rfl (teqL (x := l1) (y := m1) hc62).2 ?_
          refine s_aloadN (pc' := 66) X_102.here hx (hb hby d9_65) rfl rfl rfl ?_
          obtain ⟨T_103, X_103, e_103, st_103⟩ := getF X_102 hx hZ hown (host := "") (Or.inl (hw _ (List.mem_of_getElem? (i := 48) rfl))) Via.refl e_102 F_remaining_a (g := (mkF m 66 #[.val (.ref a), .val (.ref b), .val (.ref b)] [(.ref a)])) rfl rfl (hb hby d9_66)
          refine Win.go st_103 ?_
          clear st_103 X_102 e_102
          show Win p.tables e below _ (T_103.setTop (mkF m 69 #[.val (.ref a), .val (.ref b), .val (.ref b)] [(.long l2)]))
          refine s_aloadN (pc' := 70) X_103.here hx (hb hby d9_69) rfl rfl rfl ?_
          obtain ⟨T_104, X_104, e_104, st_104⟩ := getF X_103 hx hZ hown (host := "") (Or.inl (hw _ (List.mem_of_getElem? (i := 48) rfl))) Via.refl e_103 F_remaining_b (g := (mkF m 70 #[.val (.ref a), .val (.ref b), .val (.ref b)] [(.ref b), (.long l2)])) rfl rfl (hb hby d9_70)
          refine Win.go st_104 ?_
          clear st_104 X_103 e_103
          show Win p.tables e below _ (T_104.setTop (mkF m 73 #[.val (.ref a), .val (.ref b), .val (.ref b)] [(.long m2), (.long l2)]))
          refine s_lcmp (pc' := 74) X_104.here hx (hb hby d9_73) rfl ?_
          by_cases hc74 : (l2).toInt = (m2).toInt
          · skip
            refine s_ifNo (pc' := 77) X_104.here hx (hb hby d9_74) rfl (teqL (x := l2) (y := m2) hc74).2 ?_
            refine s_aloadN (pc' := 78) X_104.here hx (hb hby d9_77) rfl rfl rfl ?_
            obtain ⟨T_105, X_105, e_105, st_105⟩ := getF X_104 hx hZ hown (host := "") (Or.inl (hw _ (List.mem_of_getElem? (i := 50) rfl))) Via.refl e_104 F_reset_a (g := (mkF m 78 #[.val (.ref a), .val (.ref b), .val (.ref b)] [(.ref a)])) rfl rfl (hb hby d9_78)
            refine Win.go st_105 ?_
            clear st_105 X_104 e_104
            show Win p.tables e below _ (T_105.setTop (mkF m 81 #[.val (.ref a), .val (.ref b), .val (.ref b)] [(.long l3)]))
            refine s_aloadN (pc' := 82) X_105.here hx (hb hby d9_81) rfl rfl rfl ?_
            obtain ⟨T_106, X_106, e_106, st_106⟩ := getF X_105 hx hZ hown (host := "") (Or.inl (hw _ (List.mem_of_getElem? (i := 50) rfl))) Via.refl e_105 F_reset_b (g := (mkF m 82 #[.val (.ref a), .val (.ref b), .val (.ref b)] [(.ref b), (.long l3)])) rfl rfl (hb hby d9_82)
            refine Win.go st_106 ?_
            clear st_106 X_105 e_105
            show Win p.tables e below _ (T_106.setTop (mkF m 85 #[.val (.ref a), .val (.ref b), .val (.ref b)] [(.long m3), (.long l3)]))
            refine s_lcmp (pc' := 86) X_106.here hx (hb hby d9_85) rfl ?_
            by_cases hc86 : (l3).toInt = (m3).toInt
            · skip
              refine s_ifNo (pc' := 89) X_106.here hx (hb hby d9_86) rfl (teqL (x := l3) (y := m3) hc86).2 ?_
              refine s_aloadN (pc' := 90) X_106.here hx (hb hby d9_89) rfl rfl rfl ?_
              obtain ⟨T_107, X_107, e_107, st_107⟩ := getF X_106 hx hZ hown (host := "") (Or.inl (hw _ (List.mem_of_getElem? (i := 52) rfl))) Via.refl e_106 F_retryAfter_a (g := (mkF m 90 #[.val (.ref a), .val (.ref b), .val (.ref b)] [(.ref a)])) rfl rfl (hb hby d9_90)
              refine Win.go st_107 ?_
              clear st_107 X_106 e_106
              show Win p.tables e below _ (T_107.setTop (mkF m 93 #[.val (.ref a), .val (.ref b), .val (.ref b)] [(.long l4)]))
              refine s_aloadN (pc' := 94) X_107.here hx (hb hby d9_93) rfl rfl rfl ?_
              obtain ⟨T_108, X_108, e_108, st_108⟩ := getF X_107 hx hZ hown (host := "") (Or.inl (hw _ (List.mem_of_getElem? (i := 52) rfl))) Via.refl e_107 F_retryAfter_b (g := (mkF m 94 #[.val (.ref a), .val (.ref b), .val (.ref b)] [(.ref b), (.long l4)])) rfl rfl (hb hby d9_94)
              refine Win.go st_108 ?_
              clear st_108 X_107 e_107
              show Win p.tables e below _ (T_108.setTop (mkF m 97 #[.val (.ref a), .val (.ref b), .val (.ref b)] [(.long m4), (.long l4)]))
              refine s_lcmp (pc' := 98) X_108.here hx (hb hby d9_97) rfl ?_
              by_cases hc98 : (l4).toInt = (m4).toInt
              · skip
                refine s_ifNo (pc' := 101) X_108.here hx (hb hby d9_98) rfl (teqL (x := l4) (y := m4) hc98).2 ?_
                refine s_aloadN (pc' := 102) X_108.here hx (hb hby d9_101) rfl rfl rfl ?_
                obtain ⟨T_109, X_109, e_109, st_109⟩ := getF X_108 hx hZ hown (host := "") (Or.inl (hw _ (List.mem_of_getElem? (i := 54) rfl))) Via.refl e_108 F_storeAnswered_a (g := (mkF m 102 #[.val (.ref a), .val (.ref b), .val (.ref b)] [(.ref a)])) rfl rfl (hb hby d9_102)
                refine Win.go st_109 ?_
                clear st_109 X_108 e_108
                show Win p.tables e below _ (T_109.setTop (mkF m 105 #[.val (.ref a), .val (.ref b), .val (.ref b)] [(.int sa)]))
                refine s_aloadN (pc' := 106) X_109.here hx (hb hby d9_105) rfl rfl rfl ?_
                obtain ⟨T_110, X_110, e_110, st_110⟩ := getF X_109 hx hZ hown (host := "") (Or.inl (hw _ (List.mem_of_getElem? (i := 54) rfl))) Via.refl e_109 F_storeAnswered_b (g := (mkF m 106 #[.val (.ref a), .val (.ref b), .val (.ref b)] [(.ref b), (.int sa)])) rfl rfl (hb hby d9_106)
                refine Win.go st_110 ?_
                clear st_110 X_109 e_109
                show Win p.tables e below _ (T_110.setTop (mkF m 109 #[.val (.ref a), .val (.ref b), .val (.ref b)] [(.int sm), (.int sa)]))
                by_cases hc109 : (sa).toInt = (sm).toInt
                · skip
                  refine s_icmpNo (pc' := 112) X_110.here hx (hb hby d9_109) rfl (teqI (x := sa) (y := sm) hc109).2 ?_
                  refine s_iconst (pc' := 113) (z := (1 : Int32)) X_110.here hx (hb hby d9_112) rfl rfl ?_
                  refine s_goto (pc' := 117) X_110.here hx (hb hby d9_113) (by decide) (by decide) ?_
                  refine winN X_110 hx hlk e_110 (t := .boolean) Bd.returns (by simp) (hb hby d9_117) (by decide) (by decide) (z' := (1 : Int32)) rfl ?_
                  exact ⟨Nf, rfl, _, rfl, Or.inl ⟨rfl, own_b1 hr1 hc25, own_b1 hr2 hc39, hc50, hc62, hc74, hc86, hc98, hc109⟩⟩
                · skip
                  refine s_icmpYes (pc' := 116) X_110.here hx (hb hby d9_109) (feqI (x := sa) (y := sm) hc109).2 (by decide) (by decide) ?_
                  refine s_iconst (pc' := 117) (z := (0 : Int32)) X_110.here hx (hb hby d9_116) rfl rfl ?_
                  refine winN X_110 hx hlk e_110 (t := .boolean) Bd.returns (by simp) (hb hby d9_117) (by decide) (by decide) (z' := (0 : Int32)) rfl ?_
                  exact ⟨Nf, rfl, _, rfl, Or.inr ⟨rfl, fun h => hc109 h.2.2.2.2.2.2.2⟩⟩
              · skip
                refine s_ifYes (pc' := 116) X_108.here hx (hb hby d9_98) (feqL (x := l4) (y := m4) hc98).2 (by decide) (by decide) ?_
                refine s_iconst (pc' := 117) (z := (0 : Int32)) X_108.here hx (hb hby d9_116) rfl rfl ?_
                refine winN X_108 hx hlk e_108 (t := .boolean) Bd.returns (by simp) (hb hby d9_117) (by decide) (by decide) (z' := (0 : Int32)) rfl ?_
                exact ⟨Nf, rfl, _, rfl, Or.inr ⟨rfl, fun h => hc98 h.2.2.2.2.2.2.1⟩⟩
            · skip
              refine s_ifYes (pc' := 116) X_106.here hx (hb hby d9_86) (feqL (x := l3) (y := m3) hc86).2 (by decide) (by decide) ?_
              refine s_iconst (pc' := 117) (z := (0 : Int32)) X_106.here hx (hb hby d9_116) rfl rfl ?_
              refine winN X_106 hx hlk e_106 (t := .boolean) Bd.returns (by simp) (hb hby d9_117) (by decide) (by decide) (z' := (0 : Int32)) rfl ?_
              exact ⟨Nf, rfl, _, rfl, Or.inr ⟨rfl, fun h => hc86 h.2.2.2.2.2.1⟩⟩
          · skip
            refine s_ifYes (pc' := 116) X_104.here hx (hb hby d9_74) (feqL (x := l2) (y := m2) hc74).2 (by decide) (by decide) ?_
            refine s_iconst (pc' := 117) (z := (0 : Int32)) X_104.here hx (hb hby d9_116) rfl rfl ?_
            refine winN X_104 hx hlk e_104 (t := .boolean) Bd.returns (by simp) (hb hby d9_117) (by decide) (by decide) (z' := (0 : Int32)) rfl ?_
            exact ⟨Nf, rfl, _, rfl, Or.inr ⟨rfl, fun h => hc74 h.2.2.2.2.1⟩⟩
        · skip
          refine s_ifYes (pc' := 116) X_102.here hx (hb hby d9_62) (feqL (x := l1) (y := m1) hc62).2 (by decide) (by decide) ?_
          refine s_iconst (pc' := 117) (z := (0 : Int32)) X_102.here hx (hb hby d9_116) rfl rfl ?_
          refine winN X_102 hx hlk e_102 (t := .boolean) Bd.returns (by simp) (hb hby d9_117) (by decide) (by decide) (z' := (0 : Int32)) rfl ?_
          exact ⟨Nf, rfl, _, rfl, Or.inr ⟨rfl, fun h => hc62 h.2.2.2.1⟩⟩
      · skip
        refine s_icmpYes (pc' := 116) X_100.here hx (hb hby d9_50) (feqI (x := al) (y := am) hc50).2 (by decide) (by decide) ?_
        refine s_iconst (pc' := 117) (z := (0 : Int32)) X_100.here hx (hb hby d9_116) rfl rfl ?_
        refine winN X_100 hx hlk e_100 (t := .boolean) Bd.returns (by simp) (hb hby d9_117) (by decide) (by decide) (z' := (0 : Int32)) rfl ?_
        exact ⟨Nf, rfl, _, rfl, Or.inr ⟨rfl, fun h => hc50 h.2.2.1⟩⟩
theorem pd_10 : parseMethodDescriptor "(II)Z" = some ⟨[.int, .int], some .boolean⟩ := by decide +kernel
theorem pd_11 : parseMethodDescriptor "(CCZZJJJJ)Lcom/example/throttle/throttle/Decision;" = some ⟨[.char, .char, .boolean, .boolean, .long, .long, .long, .long], some (.object "com/example/throttle/throttle/Decision")⟩ := by decide +kernel
theorem ef_0 (m : MethodId) (s0 : Int32) (t0 : Int32) (q2 : Int64) (q4 : Int64) (q6 : Int64) (q8 : Int64) : entryFrame m #[(.int s0), (.int t0), (.long q2), (.long q4), (.long q6), (.long q8)] maxLocals = mkF m 0 #[.val (.int s0), .val (.int t0), .val (.long q2), .second, .val (.long q4), .second, .val (.long q6), .second, .val (.long q8), .second, .unset, .unset, .unset, .unset, .unset, .unset, .unset, .unset, .unset, .unset, .unset, .unset, .unset, .unset, .unset, .unset, .unset, .unset, .unset, .unset, .unset, .unset, .unset, .unset, .unset, .unset, .unset, .unset, .unset, .unset] [] := by first | (simp [entryFrame, mkF, argsToLocals, Value.category, maxLocals]; done) | rfl
def Q0 (Z : State) (s0 : Int32) (t0 : Int32) (q2 : Int64) (q4 : Int64) (q6 : Int64) (q8 : Int64) (cs : Int32) (ua : Addr) (ud : Addr) (h0 : Heap) (n0 : Nat) (v : Option Value) (h : Heap) (L : List Loc) : Prop := Fr n0 L ∧ v = some (.int 1)
set_option maxRecDepth 65536 in
set_option maxHeartbeats 40000000 in
theorem rm0 (l : Launch) (Z : State) (a0 : Array Value) (hw : ∀ d ∈ tables_1, d.before a0 Z = true) (ws : List Jvm.Cond) (s0 : Int32) (t0 : Int32) (q2 : Int64) (q4 : Int64) (q6 : Int64) (q8 : Int64) (cs : Int32) (ua : Addr) (ud : Addr) (h0 : Heap) (n0 : Nat) (Zs : n0 ≤ h0.size) (S_COMPACT_STRINGS : Sta Z h0 "java/lang/String" "COMPACT_STRINGS" "Z" (.int cs)) (hcs : ¬ cs.toInt = 0) (S_ALLOW : Sta Z h0 "com/example/throttle/throttle/OnStoreFailure" "ALLOW" "Lcom/example/throttle/throttle/OnStoreFailure;" (.ref ua)) (S_DENY : Sta Z h0 "com/example/throttle/throttle/OnStoreFailure" "DENY" "Lcom/example/throttle/throttle/OnStoreFailure;" (.ref ud)) (E_ua : Exa Z h0 ua "com/example/throttle/throttle/OnStoreFailure") (F_allows_ua : Fld Z h0 ua "com/example/throttle/throttle/OnStoreFailure" "allows" "Z" (.int (1 : Int32))) (E_ud : Exa Z h0 ud "com/example/throttle/throttle/OnStoreFailure") (F_allows_ud : Fld Z h0 ud "com/example/throttle/throttle/OnStoreFailure" "allows" "Z" (.int (0 : Int32))) :
    MetFree l x (head1 (Jvm.Cond.code x code maxLocals ret :: ws) room_1) (fun as' U => as' = #[(.int s0), (.int t0), (.long q2), (.long q4), (.long q6), (.long q8)] ∧ Z.Warmed39 U.vm ∧ U.heap = h0) (fun _ _ _ _ _ => True) (fun _ U o U' => ∃ v L, o = .returned v ∧ Q0 Z s0 t0 q2 q4 q6 q8 cs ua ud h0 n0 v U'.heap L ∧ FrameEnd U o U' L room_1.cells room_1.slots) := by
  refine MetFree.of_bodySF (plainFor_of_name pn_1) hisR ?_
  intro p e s m args below meth c s₁ Bd hml0 hP hK
  obtain ⟨rfl, hZ, hh⟩ := hP
  have hx := Bd.exec
  have hby := Bd.bytes
  have hml : c.maxLocals = 40 := hml0
  have hown : s.vm.findClass "com/example/throttle/throttle/DecisionEqualsPinLaw" = some m.cls := findClass_of_methodNamed Bd.named
  have hnm := (name_of_methodNamed Bd.named Bd.method).1
  have hlk : meth.locks = false := Bd.notSynchronized
  have X0 : Stand p l e room_1 s m #[(.int s0), (.int t0), (.long q2), (.long q4), (.long q6), (.long q8)] below meth c s₁ [] 0 0 := Stand.of_body Bd
  have e0 : s₁.heap = h0 := by rw [← hh, Bd.state]; rfl
  have Nf := Fr.nil n0
  refine (?_ : Win p.tables e below (PostQ s (Q0 Z s0 t0 q2 q4 q6 q8 cs ua ud h0 n0) room_1.cells room_1.slots) (s₁.setTop (entryFrame m #[(.int s0), (.int t0), (.long q2), (.long q4), (.long q6), (.long q8)] maxLocals)))
  rw [ef_0]
  have lt_ua : ua < h0.size := E_ua.lt
  have lt_ud : ud < h0.size := E_ud.lt
  show Win p.tables e below _ (s₁.setTop (mkF m 0 #[.val (.int s0), .val (.int t0), .val (.long q2), .second, .val (.long q4), .second, .val (.long q6), .second, .val (.long q8), .second, .unset, .unset, .unset, .unset, .unset, .unset, .unset, .unset, .unset, .unset, .unset, .unset, .unset, .unset, .unset, .unset, .unset, .unset, .unset, .unset, .unset, .unset, .unset, .unset, .unset, .unset, .unset, .unset, .unset, .unset] []))
  refine s_iloadN (pc' := 1) X0.here hx (hb hby at_0) rfl rfl ?_
  refine s_sipush (pc' := 4) (z := (255 : Int32)) X0.here hx (hb hby at_1) rfl rfl ?_
  refine s_iand (pc' := 5) X0.here hx (hb hby at_4) rfl ?_
  refine Win.go (fun _ k => XS.i2c X0.here hx rfl (hb hby at_5) rfl k) ?_
  show Win p.tables e below _ (s₁.setTop (mkF m 6 #[.val (.int s0), .val (.int t0), .val (.long q2), .second, .val (.long q4), .second, .val (.long q6), .second, .val (.long q8), .second, .unset, .unset, .unset, .unset, .unset, .unset, .unset, .unset, .unset, .unset, .unset, .unset, .unset, .unset, .unset, .unset, .unset, .unset, .unset, .unset, .unset, .unset, .unset, .unset, .unset, .unset, .unset, .unset, .unset, .unset] [(.int ((s0 &&& (255 : Int32)).toUInt32.toUInt16.toUInt32.toInt32))]))
  refine s_istore (pc' := 8) (l' := #[.val (.int s0), .val (.int t0), .val (.long q2), .second, .val (.long q4), .second, .val (.long q6), .second, .val (.long q8), .second, .val (.int ((s0 &&& (255 : Int32)).toUInt32.toUInt16.toUInt32.toInt32)), .unset, .unset, .unset, .unset, .unset, .unset, .unset, .unset, .unset, .unset, .unset, .unset, .unset, .unset, .unset, .unset, .unset, .unset, .unset, .unset, .unset, .unset, .unset, .unset, .unset, .unset, .unset, .unset, .unset]) X0.here hx (hb hby at_6) rfl rfl ?_
  generalize hch1 : ((s0 &&& (255 : Int32)).toUInt32.toUInt16.toUInt32.toInt32) = ch1
  show Win p.tables e below _ (s₁.setTop (mkF m 8 #[.val (.int s0), .val (.int t0), .val (.long q2), .second, .val (.long q4), .second, .val (.long q6), .second, .val (.long q8), .second, .val (.int ch1), .unset, .unset, .unset, .unset, .unset, .unset, .unset, .unset, .unset, .unset, .unset, .unset, .unset, .unset, .unset, .unset, .unset, .unset, .unset, .unset, .unset, .unset, .unset, .unset, .unset, .unset, .unset, .unset, .unset] []))
  have bch1 := own_ch _ _ hch1
  refine s_iloadN (pc' := 9) X0.here hx (hb hby at_8) rfl rfl ?_
  refine s_bipush (pc' := 11) (z := (8 : Int32)) X0.here hx (hb hby at_9) rfl rfl ?_
  refine Win.go (fun _ k => XT.iushr X0.here hx rfl (hb hby at_11) rfl k) ?_
  show Win p.tables e below _ (s₁.setTop (mkF m 12 #[.val (.int s0), .val (.int t0), .val (.long q2), .second, .val (.long q4), .second, .val (.long q6), .second, .val (.long q8), .second, .val (.int ch1), .unset, .unset, .unset, .unset, .unset, .unset, .unset, .unset, .unset, .unset, .unset, .unset, .unset, .unset, .unset, .unset, .unset, .unset, .unset, .unset, .unset, .unset, .unset, .unset, .unset, .unset, .unset, .unset, .unset] [(.int (XT.ushr s0 (8 : Int32)))]))
  refine s_sipush (pc' := 15) (z := (255 : Int32)) X0.here hx (hb hby at_12) rfl rfl ?_
  refine s_iand (pc' := 16) X0.here hx (hb hby at_15) rfl ?_
  refine Win.go (fun _ k => XS.i2c X0.here hx rfl (hb hby at_16) rfl k) ?_
  show Win p.tables e below _ (s₁.setTop (mkF m 17 #[.val (.int s0), .val (.int t0), .val (.long q2), .second, .val (.long q4), .second, .val (.long q6), .second, .val (.long q8), .second, .val (.int ch1), .unset, .unset, .unset, .unset, .unset, .unset, .unset, .unset, .unset, .unset, .unset, .unset, .unset, .unset, .unset, .unset, .unset, .unset, .unset, .unset, .unset, .unset, .unset, .unset, .unset, .unset, .unset, .unset, .unset] [(.int (((XT.ushr s0 (8 : Int32)) &&& (255 : Int32)).toUInt32.toUInt16.toUInt32.toInt32))]))
  refine s_istore (pc' := 19) (l' := #[.val (.int s0), .val (.int t0), .val (.long q2), .second, .val (.long q4), .second, .val (.long q6), .second, .val (.long q8), .second, .val (.int ch1), .val (.int (((XT.ushr s0 (8 : Int32)) &&& (255 : Int32)).toUInt32.toUInt16.toUInt32.toInt32)), .unset, .unset, .unset, .unset, .unset, .unset, .unset, .unset, .unset, .unset, .unset, .unset, .unset, .unset, .unset, .unset, .unset, .unset, .unset, .unset, .unset, .unset, .unset, .unset, .unset, .unset, .unset, .unset]) X0.here hx (hb hby at_17) rfl rfl ?_
  generalize hch2 : (((XT.ushr s0 (8 : Int32)) &&& (255 : Int32)).toUInt32.toUInt16.toUInt32.toInt32) = ch2
  show Win p.tables e below _ (s₁.setTop (mkF m 19 #[.val (.int s0), .val (.int t0), .val (.long q2), .second, .val (.long q4), .second, .val (.long q6), .second, .val (.long q8), .second, .val (.int ch1), .val (.int ch2), .unset, .unset, .unset, .unset, .unset, .unset, .unset, .unset, .unset, .unset, .unset, .unset, .unset, .unset, .unset, .unset, .unset, .unset, .unset, .unset, .unset, .unset, .unset, .unset, .unset, .unset, .unset, .unset] []))
  have bch2 := own_ch _ _ hch2
  refine s_iloadN (pc' := 20) X0.here hx (hb hby at_19) rfl rfl ?_
  refine s_bipush (pc' := 22) (z := (16 : Int32)) X0.here hx (hb hby at_20) rfl rfl ?_
  obtain ⟨_, _, ⟨T_111, L_111, k_111, n_111⟩, -, X_111, ⟨Lc_111, hQ_111, l_111, y_111, z_111⟩, st_111⟩ := Jvm.LawKit.callS X0 hx (y := (⟨"com/example/throttle/throttle/DecisionEqualsPinLaw", "bit", "(II)Z"⟩ : MethodName)) hown (mvT hZ (hw _ (List.mem_of_getElem? (i := 0) rfl))) (mvT hZ (hw _ (List.mem_of_getElem? (i := 1) rfl))) (mvT hZ (hw _ (List.mem_of_getElem? (i := 2) rfl))) (mvT hZ (hw _ (List.mem_of_getElem? (i := 3) rfl))) (by decide) (backOf (W := 0) (rm1 l Z a0 hw [] s0 (16 : Int32) h0 n0 Zs ) hZ (hw _ (List.mem_of_getElem? (i := 3) rfl)) (hw _ (List.mem_of_getElem? (i := 2) rfl)) (by decide) (by decide)) (g := (mkF m 22 #[.val (.int s0), .val (.int t0), .val (.long q2), .second, .val (.long q4), .second, .val (.long q6), .second, .val (.long q8), .second, .val (.int ch1), .val (.int ch2), .unset, .unset, .unset, .unset, .unset, .unset, .unset, .unset, .unset, .unset, .unset, .unset, .unset, .unset, .unset, .unset, .unset, .unset, .unset, .unset, .unset, .unset, .unset, .unset, .unset, .unset, .unset, .unset] [(.int (16 : Int32)), (.int s0)])) rfl (by rw [hml]; rfl) (argsL := [(.int s0), (.int (16 : Int32))]) (rest := []) (lenOf pd_10 rfl) rfl (by show 2 * 0 + _ ≤ _; exact Nat.le_of_eq rfl) (hb hby at_22) (fun _ _ => ⟨rfl, e0, (by decide : 0 + 0 ≤ _), (by decide : 0 + 0 ≤ _)⟩)
  dsimp only [Pt.U, Pt.locs, Pt.cells, Pt.slots, Nat.add_zero] at X_111 l_111 y_111 z_111 st_111 hQ_111
  subst y_111 z_111
  obtain ⟨Nq_111, e_111, al, rfl, hal⟩ := hQ_111
  replace Nf := own_frEq l_111 (Fr.app Nf Nq_111)
  clear l_111
  refine Win.go st_111 ?_
  clear st_111 Nq_111 X0 e0
  show Win p.tables e below _ (T_111.setTop (mkF m 25 #[.val (.int s0), .val (.int t0), .val (.long q2), .second, .val (.long q4), .second, .val (.long q6), .second, .val (.long q8), .second, .val (.int ch1), .val (.int ch2), .unset, .unset, .unset, .unset, .unset, .unset, .unset, .unset, .unset, .unset, .unset, .unset, .unset, .unset, .unset, .unset, .unset, .unset, .unset, .unset, .unset, .unset, .unset, .unset, .unset, .unset, .unset, .unset] [(.int al)]))
  refine s_istore (pc' := 27) (l' := #[.val (.int s0), .val (.int t0), .val (.long q2), .second, .val (.long q4), .second, .val (.long q6), .second, .val (.long q8), .second, .val (.int ch1), .val (.int ch2), .val (.int al), .unset, .unset, .unset, .unset, .unset, .unset, .unset, .unset, .unset, .unset, .unset, .unset, .unset, .unset, .unset, .unset, .unset, .unset, .unset, .unset, .unset, .unset, .unset, .unset, .unset, .unset, .unset]) X_111.here hx (hb hby at_25) rfl rfl ?_
  refine s_iloadN (pc' := 28) X_111.here hx (hb hby at_27) rfl rfl ?_
  refine s_bipush (pc' := 30) (z := (17 : Int32)) X_111.here hx (hb hby at_28) rfl rfl ?_
  obtain ⟨_, _, ⟨T_112, L_112, k_112, n_112⟩, -, X_112, ⟨Lc_112, hQ_112, l_112, y_112, z_112⟩, st_112⟩ := Jvm.LawKit.callS X_111 hx (y := (⟨"com/example/throttle/throttle/DecisionEqualsPinLaw", "bit", "(II)Z"⟩ : MethodName)) hown (mvT hZ (hw _ (List.mem_of_getElem? (i := 0) rfl))) (mvT hZ (hw _ (List.mem_of_getElem? (i := 1) rfl))) (mvT hZ (hw _ (List.mem_of_getElem? (i := 2) rfl))) (mvT hZ (hw _ (List.mem_of_getElem? (i := 3) rfl))) (by decide) (backOf (W := 0) (rm1 l Z a0 hw [] s0 (17 : Int32) h0 n0 Zs ) hZ (hw _ (List.mem_of_getElem? (i := 3) rfl)) (hw _ (List.mem_of_getElem? (i := 2) rfl)) (by decide) (by decide)) (g := (mkF m 30 #[.val (.int s0), .val (.int t0), .val (.long q2), .second, .val (.long q4), .second, .val (.long q6), .second, .val (.long q8), .second, .val (.int ch1), .val (.int ch2), .val (.int al), .unset, .unset, .unset, .unset, .unset, .unset, .unset, .unset, .unset, .unset, .unset, .unset, .unset, .unset, .unset, .unset, .unset, .unset, .unset, .unset, .unset, .unset, .unset, .unset, .unset, .unset, .unset] [(.int (17 : Int32)), (.int s0)])) rfl (by rw [hml]; rfl) (argsL := [(.int s0), (.int (17 : Int32))]) (rest := []) (lenOf pd_10 rfl) rfl (by show 2 * 0 + _ ≤ _; exact Nat.le_of_eq rfl) (hb hby at_30) (fun _ _ => ⟨rfl, e_111, (by decide : 0 + 0 ≤ _), (by decide : 0 + 0 ≤ _)⟩)
  dsimp only [Pt.U, Pt.locs, Pt.cells, Pt.slots, Nat.add_zero] at X_112 l_112 y_112 z_112 st_112 hQ_112
  subst y_112 z_112
  obtain ⟨Nq_112, e_112, af, rfl, haf⟩ := hQ_112
  replace Nf := own_frEq l_112 (Fr.app Nf Nq_112)
  clear l_112
  refine Win.go st_112 ?_
  clear st_112 Nq_112 X_111 e_111
  show Win p.tables e below _ (T_112.setTop (mkF m 33 #[.val (.int s0), .val (.int t0), .val (.long q2), .second, .val (.long q4), .second, .val (.long q6), .second, .val (.long q8), .second, .val (.int ch1), .val (.int ch2), .val (.int al), .unset, .unset, .unset, .unset, .unset, .unset, .unset, .unset, .unset, .unset, .unset, .unset, .unset, .unset, .unset, .unset, .unset, .unset, .unset, .unset, .unset, .unset, .unset, .unset, .unset, .unset, .unset] [(.int af)]))
  refine s_istore (pc' := 35) (l' := #[.val (.int s0), .val (.int t0), .val (.long q2), .second, .val (.long q4), .second, .val (.long q6), .second, .val (.long q8), .second, .val (.int ch1), .val (.int ch2), .val (.int al), .val (.int af), .unset, .unset, .unset, .unset, .unset, .unset, .unset, .unset, .unset, .unset, .unset, .unset, .unset, .unset, .unset, .unset, .unset, .unset, .unset, .unset, .unset, .unset, .unset, .unset, .unset, .unset]) X_112.here hx (hb hby at_33) rfl rfl ?_
  refine s_iloadN (pc' := 36) X_112.here hx (hb hby at_35) rfl rfl ?_
  refine s_bipush (pc' := 38) (z := (18 : Int32)) X_112.here hx (hb hby at_36) rfl rfl ?_
  obtain ⟨_, _, ⟨T_113, L_113, k_113, n_113⟩, -, X_113, ⟨Lc_113, hQ_113, l_113, y_113, z_113⟩, st_113⟩ := Jvm.LawKit.callS X_112 hx (y := (⟨"com/example/throttle/throttle/DecisionEqualsPinLaw", "bit", "(II)Z"⟩ : MethodName)) hown (mvT hZ (hw _ (List.mem_of_getElem? (i := 0) rfl))) (mvT hZ (hw _ (List.mem_of_getElem? (i := 1) rfl))) (mvT hZ (hw _ (List.mem_of_getElem? (i := 2) rfl))) (mvT hZ (hw _ (List.mem_of_getElem? (i := 3) rfl))) (by decide) (backOf (W := 0) (rm1 l Z a0 hw [] s0 (18 : Int32) h0 n0 Zs ) hZ (hw _ (List.mem_of_getElem? (i := 3) rfl)) (hw _ (List.mem_of_getElem? (i := 2) rfl)) (by decide) (by decide)) (g := (mkF m 38 #[.val (.int s0), .val (.int t0), .val (.long q2), .second, .val (.long q4), .second, .val (.long q6), .second, .val (.long q8), .second, .val (.int ch1), .val (.int ch2), .val (.int al), .val (.int af), .unset, .unset, .unset, .unset, .unset, .unset, .unset, .unset, .unset, .unset, .unset, .unset, .unset, .unset, .unset, .unset, .unset, .unset, .unset, .unset, .unset, .unset, .unset, .unset, .unset, .unset] [(.int (18 : Int32)), (.int s0)])) rfl (by rw [hml]; rfl) (argsL := [(.int s0), (.int (18 : Int32))]) (rest := []) (lenOf pd_10 rfl) rfl (by show 2 * 0 + _ ≤ _; exact Nat.le_of_eq rfl) (hb hby at_38) (fun _ _ => ⟨rfl, e_112, (by decide : 0 + 0 ≤ _), (by decide : 0 + 0 ≤ _)⟩)
  dsimp only [Pt.U, Pt.locs, Pt.cells, Pt.slots, Nat.add_zero] at X_113 l_113 y_113 z_113 st_113 hQ_113
  subst y_113 z_113
  obtain ⟨Nq_113, e_113, bf, rfl, hbf⟩ := hQ_113
  replace Nf := own_frEq l_113 (Fr.app Nf Nq_113)
  clear l_113
  refine Win.go st_113 ?_
  clear st_113 Nq_113 X_112 e_112
  show Win p.tables e below _ (T_113.setTop (mkF m 41 #[.val (.int s0), .val (.int t0), .val (.long q2), .second, .val (.long q4), .second, .val (.long q6), .second, .val (.long q8), .second, .val (.int ch1), .val (.int ch2), .val (.int al), .val (.int af), .unset, .unset, .unset, .unset, .unset, .unset, .unset, .unset, .unset, .unset, .unset, .unset, .unset, .unset, .unset, .unset, .unset, .unset, .unset, .unset, .unset, .unset, .unset, .unset, .unset, .unset] [(.int bf)]))
  refine s_istore (pc' := 43) (l' := #[.val (.int s0), .val (.int t0), .val (.long q2), .second, .val (.long q4), .second, .val (.long q6), .second, .val (.long q8), .second, .val (.int ch1), .val (.int ch2), .val (.int al), .val (.int af), .val (.int bf), .unset, .unset, .unset, .unset, .unset, .unset, .unset, .unset, .unset, .unset, .unset, .unset, .unset, .unset, .unset, .unset, .unset, .unset, .unset, .unset, .unset, .unset, .unset, .unset, .unset]) X_113.here hx (hb hby at_41) rfl rfl ?_
  have J62 : ∀ (TJ62 : State) (LJ62 : List Loc), Stand p l e room_1 s m #[(.int s0), (.int t0), (.long q2), (.long q4), (.long q6), (.long q8)] below meth c TJ62 LJ62 0 0 → TJ62.heap = h0 → Fr n0 LJ62 → ∀ fa : Int32, (fa.toInt = 0 → af.toInt = 0) → Win p.tables e below (PostQ s (Q0 Z s0 t0 q2 q4 q6 q8 cs ua ud h0 n0) room_1.cells room_1.slots) (TJ62.setTop (mkF m 62 #[.val (.int s0), .val (.int t0), .val (.long q2), .second, .val (.long q4), .second, .val (.long q6), .second, .val (.long q8), .second, .val (.int ch1), .val (.int ch2), .val (.int al), .val (.int af), .val (.int bf), .unset, .unset, .unset, .unset, .unset, .unset, .unset, .unset, .unset, .unset, .unset, .unset, .unset, .unset, .unset, .unset, .unset, .unset, .unset, .unset, .unset, .unset, .unset, .unset, .unset] [(.int fa)])) := by
    intro TJ62 LJ62 XJ62 eJ62 Nf fa hJ62
    refine s_istore (pc' := 64) (l' := #[.val (.int s0), .val (.int t0), .val (.long q2), .second, .val (.long q4), .second, .val (.long q6), .second, .val (.long q8), .second, .val (.int ch1), .val (.int ch2), .val (.int al), .val (.int af), .val (.int bf), .val (.int fa), .unset, .unset, .unset, .unset, .unset, .unset, .unset, .unset, .unset, .unset, .unset, .unset, .unset, .unset, .unset, .unset, .unset, .unset, .unset, .unset, .unset, .unset, .unset, .unset]) XJ62.here hx (hb hby at_62) rfl rfl ?_
    have J83 : ∀ (TJ83 : State) (LJ83 : List Loc), Stand p l e room_1 s m #[(.int s0), (.int t0), (.long q2), (.long q4), (.long q6), (.long q8)] below meth c TJ83 LJ83 0 0 → TJ83.heap = h0 → Fr n0 LJ83 → ∀ fb : Int32, (fb.toInt = 0 → bf.toInt = 0) → Win p.tables e below (PostQ s (Q0 Z s0 t0 q2 q4 q6 q8 cs ua ud h0 n0) room_1.cells room_1.slots) (TJ83.setTop (mkF m 83 #[.val (.int s0), .val (.int t0), .val (.long q2), .second, .val (.long q4), .second, .val (.long q6), .second, .val (.long q8), .second, .val (.int ch1), .val (.int ch2), .val (.int al), .val (.int af), .val (.int bf), .val (.int fa), .unset, .unset, .unset, .unset, .unset, .unset, .unset, .unset, .unset, .unset, .unset, .unset, .unset, .unset, .unset, .unset, .unset, .unset, .unset, .unset, .unset, .unset, .unset, .unset] [(.int fb)])) := by
      intro TJ83 LJ83 XJ83 eJ83 Nf fb hJ83
      refine s_istore (pc' := 85) (l' := #[.val (.int s0), .val (.int t0), .val (.long q2), .second, .val (.long q4), .second, .val (.long q6), .second, .val (.long q8), .second, .val (.int ch1), .val (.int ch2), .val (.int al), .val (.int af), .val (.int bf), .val (.int fa), .val (.int fb), .unset, .unset, .unset, .unset, .unset, .unset, .unset, .unset, .unset, .unset, .unset, .unset, .unset, .unset, .unset, .unset, .unset, .unset, .unset, .unset, .unset, .unset, .unset]) XJ83.here hx (hb hby at_83) rfl rfl ?_
      have J95 : ∀ la : Int64, (fa.toInt = 0 ∨ la = (0 : Int64)) → Win p.tables e below (PostQ s (Q0 Z s0 t0 q2 q4 q6 q8 cs ua ud h0 n0) room_1.cells room_1.slots) (TJ83.setTop (mkF m 95 #[.val (.int s0), .val (.int t0), .val (.long q2), .second, .val (.long q4), .second, .val (.long q6), .second, .val (.long q8), .second, .val (.int ch1), .val (.int ch2), .val (.int al), .val (.int af), .val (.int bf), .val (.int fa), .val (.int fb), .unset, .unset, .unset, .unset, .unset, .unset, .unset, .unset, .unset, .unset, .unset, .unset, .unset, .unset, .unset, .unset, .unset, .unset, .unset, .unset, .unset, .unset, .unset] [(.long la)])) := by
        intro la hJ95
        refine s_lstore (pc' := 97) (l' := #[.val (.int s0), .val (.int t0), .val (.long q2), .second, .val (.long q4), .second, .val (.long q6), .second, .val (.long q8), .second, .val (.int ch1), .val (.int ch2), .val (.int al), .val (.int af), .val (.int bf), .val (.int fa), .val (.int fb), .val (.long la), .second, .unset, .unset, .unset, .unset, .unset, .unset, .unset, .unset, .unset, .unset, .unset, .unset, .unset, .unset, .unset, .unset, .unset, .unset, .unset, .unset, .unset]) XJ83.here hx (hb hby at_95) rfl rfl ?_
        have J108 : ∀ lb : Int64, (fa.toInt = 0 ∨ lb = (0 : Int64)) → Win p.tables e below (PostQ s (Q0 Z s0 t0 q2 q4 q6 q8 cs ua ud h0 n0) room_1.cells room_1.slots) (TJ83.setTop (mkF m 108 #[.val (.int s0), .val (.int t0), .val (.long q2), .second, .val (.long q4), .second, .val (.long q6), .second, .val (.long q8), .second, .val (.int ch1), .val (.int ch2), .val (.int al), .val (.int af), .val (.int bf), .val (.int fa), .val (.int fb), .val (.long la), .second, .unset, .unset, .unset, .unset, .unset, .unset, .unset, .unset, .unset, .unset, .unset, .unset, .unset, .unset, .unset, .unset, .unset, .unset, .unset, .unset, .unset] [(.long lb)])) := by
          intro lb hJ108
          refine s_lstore (pc' := 110) (l' := #[.val (.int s0), .val (.int t0), .val (.long q2), .second, .val (.long q4), .second, .val (.long q6), .second, .val (.long q8), .second, .val (.int ch1), .val (.int ch2), .val (.int al), .val (.int af), .val (.int bf), .val (.int fa), .val (.int fb), .val (.long la), .second, .val (.long lb), .second, .unset, .unset, .unset, .unset, .unset, .unset, .unset, .unset, .unset, .unset, .unset, .unset, .unset, .unset, .unset, .unset, .unset, .unset, .unset]) XJ83.here hx (hb hby at_108) rfl rfl ?_
          have J121 : ∀ lc : Int64, (fa.toInt = 0 ∨ lc = (0 : Int64)) → Win p.tables e below (PostQ s (Q0 Z s0 t0 q2 q4 q6 q8 cs ua ud h0 n0) room_1.cells room_1.slots) (TJ83.setTop (mkF m 121 #[.val (.int s0), .val (.int t0), .val (.long q2), .second, .val (.long q4), .second, .val (.long q6), .second, .val (.long q8), .second, .val (.int ch1), .val (.int ch2), .val (.int al), .val (.int af), .val (.int bf), .val (.int fa), .val (.int fb), .val (.long la), .second, .val (.long lb), .second, .unset, .unset, .unset, .unset, .unset, .unset, .unset, .unset, .unset, .unset, .unset, .unset, .unset, .unset, .unset, .unset, .unset, .unset, .unset] [(.long lc)])) := by
            intro lc hJ121
            refine s_lstore (pc' := 123) (l' := #[.val (.int s0), .val (.int t0), .val (.long q2), .second, .val (.long q4), .second, .val (.long q6), .second, .val (.long q8), .second, .val (.int ch1), .val (.int ch2), .val (.int al), .val (.int af), .val (.int bf), .val (.int fa), .val (.int fb), .val (.long la), .second, .val (.long lb), .second, .val (.long lc), .second, .unset, .unset, .unset, .unset, .unset, .unset, .unset, .unset, .unset, .unset, .unset, .unset, .unset, .unset, .unset, .unset, .unset]) XJ83.here hx (hb hby at_121) rfl rfl ?_
            have J143 : ∀ ld : Int64, (fa.toInt = 0 ∨ ((al.toInt = 0 → ld = (1 : Int64)) ∧ (¬ al.toInt = 0 → ld = (0 : Int64)))) → Win p.tables e below (PostQ s (Q0 Z s0 t0 q2 q4 q6 q8 cs ua ud h0 n0) room_1.cells room_1.slots) (TJ83.setTop (mkF m 143 #[.val (.int s0), .val (.int t0), .val (.long q2), .second, .val (.long q4), .second, .val (.long q6), .second, .val (.long q8), .second, .val (.int ch1), .val (.int ch2), .val (.int al), .val (.int af), .val (.int bf), .val (.int fa), .val (.int fb), .val (.long la), .second, .val (.long lb), .second, .val (.long lc), .second, .unset, .unset, .unset, .unset, .unset, .unset, .unset, .unset, .unset, .unset, .unset, .unset, .unset, .unset, .unset, .unset, .unset] [(.long ld)])) := by
              intro ld hJ143
              refine s_lstore (pc' := 145) (l' := #[.val (.int s0), .val (.int t0), .val (.long q2), .second, .val (.long q4), .second, .val (.long q6), .second, .val (.long q8), .second, .val (.int ch1), .val (.int ch2), .val (.int al), .val (.int af), .val (.int bf), .val (.int fa), .val (.int fb), .val (.long la), .second, .val (.long lb), .second, .val (.long lc), .second, .val (.long ld), .second, .unset, .unset, .unset, .unset, .unset, .unset, .unset, .unset, .unset, .unset, .unset, .unset, .unset, .unset, .unset]) XJ83.here hx (hb hby at_143) rfl rfl ?_
              refine s_iloadN (pc' := 146) XJ83.here hx (hb hby at_145) rfl rfl ?_
              refine s_iconst (pc' := 147) (z := (0 : Int32)) XJ83.here hx (hb hby at_146) rfl rfl ?_
              obtain ⟨_, _, ⟨T_114, L_114, k_114, n_114⟩, -, X_114, ⟨Lc_114, hQ_114, l_114, y_114, z_114⟩, st_114⟩ := Jvm.LawKit.callS XJ83 hx (y := (⟨"com/example/throttle/throttle/DecisionEqualsPinLaw", "bit", "(II)Z"⟩ : MethodName)) hown (mvT hZ (hw _ (List.mem_of_getElem? (i := 0) rfl))) (mvT hZ (hw _ (List.mem_of_getElem? (i := 1) rfl))) (mvT hZ (hw _ (List.mem_of_getElem? (i := 2) rfl))) (mvT hZ (hw _ (List.mem_of_getElem? (i := 3) rfl))) (by decide) (backOf (W := 0) (rm1 l Z a0 hw [] t0 (0 : Int32) h0 n0 Zs ) hZ (hw _ (List.mem_of_getElem? (i := 3) rfl)) (hw _ (List.mem_of_getElem? (i := 2) rfl)) (by decide) (by decide)) (g := (mkF m 147 #[.val (.int s0), .val (.int t0), .val (.long q2), .second, .val (.long q4), .second, .val (.long q6), .second, .val (.long q8), .second, .val (.int ch1), .val (.int ch2), .val (.int al), .val (.int af), .val (.int bf), .val (.int fa), .val (.int fb), .val (.long la), .second, .val (.long lb), .second, .val (.long lc), .second, .val (.long ld), .second, .unset, .unset, .unset, .unset, .unset, .unset, .unset, .unset, .unset, .unset, .unset, .unset, .unset, .unset, .unset] [(.int (0 : Int32)), (.int t0)])) rfl (by rw [hml]; rfl) (argsL := [(.int t0), (.int (0 : Int32))]) (rest := []) (lenOf pd_10 rfl) rfl (by show 2 * 0 + _ ≤ _; exact Nat.le_of_eq rfl) (hb hby at_147) (fun _ _ => ⟨rfl, eJ83, (by decide : 0 + 0 ≤ _), (by decide : 0 + 0 ≤ _)⟩)
              dsimp only [Pt.U, Pt.locs, Pt.cells, Pt.slots, Nat.add_zero] at X_114 l_114 y_114 z_114 st_114 hQ_114
              subst y_114 z_114
              obtain ⟨Nq_114, e_114, bt0, rfl, hbt0⟩ := hQ_114
              replace Nf := own_frEq l_114 (Fr.app Nf Nq_114)
              clear l_114
              refine Win.go st_114 ?_
              clear st_114 Nq_114 XJ83 eJ83
              show Win p.tables e below _ (T_114.setTop (mkF m 150 #[.val (.int s0), .val (.int t0), .val (.long q2), .second, .val (.long q4), .second, .val (.long q6), .second, .val (.long q8), .second, .val (.int ch1), .val (.int ch2), .val (.int al), .val (.int af), .val (.int bf), .val (.int fa), .val (.int fb), .val (.long la), .second, .val (.long lb), .second, .val (.long lc), .second, .val (.long ld), .second, .unset, .unset, .unset, .unset, .unset, .unset, .unset, .unset, .unset, .unset, .unset, .unset, .unset, .unset, .unset] [(.int bt0)]))
              have J167 : ∀ ca : Int32, (0 ≤ ca.toInt ∧ ca.toInt ≤ 255) → Win p.tables e below (PostQ s (Q0 Z s0 t0 q2 q4 q6 q8 cs ua ud h0 n0) room_1.cells room_1.slots) (T_114.setTop (mkF m 167 #[.val (.int s0), .val (.int t0), .val (.long q2), .second, .val (.long q4), .second, .val (.long q6), .second, .val (.long q8), .second, .val (.int ch1), .val (.int ch2), .val (.int al), .val (.int af), .val (.int bf), .val (.int fa), .val (.int fb), .val (.long la), .second, .val (.long lb), .second, .val (.long lc), .second, .val (.long ld), .second, .unset, .unset, .unset, .unset, .unset, .unset, .unset, .unset, .unset, .unset, .unset, .unset, .unset, .unset, .unset] [(.int ca)])) := by
                intro ca hJ167
                refine s_istore (pc' := 169) (l' := #[.val (.int s0), .val (.int t0), .val (.long q2), .second, .val (.long q4), .second, .val (.long q6), .second, .val (.long q8), .second, .val (.int ch1), .val (.int ch2), .val (.int al), .val (.int af), .val (.int bf), .val (.int fa), .val (.int fb), .val (.long la), .second, .val (.long lb), .second, .val (.long lc), .second, .val (.long ld), .second, .val (.int ca), .unset, .unset, .unset, .unset, .unset, .unset, .unset, .unset, .unset, .unset, .unset, .unset, .unset, .unset]) X_114.here hx (hb hby at_167) rfl rfl ?_
                refine s_iloadN (pc' := 170) X_114.here hx (hb hby at_169) rfl rfl ?_
                refine s_iconst (pc' := 171) (z := (1 : Int32)) X_114.here hx (hb hby at_170) rfl rfl ?_
                obtain ⟨_, _, ⟨T_115, L_115, k_115, n_115⟩, -, X_115, ⟨Lc_115, hQ_115, l_115, y_115, z_115⟩, st_115⟩ := Jvm.LawKit.callS X_114 hx (y := (⟨"com/example/throttle/throttle/DecisionEqualsPinLaw", "bit", "(II)Z"⟩ : MethodName)) hown (mvT hZ (hw _ (List.mem_of_getElem? (i := 0) rfl))) (mvT hZ (hw _ (List.mem_of_getElem? (i := 1) rfl))) (mvT hZ (hw _ (List.mem_of_getElem? (i := 2) rfl))) (mvT hZ (hw _ (List.mem_of_getElem? (i := 3) rfl))) (by decide) (backOf (W := 0) (rm1 l Z a0 hw [] t0 (1 : Int32) h0 n0 Zs ) hZ (hw _ (List.mem_of_getElem? (i := 3) rfl)) (hw _ (List.mem_of_getElem? (i := 2) rfl)) (by decide) (by decide)) (g := (mkF m 171 #[.val (.int s0), .val (.int t0), .val (.long q2), .second, .val (.long q4), .second, .val (.long q6), .second, .val (.long q8), .second, .val (.int ch1), .val (.int ch2), .val (.int al), .val (.int af), .val (.int bf), .val (.int fa), .val (.int fb), .val (.long la), .second, .val (.long lb), .second, .val (.long lc), .second, .val (.long ld), .second, .val (.int ca), .unset, .unset, .unset, .unset, .unset, .unset, .unset, .unset, .unset, .unset, .unset, .unset, .unset, .unset] [(.int (1 : Int32)), (.int t0)])) rfl (by rw [hml]; rfl) (argsL := [(.int t0), (.int (1 : Int32))]) (rest := []) (lenOf pd_10 rfl) rfl (by show 2 * 0 + _ ≤ _; exact Nat.le_of_eq rfl) (hb hby at_171) (fun _ _ => ⟨rfl, e_114, (by decide : 0 + 0 ≤ _), (by decide : 0 + 0 ≤ _)⟩)
                dsimp only [Pt.U, Pt.locs, Pt.cells, Pt.slots, Nat.add_zero] at X_115 l_115 y_115 z_115 st_115 hQ_115
                subst y_115 z_115
                obtain ⟨Nq_115, e_115, bt1, rfl, hbt1⟩ := hQ_115
                replace Nf := own_frEq l_115 (Fr.app Nf Nq_115)
                clear l_115
                refine Win.go st_115 ?_
                clear st_115 Nq_115 X_114 e_114
                show Win p.tables e below _ (T_115.setTop (mkF m 174 #[.val (.int s0), .val (.int t0), .val (.long q2), .second, .val (.long q4), .second, .val (.long q6), .second, .val (.long q8), .second, .val (.int ch1), .val (.int ch2), .val (.int al), .val (.int af), .val (.int bf), .val (.int fa), .val (.int fb), .val (.long la), .second, .val (.long lb), .second, .val (.long lc), .second, .val (.long ld), .second, .val (.int ca), .unset, .unset, .unset, .unset, .unset, .unset, .unset, .unset, .unset, .unset, .unset, .unset, .unset, .unset] [(.int bt1)]))
                have J191 : ∀ cb : Int32, (0 ≤ cb.toInt ∧ cb.toInt ≤ 255) → Win p.tables e below (PostQ s (Q0 Z s0 t0 q2 q4 q6 q8 cs ua ud h0 n0) room_1.cells room_1.slots) (T_115.setTop (mkF m 191 #[.val (.int s0), .val (.int t0), .val (.long q2), .second, .val (.long q4), .second, .val (.long q6), .second, .val (.long q8), .second, .val (.int ch1), .val (.int ch2), .val (.int al), .val (.int af), .val (.int bf), .val (.int fa), .val (.int fb), .val (.long la), .second, .val (.long lb), .second, .val (.long lc), .second, .val (.long ld), .second, .val (.int ca), .unset, .unset, .unset, .unset, .unset, .unset, .unset, .unset, .unset, .unset, .unset, .unset, .unset, .unset] [(.int cb)])) := by
                  intro cb hJ191
                  refine s_istore (pc' := 193) (l' := #[.val (.int s0), .val (.int t0), .val (.long q2), .second, .val (.long q4), .second, .val (.long q6), .second, .val (.long q8), .second, .val (.int ch1), .val (.int ch2), .val (.int al), .val (.int af), .val (.int bf), .val (.int fa), .val (.int fb), .val (.long la), .second, .val (.long lb), .second, .val (.long lc), .second, .val (.long ld), .second, .val (.int ca), .val (.int cb), .unset, .unset, .unset, .unset, .unset, .unset, .unset, .unset, .unset, .unset, .unset, .unset, .unset]) X_115.here hx (hb hby at_191) rfl rfl ?_
                  refine s_iloadN (pc' := 194) X_115.here hx (hb hby at_193) rfl rfl ?_
                  refine s_iconst (pc' := 195) (z := (2 : Int32)) X_115.here hx (hb hby at_194) rfl rfl ?_
                  obtain ⟨_, _, ⟨T_116, L_116, k_116, n_116⟩, -, X_116, ⟨Lc_116, hQ_116, l_116, y_116, z_116⟩, st_116⟩ := Jvm.LawKit.callS X_115 hx (y := (⟨"com/example/throttle/throttle/DecisionEqualsPinLaw", "bit", "(II)Z"⟩ : MethodName)) hown (mvT hZ (hw _ (List.mem_of_getElem? (i := 0) rfl))) (mvT hZ (hw _ (List.mem_of_getElem? (i := 1) rfl))) (mvT hZ (hw _ (List.mem_of_getElem? (i := 2) rfl))) (mvT hZ (hw _ (List.mem_of_getElem? (i := 3) rfl))) (by decide) (backOf (W := 0) (rm1 l Z a0 hw [] t0 (2 : Int32) h0 n0 Zs ) hZ (hw _ (List.mem_of_getElem? (i := 3) rfl)) (hw _ (List.mem_of_getElem? (i := 2) rfl)) (by decide) (by decide)) (g := (mkF m 195 #[.val (.int s0), .val (.int t0), .val (.long q2), .second, .val (.long q4), .second, .val (.long q6), .second, .val (.long q8), .second, .val (.int ch1), .val (.int ch2), .val (.int al), .val (.int af), .val (.int bf), .val (.int fa), .val (.int fb), .val (.long la), .second, .val (.long lb), .second, .val (.long lc), .second, .val (.long ld), .second, .val (.int ca), .val (.int cb), .unset, .unset, .unset, .unset, .unset, .unset, .unset, .unset, .unset, .unset, .unset, .unset, .unset] [(.int (2 : Int32)), (.int t0)])) rfl (by rw [hml]; rfl) (argsL := [(.int t0), (.int (2 : Int32))]) (rest := []) (lenOf pd_10 rfl) rfl (by show 2 * 0 + _ ≤ _; exact Nat.le_of_eq rfl) (hb hby at_195) (fun _ _ => ⟨rfl, e_115, (by decide : 0 + 0 ≤ _), (by decide : 0 + 0 ≤ _)⟩)
                  dsimp only [Pt.U, Pt.locs, Pt.cells, Pt.slots, Nat.add_zero] at X_116 l_116 y_116 z_116 st_116 hQ_116
                  subst y_116 z_116
                  obtain ⟨Nq_116, e_116, bt2, rfl, hbt2⟩ := hQ_116
                  replace Nf := own_frEq l_116 (Fr.app Nf Nq_116)
                  clear l_116
                  refine Win.go st_116 ?_
                  clear st_116 Nq_116 X_115 e_115
                  show Win p.tables e below _ (T_116.setTop (mkF m 198 #[.val (.int s0), .val (.int t0), .val (.long q2), .second, .val (.long q4), .second, .val (.long q6), .second, .val (.long q8), .second, .val (.int ch1), .val (.int ch2), .val (.int al), .val (.int af), .val (.int bf), .val (.int fa), .val (.int fb), .val (.long la), .second, .val (.long lb), .second, .val (.long lc), .second, .val (.long ld), .second, .val (.int ca), .val (.int cb), .unset, .unset, .unset, .unset, .unset, .unset, .unset, .unset, .unset, .unset, .unset, .unset, .unset] [(.int bt2)]))
                  have J212 : ∀ (TJ212 : State) (LJ212 : List Loc), Stand p l e room_1 s m #[(.int s0), (.int t0), (.long q2), (.long q4), (.long q6), (.long q8)] below meth c TJ212 LJ212 0 0 → TJ212.heap = h0 → Fr n0 LJ212 → ∀ a2 : Int32, (a2.toInt = 0 ∨ a2.toInt = 1) → Win p.tables e below (PostQ s (Q0 Z s0 t0 q2 q4 q6 q8 cs ua ud h0 n0) room_1.cells room_1.slots) (TJ212.setTop (mkF m 212 #[.val (.int s0), .val (.int t0), .val (.long q2), .second, .val (.long q4), .second, .val (.long q6), .second, .val (.long q8), .second, .val (.int ch1), .val (.int ch2), .val (.int al), .val (.int af), .val (.int bf), .val (.int fa), .val (.int fb), .val (.long la), .second, .val (.long lb), .second, .val (.long lc), .second, .val (.long ld), .second, .val (.int ca), .val (.int cb), .unset, .unset, .unset, .unset, .unset, .unset, .unset, .unset, .unset, .unset, .unset, .unset, .unset] [(.int a2)])) := by
                    intro TJ212 LJ212 XJ212 eJ212 Nf a2 hJ212
                    refine s_istore (pc' := 214) (l' := #[.val (.int s0), .val (.int t0), .val (.long q2), .second, .val (.long q4), .second, .val (.long q6), .second, .val (.long q8), .second, .val (.int ch1), .val (.int ch2), .val (.int al), .val (.int af), .val (.int bf), .val (.int fa), .val (.int fb), .val (.long la), .second, .val (.long lb), .second, .val (.long lc), .second, .val (.long ld), .second, .val (.int ca), .val (.int cb), .val (.int a2), .unset, .unset, .unset, .unset, .unset, .unset, .unset, .unset, .unset, .unset, .unset, .unset]) XJ212.here hx (hb hby at_212) rfl rfl ?_
                    have J238 : ∀ (TJ238 : State) (LJ238 : List Loc), Stand p l e room_1 s m #[(.int s0), (.int t0), (.long q2), (.long q4), (.long q6), (.long q8)] below meth c TJ238 LJ238 0 0 → TJ238.heap = h0 → Fr n0 LJ238 → ∀ ma : Int64, (fb.toInt = 0 ∨ ma = (0 : Int64)) → Win p.tables e below (PostQ s (Q0 Z s0 t0 q2 q4 q6 q8 cs ua ud h0 n0) room_1.cells room_1.slots) (TJ238.setTop (mkF m 238 #[.val (.int s0), .val (.int t0), .val (.long q2), .second, .val (.long q4), .second, .val (.long q6), .second, .val (.long q8), .second, .val (.int ch1), .val (.int ch2), .val (.int al), .val (.int af), .val (.int bf), .val (.int fa), .val (.int fb), .val (.long la), .second, .val (.long lb), .second, .val (.long lc), .second, .val (.long ld), .second, .val (.int ca), .val (.int cb), .val (.int a2), .unset, .unset, .unset, .unset, .unset, .unset, .unset, .unset, .unset, .unset, .unset, .unset] [(.long ma)])) := by
                      intro TJ238 LJ238 XJ238 eJ238 Nf ma hJ238
                      refine s_lstore (pc' := 240) (l' := #[.val (.int s0), .val (.int t0), .val (.long q2), .second, .val (.long q4), .second, .val (.long q6), .second, .val (.long q8), .second, .val (.int ch1), .val (.int ch2), .val (.int al), .val (.int af), .val (.int bf), .val (.int fa), .val (.int fb), .val (.long la), .second, .val (.long lb), .second, .val (.long lc), .second, .val (.long ld), .second, .val (.int ca), .val (.int cb), .val (.int a2), .val (.long ma), .second, .unset, .unset, .unset, .unset, .unset, .unset, .unset, .unset, .unset, .unset]) XJ238.here hx (hb hby at_238) rfl rfl ?_
                      have J264 : ∀ (TJ264 : State) (LJ264 : List Loc), Stand p l e room_1 s m #[(.int s0), (.int t0), (.long q2), (.long q4), (.long q6), (.long q8)] below meth c TJ264 LJ264 0 0 → TJ264.heap = h0 → Fr n0 LJ264 → ∀ mb : Int64, (fb.toInt = 0 ∨ mb = (0 : Int64)) → Win p.tables e below (PostQ s (Q0 Z s0 t0 q2 q4 q6 q8 cs ua ud h0 n0) room_1.cells room_1.slots) (TJ264.setTop (mkF m 264 #[.val (.int s0), .val (.int t0), .val (.long q2), .second, .val (.long q4), .second, .val (.long q6), .second, .val (.long q8), .second, .val (.int ch1), .val (.int ch2), .val (.int al), .val (.int af), .val (.int bf), .val (.int fa), .val (.int fb), .val (.long la), .second, .val (.long lb), .second, .val (.long lc), .second, .val (.long ld), .second, .val (.int ca), .val (.int cb), .val (.int a2), .val (.long ma), .second, .unset, .unset, .unset, .unset, .unset, .unset, .unset, .unset, .unset, .unset] [(.long mb)])) := by
                        intro TJ264 LJ264 XJ264 eJ264 Nf mb hJ264
                        refine s_lstore (pc' := 266) (l' := #[.val (.int s0), .val (.int t0), .val (.long q2), .second, .val (.long q4), .second, .val (.long q6), .second, .val (.long q8), .second, .val (.int ch1), .val (.int ch2), .val (.int al), .val (.int af), .val (.int bf), .val (.int fa), .val (.int fb), .val (.long la), .second, .val (.long lb), .second, .val (.long lc), .second, .val (.long ld), .second, .val (.int ca), .val (.int cb), .val (.int a2), .val (.long ma), .second, .val (.long mb), .second, .unset, .unset, .unset, .unset, .unset, .unset, .unset, .unset]) XJ264.here hx (hb hby at_264) rfl rfl ?_
                        have J290 : ∀ (TJ290 : State) (LJ290 : List Loc), Stand p l e room_1 s m #[(.int s0), (.int t0), (.long q2), (.long q4), (.long q6), (.long q8)] below meth c TJ290 LJ290 0 0 → TJ290.heap = h0 → Fr n0 LJ290 → ∀ mc : Int64, (fb.toInt = 0 ∨ mc = (0 : Int64)) → Win p.tables e below (PostQ s (Q0 Z s0 t0 q2 q4 q6 q8 cs ua ud h0 n0) room_1.cells room_1.slots) (TJ290.setTop (mkF m 290 #[.val (.int s0), .val (.int t0), .val (.long q2), .second, .val (.long q4), .second, .val (.long q6), .second, .val (.long q8), .second, .val (.int ch1), .val (.int ch2), .val (.int al), .val (.int af), .val (.int bf), .val (.int fa), .val (.int fb), .val (.long la), .second, .val (.long lb), .second, .val (.long lc), .second, .val (.long ld), .second, .val (.int ca), .val (.int cb), .val (.int a2), .val (.long ma), .second, .val (.long mb), .second, .unset, .unset, .unset, .unset, .unset, .unset, .unset, .unset] [(.long mc)])) := by
                          intro TJ290 LJ290 XJ290 eJ290 Nf mc hJ290
                          refine s_lstore (pc' := 292) (l' := #[.val (.int s0), .val (.int t0), .val (.long q2), .second, .val (.long q4), .second, .val (.long q6), .second, .val (.long q8), .second, .val (.int ch1), .val (.int ch2), .val (.int al), .val (.int af), .val (.int bf), .val (.int fa), .val (.int fb), .val (.long la), .second, .val (.long lb), .second, .val (.long lc), .second, .val (.long ld), .second, .val (.int ca), .val (.int cb), .val (.int a2), .val (.long ma), .second, .val (.long mb), .second, .val (.long mc), .second, .unset, .unset, .unset, .unset, .unset, .unset]) XJ290.here hx (hb hby at_290) rfl rfl ?_
                          have J325 : ∀ (TJ325 : State) (LJ325 : List Loc), Stand p l e room_1 s m #[(.int s0), (.int t0), (.long q2), (.long q4), (.long q6), (.long q8)] below meth c TJ325 LJ325 0 0 → TJ325.heap = h0 → Fr n0 LJ325 → ∀ md : Int64, (fb.toInt = 0 ∨ ((a2.toInt = 0 → md = (1 : Int64)) ∧ (¬ a2.toInt = 0 → md = (0 : Int64)))) → Win p.tables e below (PostQ s (Q0 Z s0 t0 q2 q4 q6 q8 cs ua ud h0 n0) room_1.cells room_1.slots) (TJ325.setTop (mkF m 325 #[.val (.int s0), .val (.int t0), .val (.long q2), .second, .val (.long q4), .second, .val (.long q6), .second, .val (.long q8), .second, .val (.int ch1), .val (.int ch2), .val (.int al), .val (.int af), .val (.int bf), .val (.int fa), .val (.int fb), .val (.long la), .second, .val (.long lb), .second, .val (.long lc), .second, .val (.long ld), .second, .val (.int ca), .val (.int cb), .val (.int a2), .val (.long ma), .second, .val (.long mb), .second, .val (.long mc), .second, .unset, .unset, .unset, .unset, .unset, .unset] [(.long md)])) := by
                            intro TJ325 LJ325 XJ325 eJ325 Nf md hJ325
                            refine s_lstore (pc' := 327) (l' := #[.val (.int s0), .val (.int t0), .val (.long q2), .second, .val (.long q4), .second, .val (.long q6), .second, .val (.long q8), .second, .val (.int ch1), .val (.int ch2), .val (.int al), .val (.int af), .val (.int bf), .val (.int fa), .val (.int fb), .val (.long la), .second, .val (.long lb), .second, .val (.long lc), .second, .val (.long ld), .second, .val (.int ca), .val (.int cb), .val (.int a2), .val (.long ma), .second, .val (.long mb), .second, .val (.long mc), .second, .val (.long md), .second, .unset, .unset, .unset, .unset]) XJ325.here hx (hb hby at_325) rfl rfl ?_
                            have polA := own_pol hJ62 hJ95 hJ108 hJ121 hJ143
                            have polB := own_pol hJ83 hJ238 hJ264 hJ290 hJ325
                            refine s_iload (pc' := 329) XJ325.here hx (hb hby at_327) rfl rfl ?_
                            refine s_iload (pc' := 331) XJ325.here hx (hb hby at_329) rfl rfl ?_
                            refine s_iload (pc' := 333) XJ325.here hx (hb hby at_331) rfl rfl ?_
                            refine s_iload (pc' := 335) XJ325.here hx (hb hby at_333) rfl rfl ?_
                            refine s_lload (pc' := 337) XJ325.here hx (hb hby at_335) rfl rfl ?_
                            refine s_lload (pc' := 339) XJ325.here hx (hb hby at_337) rfl rfl ?_
                            refine s_lload (pc' := 341) XJ325.here hx (hb hby at_339) rfl rfl ?_
                            refine s_lload (pc' := 343) XJ325.here hx (hb hby at_341) rfl rfl ?_
                            obtain ⟨_, _, ⟨T_117, L_117, k_117, n_117⟩, -, X_117, ⟨Lc_117, hQ_117, l_117, y_117, z_117⟩, st_117⟩ := Jvm.LawKit.callS XJ325 hx (y := (⟨"com/example/throttle/throttle/DecisionEqualsPinLaw", "make", "(CCZZJJJJ)Lcom/example/throttle/throttle/Decision;"⟩ : MethodName)) hown (mvT hZ (hw _ (List.mem_of_getElem? (i := 4) rfl))) (mvT hZ (hw _ (List.mem_of_getElem? (i := 5) rfl))) (mvT hZ (hw _ (List.mem_of_getElem? (i := 2) rfl))) (mvT hZ (hw _ (List.mem_of_getElem? (i := 6) rfl))) (by decide) (backOf (W := 0) (rm2 l Z a0 hw [] ch1 ch2 al af la lb lc ld cs ua ud h0 n0 Zs S_COMPACT_STRINGS hcs S_ALLOW S_DENY E_ua F_allows_ua E_ud F_allows_ud bch1 bch2 hal haf polA) hZ (hw _ (List.mem_of_getElem? (i := 6) rfl)) (hw _ (List.mem_of_getElem? (i := 2) rfl)) (by decide) (by decide)) (g := (mkF m 343 #[.val (.int s0), .val (.int t0), .val (.long q2), .second, .val (.long q4), .second, .val (.long q6), .second, .val (.long q8), .second, .val (.int ch1), .val (.int ch2), .val (.int al), .val (.int af), .val (.int bf), .val (.int fa), .val (.int fb), .val (.long la), .second, .val (.long lb), .second, .val (.long lc), .second, .val (.long ld), .second, .val (.int ca), .val (.int cb), .val (.int a2), .val (.long ma), .second, .val (.long mb), .second, .val (.long mc), .second, .val (.long md), .second, .unset, .unset, .unset, .unset] [(.long ld), (.long lc), (.long lb), (.long la), (.int af), (.int al), (.int ch2), (.int ch1)])) rfl (by rw [hml]; rfl) (argsL := [(.int ch1), (.int ch2), (.int al), (.int af), (.long la), (.long lb), (.long lc), (.long ld)]) (rest := []) (lenOf pd_11 rfl) rfl (by show 2 * 0 + _ ≤ _; exact Nat.le_of_eq rfl) (hb hby at_343) (fun _ _ => ⟨rfl, eJ325, (by decide : 0 + 5 ≤ _), (by decide : 0 + 18 ≤ _)⟩)
                            dsimp only [Pt.U, Pt.locs, Pt.cells, Pt.slots, Nat.add_zero] at X_117 l_117 y_117 z_117 st_117 hQ_117
                            subst y_117 z_117
                            obtain ⟨h_117, e_117⟩ : ∃ z, T_117.heap = z := ⟨_, rfl⟩
                            rw [e_117] at hQ_117
                            obtain ⟨Nq_117, K_117, d1, ru_117, ke_117, w1_117, w2_117, sa_117, rfl, g_d1, so_117, n_117_E_d1, n_117_F_rule_d1, n_117_F_key_d1, n_117_F_allowed_d1, n_117_F_limit_d1, n_117_F_remaining_d1, n_117_F_reset_d1, n_117_F_retryAfter_d1, n_117_F_storeAnswered_d1, n_117_E_ru_117, n_117_E_ke_117, n_117_F_value_ru_117, n_117_F_value_ke_117, n_117_F_coder_ru_117, n_117_F_coder_ke_117, n_117_A_w1_117, n_117_A_w2_117, hpA_0, hpA_1, hpA_2⟩ := hQ_117
                            replace Nf := own_frEq l_117 (Fr.app Nf Nq_117)
                            clear l_117
                            have ne_ua_d1 : ua ≠ d1 := Nat.ne_of_lt (Nat.lt_of_lt_of_le lt_ua so_117)
                            have ne_ud_d1 : ud ≠ d1 := Nat.ne_of_lt (Nat.lt_of_lt_of_le lt_ud so_117)
                            have ne_ua_ru_117 : ua ≠ ru_117 := Nat.ne_of_lt (Nat.lt_of_lt_of_le lt_ua hpA_0)
                            have ne_ud_ru_117 : ud ≠ ru_117 := Nat.ne_of_lt (Nat.lt_of_lt_of_le lt_ud hpA_0)
                            have ne_ua_ke_117 : ua ≠ ke_117 := Nat.ne_of_lt (Nat.lt_of_lt_of_le lt_ua hpA_1)
                            have ne_ud_ke_117 : ud ≠ ke_117 := Nat.ne_of_lt (Nat.lt_of_lt_of_le lt_ud hpA_1)
                            replace S_COMPACT_STRINGS := own_staK S_COMPACT_STRINGS K_117 all0
                            replace S_ALLOW := own_staK S_ALLOW K_117 all0
                            replace S_DENY := own_staK S_DENY K_117 all0
                            replace E_ua := E_ua.keep K_117
                            replace F_allows_ua := F_allows_ua.keep K_117 nin0
                            replace E_ud := E_ud.keep K_117
                            replace F_allows_ud := F_allows_ud.keep K_117 nin0
                            replace lt_ua := Nat.lt_of_lt_of_le lt_ua K_117.1
                            replace lt_ud := Nat.lt_of_lt_of_le lt_ud K_117.1
                            replace Zs := Nat.le_trans Zs K_117.1
                            have E_d1 := n_117_E_d1
                            have F_rule_d1 := n_117_F_rule_d1
                            have F_key_d1 := n_117_F_key_d1
                            have F_allowed_d1 := n_117_F_allowed_d1
                            have F_limit_d1 := n_117_F_limit_d1
                            have F_remaining_d1 := n_117_F_remaining_d1
                            have F_reset_d1 := n_117_F_reset_d1
                            have F_retryAfter_d1 := n_117_F_retryAfter_d1
                            have F_storeAnswered_d1 := n_117_F_storeAnswered_d1
                            have E_ru_117 := n_117_E_ru_117
                            have E_ke_117 := n_117_E_ke_117
                            have F_value_ru_117 := n_117_F_value_ru_117
                            have F_value_ke_117 := n_117_F_value_ke_117
                            have F_coder_ru_117 := n_117_F_coder_ru_117
                            have F_coder_ke_117 := n_117_F_coder_ke_117
                            have A_w1_117 := n_117_A_w1_117
                            have A_w2_117 := n_117_A_w2_117
                            have lt_d1 := E_d1.lt
                            have lt_ru_117 := E_ru_117.lt
                            have lt_ke_117 := E_ke_117.lt
                            refine Win.go st_117 ?_
                            clear st_117 Nq_117 XJ325 eJ325 K_117
                            show Win p.tables e below _ (T_117.setTop (mkF m 346 #[.val (.int s0), .val (.int t0), .val (.long q2), .second, .val (.long q4), .second, .val (.long q6), .second, .val (.long q8), .second, .val (.int ch1), .val (.int ch2), .val (.int al), .val (.int af), .val (.int bf), .val (.int fa), .val (.int fb), .val (.long la), .second, .val (.long lb), .second, .val (.long lc), .second, .val (.long ld), .second, .val (.int ca), .val (.int cb), .val (.int a2), .val (.long ma), .second, .val (.long mb), .second, .val (.long mc), .second, .val (.long md), .second, .unset, .unset, .unset, .unset] [(.ref d1)]))
                            refine s_astore (pc' := 348) (l' := #[.val (.int s0), .val (.int t0), .val (.long q2), .second, .val (.long q4), .second, .val (.long q6), .second, .val (.long q8), .second, .val (.int ch1), .val (.int ch2), .val (.int al), .val (.int af), .val (.int bf), .val (.int fa), .val (.int fb), .val (.long la), .second, .val (.long lb), .second, .val (.long lc), .second, .val (.long ld), .second, .val (.int ca), .val (.int cb), .val (.int a2), .val (.long ma), .second, .val (.long mb), .second, .val (.long mc), .second, .val (.long md), .second, .val (.ref d1), .unset, .unset, .unset]) X_117.here hx (hb hby at_346) rfl rfl rfl ?_
                            refine s_iload (pc' := 350) X_117.here hx (hb hby at_348) rfl rfl ?_
                            refine s_iload (pc' := 352) X_117.here hx (hb hby at_350) rfl rfl ?_
                            refine s_iload (pc' := 354) X_117.here hx (hb hby at_352) rfl rfl ?_
                            refine s_iload (pc' := 356) X_117.here hx (hb hby at_354) rfl rfl ?_
                            refine s_lload (pc' := 358) X_117.here hx (hb hby at_356) rfl rfl ?_
                            refine s_lload (pc' := 360) X_117.here hx (hb hby at_358) rfl rfl ?_
                            refine s_lload (pc' := 362) X_117.here hx (hb hby at_360) rfl rfl ?_
                            refine s_lload (pc' := 364) X_117.here hx (hb hby at_362) rfl rfl ?_
                            obtain ⟨_, _, ⟨T_118, L_118, k_118, n_118⟩, -, X_118, ⟨Lc_118, hQ_118, l_118, y_118, z_118⟩, st_118⟩ := Jvm.LawKit.callS X_117 hx (y := (⟨"com/example/throttle/throttle/DecisionEqualsPinLaw", "make", "(CCZZJJJJ)Lcom/example/throttle/throttle/Decision;"⟩ : MethodName)) hown (mvT hZ (hw _ (List.mem_of_getElem? (i := 4) rfl))) (mvT hZ (hw _ (List.mem_of_getElem? (i := 5) rfl))) (mvT hZ (hw _ (List.mem_of_getElem? (i := 2) rfl))) (mvT hZ (hw _ (List.mem_of_getElem? (i := 6) rfl))) (by decide) (backOf (W := 0) (rm2 l Z a0 hw [] ca cb a2 bf ma mb mc md cs ua ud h_117 n0 Zs S_COMPACT_STRINGS hcs S_ALLOW S_DENY E_ua F_allows_ua E_ud F_allows_ud hJ167 hJ191 hJ212 hbf polB) hZ (hw _ (List.mem_of_getElem? (i := 6) rfl)) (hw _ (List.mem_of_getElem? (i := 2) rfl)) (by decide) (by decide)) (g := (mkF m 364 #[.val (.int s0), .val (.int t0), .val (.long q2), .second, .val (.long q4), .second, .val (.long q6), .second, .val (.long q8), .second, .val (.int ch1), .val (.int ch2), .val (.int al), .val (.int af), .val (.int bf), .val (.int fa), .val (.int fb), .val (.long la), .second, .val (.long lb), .second, .val (.long lc), .second, .val (.long ld), .second, .val (.int ca), .val (.int cb), .val (.int a2), .val (.long ma), .second, .val (.long mb), .second, .val (.long mc), .second, .val (.long md), .second, .val (.ref d1), .unset, .unset, .unset] [(.long md), (.long mc), (.long mb), (.long ma), (.int bf), (.int a2), (.int cb), (.int ca)])) rfl (by rw [hml]; rfl) (argsL := [(.int ca), (.int cb), (.int a2), (.int bf), (.long ma), (.long mb), (.long mc), (.long md)]) (rest := []) (lenOf pd_11 rfl) rfl (by show 2 * 0 + _ ≤ _; exact Nat.le_of_eq rfl) (hb hby at_364) (fun _ _ => ⟨rfl, e_117, (by decide : 5 + 5 ≤ _), (by decide : 18 + 18 ≤ _)⟩)
                            dsimp only [Pt.U, Pt.locs, Pt.cells, Pt.slots, Nat.add_zero] at X_118 l_118 y_118 z_118 st_118 hQ_118
                            subst y_118 z_118
                            obtain ⟨h_118, e_118⟩ : ∃ z, T_118.heap = z := ⟨_, rfl⟩
                            rw [e_118] at hQ_118
                            obtain ⟨Nq_118, K_118, d2, ru_118, ke_118, w1_118, w2_118, sa_118, rfl, g_d2, so_118, n_118_E_d2, n_118_F_rule_d2, n_118_F_key_d2, n_118_F_allowed_d2, n_118_F_limit_d2, n_118_F_remaining_d2, n_118_F_reset_d2, n_118_F_retryAfter_d2, n_118_F_storeAnswered_d2, n_118_E_ru_118, n_118_E_ke_118, n_118_F_value_ru_118, n_118_F_value_ke_118, n_118_F_coder_ru_118, n_118_F_coder_ke_118, n_118_A_w1_118, n_118_A_w2_118, hpB_0, hpB_1, hpB_2⟩ := hQ_118
                            replace Nf := own_frEq l_118 (Fr.app Nf Nq_118)
                            clear l_118
                            have ne_ua_d2 : ua ≠ d2 := Nat.ne_of_lt (Nat.lt_of_lt_of_le lt_ua so_118)
                            have ne_ud_d2 : ud ≠ d2 := Nat.ne_of_lt (Nat.lt_of_lt_of_le lt_ud so_118)
                            have ne_d1_d2 : d1 ≠ d2 := Nat.ne_of_lt (Nat.lt_of_lt_of_le lt_d1 so_118)
                            have ne_ru_117_d2 : ru_117 ≠ d2 := Nat.ne_of_lt (Nat.lt_of_lt_of_le lt_ru_117 so_118)
                            have ne_ke_117_d2 : ke_117 ≠ d2 := Nat.ne_of_lt (Nat.lt_of_lt_of_le lt_ke_117 so_118)
                            have ne_ua_ru_118 : ua ≠ ru_118 := Nat.ne_of_lt (Nat.lt_of_lt_of_le lt_ua hpB_0)
                            have ne_ud_ru_118 : ud ≠ ru_118 := Nat.ne_of_lt (Nat.lt_of_lt_of_le lt_ud hpB_0)
                            have ne_d1_ru_118 : d1 ≠ ru_118 := Nat.ne_of_lt (Nat.lt_of_lt_of_le lt_d1 hpB_0)
                            have ne_ru_117_ru_118 : ru_117 ≠ ru_118 := Nat.ne_of_lt (Nat.lt_of_lt_of_le lt_ru_117 hpB_0)
                            have ne_ke_117_ru_118 : ke_117 ≠ ru_118 := Nat.ne_of_lt (Nat.lt_of_lt_of_le lt_ke_117 hpB_0)
                            have ne_ua_ke_118 : ua ≠ ke_118 := Nat.ne_of_lt (Nat.lt_of_lt_of_le lt_ua hpB_1)
                            have ne_ud_ke_118 : ud ≠ ke_118 := Nat.ne_of_lt (Nat.lt_of_lt_of_le lt_ud hpB_1)
                            have ne_d1_ke_118 : d1 ≠ ke_118 := Nat.ne_of_lt (Nat.lt_of_lt_of_le lt_d1 hpB_1)
                            have ne_ru_117_ke_118 : ru_117 ≠ ke_118 := Nat.ne_of_lt (Nat.lt_of_lt_of_le lt_ru_117 hpB_1)
                            have ne_ke_117_ke_118 : ke_117 ≠ ke_118 := Nat.ne_of_lt (Nat.lt_of_lt_of_le lt_ke_117 hpB_1)
                            replace S_COMPACT_STRINGS := own_staK S_COMPACT_STRINGS K_118 all0
                            replace S_ALLOW := own_staK S_ALLOW K_118 all0
                            replace S_DENY := own_staK S_DENY K_118 all0
                            replace E_ua := E_ua.keep K_118
                            replace F_allows_ua := F_allows_ua.keep K_118 nin0
                            replace E_ud := E_ud.keep K_118
                            replace F_allows_ud := F_allows_ud.keep K_118 nin0
                            replace E_d1 := E_d1.keep K_118
                            replace F_rule_d1 := F_rule_d1.keep K_118 nin0
                            replace F_key_d1 := F_key_d1.keep K_118 nin0
                            replace F_allowed_d1 := F_allowed_d1.keep K_118 nin0
                            replace F_limit_d1 := F_limit_d1.keep K_118 nin0
                            replace F_remaining_d1 := F_remaining_d1.keep K_118 nin0
                            replace F_reset_d1 := F_reset_d1.keep K_118 nin0
                            replace F_retryAfter_d1 := F_retryAfter_d1.keep K_118 nin0
                            replace F_storeAnswered_d1 := F_storeAnswered_d1.keep K_118 nin0
                            replace E_ru_117 := E_ru_117.keep K_118
                            replace E_ke_117 := E_ke_117.keep K_118
                            replace F_value_ru_117 := F_value_ru_117.keep K_118 nin0
                            replace F_value_ke_117 := F_value_ke_117.keep K_118 nin0
                            replace F_coder_ru_117 := F_coder_ru_117.keep K_118 nin0
                            replace F_coder_ke_117 := F_coder_ke_117.keep K_118 nin0
                            replace A_w1_117 := A_w1_117.keep K_118 nin0
                            replace A_w2_117 := A_w2_117.keep K_118 nin0
                            replace lt_ua := Nat.lt_of_lt_of_le lt_ua K_118.1
                            replace lt_ud := Nat.lt_of_lt_of_le lt_ud K_118.1
                            replace lt_d1 := Nat.lt_of_lt_of_le lt_d1 K_118.1
                            replace lt_ru_117 := Nat.lt_of_lt_of_le lt_ru_117 K_118.1
                            replace lt_ke_117 := Nat.lt_of_lt_of_le lt_ke_117 K_118.1
                            replace Zs := Nat.le_trans Zs K_118.1
                            have E_d2 := n_118_E_d2
                            have F_rule_d2 := n_118_F_rule_d2
                            have F_key_d2 := n_118_F_key_d2
                            have F_allowed_d2 := n_118_F_allowed_d2
                            have F_limit_d2 := n_118_F_limit_d2
                            have F_remaining_d2 := n_118_F_remaining_d2
                            have F_reset_d2 := n_118_F_reset_d2
                            have F_retryAfter_d2 := n_118_F_retryAfter_d2
                            have F_storeAnswered_d2 := n_118_F_storeAnswered_d2
                            have E_ru_118 := n_118_E_ru_118
                            have E_ke_118 := n_118_E_ke_118
                            have F_value_ru_118 := n_118_F_value_ru_118
                            have F_value_ke_118 := n_118_F_value_ke_118
                            have F_coder_ru_118 := n_118_F_coder_ru_118
                            have F_coder_ke_118 := n_118_F_coder_ke_118
                            have A_w1_118 := n_118_A_w1_118
                            have A_w2_118 := n_118_A_w2_118
                            have lt_d2 := E_d2.lt
                            have lt_ru_118 := E_ru_118.lt
                            have lt_ke_118 := E_ke_118.lt
                            refine Win.go st_118 ?_
                            clear st_118 Nq_118 X_117 e_117 K_118
                            show Win p.tables e below _ (T_118.setTop (mkF m 367 #[.val (.int s0), .val (.int t0), .val (.long q2), .second, .val (.long q4), .second, .val (.long q6), .second, .val (.long q8), .second, .val (.int ch1), .val (.int ch2), .val (.int al), .val (.int af), .val (.int bf), .val (.int fa), .val (.int fb), .val (.long la), .second, .val (.long lb), .second, .val (.long lc), .second, .val (.long ld), .second, .val (.int ca), .val (.int cb), .val (.int a2), .val (.long ma), .second, .val (.long mb), .second, .val (.long mc), .second, .val (.long md), .second, .val (.ref d1), .unset, .unset, .unset] [(.ref d2)]))
                            refine s_astore (pc' := 369) (l' := #[.val (.int s0), .val (.int t0), .val (.long q2), .second, .val (.long q4), .second, .val (.long q6), .second, .val (.long q8), .second, .val (.int ch1), .val (.int ch2), .val (.int al), .val (.int af), .val (.int bf), .val (.int fa), .val (.int fb), .val (.long la), .second, .val (.long lb), .second, .val (.long lc), .second, .val (.long ld), .second, .val (.int ca), .val (.int cb), .val (.int a2), .val (.long ma), .second, .val (.long mb), .second, .val (.long mc), .second, .val (.long md), .second, .val (.ref d1), .val (.ref d2), .unset, .unset]) X_118.here hx (hb hby at_367) rfl rfl rfl ?_
                            have J434 : ∀ xx : Int32, ((xx.toInt = 1 ∧ (ch1.toInt = ca.toInt ∧ ch2.toInt = cb.toInt ∧ al.toInt = a2.toInt ∧ la.toInt = ma.toInt ∧ lb.toInt = mb.toInt ∧ lc.toInt = mc.toInt ∧ ld.toInt = md.toInt ∧ af.toInt = bf.toInt)) ∨ (xx.toInt = 0 ∧ ¬ (ch1.toInt = ca.toInt ∧ ch2.toInt = cb.toInt ∧ al.toInt = a2.toInt ∧ la.toInt = ma.toInt ∧ lb.toInt = mb.toInt ∧ lc.toInt = mc.toInt ∧ ld.toInt = md.toInt ∧ af.toInt = bf.toInt))) → Win p.tables e below (PostQ s (Q0 Z s0 t0 q2 q4 q6 q8 cs ua ud h0 n0) room_1.cells room_1.slots) (T_118.setTop (mkF m 434 #[.val (.int s0), .val (.int t0), .val (.long q2), .second, .val (.long q4), .second, .val (.long q6), .second, .val (.long q8), .second, .val (.int ch1), .val (.int ch2), .val (.int al), .val (.int af), .val (.int bf), .val (.int fa), .val (.int fb), .val (.long la), .second, .val (.long lb), .second, .val (.long lc), .second, .val (.long ld), .second, .val (.int ca), .val (.int cb), .val (.int a2), .val (.long ma), .second, .val (.long mb), .second, .val (.long mc), .second, .val (.long md), .second, .val (.ref d1), .val (.ref d2), .unset, .unset] [(.int xx)])) := by
                              intro xx hJ434
                              refine s_istore (pc' := 436) (l' := #[.val (.int s0), .val (.int t0), .val (.long q2), .second, .val (.long q4), .second, .val (.long q6), .second, .val (.long q8), .second, .val (.int ch1), .val (.int ch2), .val (.int al), .val (.int af), .val (.int bf), .val (.int fa), .val (.int fb), .val (.long la), .second, .val (.long lb), .second, .val (.long lc), .second, .val (.long ld), .second, .val (.int ca), .val (.int cb), .val (.int a2), .val (.long ma), .second, .val (.long mb), .second, .val (.long mc), .second, .val (.long md), .second, .val (.ref d1), .val (.ref d2), .val (.int xx), .unset]) X_118.here hx (hb hby at_434) rfl rfl ?_
                              refine s_iload (pc' := 438) X_118.here hx (hb hby at_436) rfl rfl ?_
                              obtain ⟨_, _, ⟨T_119, L_119, k_119, n_119⟩, -, X_119, ⟨Lc_119, hQ_119, l_119, y_119, z_119⟩, st_119⟩ := Jvm.LawKit.callS X_118 hx (y := (⟨"java/lang/String", "valueOf", "(C)Ljava/lang/String;"⟩ : MethodName)) hown (mvT hZ (hw _ (List.mem_of_getElem? (i := 10) rfl))) (mvT hZ (hw _ (List.mem_of_getElem? (i := 11) rfl))) (mvT hZ (hw _ (List.mem_of_getElem? (i := 12) rfl))) (mvT hZ (hw _ (List.mem_of_getElem? (i := 13) rfl))) (by decide) (backOf (W := 0) (rm3 l Z a0 hw [] ch1 cs h_118 n0 Zs S_COMPACT_STRINGS hcs bch1) hZ (hw _ (List.mem_of_getElem? (i := 13) rfl)) (hw _ (List.mem_of_getElem? (i := 12) rfl)) (by decide) (by decide)) (g := (mkF m 438 #[.val (.int s0), .val (.int t0), .val (.long q2), .second, .val (.long q4), .second, .val (.long q6), .second, .val (.long q8), .second, .val (.int ch1), .val (.int ch2), .val (.int al), .val (.int af), .val (.int bf), .val (.int fa), .val (.int fb), .val (.long la), .second, .val (.long lb), .second, .val (.long lc), .second, .val (.long ld), .second, .val (.int ca), .val (.int cb), .val (.int a2), .val (.long ma), .second, .val (.long mb), .second, .val (.long mc), .second, .val (.long md), .second, .val (.ref d1), .val (.ref d2), .val (.int xx), .unset] [(.int ch1)])) rfl (by rw [hml]; rfl) (argsL := [(.int ch1)]) (rest := []) (lenOf pd_6 rfl) rfl (by show 2 * 0 + _ ≤ _; exact Nat.le_of_eq rfl) (hb hby at_438) (fun _ _ => ⟨rfl, e_118, (by decide : 10 + 2 ≤ _), (by decide : 36 + 5 ≤ _)⟩)
                              dsimp only [Pt.U, Pt.locs, Pt.cells, Pt.slots, Nat.add_zero] at X_119 l_119 y_119 z_119 st_119 hQ_119
                              subst y_119 z_119
                              obtain ⟨h_119, e_119⟩ : ∃ z, T_119.heap = z := ⟨_, rfl⟩
                              rw [e_119] at hQ_119
                              obtain ⟨Nq_119, K_119, sx, ww_119, rfl, g_sx, so_119, n_119_E_sx, n_119_F_value_sx, n_119_F_coder_sx, n_119_A_ww_119, hp_119_0⟩ := hQ_119
                              replace Nf := own_frEq l_119 (Fr.app Nf Nq_119)
                              clear l_119
                              have ne_ua_sx : ua ≠ sx := Nat.ne_of_lt (Nat.lt_of_lt_of_le lt_ua so_119)
                              have ne_ud_sx : ud ≠ sx := Nat.ne_of_lt (Nat.lt_of_lt_of_le lt_ud so_119)
                              have ne_d1_sx : d1 ≠ sx := Nat.ne_of_lt (Nat.lt_of_lt_of_le lt_d1 so_119)
                              have ne_ru_117_sx : ru_117 ≠ sx := Nat.ne_of_lt (Nat.lt_of_lt_of_le lt_ru_117 so_119)
                              have ne_ke_117_sx : ke_117 ≠ sx := Nat.ne_of_lt (Nat.lt_of_lt_of_le lt_ke_117 so_119)
                              have ne_d2_sx : d2 ≠ sx := Nat.ne_of_lt (Nat.lt_of_lt_of_le lt_d2 so_119)
                              have ne_ru_118_sx : ru_118 ≠ sx := Nat.ne_of_lt (Nat.lt_of_lt_of_le lt_ru_118 so_119)
                              have ne_ke_118_sx : ke_118 ≠ sx := Nat.ne_of_lt (Nat.lt_of_lt_of_le lt_ke_118 so_119)
                              have ne_ua_ww_119 : ua ≠ ww_119 := Nat.ne_of_lt (Nat.lt_of_lt_of_le lt_ua hp_119_0)
                              have ne_ud_ww_119 : ud ≠ ww_119 := Nat.ne_of_lt (Nat.lt_of_lt_of_le lt_ud hp_119_0)
                              have ne_d1_ww_119 : d1 ≠ ww_119 := Nat.ne_of_lt (Nat.lt_of_lt_of_le lt_d1 hp_119_0)
                              have ne_ru_117_ww_119 : ru_117 ≠ ww_119 := Nat.ne_of_lt (Nat.lt_of_lt_of_le lt_ru_117 hp_119_0)
                              have ne_ke_117_ww_119 : ke_117 ≠ ww_119 := Nat.ne_of_lt (Nat.lt_of_lt_of_le lt_ke_117 hp_119_0)
                              have ne_d2_ww_119 : d2 ≠ ww_119 := Nat.ne_of_lt (Nat.lt_of_lt_of_le lt_d2 hp_119_0)
                              have ne_ru_118_ww_119 : ru_118 ≠ ww_119 := Nat.ne_of_lt (Nat.lt_of_lt_of_le lt_ru_118 hp_119_0)
                              have ne_ke_118_ww_119 : ke_118 ≠ ww_119 := Nat.ne_of_lt (Nat.lt_of_lt_of_le lt_ke_118 hp_119_0)
                              replace S_COMPACT_STRINGS := own_staK S_COMPACT_STRINGS K_119 all0
                              replace S_ALLOW := own_staK S_ALLOW K_119 all0
                              replace S_DENY := own_staK S_DENY K_119 all0
                              replace E_ua := E_ua.keep K_119
                              replace F_allows_ua := F_allows_ua.keep K_119 nin0
                              replace E_ud := E_ud.keep K_119
                              replace F_allows_ud := F_allows_ud.keep K_119 nin0
                              replace E_d1 := E_d1.keep K_119
                              replace F_rule_d1 := F_rule_d1.keep K_119 nin0
                              replace F_key_d1 := F_key_d1.keep K_119 nin0
                              replace F_allowed_d1 := F_allowed_d1.keep K_119 nin0
                              replace F_limit_d1 := F_limit_d1.keep K_119 nin0
                              replace F_remaining_d1 := F_remaining_d1.keep K_119 nin0
                              replace F_reset_d1 := F_reset_d1.keep K_119 nin0
                              replace F_retryAfter_d1 := F_retryAfter_d1.keep K_119 nin0
                              replace F_storeAnswered_d1 := F_storeAnswered_d1.keep K_119 nin0
                              replace E_ru_117 := E_ru_117.keep K_119
                              replace E_ke_117 := E_ke_117.keep K_119
                              replace F_value_ru_117 := F_value_ru_117.keep K_119 nin0
                              replace F_value_ke_117 := F_value_ke_117.keep K_119 nin0
                              replace F_coder_ru_117 := F_coder_ru_117.keep K_119 nin0
                              replace F_coder_ke_117 := F_coder_ke_117.keep K_119 nin0
                              replace A_w1_117 := A_w1_117.keep K_119 nin0
                              replace A_w2_117 := A_w2_117.keep K_119 nin0
                              replace E_d2 := E_d2.keep K_119
                              replace F_rule_d2 := F_rule_d2.keep K_119 nin0
                              replace F_key_d2 := F_key_d2.keep K_119 nin0
                              replace F_allowed_d2 := F_allowed_d2.keep K_119 nin0
                              replace F_limit_d2 := F_limit_d2.keep K_119 nin0
                              replace F_remaining_d2 := F_remaining_d2.keep K_119 nin0
                              replace F_reset_d2 := F_reset_d2.keep K_119 nin0
                              replace F_retryAfter_d2 := F_retryAfter_d2.keep K_119 nin0
                              replace F_storeAnswered_d2 := F_storeAnswered_d2.keep K_119 nin0
                              replace E_ru_118 := E_ru_118.keep K_119
                              replace E_ke_118 := E_ke_118.keep K_119
                              replace F_value_ru_118 := F_value_ru_118.keep K_119 nin0
                              replace F_value_ke_118 := F_value_ke_118.keep K_119 nin0
                              replace F_coder_ru_118 := F_coder_ru_118.keep K_119 nin0
                              replace F_coder_ke_118 := F_coder_ke_118.keep K_119 nin0
                              replace A_w1_118 := A_w1_118.keep K_119 nin0
                              replace A_w2_118 := A_w2_118.keep K_119 nin0
                              replace lt_ua := Nat.lt_of_lt_of_le lt_ua K_119.1
                              replace lt_ud := Nat.lt_of_lt_of_le lt_ud K_119.1
                              replace lt_d1 := Nat.lt_of_lt_of_le lt_d1 K_119.1
                              replace lt_ru_117 := Nat.lt_of_lt_of_le lt_ru_117 K_119.1
                              replace lt_ke_117 := Nat.lt_of_lt_of_le lt_ke_117 K_119.1
                              replace lt_d2 := Nat.lt_of_lt_of_le lt_d2 K_119.1
                              replace lt_ru_118 := Nat.lt_of_lt_of_le lt_ru_118 K_119.1
                              replace lt_ke_118 := Nat.lt_of_lt_of_le lt_ke_118 K_119.1
                              replace Zs := Nat.le_trans Zs K_119.1
                              have E_sx := n_119_E_sx
                              have F_value_sx := n_119_F_value_sx
                              have F_coder_sx := n_119_F_coder_sx
                              have A_ww_119 := n_119_A_ww_119
                              have lt_sx := E_sx.lt
                              have lt_ww_119 := A_ww_119.lt
                              refine Win.go st_119 ?_
                              clear st_119 Nq_119 X_118 e_118 K_119
                              show Win p.tables e below _ (T_119.setTop (mkF m 441 #[.val (.int s0), .val (.int t0), .val (.long q2), .second, .val (.long q4), .second, .val (.long q6), .second, .val (.long q8), .second, .val (.int ch1), .val (.int ch2), .val (.int al), .val (.int af), .val (.int bf), .val (.int fa), .val (.int fb), .val (.long la), .second, .val (.long lb), .second, .val (.long lc), .second, .val (.long ld), .second, .val (.int ca), .val (.int cb), .val (.int a2), .val (.long ma), .second, .val (.long mb), .second, .val (.long mc), .second, .val (.long md), .second, .val (.ref d1), .val (.ref d2), .val (.int xx), .unset] [(.ref sx)]))
                              refine s_astore (pc' := 443) (l' := #[.val (.int s0), .val (.int t0), .val (.long q2), .second, .val (.long q4), .second, .val (.long q6), .second, .val (.long q8), .second, .val (.int ch1), .val (.int ch2), .val (.int al), .val (.int af), .val (.int bf), .val (.int fa), .val (.int fb), .val (.long la), .second, .val (.long lb), .second, .val (.long lc), .second, .val (.long ld), .second, .val (.int ca), .val (.int cb), .val (.int a2), .val (.long ma), .second, .val (.long mb), .second, .val (.long mc), .second, .val (.long md), .second, .val (.ref d1), .val (.ref d2), .val (.int xx), .val (.ref sx)]) X_119.here hx (hb hby at_441) rfl rfl rfl ?_
                              refine s_aload (pc' := 445) X_119.here hx (hb hby at_443) rfl rfl rfl ?_
                              refine s_aload (pc' := 447) X_119.here hx (hb hby at_445) rfl rfl rfl ?_
                              obtain ⟨cq_120, kq_120, q_120a, q_120b, q_120c⟩ := isOf hZ e_119 E_d1
                              obtain ⟨_, _, ⟨T_120, L_120, k_120, n_120⟩, -, X_120, ⟨Lc_120, hQ_120, l_120, y_120, z_120⟩, st_120⟩ := X_119.virtualBack hx (y := (⟨"com/example/throttle/throttle/Decision", "equals", "(Ljava/lang/Object;)Z"⟩ : MethodName)) (z := (⟨"com/example/throttle/throttle/Decision", "equals", "(Ljava/lang/Object;)Z"⟩ : MethodName)) hown (mvT hZ (hw _ (List.mem_of_getElem? (i := 56) rfl))) (mvT hZ (hw _ (List.mem_of_getElem? (i := 57) rfl))) (notFace_of_selects (args := #[]) (mvT hZ (hw _ (List.mem_of_getElem? (i := 59) rfl)))) (mvT hZ (hw _ (List.mem_of_getElem? (i := 59) rfl))) (mvT hZ (hw _ (List.mem_of_getElem? (i := 58) rfl))) (by decide) (backOf (W := 0) (rm9_d l Z a0 hw [] d1 d2 cs ru_117 ke_117 al la lb lc ld sa_117 ru_118 ke_118 a2 ma mb mc md sa_118 w1_117 w2_117 w1_118 w2_118 (updF (fun _ => 0) (0 : Int) (nar .byte ch1.toInt8.toInt32)) (updF (fun _ => 0) (0 : Int) (nar .byte ch2.toInt8.toInt32)) (updF (fun _ => 0) (0 : Int) (nar .byte ca.toInt8.toInt32)) (updF (fun _ => 0) (0 : Int) (nar .byte cb.toInt8.toInt32)) h_119 n0 Zs S_COMPACT_STRINGS hcs E_d2 F_rule_d1 F_key_d1 F_allowed_d1 F_limit_d1 F_remaining_d1 F_reset_d1 F_retryAfter_d1 F_storeAnswered_d1 F_rule_d2 F_key_d2 F_allowed_d2 F_limit_d2 F_remaining_d2 F_reset_d2 F_retryAfter_d2 F_storeAnswered_d2 E_ru_117 E_ke_117 E_ru_118 E_ke_118 F_value_ru_117 F_value_ke_117 F_value_ru_118 F_value_ke_118 F_coder_ru_117 F_coder_ke_117 F_coder_ru_118 F_coder_ke_118 A_w1_117 A_w2_117 A_w1_118 A_w2_118 ne_ru_117_ru_118 ne_ke_117_ke_118) hZ (hw _ (List.mem_of_getElem? (i := 60) rfl)) (hw _ (List.mem_of_getElem? (i := 9) rfl)) (by decide) (by decide)) q_120a q_120c (g := (mkF m 447 #[.val (.int s0), .val (.int t0), .val (.long q2), .second, .val (.long q4), .second, .val (.long q6), .second, .val (.long q8), .second, .val (.int ch1), .val (.int ch2), .val (.int al), .val (.int af), .val (.int bf), .val (.int fa), .val (.int fb), .val (.long la), .second, .val (.long lb), .second, .val (.long lc), .second, .val (.long ld), .second, .val (.int ca), .val (.int cb), .val (.int a2), .val (.long ma), .second, .val (.long mb), .second, .val (.long mc), .second, .val (.long md), .second, .val (.ref d1), .val (.ref d2), .val (.int xx), .val (.ref sx)] [(.ref d2), (.ref d1)])) rfl (by rw [hml]; rfl) (Steps.refl _) (argsL := [(.ref d2)]) (rest := []) (lenOf pd_9 rfl) rfl (by show 2 * 0 + _ ≤ _; exact Nat.le_of_eq rfl) (hb hby at_447) (fun _ _ => ⟨rfl, e_119, (by decide : 12 + 0 ≤ _), (by decide : 41 + 0 ≤ _)⟩)
                              dsimp only [Pt.U, Pt.locs, Pt.cells, Pt.slots, Nat.add_zero] at X_120 l_120 y_120 z_120 st_120 hQ_120
                              subst y_120 z_120
                              obtain ⟨Nq_120, e_120, eq1, rfl, heq1⟩ := hQ_120
                              replace Nf := own_frEq l_120 (Fr.app Nf Nq_120)
                              clear l_120
                              refine Win.come st_120 ?_
                              clear st_120 Nq_120 X_119 e_119
                              show Win p.tables e below _ (T_120.setTop (mkF m 450 #[.val (.int s0), .val (.int t0), .val (.long q2), .second, .val (.long q4), .second, .val (.long q6), .second, .val (.long q8), .second, .val (.int ch1), .val (.int ch2), .val (.int al), .val (.int af), .val (.int bf), .val (.int fa), .val (.int fb), .val (.long la), .second, .val (.long lb), .second, .val (.long lc), .second, .val (.long ld), .second, .val (.int ca), .val (.int cb), .val (.int a2), .val (.long ma), .second, .val (.long mb), .second, .val (.long mc), .second, .val (.long md), .second, .val (.ref d1), .val (.ref d2), .val (.int xx), .val (.ref sx)] [(.int eq1)]))
                              refine s_iload (pc' := 452) X_120.here hx (hb hby at_450) rfl rfl ?_
                              by_cases hc452 : (eq1).toInt = (xx).toInt
                              · skip
                                refine s_icmpNo (pc' := 455) X_120.here hx (hb hby at_452) rfl (teqI (x := eq1) (y := xx) hc452).2 ?_
                                refine s_aload (pc' := 457) X_120.here hx (hb hby at_455) rfl rfl rfl ?_
                                refine s_aload (pc' := 459) X_120.here hx (hb hby at_457) rfl rfl rfl ?_
                                obtain ⟨cq_121, kq_121, q_121a, q_121b, q_121c⟩ := isOf hZ e_120 E_d2
                                obtain ⟨_, _, ⟨T_121, L_121, k_121, n_121⟩, -, X_121, ⟨Lc_121, hQ_121, l_121, y_121, z_121⟩, st_121⟩ := X_120.virtualBack hx (y := (⟨"com/example/throttle/throttle/Decision", "equals", "(Ljava/lang/Object;)Z"⟩ : MethodName)) (z := (⟨"com/example/throttle/throttle/Decision", "equals", "(Ljava/lang/Object;)Z"⟩ : MethodName)) hown (mvT hZ (hw _ (List.mem_of_getElem? (i := 56) rfl))) (mvT hZ (hw _ (List.mem_of_getElem? (i := 57) rfl))) (notFace_of_selects (args := #[]) (mvT hZ (hw _ (List.mem_of_getElem? (i := 59) rfl)))) (mvT hZ (hw _ (List.mem_of_getElem? (i := 59) rfl))) (mvT hZ (hw _ (List.mem_of_getElem? (i := 58) rfl))) (by decide) (backOf (W := 0) (rm9_d l Z a0 hw [] d2 d1 cs ru_118 ke_118 a2 ma mb mc md sa_118 ru_117 ke_117 al la lb lc ld sa_117 w1_118 w2_118 w1_117 w2_117 (updF (fun _ => 0) (0 : Int) (nar .byte ca.toInt8.toInt32)) (updF (fun _ => 0) (0 : Int) (nar .byte cb.toInt8.toInt32)) (updF (fun _ => 0) (0 : Int) (nar .byte ch1.toInt8.toInt32)) (updF (fun _ => 0) (0 : Int) (nar .byte ch2.toInt8.toInt32)) h_119 n0 Zs S_COMPACT_STRINGS hcs E_d1 F_rule_d2 F_key_d2 F_allowed_d2 F_limit_d2 F_remaining_d2 F_reset_d2 F_retryAfter_d2 F_storeAnswered_d2 F_rule_d1 F_key_d1 F_allowed_d1 F_limit_d1 F_remaining_d1 F_reset_d1 F_retryAfter_d1 F_storeAnswered_d1 E_ru_118 E_ke_118 E_ru_117 E_ke_117 F_value_ru_118 F_value_ke_118 F_value_ru_117 F_value_ke_117 F_coder_ru_118 F_coder_ke_118 F_coder_ru_117 F_coder_ke_117 A_w1_118 A_w2_118 A_w1_117 A_w2_117 (Ne.symm ne_ru_117_ru_118) (Ne.symm ne_ke_117_ke_118)) hZ (hw _ (List.mem_of_getElem? (i := 60) rfl)) (hw _ (List.mem_of_getElem? (i := 9) rfl)) (by decide) (by decide)) q_121a q_121c (g := (mkF m 459 #[.val (.int s0), .val (.int t0), .val (.long q2), .second, .val (.long q4), .second, .val (.long q6), .second, .val (.long q8), .second, .val (.int ch1), .val (.int ch2), .val (.int al), .val (.int af), .val (.int bf), .val (.int fa), .val (.int fb), .val (.long la), .second, .val (.long lb), .second, .val (.long lc), .second, .val (.long ld), .second, .val (.int ca), .val (.int cb), .val (.int a2), .val (.long ma), .second, .val (.long mb), .second, .val (.long mc), .second, .val (.long md), .second, .val (.ref d1), .val (.ref d2), .val (.int xx), .val (.ref sx)] [(.ref d1), (.ref d2)])) rfl (by rw [hml]; rfl) (Steps.refl _) (argsL := [(.ref d1)]) (rest := []) (lenOf pd_9 rfl) rfl (by show 2 * 0 + _ ≤ _; exact Nat.le_of_eq rfl) (hb hby at_459) (fun _ _ => ⟨rfl, e_120, (by decide : 12 + 0 ≤ _), (by decide : 41 + 0 ≤ _)⟩)
                                dsimp only [Pt.U, Pt.locs, Pt.cells, Pt.slots, Nat.add_zero] at X_121 l_121 y_121 z_121 st_121 hQ_121
                                subst y_121 z_121
                                obtain ⟨Nq_121, e_121, eq2, rfl, heq2⟩ := hQ_121
                                replace Nf := own_frEq l_121 (Fr.app Nf Nq_121)
                                clear l_121
                                refine Win.come st_121 ?_
                                clear st_121 Nq_121 X_120 e_120
                                show Win p.tables e below _ (T_121.setTop (mkF m 462 #[.val (.int s0), .val (.int t0), .val (.long q2), .second, .val (.long q4), .second, .val (.long q6), .second, .val (.long q8), .second, .val (.int ch1), .val (.int ch2), .val (.int al), .val (.int af), .val (.int bf), .val (.int fa), .val (.int fb), .val (.long la), .second, .val (.long lb), .second, .val (.long lc), .second, .val (.long ld), .second, .val (.int ca), .val (.int cb), .val (.int a2), .val (.long ma), .second, .val (.long mb), .second, .val (.long mc), .second, .val (.long md), .second, .val (.ref d1), .val (.ref d2), .val (.int xx), .val (.ref sx)] [(.int eq2)]))
                                refine s_iload (pc' := 464) X_121.here hx (hb hby at_462) rfl rfl ?_
                                by_cases hc464 : (eq2).toInt = (xx).toInt
                                · skip
                                  refine s_icmpNo (pc' := 467) X_121.here hx (hb hby at_464) rfl (teqI (x := eq2) (y := xx) hc464).2 ?_
                                  refine s_aload (pc' := 469) X_121.here hx (hb hby at_467) rfl rfl rfl ?_
                                  refine s_aload (pc' := 471) X_121.here hx (hb hby at_469) rfl rfl rfl ?_
                                  obtain ⟨cq_122, kq_122, q_122a, q_122b, q_122c⟩ := isOf hZ e_121 E_d1
                                  obtain ⟨_, _, ⟨T_122, L_122, k_122, n_122⟩, -, X_122, ⟨Lc_122, hQ_122, l_122, y_122, z_122⟩, st_122⟩ := X_121.virtualBack hx (y := (⟨"com/example/throttle/throttle/Decision", "equals", "(Ljava/lang/Object;)Z"⟩ : MethodName)) (z := (⟨"com/example/throttle/throttle/Decision", "equals", "(Ljava/lang/Object;)Z"⟩ : MethodName)) hown (mvT hZ (hw _ (List.mem_of_getElem? (i := 56) rfl))) (mvT hZ (hw _ (List.mem_of_getElem? (i := 57) rfl))) (notFace_of_selects (args := #[]) (mvT hZ (hw _ (List.mem_of_getElem? (i := 59) rfl)))) (mvT hZ (hw _ (List.mem_of_getElem? (i := 59) rfl))) (mvT hZ (hw _ (List.mem_of_getElem? (i := 58) rfl))) (by decide) (backOf (W := 0) (rm9_s l Z a0 hw [] d1 ru_117 ke_117 al la lb lc ld sa_117 h_119 n0 Zs E_d1 F_rule_d1 F_key_d1 F_allowed_d1 F_limit_d1 F_remaining_d1 F_reset_d1 F_retryAfter_d1 F_storeAnswered_d1 E_ru_117 E_ke_117) hZ (hw _ (List.mem_of_getElem? (i := 60) rfl)) (hw _ (List.mem_of_getElem? (i := 9) rfl)) (by decide) (by decide)) q_122a q_122c (g := (mkF m 471 #[.val (.int s0), .val (.int t0), .val (.long q2), .second, .val (.long q4), .second, .val (.long q6), .second, .val (.long q8), .second, .val (.int ch1), .val (.int ch2), .val (.int al), .val (.int af), .val (.int bf), .val (.int fa), .val (.int fb), .val (.long la), .second, .val (.long lb), .second, .val (.long lc), .second, .val (.long ld), .second, .val (.int ca), .val (.int cb), .val (.int a2), .val (.long ma), .second, .val (.long mb), .second, .val (.long mc), .second, .val (.long md), .second, .val (.ref d1), .val (.ref d2), .val (.int xx), .val (.ref sx)] [(.ref d1), (.ref d1)])) rfl (by rw [hml]; rfl) (Steps.refl _) (argsL := [(.ref d1)]) (rest := []) (lenOf pd_9 rfl) rfl (by show 2 * 0 + _ ≤ _; exact Nat.le_of_eq rfl) (hb hby at_471) (fun _ _ => ⟨rfl, e_121, (by decide : 12 + 0 ≤ _), (by decide : 41 + 0 ≤ _)⟩)
                                  dsimp only [Pt.U, Pt.locs, Pt.cells, Pt.slots, Nat.add_zero] at X_122 l_122 y_122 z_122 st_122 hQ_122
                                  subst y_122 z_122
                                  obtain ⟨Nq_122, e_122, rfl⟩ := hQ_122
                                  replace Nf := own_frEq l_122 (Fr.app Nf Nq_122)
                                  clear l_122
                                  refine Win.come st_122 ?_
                                  clear st_122 Nq_122 X_121 e_121
                                  show Win p.tables e below _ (T_122.setTop (mkF m 474 #[.val (.int s0), .val (.int t0), .val (.long q2), .second, .val (.long q4), .second, .val (.long q6), .second, .val (.long q8), .second, .val (.int ch1), .val (.int ch2), .val (.int al), .val (.int af), .val (.int bf), .val (.int fa), .val (.int fb), .val (.long la), .second, .val (.long lb), .second, .val (.long lc), .second, .val (.long ld), .second, .val (.int ca), .val (.int cb), .val (.int a2), .val (.long ma), .second, .val (.long mb), .second, .val (.long mc), .second, .val (.long md), .second, .val (.ref d1), .val (.ref d2), .val (.int xx), .val (.ref sx)] [(.int (1 : Int32))]))
                                  refine s_ifNo (pc' := 477) X_122.here hx (hb hby at_474) rfl ((if0 _ _).trans (feqI (x := (1 : Int32)) (y := (0 : Int32)) (by decide)).1) ?_
                                  refine s_aload (pc' := 479) X_122.here hx (hb hby at_477) rfl rfl rfl ?_
                                  refine s_aload (pc' := 481) X_122.here hx (hb hby at_479) rfl rfl rfl ?_
                                  obtain ⟨cq_123, kq_123, q_123a, q_123b, q_123c⟩ := isOf hZ e_122 E_d1
                                  obtain ⟨_, _, ⟨T_123, L_123, k_123, n_123⟩, -, X_123, ⟨Lc_123, hQ_123, l_123, y_123, z_123⟩, st_123⟩ := X_122.virtualBack hx (y := (⟨"com/example/throttle/throttle/Decision", "equals", "(Ljava/lang/Object;)Z"⟩ : MethodName)) (z := (⟨"com/example/throttle/throttle/Decision", "equals", "(Ljava/lang/Object;)Z"⟩ : MethodName)) hown (mvT hZ (hw _ (List.mem_of_getElem? (i := 56) rfl))) (mvT hZ (hw _ (List.mem_of_getElem? (i := 57) rfl))) (notFace_of_selects (args := #[]) (mvT hZ (hw _ (List.mem_of_getElem? (i := 59) rfl)))) (mvT hZ (hw _ (List.mem_of_getElem? (i := 59) rfl))) (mvT hZ (hw _ (List.mem_of_getElem? (i := 58) rfl))) (by decide) (backOf (W := 0) (rm9_x l Z a0 hw [] d1 sx h_119 n0 Zs E_sx) hZ (hw _ (List.mem_of_getElem? (i := 60) rfl)) (hw _ (List.mem_of_getElem? (i := 9) rfl)) (by decide) (by decide)) q_123a q_123c (g := (mkF m 481 #[.val (.int s0), .val (.int t0), .val (.long q2), .second, .val (.long q4), .second, .val (.long q6), .second, .val (.long q8), .second, .val (.int ch1), .val (.int ch2), .val (.int al), .val (.int af), .val (.int bf), .val (.int fa), .val (.int fb), .val (.long la), .second, .val (.long lb), .second, .val (.long lc), .second, .val (.long ld), .second, .val (.int ca), .val (.int cb), .val (.int a2), .val (.long ma), .second, .val (.long mb), .second, .val (.long mc), .second, .val (.long md), .second, .val (.ref d1), .val (.ref d2), .val (.int xx), .val (.ref sx)] [(.ref sx), (.ref d1)])) rfl (by rw [hml]; rfl) (Steps.refl _) (argsL := [(.ref sx)]) (rest := []) (lenOf pd_9 rfl) rfl (by show 2 * 0 + _ ≤ _; exact Nat.le_of_eq rfl) (hb hby at_481) (fun _ _ => ⟨rfl, e_122, (by decide : 12 + 0 ≤ _), (by decide : 41 + 0 ≤ _)⟩)
                                  dsimp only [Pt.U, Pt.locs, Pt.cells, Pt.slots, Nat.add_zero] at X_123 l_123 y_123 z_123 st_123 hQ_123
                                  subst y_123 z_123
                                  obtain ⟨Nq_123, e_123, rfl⟩ := hQ_123
                                  replace Nf := own_frEq l_123 (Fr.app Nf Nq_123)
                                  clear l_123
                                  refine Win.come st_123 ?_
                                  clear st_123 Nq_123 X_122 e_122
                                  show Win p.tables e below _ (T_123.setTop (mkF m 484 #[.val (.int s0), .val (.int t0), .val (.long q2), .second, .val (.long q4), .second, .val (.long q6), .second, .val (.long q8), .second, .val (.int ch1), .val (.int ch2), .val (.int al), .val (.int af), .val (.int bf), .val (.int fa), .val (.int fb), .val (.long la), .second, .val (.long lb), .second, .val (.long lc), .second, .val (.long ld), .second, .val (.int ca), .val (.int cb), .val (.int a2), .val (.long ma), .second, .val (.long mb), .second, .val (.long mc), .second, .val (.long md), .second, .val (.ref d1), .val (.ref d2), .val (.int xx), .val (.ref sx)] [(.int (0 : Int32))]))
                                  refine s_ifNo (pc' := 487) X_123.here hx (hb hby at_484) rfl ((if0 _ _).trans (teqI (x := (0 : Int32)) (y := (0 : Int32)) (by decide)).2) ?_
                                  refine s_aload (pc' := 489) X_123.here hx (hb hby at_487) rfl rfl rfl ?_
                                  refine Win.go (fun _ k => XS.aconstNull X_123.here hx rfl (hb hby at_489) k) ?_
                                  show Win p.tables e below _ (T_123.setTop (mkF m 490 #[.val (.int s0), .val (.int t0), .val (.long q2), .second, .val (.long q4), .second, .val (.long q6), .second, .val (.long q8), .second, .val (.int ch1), .val (.int ch2), .val (.int al), .val (.int af), .val (.int bf), .val (.int fa), .val (.int fb), .val (.long la), .second, .val (.long lb), .second, .val (.long lc), .second, .val (.long ld), .second, .val (.int ca), .val (.int cb), .val (.int a2), .val (.long ma), .second, .val (.long mb), .second, .val (.long mc), .second, .val (.long md), .second, .val (.ref d1), .val (.ref d2), .val (.int xx), .val (.ref sx)] [.null, (.ref d1)]))
                                  obtain ⟨cq_124, kq_124, q_124a, q_124b, q_124c⟩ := isOf hZ e_123 E_d1
                                  obtain ⟨_, _, ⟨T_124, L_124, k_124, n_124⟩, -, X_124, ⟨Lc_124, hQ_124, l_124, y_124, z_124⟩, st_124⟩ := X_123.virtualBack hx (y := (⟨"com/example/throttle/throttle/Decision", "equals", "(Ljava/lang/Object;)Z"⟩ : MethodName)) (z := (⟨"com/example/throttle/throttle/Decision", "equals", "(Ljava/lang/Object;)Z"⟩ : MethodName)) hown (mvT hZ (hw _ (List.mem_of_getElem? (i := 56) rfl))) (mvT hZ (hw _ (List.mem_of_getElem? (i := 57) rfl))) (notFace_of_selects (args := #[]) (mvT hZ (hw _ (List.mem_of_getElem? (i := 59) rfl)))) (mvT hZ (hw _ (List.mem_of_getElem? (i := 59) rfl))) (mvT hZ (hw _ (List.mem_of_getElem? (i := 58) rfl))) (by decide) (backOf (W := 0) (rm9_n l Z a0 hw [] d1 h_119 n0 Zs ) hZ (hw _ (List.mem_of_getElem? (i := 60) rfl)) (hw _ (List.mem_of_getElem? (i := 9) rfl)) (by decide) (by decide)) q_124a q_124c (g := (mkF m 490 #[.val (.int s0), .val (.int t0), .val (.long q2), .second, .val (.long q4), .second, .val (.long q6), .second, .val (.long q8), .second, .val (.int ch1), .val (.int ch2), .val (.int al), .val (.int af), .val (.int bf), .val (.int fa), .val (.int fb), .val (.long la), .second, .val (.long lb), .second, .val (.long lc), .second, .val (.long ld), .second, .val (.int ca), .val (.int cb), .val (.int a2), .val (.long ma), .second, .val (.long mb), .second, .val (.long mc), .second, .val (.long md), .second, .val (.ref d1), .val (.ref d2), .val (.int xx), .val (.ref sx)] [.null, (.ref d1)])) rfl (by rw [hml]; rfl) (Steps.refl _) (argsL := [.null]) (rest := []) (lenOf pd_9 rfl) rfl (by show 2 * 0 + _ ≤ _; exact Nat.le_of_eq rfl) (hb hby at_490) (fun _ _ => ⟨rfl, e_123, (by decide : 12 + 0 ≤ _), (by decide : 41 + 0 ≤ _)⟩)
                                  dsimp only [Pt.U, Pt.locs, Pt.cells, Pt.slots, Nat.add_zero] at X_124 l_124 y_124 z_124 st_124 hQ_124
                                  subst y_124 z_124
                                  obtain ⟨Nq_124, e_124, rfl⟩ := hQ_124
                                  replace Nf := own_frEq l_124 (Fr.app Nf Nq_124)
                                  clear l_124
                                  refine Win.come st_124 ?_
                                  clear st_124 Nq_124 X_123 e_123
                                  show Win p.tables e below _ (T_124.setTop (mkF m 493 #[.val (.int s0), .val (.int t0), .val (.long q2), .second, .val (.long q4), .second, .val (.long q6), .second, .val (.long q8), .second, .val (.int ch1), .val (.int ch2), .val (.int al), .val (.int af), .val (.int bf), .val (.int fa), .val (.int fb), .val (.long la), .second, .val (.long lb), .second, .val (.long lc), .second, .val (.long ld), .second, .val (.int ca), .val (.int cb), .val (.int a2), .val (.long ma), .second, .val (.long mb), .second, .val (.long mc), .second, .val (.long md), .second, .val (.ref d1), .val (.ref d2), .val (.int xx), .val (.ref sx)] [(.int (0 : Int32))]))
                                  refine s_ifNo (pc' := 496) X_124.here hx (hb hby at_493) rfl ((if0 _ _).trans (teqI (x := (0 : Int32)) (y := (0 : Int32)) (by decide)).2) ?_
                                  refine s_iconst (pc' := 497) (z := (1 : Int32)) X_124.here hx (hb hby at_496) rfl rfl ?_
                                  refine s_goto (pc' := 501) X_124.here hx (hb hby at_497) (by decide) (by decide) ?_
                                  refine winN X_124 hx hlk e_124 (t := .boolean) Bd.returns (by simp) (hb hby at_501) (by decide) (by decide) (z' := 1) rfl ⟨Nf, rfl⟩
                                · skip
                                  refine s_icmpYes (pc' := 500) X_121.here hx (hb hby at_464) (feqI (x := eq2) (y := xx) hc464).2 (by decide) (by decide) ?_
                                  refine s_iconst (pc' := 501) (z := (0 : Int32)) X_121.here hx (hb hby at_500) rfl rfl ?_
                                  exfalso
                                  exact hc464 (own_bool heq2 hJ434 ⟨fun h => ⟨((own_byte hJ167 bch1).mp (by simpa only [updF_hit] using h.1)).symm, ((own_byte hJ191 bch2).mp (by simpa only [updF_hit] using h.2.1)).symm, h.2.2.1.symm, h.2.2.2.1.symm, h.2.2.2.2.1.symm, h.2.2.2.2.2.1.symm, h.2.2.2.2.2.2.1.symm, ((own_sa hpB_2 hpA_2).mp h.2.2.2.2.2.2.2).symm⟩, fun h => ⟨by simpa only [updF_hit] using (own_byte hJ167 bch1).mpr h.1.symm, by simpa only [updF_hit] using (own_byte hJ191 bch2).mpr h.2.1.symm, h.2.2.1.symm, h.2.2.2.1.symm, h.2.2.2.2.1.symm, h.2.2.2.2.2.1.symm, h.2.2.2.2.2.2.1.symm, (own_sa hpB_2 hpA_2).mpr h.2.2.2.2.2.2.2.symm⟩⟩)
                              · skip
                                refine s_icmpYes (pc' := 500) X_120.here hx (hb hby at_452) (feqI (x := eq1) (y := xx) hc452).2 (by decide) (by decide) ?_
                                refine s_iconst (pc' := 501) (z := (0 : Int32)) X_120.here hx (hb hby at_500) rfl rfl ?_
                                exfalso
                                exact hc452 (own_bool heq1 hJ434 ⟨fun h => ⟨(own_byte bch1 hJ167).mp (by simpa only [updF_hit] using h.1), (own_byte bch2 hJ191).mp (by simpa only [updF_hit] using h.2.1), h.2.2.1, h.2.2.2.1, h.2.2.2.2.1, h.2.2.2.2.2.1, h.2.2.2.2.2.2.1, (own_sa hpA_2 hpB_2).mp h.2.2.2.2.2.2.2⟩, fun h => ⟨by simpa only [updF_hit] using (own_byte bch1 hJ167).mpr h.1, by simpa only [updF_hit] using (own_byte bch2 hJ191).mpr h.2.1, h.2.2.1, h.2.2.2.1, h.2.2.2.2.1, h.2.2.2.2.2.1, h.2.2.2.2.2.2.1, (own_sa hpA_2 hpB_2).mpr h.2.2.2.2.2.2.2⟩⟩)
                            refine s_iload (pc' := 371) X_118.here hx (hb hby at_369) rfl rfl ?_
                            refine s_iload (pc' := 373) X_118.here hx (hb hby at_371) rfl rfl ?_
                            by_cases hc373 : (ch1).toInt = (ca).toInt
                            · skip
                              refine s_icmpNo (pc' := 376) X_118.here hx (hb hby at_373) rfl (teqI (x := ch1) (y := ca) hc373).2 ?_
                              refine s_iload (pc' := 378) X_118.here hx (hb hby at_376) rfl rfl ?_
                              refine s_iload (pc' := 380) X_118.here hx (hb hby at_378) rfl rfl ?_
                              by_cases hc380 : (ch2).toInt = (cb).toInt
                              · skip
                                refine s_icmpNo (pc' := 383) X_118.here hx (hb hby at_380) rfl (teqI (x := ch2) (y := cb) hc380).2 ?_
                                refine s_iload (pc' := 385) X_118.here hx (hb hby at_383) rfl rfl ?_
                                refine s_iload (pc' := 387) X_118.here hx (hb hby at_385) rfl rfl ?_
                                by_cases hc387 : (al).toInt = (a2).toInt
                                · skip
                                  refine s_icmpNo (pc' := 390) X_118.here hx (hb hby at_387) rfl (teqI (x := al) (y := a2) hc387).2 ?_
                                  refine s_lload (pc' := 392) X_118.here hx (hb hby at_390) rfl rfl ?_
                                  refine s_lload (pc' := 394) X_118.here hx (hb hby at_392) rfl rfl ?_
                                  refine s_lcmp (pc' := 395) X_118.here hx (hb hby at_394) rfl ?_
                                  by_cases hc395 : (la).toInt = (ma).toInt
                                  · skip
                                    refine s_ifNo (pc' := 398) X_118.here hx (hb hby at_395) rfl (teqL (x := la) (y := ma) hc395).2 ?_
                                    refine s_lload (pc' := 400) X_118.here hx (hb hby at_398) rfl rfl ?_
                                    refine s_lload (pc' := 402) X_118.here hx (hb hby at_400) rfl rfl ?_
                                    refine s_lcmp (pc' := 403) X_118.here hx (hb hby at_402) rfl ?_
                                    by_cases hc403 : (lb).toInt = (mb).toInt
                                    · skip
                                      refine s_ifNo (pc' := 406) X_118.here hx (hb hby at_403) rfl (teqL (x := lb) (y := mb) hc403).2 ?_
                                      refine s_lload (pc' := 408) X_118.here hx (hb hby at_406) rfl rfl ?_
                                      refine s_lload (pc' := 410) X_118.here hx (hb hby at_408) rfl rfl ?_
                                      refine s_lcmp (pc' := 411) X_118.here hx (hb hby at_410) rfl ?_
                                      by_cases hc411 : (lc).toInt = (mc).toInt
                                      · skip
                                        refine s_ifNo (pc' := 414) X_118.here hx (hb hby at_411) rfl (teqL (x := lc) (y := mc) hc411).2 ?_
                                        refine s_lload (pc' := 416) X_118.here hx (hb hby at_414) rfl rfl ?_
                                        refine s_lload (pc' := 418) X_118.here hx (hb hby at_416) rfl rfl ?_
                                        refine s_lcmp (pc' := 419) X_118.here hx (hb hby at_418) rfl ?_
                                        by_cases hc419 : (ld).toInt = (md).toInt
                                        · skip
                                          refine s_ifNo (pc' := 422) X_118.here hx (hb hby at_419) rfl (teqL (x := ld) (y := md) hc419).2 ?_
                                          refine s_iload (pc' := 424) X_118.here hx (hb hby at_422) rfl rfl ?_
                                          refine s_iload (pc' := 426) X_118.here hx (hb hby at_424) rfl rfl ?_
                                          by_cases hc426 : (af).toInt = (bf).toInt
                                          · skip
                                            refine s_icmpNo (pc' := 429) X_118.here hx (hb hby at_426) rfl (teqI (x := af) (y := bf) hc426).2 ?_
                                            refine s_iconst (pc' := 430) (z := (1 : Int32)) X_118.here hx (hb hby at_429) rfl rfl ?_
                                            refine s_goto (pc' := 434) X_118.here hx (hb hby at_430) (by decide) (by decide) ?_
                                            exact J434 (1 : Int32) (by exact Or.inl ⟨rfl, hc373, hc380, hc387, hc395, hc403, hc411, hc419, hc426⟩)
                                          · skip
                                            refine s_icmpYes (pc' := 433) X_118.here hx (hb hby at_426) (feqI (x := af) (y := bf) hc426).2 (by decide) (by decide) ?_
                                            refine s_iconst (pc' := 434) (z := (0 : Int32)) X_118.here hx (hb hby at_433) rfl rfl ?_
                                            exact J434 (0 : Int32) (by exact Or.inr ⟨rfl, fun h => hc426 h.2.2.2.2.2.2.2⟩)
                                        · skip
                                          refine s_ifYes (pc' := 433) X_118.here hx (hb hby at_419) (feqL (x := ld) (y := md) hc419).2 (by decide) (by decide) ?_
                                          refine s_iconst (pc' := 434) (z := (0 : Int32)) X_118.here hx (hb hby at_433) rfl rfl ?_
                                          exact J434 (0 : Int32) (by exact Or.inr ⟨rfl, fun h => hc419 h.2.2.2.2.2.2.1⟩)
                                      · skip
                                        refine s_ifYes (pc' := 433) X_118.here hx (hb hby at_411) (feqL (x := lc) (y := mc) hc411).2 (by decide) (by decide) ?_
                                        refine s_iconst (pc' := 434) (z := (0 : Int32)) X_118.here hx (hb hby at_433) rfl rfl ?_
                                        exact J434 (0 : Int32) (by exact Or.inr ⟨rfl, fun h => hc411 h.2.2.2.2.2.1⟩)
                                    · skip
                                      refine s_ifYes (pc' := 433) X_118.here hx (hb hby at_403) (feqL (x := lb) (y := mb) hc403).2 (by decide) (by decide) ?_
                                      refine s_iconst (pc' := 434) (z := (0 : Int32)) X_118.here hx (hb hby at_433) rfl rfl ?_
                                      exact J434 (0 : Int32) (by exact Or.inr ⟨rfl, fun h => hc403 h.2.2.2.2.1⟩)
                                  · skip
                                    refine s_ifYes (pc' := 433) X_118.here hx (hb hby at_395) (feqL (x := la) (y := ma) hc395).2 (by decide) (by decide) ?_
                                    refine s_iconst (pc' := 434) (z := (0 : Int32)) X_118.here hx (hb hby at_433) rfl rfl ?_
                                    exact J434 (0 : Int32) (by exact Or.inr ⟨rfl, fun h => hc395 h.2.2.2.1⟩)
                                · skip
                                  refine s_icmpYes (pc' := 433) X_118.here hx (hb hby at_387) (feqI (x := al) (y := a2) hc387).2 (by decide) (by decide) ?_
                                  refine s_iconst (pc' := 434) (z := (0 : Int32)) X_118.here hx (hb hby at_433) rfl rfl ?_
                                  exact J434 (0 : Int32) (by exact Or.inr ⟨rfl, fun h => hc387 h.2.2.1⟩)
                              · skip
                                refine s_icmpYes (pc' := 433) X_118.here hx (hb hby at_380) (feqI (x := ch2) (y := cb) hc380).2 (by decide) (by decide) ?_
                                refine s_iconst (pc' := 434) (z := (0 : Int32)) X_118.here hx (hb hby at_433) rfl rfl ?_
                                exact J434 (0 : Int32) (by exact Or.inr ⟨rfl, fun h => hc380 h.2.1⟩)
                            · skip
                              refine s_icmpYes (pc' := 433) X_118.here hx (hb hby at_373) (feqI (x := ch1) (y := ca) hc373).2 (by decide) (by decide) ?_
                              refine s_iconst (pc' := 434) (z := (0 : Int32)) X_118.here hx (hb hby at_433) rfl rfl ?_
                              exact J434 (0 : Int32) (by exact Or.inr ⟨rfl, fun h => hc373 h.1⟩)
                          refine s_iload (pc' := 294) XJ290.here hx (hb hby at_292) rfl rfl ?_
                          by_cases hc294 : (fb).toInt = (0 : Int)
                          · skip
                            refine s_ifYes (pc' := 310) XJ290.here hx (hb hby at_294) ((if0 _ _).trans (teqI (x := fb) (y := (0 : Int32)) hc294).1) (by decide) (by decide) ?_
                            refine s_iloadN (pc' := 311) XJ290.here hx (hb hby at_310) rfl rfl ?_
                            refine s_bipush (pc' := 313) (z := (6 : Int32)) XJ290.here hx (hb hby at_311) rfl rfl ?_
                            obtain ⟨_, _, ⟨T_125, L_125, k_125, n_125⟩, -, X_125, ⟨Lc_125, hQ_125, l_125, y_125, z_125⟩, st_125⟩ := Jvm.LawKit.callS XJ290 hx (y := (⟨"com/example/throttle/throttle/DecisionEqualsPinLaw", "bit", "(II)Z"⟩ : MethodName)) hown (mvT hZ (hw _ (List.mem_of_getElem? (i := 0) rfl))) (mvT hZ (hw _ (List.mem_of_getElem? (i := 1) rfl))) (mvT hZ (hw _ (List.mem_of_getElem? (i := 2) rfl))) (mvT hZ (hw _ (List.mem_of_getElem? (i := 3) rfl))) (by decide) (backOf (W := 0) (rm1 l Z a0 hw [] t0 (6 : Int32) h0 n0 Zs ) hZ (hw _ (List.mem_of_getElem? (i := 3) rfl)) (hw _ (List.mem_of_getElem? (i := 2) rfl)) (by decide) (by decide)) (g := (mkF m 313 #[.val (.int s0), .val (.int t0), .val (.long q2), .second, .val (.long q4), .second, .val (.long q6), .second, .val (.long q8), .second, .val (.int ch1), .val (.int ch2), .val (.int al), .val (.int af), .val (.int bf), .val (.int fa), .val (.int fb), .val (.long la), .second, .val (.long lb), .second, .val (.long lc), .second, .val (.long ld), .second, .val (.int ca), .val (.int cb), .val (.int a2), .val (.long ma), .second, .val (.long mb), .second, .val (.long mc), .second, .unset, .unset, .unset, .unset, .unset, .unset] [(.int (6 : Int32)), (.int t0)])) rfl (by rw [hml]; rfl) (argsL := [(.int t0), (.int (6 : Int32))]) (rest := []) (lenOf pd_10 rfl) rfl (by show 2 * 0 + _ ≤ _; exact Nat.le_of_eq rfl) (hb hby at_313) (fun _ _ => ⟨rfl, eJ290, (by decide : 0 + 0 ≤ _), (by decide : 0 + 0 ≤ _)⟩)
                            dsimp only [Pt.U, Pt.locs, Pt.cells, Pt.slots, Nat.add_zero] at X_125 l_125 y_125 z_125 st_125 hQ_125
                            subst y_125 z_125
                            obtain ⟨Nq_125, e_125, bt6, rfl, hbt6⟩ := hQ_125
                            replace Nf := own_frEq l_125 (Fr.app Nf Nq_125)
                            clear l_125
                            refine Win.go st_125 ?_
                            clear st_125 Nq_125 XJ290 eJ290
                            show Win p.tables e below _ (T_125.setTop (mkF m 316 #[.val (.int s0), .val (.int t0), .val (.long q2), .second, .val (.long q4), .second, .val (.long q6), .second, .val (.long q8), .second, .val (.int ch1), .val (.int ch2), .val (.int al), .val (.int af), .val (.int bf), .val (.int fa), .val (.int fb), .val (.long la), .second, .val (.long lb), .second, .val (.long lc), .second, .val (.long ld), .second, .val (.int ca), .val (.int cb), .val (.int a2), .val (.long ma), .second, .val (.long mb), .second, .val (.long mc), .second, .unset, .unset, .unset, .unset, .unset, .unset] [(.int bt6)]))
                            by_cases hc316 : (bt6).toInt = (0 : Int)
                            · skip
                              refine s_ifYes (pc' := 324) X_125.here hx (hb hby at_316) ((if0 _ _).trans (teqI (x := bt6) (y := (0 : Int32)) hc316).1) (by decide) (by decide) ?_
                              refine s_lloadN (pc' := 325) X_125.here hx (hb hby at_324) rfl rfl ?_
                              exact J325 _ _ X_125 e_125 Nf q2 (by exact Or.inl hc294)
                            · skip
                              refine s_ifNo (pc' := 319) X_125.here hx (hb hby at_316) rfl ((if0 _ _).trans (feqI (x := bt6) (y := (0 : Int32)) hc316).1) ?_
                              refine s_lload (pc' := 321) X_125.here hx (hb hby at_319) rfl rfl ?_
                              refine s_goto (pc' := 325) X_125.here hx (hb hby at_321) (by decide) (by decide) ?_
                              exact J325 _ _ X_125 e_125 Nf ld (by exact Or.inl hc294)
                          · skip
                            refine s_ifNo (pc' := 297) XJ290.here hx (hb hby at_294) rfl ((if0 _ _).trans (feqI (x := fb) (y := (0 : Int32)) hc294).1) ?_
                            refine s_iload (pc' := 299) XJ290.here hx (hb hby at_297) rfl rfl ?_
                            by_cases hc299 : (a2).toInt = (0 : Int)
                            · skip
                              refine s_ifYes (pc' := 306) XJ290.here hx (hb hby at_299) ((if0 _ _).trans (teqI (x := a2) (y := (0 : Int32)) hc299).1) (by decide) (by decide) ?_
                              refine s_lconst (pc' := 307) (z := (1 : Int64)) XJ290.here hx (hb hby at_306) rfl rfl ?_
                              refine s_goto (pc' := 325) XJ290.here hx (hb hby at_307) (by decide) (by decide) ?_
                              exact J325 _ _ XJ290 eJ290 Nf (1 : Int64) (by exact Or.inr ⟨fun _ => rfl, fun h => absurd hc299 h⟩)
                            · skip
                              refine s_ifNo (pc' := 302) XJ290.here hx (hb hby at_299) rfl ((if0 _ _).trans (feqI (x := a2) (y := (0 : Int32)) hc299).1) ?_
                              refine s_lconst (pc' := 303) (z := (0 : Int64)) XJ290.here hx (hb hby at_302) rfl rfl ?_
                              refine s_goto (pc' := 325) XJ290.here hx (hb hby at_303) (by decide) (by decide) ?_
                              exact J325 _ _ XJ290 eJ290 Nf (0 : Int64) (by exact Or.inr ⟨fun h => absurd h hc299, fun _ => rfl⟩)
                        refine s_iload (pc' := 268) XJ264.here hx (hb hby at_266) rfl rfl ?_
                        by_cases hc268 : (fb).toInt = (0 : Int)
                        · skip
                          refine s_ifYes (pc' := 275) XJ264.here hx (hb hby at_268) ((if0 _ _).trans (teqI (x := fb) (y := (0 : Int32)) hc268).1) (by decide) (by decide) ?_
                          refine s_iloadN (pc' := 276) XJ264.here hx (hb hby at_275) rfl rfl ?_
                          refine s_iconst (pc' := 277) (z := (5 : Int32)) XJ264.here hx (hb hby at_276) rfl rfl ?_
                          obtain ⟨_, _, ⟨T_126, L_126, k_126, n_126⟩, -, X_126, ⟨Lc_126, hQ_126, l_126, y_126, z_126⟩, st_126⟩ := Jvm.LawKit.callS XJ264 hx (y := (⟨"com/example/throttle/throttle/DecisionEqualsPinLaw", "bit", "(II)Z"⟩ : MethodName)) hown (mvT hZ (hw _ (List.mem_of_getElem? (i := 0) rfl))) (mvT hZ (hw _ (List.mem_of_getElem? (i := 1) rfl))) (mvT hZ (hw _ (List.mem_of_getElem? (i := 2) rfl))) (mvT hZ (hw _ (List.mem_of_getElem? (i := 3) rfl))) (by decide) (backOf (W := 0) (rm1 l Z a0 hw [] t0 (5 : Int32) h0 n0 Zs ) hZ (hw _ (List.mem_of_getElem? (i := 3) rfl)) (hw _ (List.mem_of_getElem? (i := 2) rfl)) (by decide) (by decide)) (g := (mkF m 277 #[.val (.int s0), .val (.int t0), .val (.long q2), .second, .val (.long q4), .second, .val (.long q6), .second, .val (.long q8), .second, .val (.int ch1), .val (.int ch2), .val (.int al), .val (.int af), .val (.int bf), .val (.int fa), .val (.int fb), .val (.long la), .second, .val (.long lb), .second, .val (.long lc), .second, .val (.long ld), .second, .val (.int ca), .val (.int cb), .val (.int a2), .val (.long ma), .second, .val (.long mb), .second, .unset, .unset, .unset, .unset, .unset, .unset, .unset, .unset] [(.int (5 : Int32)), (.int t0)])) rfl (by rw [hml]; rfl) (argsL := [(.int t0), (.int (5 : Int32))]) (rest := []) (lenOf pd_10 rfl) rfl (by show 2 * 0 + _ ≤ _; exact Nat.le_of_eq rfl) (hb hby at_277) (fun _ _ => ⟨rfl, eJ264, (by decide : 0 + 0 ≤ _), (by decide : 0 + 0 ≤ _)⟩)
                          dsimp only [Pt.U, Pt.locs, Pt.cells, Pt.slots, Nat.add_zero] at X_126 l_126 y_126 z_126 st_126 hQ_126
                          subst y_126 z_126
                          obtain ⟨Nq_126, e_126, bt5, rfl, hbt5⟩ := hQ_126
                          replace Nf := own_frEq l_126 (Fr.app Nf Nq_126)
                          clear l_126
                          refine Win.go st_126 ?_
                          clear st_126 Nq_126 XJ264 eJ264
                          show Win p.tables e below _ (T_126.setTop (mkF m 280 #[.val (.int s0), .val (.int t0), .val (.long q2), .second, .val (.long q4), .second, .val (.long q6), .second, .val (.long q8), .second, .val (.int ch1), .val (.int ch2), .val (.int al), .val (.int af), .val (.int bf), .val (.int fa), .val (.int fb), .val (.long la), .second, .val (.long lb), .second, .val (.long lc), .second, .val (.long ld), .second, .val (.int ca), .val (.int cb), .val (.int a2), .val (.long ma), .second, .val (.long mb), .second, .unset, .unset, .unset, .unset, .unset, .unset, .unset, .unset] [(.int bt5)]))
                          by_cases hc280 : (bt5).toInt = (0 : Int)
                          · skip
                            refine s_ifYes (pc' := 288) X_126.here hx (hb hby at_280) ((if0 _ _).trans (teqI (x := bt5) (y := (0 : Int32)) hc280).1) (by decide) (by decide) ?_
                            refine s_lload (pc' := 290) X_126.here hx (hb hby at_288) rfl rfl ?_
                            exact J290 _ _ X_126 e_126 Nf q8 (by exact Or.inl hc268)
                          · skip
                            refine s_ifNo (pc' := 283) X_126.here hx (hb hby at_280) rfl ((if0 _ _).trans (feqI (x := bt5) (y := (0 : Int32)) hc280).1) ?_
                            refine s_lload (pc' := 285) X_126.here hx (hb hby at_283) rfl rfl ?_
                            refine s_goto (pc' := 290) X_126.here hx (hb hby at_285) (by decide) (by decide) ?_
                            exact J290 _ _ X_126 e_126 Nf lc (by exact Or.inl hc268)
                        · skip
                          refine s_ifNo (pc' := 271) XJ264.here hx (hb hby at_268) rfl ((if0 _ _).trans (feqI (x := fb) (y := (0 : Int32)) hc268).1) ?_
                          refine s_lconst (pc' := 272) (z := (0 : Int64)) XJ264.here hx (hb hby at_271) rfl rfl ?_
                          refine s_goto (pc' := 290) XJ264.here hx (hb hby at_272) (by decide) (by decide) ?_
                          exact J290 _ _ XJ264 eJ264 Nf (0 : Int64) (by exact Or.inr rfl)
                      refine s_iload (pc' := 242) XJ238.here hx (hb hby at_240) rfl rfl ?_
                      by_cases hc242 : (fb).toInt = (0 : Int)
                      · skip
                        refine s_ifYes (pc' := 249) XJ238.here hx (hb hby at_242) ((if0 _ _).trans (teqI (x := fb) (y := (0 : Int32)) hc242).1) (by decide) (by decide) ?_
                        refine s_iloadN (pc' := 250) XJ238.here hx (hb hby at_249) rfl rfl ?_
                        refine s_iconst (pc' := 251) (z := (4 : Int32)) XJ238.here hx (hb hby at_250) rfl rfl ?_
                        obtain ⟨_, _, ⟨T_127, L_127, k_127, n_127⟩, -, X_127, ⟨Lc_127, hQ_127, l_127, y_127, z_127⟩, st_127⟩ := Jvm.LawKit.callS XJ238 hx (y := (⟨"com/example/throttle/throttle/DecisionEqualsPinLaw", "bit", "(II)Z"⟩ : MethodName)) hown (mvT hZ (hw _ (List.mem_of_getElem? (i := 0) rfl))) (mvT hZ (hw _ (List.mem_of_getElem? (i := 1) rfl))) (mvT hZ (hw _ (List.mem_of_getElem? (i := 2) rfl))) (mvT hZ (hw _ (List.mem_of_getElem? (i := 3) rfl))) (by decide) (backOf (W := 0) (rm1 l Z a0 hw [] t0 (4 : Int32) h0 n0 Zs ) hZ (hw _ (List.mem_of_getElem? (i := 3) rfl)) (hw _ (List.mem_of_getElem? (i := 2) rfl)) (by decide) (by decide)) (g := (mkF m 251 #[.val (.int s0), .val (.int t0), .val (.long q2), .second, .val (.long q4), .second, .val (.long q6), .second, .val (.long q8), .second, .val (.int ch1), .val (.int ch2), .val (.int al), .val (.int af), .val (.int bf), .val (.int fa), .val (.int fb), .val (.long la), .second, .val (.long lb), .second, .val (.long lc), .second, .val (.long ld), .second, .val (.int ca), .val (.int cb), .val (.int a2), .val (.long ma), .second, .unset, .unset, .unset, .unset, .unset, .unset, .unset, .unset, .unset, .unset] [(.int (4 : Int32)), (.int t0)])) rfl (by rw [hml]; rfl) (argsL := [(.int t0), (.int (4 : Int32))]) (rest := []) (lenOf pd_10 rfl) rfl (by show 2 * 0 + _ ≤ _; exact Nat.le_of_eq rfl) (hb hby at_251) (fun _ _ => ⟨rfl, eJ238, (by decide : 0 + 0 ≤ _), (by decide : 0 + 0 ≤ _)⟩)
                        dsimp only [Pt.U, Pt.locs, Pt.cells, Pt.slots, Nat.add_zero] at X_127 l_127 y_127 z_127 st_127 hQ_127
                        subst y_127 z_127
                        obtain ⟨Nq_127, e_127, bt4, rfl, hbt4⟩ := hQ_127
                        replace Nf := own_frEq l_127 (Fr.app Nf Nq_127)
                        clear l_127
                        refine Win.go st_127 ?_
                        clear st_127 Nq_127 XJ238 eJ238
                        show Win p.tables e below _ (T_127.setTop (mkF m 254 #[.val (.int s0), .val (.int t0), .val (.long q2), .second, .val (.long q4), .second, .val (.long q6), .second, .val (.long q8), .second, .val (.int ch1), .val (.int ch2), .val (.int al), .val (.int af), .val (.int bf), .val (.int fa), .val (.int fb), .val (.long la), .second, .val (.long lb), .second, .val (.long lc), .second, .val (.long ld), .second, .val (.int ca), .val (.int cb), .val (.int a2), .val (.long ma), .second, .unset, .unset, .unset, .unset, .unset, .unset, .unset, .unset, .unset, .unset] [(.int bt4)]))
                        by_cases hc254 : (bt4).toInt = (0 : Int)
                        · skip
                          refine s_ifYes (pc' := 262) X_127.here hx (hb hby at_254) ((if0 _ _).trans (teqI (x := bt4) (y := (0 : Int32)) hc254).1) (by decide) (by decide) ?_
                          refine s_lload (pc' := 264) X_127.here hx (hb hby at_262) rfl rfl ?_
                          exact J264 _ _ X_127 e_127 Nf q6 (by exact Or.inl hc242)
                        · skip
                          refine s_ifNo (pc' := 257) X_127.here hx (hb hby at_254) rfl ((if0 _ _).trans (feqI (x := bt4) (y := (0 : Int32)) hc254).1) ?_
                          refine s_lload (pc' := 259) X_127.here hx (hb hby at_257) rfl rfl ?_
                          refine s_goto (pc' := 264) X_127.here hx (hb hby at_259) (by decide) (by decide) ?_
                          exact J264 _ _ X_127 e_127 Nf lb (by exact Or.inl hc242)
                      · skip
                        refine s_ifNo (pc' := 245) XJ238.here hx (hb hby at_242) rfl ((if0 _ _).trans (feqI (x := fb) (y := (0 : Int32)) hc242).1) ?_
                        refine s_lconst (pc' := 246) (z := (0 : Int64)) XJ238.here hx (hb hby at_245) rfl rfl ?_
                        refine s_goto (pc' := 264) XJ238.here hx (hb hby at_246) (by decide) (by decide) ?_
                        exact J264 _ _ XJ238 eJ238 Nf (0 : Int64) (by exact Or.inr rfl)
                    refine s_iload (pc' := 216) XJ212.here hx (hb hby at_214) rfl rfl ?_
                    by_cases hc216 : (fb).toInt = (0 : Int)
                    · skip
                      refine s_ifYes (pc' := 223) XJ212.here hx (hb hby at_216) ((if0 _ _).trans (teqI (x := fb) (y := (0 : Int32)) hc216).1) (by decide) (by decide) ?_
                      refine s_iloadN (pc' := 224) XJ212.here hx (hb hby at_223) rfl rfl ?_
                      refine s_iconst (pc' := 225) (z := (3 : Int32)) XJ212.here hx (hb hby at_224) rfl rfl ?_
                      obtain ⟨_, _, ⟨T_128, L_128, k_128, n_128⟩, -, X_128, ⟨Lc_128, hQ_128, l_128, y_128, z_128⟩, st_128⟩ := Jvm.LawKit.callS XJ212 hx (y := (⟨"com/example/throttle/throttle/DecisionEqualsPinLaw", "bit", "(II)Z"⟩ : MethodName)) hown (mvT hZ (hw _ (List.mem_of_getElem? (i := 0) rfl))) (mvT hZ (hw _ (List.mem_of_getElem? (i := 1) rfl))) (mvT hZ (hw _ (List.mem_of_getElem? (i := 2) rfl))) (mvT hZ (hw _ (List.mem_of_getElem? (i := 3) rfl))) (by decide) (backOf (W := 0) (rm1 l Z a0 hw [] t0 (3 : Int32) h0 n0 Zs ) hZ (hw _ (List.mem_of_getElem? (i := 3) rfl)) (hw _ (List.mem_of_getElem? (i := 2) rfl)) (by decide) (by decide)) (g := (mkF m 225 #[.val (.int s0), .val (.int t0), .val (.long q2), .second, .val (.long q4), .second, .val (.long q6), .second, .val (.long q8), .second, .val (.int ch1), .val (.int ch2), .val (.int al), .val (.int af), .val (.int bf), .val (.int fa), .val (.int fb), .val (.long la), .second, .val (.long lb), .second, .val (.long lc), .second, .val (.long ld), .second, .val (.int ca), .val (.int cb), .val (.int a2), .unset, .unset, .unset, .unset, .unset, .unset, .unset, .unset, .unset, .unset, .unset, .unset] [(.int (3 : Int32)), (.int t0)])) rfl (by rw [hml]; rfl) (argsL := [(.int t0), (.int (3 : Int32))]) (rest := []) (lenOf pd_10 rfl) rfl (by show 2 * 0 + _ ≤ _; exact Nat.le_of_eq rfl) (hb hby at_225) (fun _ _ => ⟨rfl, eJ212, (by decide : 0 + 0 ≤ _), (by decide : 0 + 0 ≤ _)⟩)
                      dsimp only [Pt.U, Pt.locs, Pt.cells, Pt.slots, Nat.add_zero] at X_128 l_128 y_128 z_128 st_128 hQ_128
                      subst y_128 z_128
                      obtain ⟨Nq_128, e_128, bt3, rfl, hbt3⟩ := hQ_128
                      replace Nf := own_frEq l_128 (Fr.app Nf Nq_128)
                      clear l_128
                      refine Win.go st_128 ?_
                      clear st_128 Nq_128 XJ212 eJ212
                      show Win p.tables e below _ (T_128.setTop (mkF m 228 #[.val (.int s0), .val (.int t0), .val (.long q2), .second, .val (.long q4), .second, .val (.long q6), .second, .val (.long q8), .second, .val (.int ch1), .val (.int ch2), .val (.int al), .val (.int af), .val (.int bf), .val (.int fa), .val (.int fb), .val (.long la), .second, .val (.long lb), .second, .val (.long lc), .second, .val (.long ld), .second, .val (.int ca), .val (.int cb), .val (.int a2), .unset, .unset, .unset, .unset, .unset, .unset, .unset, .unset, .unset, .unset, .unset, .unset] [(.int bt3)]))
                      by_cases hc228 : (bt3).toInt = (0 : Int)
                      · skip
                        refine s_ifYes (pc' := 236) X_128.here hx (hb hby at_228) ((if0 _ _).trans (teqI (x := bt3) (y := (0 : Int32)) hc228).1) (by decide) (by decide) ?_
                        refine s_lload (pc' := 238) X_128.here hx (hb hby at_236) rfl rfl ?_
                        exact J238 _ _ X_128 e_128 Nf q4 (by exact Or.inl hc216)
                      · skip
                        refine s_ifNo (pc' := 231) X_128.here hx (hb hby at_228) rfl ((if0 _ _).trans (feqI (x := bt3) (y := (0 : Int32)) hc228).1) ?_
                        refine s_lload (pc' := 233) X_128.here hx (hb hby at_231) rfl rfl ?_
                        refine s_goto (pc' := 238) X_128.here hx (hb hby at_233) (by decide) (by decide) ?_
                        exact J238 _ _ X_128 e_128 Nf la (by exact Or.inl hc216)
                    · skip
                      refine s_ifNo (pc' := 219) XJ212.here hx (hb hby at_216) rfl ((if0 _ _).trans (feqI (x := fb) (y := (0 : Int32)) hc216).1) ?_
                      refine s_lconst (pc' := 220) (z := (0 : Int64)) XJ212.here hx (hb hby at_219) rfl rfl ?_
                      refine s_goto (pc' := 238) XJ212.here hx (hb hby at_220) (by decide) (by decide) ?_
                      exact J238 _ _ XJ212 eJ212 Nf (0 : Int64) (by exact Or.inr rfl)
                  by_cases hc198 : (bt2).toInt = (0 : Int)
                  · skip
                    refine s_ifYes (pc' := 206) X_116.here hx (hb hby at_198) ((if0 _ _).trans (teqI (x := bt2) (y := (0 : Int32)) hc198).1) (by decide) (by decide) ?_
                    refine s_iloadN (pc' := 207) X_116.here hx (hb hby at_206) rfl rfl ?_
                    refine s_bipush (pc' := 209) (z := (24 : Int32)) X_116.here hx (hb hby at_207) rfl rfl ?_
                    obtain ⟨_, _, ⟨T_129, L_129, k_129, n_129⟩, -, X_129, ⟨Lc_129, hQ_129, l_129, y_129, z_129⟩, st_129⟩ := Jvm.LawKit.callS X_116 hx (y := (⟨"com/example/throttle/throttle/DecisionEqualsPinLaw", "bit", "(II)Z"⟩ : MethodName)) hown (mvT hZ (hw _ (List.mem_of_getElem? (i := 0) rfl))) (mvT hZ (hw _ (List.mem_of_getElem? (i := 1) rfl))) (mvT hZ (hw _ (List.mem_of_getElem? (i := 2) rfl))) (mvT hZ (hw _ (List.mem_of_getElem? (i := 3) rfl))) (by decide) (backOf (W := 0) (rm1 l Z a0 hw [] t0 (24 : Int32) h0 n0 Zs ) hZ (hw _ (List.mem_of_getElem? (i := 3) rfl)) (hw _ (List.mem_of_getElem? (i := 2) rfl)) (by decide) (by decide)) (g := (mkF m 209 #[.val (.int s0), .val (.int t0), .val (.long q2), .second, .val (.long q4), .second, .val (.long q6), .second, .val (.long q8), .second, .val (.int ch1), .val (.int ch2), .val (.int al), .val (.int af), .val (.int bf), .val (.int fa), .val (.int fb), .val (.long la), .second, .val (.long lb), .second, .val (.long lc), .second, .val (.long ld), .second, .val (.int ca), .val (.int cb), .unset, .unset, .unset, .unset, .unset, .unset, .unset, .unset, .unset, .unset, .unset, .unset, .unset] [(.int (24 : Int32)), (.int t0)])) rfl (by rw [hml]; rfl) (argsL := [(.int t0), (.int (24 : Int32))]) (rest := []) (lenOf pd_10 rfl) rfl (by show 2 * 0 + _ ≤ _; exact Nat.le_of_eq rfl) (hb hby at_209) (fun _ _ => ⟨rfl, e_116, (by decide : 0 + 0 ≤ _), (by decide : 0 + 0 ≤ _)⟩)
                    dsimp only [Pt.U, Pt.locs, Pt.cells, Pt.slots, Nat.add_zero] at X_129 l_129 y_129 z_129 st_129 hQ_129
                    subst y_129 z_129
                    obtain ⟨Nq_129, e_129, b24, rfl, hb24⟩ := hQ_129
                    replace Nf := own_frEq l_129 (Fr.app Nf Nq_129)
                    clear l_129
                    refine Win.go st_129 ?_
                    clear st_129 Nq_129 X_116 e_116
                    show Win p.tables e below _ (T_129.setTop (mkF m 212 #[.val (.int s0), .val (.int t0), .val (.long q2), .second, .val (.long q4), .second, .val (.long q6), .second, .val (.long q8), .second, .val (.int ch1), .val (.int ch2), .val (.int al), .val (.int af), .val (.int bf), .val (.int fa), .val (.int fb), .val (.long la), .second, .val (.long lb), .second, .val (.long lc), .second, .val (.long ld), .second, .val (.int ca), .val (.int cb), .unset, .unset, .unset, .unset, .unset, .unset, .unset, .unset, .unset, .unset, .unset, .unset, .unset] [(.int b24)]))
                    exact J212 _ _ X_129 e_129 Nf b24 (by assumption)
                  · skip
                    refine s_ifNo (pc' := 201) X_116.here hx (hb hby at_198) rfl ((if0 _ _).trans (feqI (x := bt2) (y := (0 : Int32)) hc198).1) ?_
                    refine s_iload (pc' := 203) X_116.here hx (hb hby at_201) rfl rfl ?_
                    refine s_goto (pc' := 212) X_116.here hx (hb hby at_203) (by decide) (by decide) ?_
                    exact J212 _ _ X_116 e_116 Nf al (by assumption)
                by_cases hc174 : (bt1).toInt = (0 : Int)
                · skip
                  refine s_ifYes (pc' := 182) X_115.here hx (hb hby at_174) ((if0 _ _).trans (teqI (x := bt1) (y := (0 : Int32)) hc174).1) (by decide) (by decide) ?_
                  refine s_iloadN (pc' := 183) X_115.here hx (hb hby at_182) rfl rfl ?_
                  refine s_bipush (pc' := 185) (z := (16 : Int32)) X_115.here hx (hb hby at_183) rfl rfl ?_
                  refine Win.go (fun _ k => XT.iushr X_115.here hx rfl (hb hby at_185) rfl k) ?_
                  show Win p.tables e below _ (T_115.setTop (mkF m 186 #[.val (.int s0), .val (.int t0), .val (.long q2), .second, .val (.long q4), .second, .val (.long q6), .second, .val (.long q8), .second, .val (.int ch1), .val (.int ch2), .val (.int al), .val (.int af), .val (.int bf), .val (.int fa), .val (.int fb), .val (.long la), .second, .val (.long lb), .second, .val (.long lc), .second, .val (.long ld), .second, .val (.int ca), .unset, .unset, .unset, .unset, .unset, .unset, .unset, .unset, .unset, .unset, .unset, .unset, .unset, .unset] [(.int (XT.ushr t0 (16 : Int32)))]))
                  refine s_sipush (pc' := 189) (z := (255 : Int32)) X_115.here hx (hb hby at_186) rfl rfl ?_
                  refine s_iand (pc' := 190) X_115.here hx (hb hby at_189) rfl ?_
                  refine Win.go (fun _ k => XS.i2c X_115.here hx rfl (hb hby at_190) rfl k) ?_
                  show Win p.tables e below _ (T_115.setTop (mkF m 191 #[.val (.int s0), .val (.int t0), .val (.long q2), .second, .val (.long q4), .second, .val (.long q6), .second, .val (.long q8), .second, .val (.int ch1), .val (.int ch2), .val (.int al), .val (.int af), .val (.int bf), .val (.int fa), .val (.int fb), .val (.long la), .second, .val (.long lb), .second, .val (.long lc), .second, .val (.long ld), .second, .val (.int ca), .unset, .unset, .unset, .unset, .unset, .unset, .unset, .unset, .unset, .unset, .unset, .unset, .unset, .unset] [(.int (((XT.ushr t0 (16 : Int32)) &&& (255 : Int32)).toUInt32.toUInt16.toUInt32.toInt32))]))
                  exact J191 (((XT.ushr t0 (16 : Int32)) &&& (255 : Int32)).toUInt32.toUInt16.toUInt32.toInt32) (by exact own_ch _ _ rfl)
                · skip
                  refine s_ifNo (pc' := 177) X_115.here hx (hb hby at_174) rfl ((if0 _ _).trans (feqI (x := bt1) (y := (0 : Int32)) hc174).1) ?_
                  refine s_iload (pc' := 179) X_115.here hx (hb hby at_177) rfl rfl ?_
                  refine s_goto (pc' := 191) X_115.here hx (hb hby at_179) (by decide) (by decide) ?_
                  exact J191 ch2 (by exact bch2)
              by_cases hc150 : (bt0).toInt = (0 : Int)
              · skip
                refine s_ifYes (pc' := 158) X_114.here hx (hb hby at_150) ((if0 _ _).trans (teqI (x := bt0) (y := (0 : Int32)) hc150).1) (by decide) (by decide) ?_
                refine s_iloadN (pc' := 159) X_114.here hx (hb hby at_158) rfl rfl ?_
                refine s_bipush (pc' := 161) (z := (8 : Int32)) X_114.here hx (hb hby at_159) rfl rfl ?_
                refine Win.go (fun _ k => XT.iushr X_114.here hx rfl (hb hby at_161) rfl k) ?_
                show Win p.tables e below _ (T_114.setTop (mkF m 162 #[.val (.int s0), .val (.int t0), .val (.long q2), .second, .val (.long q4), .second, .val (.long q6), .second, .val (.long q8), .second, .val (.int ch1), .val (.int ch2), .val (.int al), .val (.int af), .val (.int bf), .val (.int fa), .val (.int fb), .val (.long la), .second, .val (.long lb), .second, .val (.long lc), .second, .val (.long ld), .second, .unset, .unset, .unset, .unset, .unset, .unset, .unset, .unset, .unset, .unset, .unset, .unset, .unset, .unset, .unset] [(.int (XT.ushr t0 (8 : Int32)))]))
                refine s_sipush (pc' := 165) (z := (255 : Int32)) X_114.here hx (hb hby at_162) rfl rfl ?_
                refine s_iand (pc' := 166) X_114.here hx (hb hby at_165) rfl ?_
                refine Win.go (fun _ k => XS.i2c X_114.here hx rfl (hb hby at_166) rfl k) ?_
                show Win p.tables e below _ (T_114.setTop (mkF m 167 #[.val (.int s0), .val (.int t0), .val (.long q2), .second, .val (.long q4), .second, .val (.long q6), .second, .val (.long q8), .second, .val (.int ch1), .val (.int ch2), .val (.int al), .val (.int af), .val (.int bf), .val (.int fa), .val (.int fb), .val (.long la), .second, .val (.long lb), .second, .val (.long lc), .second, .val (.long ld), .second, .unset, .unset, .unset, .unset, .unset, .unset, .unset, .unset, .unset, .unset, .unset, .unset, .unset, .unset, .unset] [(.int (((XT.ushr t0 (8 : Int32)) &&& (255 : Int32)).toUInt32.toUInt16.toUInt32.toInt32))]))
                exact J167 (((XT.ushr t0 (8 : Int32)) &&& (255 : Int32)).toUInt32.toUInt16.toUInt32.toInt32) (by exact own_ch _ _ rfl)
              · skip
                refine s_ifNo (pc' := 153) X_114.here hx (hb hby at_150) rfl ((if0 _ _).trans (feqI (x := bt0) (y := (0 : Int32)) hc150).1) ?_
                refine s_iload (pc' := 155) X_114.here hx (hb hby at_153) rfl rfl ?_
                refine s_goto (pc' := 167) X_114.here hx (hb hby at_155) (by decide) (by decide) ?_
                exact J167 ch1 (by exact bch1)
            refine s_iload (pc' := 125) XJ83.here hx (hb hby at_123) rfl rfl ?_
            by_cases hc125 : (fa).toInt = (0 : Int)
            · skip
              refine s_ifYes (pc' := 141) XJ83.here hx (hb hby at_125) ((if0 _ _).trans (teqI (x := fa) (y := (0 : Int32)) hc125).1) (by decide) (by decide) ?_
              refine s_lload (pc' := 143) XJ83.here hx (hb hby at_141) rfl rfl ?_
              exact J143 q8 (by exact Or.inl hc125)
            · skip
              refine s_ifNo (pc' := 128) XJ83.here hx (hb hby at_125) rfl ((if0 _ _).trans (feqI (x := fa) (y := (0 : Int32)) hc125).1) ?_
              refine s_iload (pc' := 130) XJ83.here hx (hb hby at_128) rfl rfl ?_
              by_cases hc130 : (al).toInt = (0 : Int)
              · skip
                refine s_ifYes (pc' := 137) XJ83.here hx (hb hby at_130) ((if0 _ _).trans (teqI (x := al) (y := (0 : Int32)) hc130).1) (by decide) (by decide) ?_
                refine s_lconst (pc' := 138) (z := (1 : Int64)) XJ83.here hx (hb hby at_137) rfl rfl ?_
                refine s_goto (pc' := 143) XJ83.here hx (hb hby at_138) (by decide) (by decide) ?_
                exact J143 (1 : Int64) (by exact Or.inr ⟨fun _ => rfl, fun h => absurd hc130 h⟩)
              · skip
                refine s_ifNo (pc' := 133) XJ83.here hx (hb hby at_130) rfl ((if0 _ _).trans (feqI (x := al) (y := (0 : Int32)) hc130).1) ?_
                refine s_lconst (pc' := 134) (z := (0 : Int64)) XJ83.here hx (hb hby at_133) rfl rfl ?_
                refine s_goto (pc' := 143) XJ83.here hx (hb hby at_134) (by decide) (by decide) ?_
                exact J143 (0 : Int64) (by exact Or.inr ⟨fun h => absurd h hc130, fun _ => rfl⟩)
          refine s_iload (pc' := 112) XJ83.here hx (hb hby at_110) rfl rfl ?_
          by_cases hc112 : (fa).toInt = (0 : Int)
          · skip
            refine s_ifYes (pc' := 119) XJ83.here hx (hb hby at_112) ((if0 _ _).trans (teqI (x := fa) (y := (0 : Int32)) hc112).1) (by decide) (by decide) ?_
            refine s_lload (pc' := 121) XJ83.here hx (hb hby at_119) rfl rfl ?_
            exact J121 q6 (by exact Or.inl hc112)
          · skip
            refine s_ifNo (pc' := 115) XJ83.here hx (hb hby at_112) rfl ((if0 _ _).trans (feqI (x := fa) (y := (0 : Int32)) hc112).1) ?_
            refine s_lconst (pc' := 116) (z := (0 : Int64)) XJ83.here hx (hb hby at_115) rfl rfl ?_
            refine s_goto (pc' := 121) XJ83.here hx (hb hby at_116) (by decide) (by decide) ?_
            exact J121 (0 : Int64) (by exact Or.inr rfl)
        refine s_iload (pc' := 99) XJ83.here hx (hb hby at_97) rfl rfl ?_
        by_cases hc99 : (fa).toInt = (0 : Int)
        · skip
          refine s_ifYes (pc' := 106) XJ83.here hx (hb hby at_99) ((if0 _ _).trans (teqI (x := fa) (y := (0 : Int32)) hc99).1) (by decide) (by decide) ?_
          refine s_lload (pc' := 108) XJ83.here hx (hb hby at_106) rfl rfl ?_
          exact J108 q4 (by exact Or.inl hc99)
        · skip
          refine s_ifNo (pc' := 102) XJ83.here hx (hb hby at_99) rfl ((if0 _ _).trans (feqI (x := fa) (y := (0 : Int32)) hc99).1) ?_
          refine s_lconst (pc' := 103) (z := (0 : Int64)) XJ83.here hx (hb hby at_102) rfl rfl ?_
          refine s_goto (pc' := 108) XJ83.here hx (hb hby at_103) (by decide) (by decide) ?_
          exact J108 (0 : Int64) (by exact Or.inr rfl)
      refine s_iload (pc' := 87) XJ83.here hx (hb hby at_85) rfl rfl ?_
      by_cases hc87 : (fa).toInt = (0 : Int)
      · skip
        refine s_ifYes (pc' := 94) XJ83.here hx (hb hby at_87) ((if0 _ _).trans (teqI (x := fa) (y := (0 : Int32)) hc87).1) (by decide) (by decide) ?_
        refine s_lloadN (pc' := 95) XJ83.here hx (hb hby at_94) rfl rfl ?_
        exact J95 q2 (by exact Or.inl hc87)
      · skip
        refine s_ifNo (pc' := 90) XJ83.here hx (hb hby at_87) rfl ((if0 _ _).trans (feqI (x := fa) (y := (0 : Int32)) hc87).1) ?_
        refine s_lconst (pc' := 91) (z := (0 : Int64)) XJ83.here hx (hb hby at_90) rfl rfl ?_
        refine s_goto (pc' := 95) XJ83.here hx (hb hby at_91) (by decide) (by decide) ?_
        exact J95 (0 : Int64) (by exact Or.inr rfl)
    refine s_iload (pc' := 66) XJ62.here hx (hb hby at_64) rfl rfl ?_
    by_cases hc66 : (bf).toInt = (0 : Int)
    · skip
      refine s_ifNo (pc' := 69) XJ62.here hx (hb hby at_66) rfl ((if0 _ _).trans (teqI (x := bf) (y := (0 : Int32)) hc66).2) ?_
      refine s_iloadN (pc' := 70) XJ62.here hx (hb hby at_69) rfl rfl ?_
      refine s_bipush (pc' := 72) (z := (20 : Int32)) XJ62.here hx (hb hby at_70) rfl rfl ?_
      obtain ⟨_, _, ⟨T_130, L_130, k_130, n_130⟩, -, X_130, ⟨Lc_130, hQ_130, l_130, y_130, z_130⟩, st_130⟩ := Jvm.LawKit.callS XJ62 hx (y := (⟨"com/example/throttle/throttle/DecisionEqualsPinLaw", "bit", "(II)Z"⟩ : MethodName)) hown (mvT hZ (hw _ (List.mem_of_getElem? (i := 0) rfl))) (mvT hZ (hw _ (List.mem_of_getElem? (i := 1) rfl))) (mvT hZ (hw _ (List.mem_of_getElem? (i := 2) rfl))) (mvT hZ (hw _ (List.mem_of_getElem? (i := 3) rfl))) (by decide) (backOf (W := 0) (rm1 l Z a0 hw [] s0 (20 : Int32) h0 n0 Zs ) hZ (hw _ (List.mem_of_getElem? (i := 3) rfl)) (hw _ (List.mem_of_getElem? (i := 2) rfl)) (by decide) (by decide)) (g := (mkF m 72 #[.val (.int s0), .val (.int t0), .val (.long q2), .second, .val (.long q4), .second, .val (.long q6), .second, .val (.long q8), .second, .val (.int ch1), .val (.int ch2), .val (.int al), .val (.int af), .val (.int bf), .val (.int fa), .unset, .unset, .unset, .unset, .unset, .unset, .unset, .unset, .unset, .unset, .unset, .unset, .unset, .unset, .unset, .unset, .unset, .unset, .unset, .unset, .unset, .unset, .unset, .unset] [(.int (20 : Int32)), (.int s0)])) rfl (by rw [hml]; rfl) (argsL := [(.int s0), (.int (20 : Int32))]) (rest := []) (lenOf pd_10 rfl) rfl (by show 2 * 0 + _ ≤ _; exact Nat.le_of_eq rfl) (hb hby at_72) (fun _ _ => ⟨rfl, eJ62, (by decide : 0 + 0 ≤ _), (by decide : 0 + 0 ≤ _)⟩)
      dsimp only [Pt.U, Pt.locs, Pt.cells, Pt.slots, Nat.add_zero] at X_130 l_130 y_130 z_130 st_130 hQ_130
      subst y_130 z_130
      obtain ⟨Nq_130, e_130, b20, rfl, hb20⟩ := hQ_130
      replace Nf := own_frEq l_130 (Fr.app Nf Nq_130)
      clear l_130
      refine Win.go st_130 ?_
      clear st_130 Nq_130 XJ62 eJ62
      show Win p.tables e below _ (T_130.setTop (mkF m 75 #[.val (.int s0), .val (.int t0), .val (.long q2), .second, .val (.long q4), .second, .val (.long q6), .second, .val (.long q8), .second, .val (.int ch1), .val (.int ch2), .val (.int al), .val (.int af), .val (.int bf), .val (.int fa), .unset, .unset, .unset, .unset, .unset, .unset, .unset, .unset, .unset, .unset, .unset, .unset, .unset, .unset, .unset, .unset, .unset, .unset, .unset, .unset, .unset, .unset, .unset, .unset] [(.int b20)]))
      by_cases hc75 : (b20).toInt = (0 : Int)
      · skip
        refine s_ifYes (pc' := 82) X_130.here hx (hb hby at_75) ((if0 _ _).trans (teqI (x := b20) (y := (0 : Int32)) hc75).1) (by decide) (by decide) ?_
        refine s_iconst (pc' := 83) (z := (0 : Int32)) X_130.here hx (hb hby at_82) rfl rfl ?_
        exact J83 _ _ X_130 e_130 Nf (0 : Int32) (by exact fun _ => hc66)
      · skip
        refine s_ifNo (pc' := 78) X_130.here hx (hb hby at_75) rfl ((if0 _ _).trans (feqI (x := b20) (y := (0 : Int32)) hc75).1) ?_
        refine s_iconst (pc' := 79) (z := (1 : Int32)) X_130.here hx (hb hby at_78) rfl rfl ?_
        refine s_goto (pc' := 83) X_130.here hx (hb hby at_79) (by decide) (by decide) ?_
        exact J83 _ _ X_130 e_130 Nf (1 : Int32) (by exact fun h => absurd h (by decide))
    · skip
      refine s_ifYes (pc' := 78) XJ62.here hx (hb hby at_66) ((if0 _ _).trans (feqI (x := bf) (y := (0 : Int32)) hc66).2) (by decide) (by decide) ?_
      refine s_iconst (pc' := 79) (z := (1 : Int32)) XJ62.here hx (hb hby at_78) rfl rfl ?_
      refine s_goto (pc' := 83) XJ62.here hx (hb hby at_79) (by decide) (by decide) ?_
      exact J83 _ _ XJ62 eJ62 Nf (1 : Int32) (by exact fun h => absurd h (by decide))
  refine s_iload (pc' := 45) X_113.here hx (hb hby at_43) rfl rfl ?_
  by_cases hc45 : (af).toInt = (0 : Int)
  · skip
    refine s_ifNo (pc' := 48) X_113.here hx (hb hby at_45) rfl ((if0 _ _).trans (teqI (x := af) (y := (0 : Int32)) hc45).2) ?_
    refine s_iloadN (pc' := 49) X_113.here hx (hb hby at_48) rfl rfl ?_
    refine s_bipush (pc' := 51) (z := (19 : Int32)) X_113.here hx (hb hby at_49) rfl rfl ?_
    obtain ⟨_, _, ⟨T_131, L_131, k_131, n_131⟩, -, X_131, ⟨Lc_131, hQ_131, l_131, y_131, z_131⟩, st_131⟩ := Jvm.LawKit.callS X_113 hx (y := (⟨"com/example/throttle/throttle/DecisionEqualsPinLaw", "bit", "(II)Z"⟩ : MethodName)) hown (mvT hZ (hw _ (List.mem_of_getElem? (i := 0) rfl))) (mvT hZ (hw _ (List.mem_of_getElem? (i := 1) rfl))) (mvT hZ (hw _ (List.mem_of_getElem? (i := 2) rfl))) (mvT hZ (hw _ (List.mem_of_getElem? (i := 3) rfl))) (by decide) (backOf (W := 0) (rm1 l Z a0 hw [] s0 (19 : Int32) h0 n0 Zs ) hZ (hw _ (List.mem_of_getElem? (i := 3) rfl)) (hw _ (List.mem_of_getElem? (i := 2) rfl)) (by decide) (by decide)) (g := (mkF m 51 #[.val (.int s0), .val (.int t0), .val (.long q2), .second, .val (.long q4), .second, .val (.long q6), .second, .val (.long q8), .second, .val (.int ch1), .val (.int ch2), .val (.int al), .val (.int af), .val (.int bf), .unset, .unset, .unset, .unset, .unset, .unset, .unset, .unset, .unset, .unset, .unset, .unset, .unset, .unset, .unset, .unset, .unset, .unset, .unset, .unset, .unset, .unset, .unset, .unset, .unset] [(.int (19 : Int32)), (.int s0)])) rfl (by rw [hml]; rfl) (argsL := [(.int s0), (.int (19 : Int32))]) (rest := []) (lenOf pd_10 rfl) rfl (by show 2 * 0 + _ ≤ _; exact Nat.le_of_eq rfl) (hb hby at_51) (fun _ _ => ⟨rfl, e_113, (by decide : 0 + 0 ≤ _), (by decide : 0 + 0 ≤ _)⟩)
    dsimp only [Pt.U, Pt.locs, Pt.cells, Pt.slots, Nat.add_zero] at X_131 l_131 y_131 z_131 st_131 hQ_131
    subst y_131 z_131
    obtain ⟨Nq_131, e_131, b19, rfl, hb19⟩ := hQ_131
    replace Nf := own_frEq l_131 (Fr.app Nf Nq_131)
    clear l_131
    refine Win.go st_131 ?_
    clear st_131 Nq_131 X_113 e_113
    show Win p.tables e below _ (T_131.setTop (mkF m 54 #[.val (.int s0), .val (.int t0), .val (.long q2), .second, .val (.long q4), .second, .val (.long q6), .second, .val (.long q8), .second, .val (.int ch1), .val (.int ch2), .val (.int al), .val (.int af), .val (.int bf), .unset, .unset, .unset, .unset, .unset, .unset, .unset, .unset, .unset, .unset, .unset, .unset, .unset, .unset, .unset, .unset, .unset, .unset, .unset, .unset, .unset, .unset, .unset, .unset, .unset] [(.int b19)]))
    by_cases hc54 : (b19).toInt = (0 : Int)
    · skip
      refine s_ifYes (pc' := 61) X_131.here hx (hb hby at_54) ((if0 _ _).trans (teqI (x := b19) (y := (0 : Int32)) hc54).1) (by decide) (by decide) ?_
      refine s_iconst (pc' := 62) (z := (0 : Int32)) X_131.here hx (hb hby at_61) rfl rfl ?_
      exact J62 _ _ X_131 e_131 Nf (0 : Int32) (by exact fun _ => hc45)
    · skip
      refine s_ifNo (pc' := 57) X_131.here hx (hb hby at_54) rfl ((if0 _ _).trans (feqI (x := b19) (y := (0 : Int32)) hc54).1) ?_
      refine s_iconst (pc' := 58) (z := (1 : Int32)) X_131.here hx (hb hby at_57) rfl rfl ?_
      refine s_goto (pc' := 62) X_131.here hx (hb hby at_58) (by decide) (by decide) ?_
      exact J62 _ _ X_131 e_131 Nf (1 : Int32) (by exact fun h => absurd h (by decide))
  · skip
    refine s_ifYes (pc' := 57) X_113.here hx (hb hby at_45) ((if0 _ _).trans (feqI (x := af) (y := (0 : Int32)) hc45).2) (by decide) (by decide) ?_
    refine s_iconst (pc' := 58) (z := (1 : Int32)) X_113.here hx (hb hby at_57) rfl rfl ?_
    refine s_goto (pc' := 62) X_113.here hx (hb hby at_58) (by decide) (by decide) ?_
    exact J62 _ _ X_113 e_113 Nf (1 : Int32) (by exact fun h => absurd h (by decide))
set_option maxRecDepth 65536 in
set_option maxHeartbeats 40000000 in
theorem comes_1 {Post : Tables → Env → Array Value → State → Outcome → State → Prop} (hpost : ∀ tb e args s v u, (limb_1_1.after args s (.returned v) u = true ∧ limb_1_2.after args s (.returned v) u = true ∧ True) → FrameEnd s (.returned v) u (Jvm.fieldLocs frame_1_writes args s ++ Jvm.arrayLocs frame_1_arrays args s ++ Jvm.staticLocs frame_1_statics s) 32 192 → Post tb e args s (.returned v) u) :
    ArmFor flags0 classFile x code maxLocals ret World_1 tables_1 room_1 Calls_1 rest_1 Pre_1 Post := by
  intro l hfl _ _ p e ha hc hk s m args below hf hA hF happ hP
  obtain ⟨hcalls, hrest, hpre⟩ := hP
  obtain ⟨-, -, -, hnamed, -, -, -, hat⟩ := (Spec.applies_iff hf).mp happ
  obtain ⟨hg, hn⟩ := and_e (Cond.before_iff.mp (show (Jvm.Cond.and given_1 narrow_1).before args s = true from hpre))
  obtain ⟨g1, g2⟩ := and_e hg
  obtain ⟨g3, g4⟩ := and_e g2
  obtain ⟨g5, g6⟩ := and_e g4
  obtain ⟨g7, g8⟩ := and_e g6
  obtain ⟨g9, g10⟩ := and_e g8
  obtain ⟨g11, g12⟩ := and_e g10
  obtain ⟨w0, w1, w2, w3, w4, w5, rfl⟩ : ∃ w0 w1 w2 w3 w4 w5 : Value, args = #[w0, w1, w2, w3, w4, w5] := by
    have hs : args.size = 6 := by simpa [Cond.value, given_1] using g1
    obtain ⟨L⟩ := args
    match L, hs with
    | [w0, w1, w2, w3, w4, w5], _ => exact ⟨w0, w1, w2, w3, w4, w5, rfl⟩
  have hw := fun d (hd : d ∈ tables_1) => atoms_spec (ws := Jvm.Cond.code x code maxLocals ret :: tables_1) hat d (List.mem_cons_of_mem _ hd)
  have hfit : Fit s := fun {y c} hc i hi => by
    obtain ⟨ha, rfl⟩ := Array.getElem?_eq_some_iff.mp hc
    have q := List.all_eq_true.mp ((Array.all_eq_true_iff_forall_mem.mp hF) _ (Array.getElem_mem ha)) i (List.mem_range.mpr hi)
    simpa [Array.getElem?_eq_getElem hi] using q
  obtain ⟨hsets, hown0⟩ := atoms_of _ (rest_1_c_eq ▸ (show rest_1_c.before _ s = true from hrest))
  have hr0 := Cond.before_iff.mp hown0
  obtain ⟨i0, ei0⟩ := is_v g3
  obtain rfl : w0 = (.int i0) := Option.some.inj ei0
  obtain ⟨i1, ei1⟩ := is_v g5
  obtain rfl : w1 = (.int i1) := Option.some.inj ei1
  obtain ⟨i2, ei2⟩ := isL_v g7
  obtain rfl : w2 = (.long i2) := Option.some.inj ei2
  obtain ⟨i3, ei3⟩ := isL_v g9
  obtain rfl : w3 = (.long i3) := Option.some.inj ei3
  obtain ⟨i4, ei4⟩ := isL_v g11
  obtain rfl : w4 = (.long i4) := Option.some.inj ei4
  obtain ⟨i5, ei5⟩ := isL_v g12
  obtain rfl : w5 = (.long i5) := Option.some.inj ei5
  obtain ⟨nA, nB⟩ := and_e hn
  obtain ⟨nC, nD⟩ := and_e nB
  obtain ⟨nE, nF⟩ := and_e nD
  obtain ⟨ud, -, -, -, evd, -⟩ := Cond.exactly_spec (Cond.before_iff.mpr nA)
  obtain ⟨ua, -, -, -, eva, -⟩ := Cond.exactly_spec (Cond.before_iff.mpr nE)
  obtain ⟨cs, evc⟩ := is_v (Cond.before_iff.mp (hsets _ (List.mem_of_getElem? (i := 1) rfl)))
  have SC := Sta.start evc (Or.inl (hsets _ (List.mem_of_getElem? (i := 0) rfl)))
  have hcs : ¬ cs.toInt = 0 := fun q => gotF (Cond.eq_ints evc (Term.int_eval (0))) (not_v (Cond.before_iff.mp (hsets _ (List.mem_of_getElem? (i := 2) rfl)))) (Int32.toInt_inj.mp q)
  have SD := Sta.start evd (Or.inr ⟨(hw _ (List.mem_of_getElem? (i := 74) rfl)), (hw _ (List.mem_of_getElem? (i := 75) rfl))⟩)
  have SA := Sta.start eva (Or.inr ⟨(hw _ (List.mem_of_getElem? (i := 74) rfl)), (hw _ (List.mem_of_getElem? (i := 90) rfl))⟩)
  have Ed := Exa.start evd nA
  have Ea := Exa.start eva nE
  have Fd := own_fld evd (eqv_i (Term.int_eval (0)) nC)
  have Fa := own_fld eva (eqv_i (Term.int_eval (1)) nF)
  obtain ⟨n, o, h1, h2, h3, _, L, rfl, ⟨N, rfl⟩, hq⟩ := rm0 l s _ hw tables_1 i0 i1 i2 i3 i4 i5 cs ua ud s.heap s.heap.size (Nat.le_refl _) SC hcs SA SD Ea Fa Ed Fd p e ha hc hk s m _ below hf ((Spec.applies_iff_loose hf).mp happ).1 ⟨rfl, State.Warmed39.refl s, rfl⟩ trivial
  refine ⟨n, _, h1, h2, h3, hpost _ _ _ _ _ _ ⟨Cond.after_iff.mpr rfl, Cond.after_iff.mpr (eq_i res_at (Term.int_eval (1)) rfl), trivial⟩ ⟨hq.1, hq.2.1, (hq.2.2.sift fun y hy => Or.inr (N y hy)).mono (by decide) (by decide)⟩⟩
theorem main_1_1 : Claimed_1_1 := comes_1 fun _ _ _ _ _ _ h hF => ⟨h.1, hF⟩
theorem main_1_2 : Claimed_1_2 := comes_1 fun _ _ _ _ _ _ h hF => ⟨h.2.1, hF⟩
end Jvm.Pilot.@@N@@
namespace Jvm.Pilot.@@N@@
open Jvm Jvm.ClassFile Sem Op Lib Jvm.Free Jvm.Stand Jvm.Pilot.@@N@@.Jvm.D
/-! MADE BY PROGRAM (witnessworld.py) out of the Statement's table words and the real class files: 19 classes; the members and pool entries that the words name. The judged class is class 1, her method 3. -/
namespace start1
open Jvm.ClassFile
def u (s : String) : CpInfo := .utf8 (stringToUtf16 s)
/-- a pool by its gaps: so many unusable entries, then the entry; so many at the end -/
def gap : Nat → List CpInfo → List CpInfo
  | 0, r => r
  | n + 1, r => .unusable :: gap n r
def poolList (es : List (Nat × CpInfo)) (last : Nat) : List CpInfo := es.foldr (fun e r => gap e.1 (e.2 :: r)) (gap last [])
def pool (es : List (Nat × CpInfo)) (last : Nat) : Array CpInfo := ⟨poolList es last⟩
def fileOf (pool : Array CpInfo) (this : Nat) (attrs : Array Attribute := #[]) (ms : Array MethodInfo := #[]) (fl : Nat := 33) (sup : Nat := 0) (ifs : Array Nat := #[]) (fds : Array FieldInfo := #[]) : ClassFile where
  minorVersion := 0
  majorVersion := 65
  constantPool := pool
  accessFlags := fl
  thisClass := this
  superClass := sup
  interfaces := ifs
  fields := fds
  methods := ms
  attributes := attrs
def plain (name : String) (sup : Option ClassId) : Class where
  name := name
  kind := .ordinary
  loader := none
  accessFlags := 33
  super := sup
  interfaces := #[]
  cf := none
  fields := #[]
  methods := #[]
  instanceTypes := #[]
  staticTypes := #[]
  resolved := #[]
  callSites := []
  init := .initialized
  statics := none
  mirror := none

def pool0 : Array CpInfo := pool [(5, u "<init>"), (0, u "()V"), (1, .class_ 10), (1, u "java/lang/Object")] 113

def k0c0 : Code := { maxStack := 0, maxLocals := 1, code := object_method_1_code, exceptionTable := #[], attributes := #[] }
def k0m0 : Method := { name := "<init>", desc := "()V", sig := { parameters := [], returnType := none }, accessFlags := 1, code := some k0c0 }
/-- java/lang/Object -/
def k0 : Class := { plain "java/lang/Object" none with
  accessFlags := 33
  interfaces := #[]
  cf := some (fileOf pool0 8 #[] #[{ accessFlags := 1, nameIndex := 5, descriptorIndex := 6, attributes := #[] }] 33 0 #[] #[])
  fields := #[]
  methods := #[k0m0]
  instanceTypes := #[]
  staticTypes := #[]
  resolved := Array.replicate 124 none
  statics := none }

def pool1 : Array CpInfo := pool [(2, .class_ 4), (1, u "java/lang/Object"), (0, u "<init>"), (0, u "()V"), (0, .methodref 8 9), (0, .class_ 10), (0, .nameAndType 11 12), (0, u "java/lang/String"), (0, u "valueOf"), (0, u "(C)Ljava/lang/String;"), (0, .fieldref 14 15), (0, .class_ 16), (0, .nameAndType 17 18), (0, u "com/example/throttle/throttle/OnStoreFailure"), (0, u "ALLOW"), (0, u "Lcom/example/throttle/throttle/OnStoreFailure;"), (0, .fieldref 14 20), (0, .nameAndType 21 18), (0, u "DENY"), (0, .methodref 23 24), (0, .class_ 25), (0, .nameAndType 26 27), (0, u "com/example/throttle/throttle/Decision"), (0, u "onStoreFailure"), (0, u "(Ljava/lang/String;Ljava/lang/String;Lcom/example/throttle/throttle/OnStoreFailure;)Lcom/example/throttle/throttle/Decision;"), (0, .methodref 23 29), (0, .nameAndType 5 30), (0, u "(Ljava/lang/String;Ljava/lang/String;ZJJJJ)V"), (0, .methodref 32 33), (0, .class_ 34), (0, .nameAndType 35 36), (0, u "com/example/throttle/throttle/DecisionEqualsPinLaw"), (0, u "bit"), (0, u "(II)Z"), (0, .methodref 32 38), (0, .nameAndType 39 40), (0, u "make"), (0, u "(CCZZJJJJ)Lcom/example/throttle/throttle/Decision;"), (0, .methodref 23 42), (0, .nameAndType 43 44), (0, u "equals"), (0, u "(Ljava/lang/Object;)Z"), (3, u "law"), (0, u "(IIJJJJ)Z")] 2

def k1m0 : Method := { name := "<init>", desc := "()V", sig := { parameters := [], returnType := none }, accessFlags := 1, code := none }
def k1c1 : Code := { maxStack := 2, maxLocals := 2, code := method_2_code, exceptionTable := #[], attributes := #[] }
def k1m1 : Method := { name := "bit", desc := "(II)Z", sig := { parameters := [.int, .int], returnType := some .boolean }, accessFlags := 10, code := some k1c1 }
def k1c2 : Code := { maxStack := 13, maxLocals := 12, code := method_3_code, exceptionTable := #[], attributes := #[] }
def k1m2 : Method := { name := "make", desc := "(CCZZJJJJ)Lcom/example/throttle/throttle/Decision;", sig := { parameters := [.char, .char, .boolean, .boolean, .long, .long, .long, .long], returnType := some (.object "com/example/throttle/throttle/Decision") }, accessFlags := 10, code := some k1c2 }
def k1c3 : Code := { maxStack := 12, maxLocals := 40, code := code, exceptionTable := #[], attributes := #[] }
def k1m3 : Method := { name := "law", desc := "(IIJJJJ)Z", sig := { parameters := [.int, .int, .long, .long, .long, .long], returnType := some .boolean }, accessFlags := 9, code := some k1c3 }
/-- com/example/throttle/throttle/DecisionEqualsPinLaw -/
def k1 : Class := { plain "com/example/throttle/throttle/DecisionEqualsPinLaw" (some 0) with
  accessFlags := 49
  interfaces := #[]
  cf := some (fileOf pool1 32 #[] #[{ accessFlags := 1, nameIndex := 5, descriptorIndex := 6, attributes := #[] }, { accessFlags := 10, nameIndex := 35, descriptorIndex := 36, attributes := #[] }, { accessFlags := 10, nameIndex := 39, descriptorIndex := 40, attributes := #[] }, { accessFlags := 9, nameIndex := 48, descriptorIndex := 49, attributes := #[] }] 49 2 #[] #[])
  fields := #[]
  methods := #[k1m0, k1m1, k1m2, k1m3]
  instanceTypes := #[]
  staticTypes := #[]
  resolved := Array.replicate 52 none
  statics := none }

def pool2 : Array CpInfo := pool [(1, .methodref 2 3), (0, .class_ 4), (0, .nameAndType 5 6), (0, u "java/lang/Object"), (0, u "<init>"), (0, u "()V"), (0, .fieldref 8 9), (0, .class_ 10), (0, .nameAndType 11 12), (0, u "com/example/throttle/throttle/Decision"), (0, u "rule"), (0, u "Ljava/lang/String;"), (0, .fieldref 8 14), (0, .nameAndType 15 12), (0, u "key"), (0, .fieldref 8 17), (0, .nameAndType 18 19), (0, u "allowed"), (0, u "Z"), (0, .fieldref 8 21), (0, .nameAndType 22 23), (0, u "limit"), (0, u "J"), (0, .fieldref 8 25), (0, .nameAndType 26 23), (0, u "remaining"), (0, .fieldref 8 28), (0, .nameAndType 29 23), (0, u "reset"), (0, .fieldref 8 31), (0, .nameAndType 32 23), (0, u "retryAfter"), (0, .fieldref 8 34), (0, .nameAndType 35 19), (0, u "storeAnswered"), (8, u "(Ljava/lang/String;Ljava/lang/String;ZJJJJ)V"), (0, .methodref 46 47), (0, .class_ 48), (0, .nameAndType 49 50), (0, u "com/example/throttle/throttle/OnStoreFailure"), (0, u "allows"), (0, u "()Z"), (0, .methodref 8 52), (0, .nameAndType 5 53), (0, u "(Ljava/lang/String;Ljava/lang/String;Z)V"), (19, .methodref 74 75), (0, .class_ 76), (0, .nameAndType 77 78), (0, u "java/lang/String"), (0, u "equals"), (0, u "(Ljava/lang/Object;)Z"), (33, u "onStoreFailure"), (0, u "(Ljava/lang/String;Ljava/lang/String;Lcom/example/throttle/throttle/OnStoreFailure;)Lcom/example/throttle/throttle/Decision;")] 28

def k2c0 : Code := { maxStack := 3, maxLocals := 12, code := prog_7_method_1_code, exceptionTable := #[], attributes := #[] }
def k2m0 : Method := { name := "<init>", desc := "(Ljava/lang/String;Ljava/lang/String;ZJJJJ)V", sig := { parameters := [(.object "java/lang/String"), (.object "java/lang/String"), .boolean, .long, .long, .long, .long], returnType := none }, accessFlags := 1, code := some k2c0 }
def k2c1 : Code := { maxStack := 3, maxLocals := 4, code := prog_7_method_4_code, exceptionTable := #[], attributes := #[] }
def k2m1 : Method := { name := "<init>", desc := "(Ljava/lang/String;Ljava/lang/String;Z)V", sig := { parameters := [(.object "java/lang/String"), (.object "java/lang/String"), .boolean], returnType := none }, accessFlags := 2, code := some k2c1 }
def k2c2 : Code := { maxStack := 5, maxLocals := 3, code := prog_7_method_5_code, exceptionTable := #[], attributes := #[] }
def k2m2 : Method := { name := "onStoreFailure", desc := "(Ljava/lang/String;Ljava/lang/String;Lcom/example/throttle/throttle/OnStoreFailure;)Lcom/example/throttle/throttle/Decision;", sig := { parameters := [(.object "java/lang/String"), (.object "java/lang/String"), (.object "com/example/throttle/throttle/OnStoreFailure")], returnType := some (.object "com/example/throttle/throttle/Decision") }, accessFlags := 8, code := some k2c2 }
def k2c3 : Code := { maxStack := 4, maxLocals := 3, code := prog_7_method_15_code, exceptionTable := #[], attributes := #[] }
def k2m3 : Method := { name := "equals", desc := "(Ljava/lang/Object;)Z", sig := { parameters := [(.object "java/lang/Object")], returnType := some .boolean }, accessFlags := 1, code := some k2c3 }
/-- com/example/throttle/throttle/Decision -/
def k2 : Class := { plain "com/example/throttle/throttle/Decision" (some 0) with
  accessFlags := 49
  interfaces := #[]
  cf := some (fileOf pool2 8 #[] #[{ accessFlags := 1, nameIndex := 5, descriptorIndex := 44, attributes := #[] }, { accessFlags := 2, nameIndex := 5, descriptorIndex := 53, attributes := #[] }, { accessFlags := 8, nameIndex := 112, descriptorIndex := 113, attributes := #[] }, { accessFlags := 1, nameIndex := 77, descriptorIndex := 78, attributes := #[] }] 49 2 #[] #[{ accessFlags := 18, nameIndex := 11, descriptorIndex := 12, attributes := #[] }, { accessFlags := 18, nameIndex := 15, descriptorIndex := 12, attributes := #[] }, { accessFlags := 18, nameIndex := 18, descriptorIndex := 19, attributes := #[] }, { accessFlags := 18, nameIndex := 22, descriptorIndex := 23, attributes := #[] }, { accessFlags := 18, nameIndex := 26, descriptorIndex := 23, attributes := #[] }, { accessFlags := 18, nameIndex := 29, descriptorIndex := 23, attributes := #[] }, { accessFlags := 18, nameIndex := 32, descriptorIndex := 23, attributes := #[] }, { accessFlags := 18, nameIndex := 35, descriptorIndex := 19, attributes := #[] }])
  fields := #[{ name := "rule", type := (.object "java/lang/String"), accessFlags := 18, slot := 0, constantValue := 0 }, { name := "key", type := (.object "java/lang/String"), accessFlags := 18, slot := 1, constantValue := 0 }, { name := "allowed", type := .boolean, accessFlags := 18, slot := 2, constantValue := 0 }, { name := "limit", type := .long, accessFlags := 18, slot := 3, constantValue := 0 }, { name := "remaining", type := .long, accessFlags := 18, slot := 4, constantValue := 0 }, { name := "reset", type := .long, accessFlags := 18, slot := 5, constantValue := 0 }, { name := "retryAfter", type := .long, accessFlags := 18, slot := 6, constantValue := 0 }, { name := "storeAnswered", type := .boolean, accessFlags := 18, slot := 7, constantValue := 0 }]
  methods := #[k2m0, k2m1, k2m2, k2m3]
  instanceTypes := #[(.object "java/lang/String"), (.object "java/lang/String"), .boolean, .long, .long, .long, .long, .boolean]
  staticTypes := #[]
  resolved := Array.replicate 142 none
  statics := none }

def pool3 : Array CpInfo := pool [(1, .class_ 2), (0, u "java/io/Serializable"), (0, .class_ 4), (0, u "java/lang/Object")] 2

/-- java/io/Serializable -/
def k3 : Class := { plain "java/io/Serializable" (some 0) with
  accessFlags := 1537
  interfaces := #[]
  cf := some (fileOf pool3 1 #[] #[] 1537 3 #[] #[])
  fields := #[]
  methods := #[]
  instanceTypes := #[]
  staticTypes := #[]
  resolved := Array.replicate 7 none
  statics := none }

def pool4 : Array CpInfo := pool [(1, .class_ 2), (0, u "java/lang/Comparable"), (0, .class_ 4), (0, u "java/lang/Object")] 7

/-- java/lang/Comparable -/
def k4 : Class := { plain "java/lang/Comparable" (some 0) with
  accessFlags := 1537
  interfaces := #[]
  cf := some (fileOf pool4 1 #[] #[] 1537 3 #[] #[])
  fields := #[]
  methods := #[]
  instanceTypes := #[]
  staticTypes := #[]
  resolved := Array.replicate 12 none
  statics := none }

def pool5 : Array CpInfo := pool [(2, .class_ 4), (1, u "java/lang/CharSequence"), (42, .class_ 48), (0, u "java/lang/CharSequence$1CodePointIterator"), (10, .class_ 60), (0, u "java/lang/CharSequence$1CharIterator"), (5, .class_ 67), (0, u "java/lang/Object")] 63

/-- java/lang/CharSequence -/
def k5 : Class := { plain "java/lang/CharSequence" (some 0) with
  accessFlags := 1537
  interfaces := #[]
  cf := some (fileOf pool5 2 #[.nestMembers #[47, 59]] #[] 1537 66 #[] #[])
  fields := #[]
  methods := #[]
  instanceTypes := #[]
  staticTypes := #[]
  resolved := Array.replicate 131 none
  statics := none }

def pool6 : Array CpInfo := pool [(1, .class_ 2), (0, u "java/lang/constant/Constable"), (0, .class_ 4), (0, u "java/lang/Object")] 6

/-- java/lang/constant/Constable -/
def k6 : Class := { plain "java/lang/constant/Constable" (some 0) with
  accessFlags := 1537
  interfaces := #[]
  cf := some (fileOf pool6 1 #[] #[] 1537 3 #[] #[])
  fields := #[]
  methods := #[]
  instanceTypes := #[]
  staticTypes := #[]
  resolved := Array.replicate 11 none
  statics := none }

def pool7 : Array CpInfo := pool [(1, .class_ 2), (0, u "java/lang/constant/ConstantDesc"), (0, .class_ 4), (0, u "java/lang/Object")] 32

/-- java/lang/constant/ConstantDesc -/
def k7 : Class := { plain "java/lang/constant/ConstantDesc" (some 0) with
  accessFlags := 1537
  interfaces := #[]
  cf := some (fileOf pool7 1 #[] #[] 1537 3 #[] #[])
  fields := #[]
  methods := #[]
  instanceTypes := #[]
  staticTypes := #[]
  resolved := Array.replicate 37 none
  statics := none }

def pool8 : Array CpInfo := pool [(1, .methodref 2 3), (0, .class_ 4), (0, .nameAndType 5 6), (0, u "java/lang/Object"), (0, u "<init>"), (0, u "()V"), (2, .fieldref 10 11), (0, .class_ 12), (0, .nameAndType 13 14), (0, u "java/lang/String"), (0, u "value"), (0, u "[B"), (0, .fieldref 10 16), (0, .nameAndType 17 18), (0, u "coder"), (0, u "B"), (2, u "hash"), (0, u "I"), (2, u "hashIsZero"), (0, u "Z"), (11, .fieldref 10 39), (0, .nameAndType 40 26), (0, u "COMPACT_STRINGS"), (12, u "toBytes"), (53, .class_ 109), (1, u "java/lang/StringLatin1"), (99, .methodref 10 210), (0, .nameAndType 5 211), (0, u "([BB)V"), (157, u "(C)Z"), (171, .methodref 107 542), (0, .nameAndType 543 544), (0, u "equals"), (0, u "([B[B)Z"), (28, u "(Ljava/lang/Object;)Z"), (1, .class_ 576), (0, u "java/lang/CharSequence"), (22, u "CASE_INSENSITIVE_ORDER"), (0, u "Ljava/util/Comparator;"), (181, u "valueOf"), (0, u "(C)Ljava/lang/String;"), (231, .methodref 107 1016), (0, .nameAndType 1017 369), (0, u "canEncode"), (0, .methodref 107 1019), (0, .nameAndType 53 1020), (0, u "(C)[B"), (80, u "serialPersistentFields"), (0, u "[Ljava/io/ObjectStreamField;"), (0, .class_ 1104), (0, u "java/lang/String$CaseInsensitiveComparator"), (1, .class_ 1107), (0, u "java/io/Serializable"), (0, .class_ 1109), (0, u "java/lang/Comparable"), (0, .class_ 1111), (0, u "java/lang/constant/Constable"), (0, .class_ 1113), (0, u "java/lang/constant/ConstantDesc"), (2, u "serialVersionUID"), (0, u "J"), (3, u "REPL"), (0, u "C"), (2, u "LATIN1"), (1, u "UTF16")] 323

def k8m0 : Method := { name := "<init>", desc := "()V", sig := { parameters := [], returnType := none }, accessFlags := 1, code := none }
def k8c1 : Code := { maxStack := 2, maxLocals := 3, code := jdk_42_method_66_code, exceptionTable := #[], attributes := #[] }
def k8m1 : Method := { name := "equals", desc := "(Ljava/lang/Object;)Z", sig := { parameters := [(.object "java/lang/Object")], returnType := some .boolean }, accessFlags := 1, code := some k8c1 }
def k8c2 : Code := { maxStack := 4, maxLocals := 1, code := jdk_42_method_139_code, exceptionTable := #[], attributes := #[] }
def k8m2 : Method := { name := "valueOf", desc := "(C)Ljava/lang/String;", sig := { parameters := [.char], returnType := some (.object "java/lang/String") }, accessFlags := 9, code := some k8c2 }
def k8c3 : Code := { maxStack := 2, maxLocals := 3, code := jdk_42_method_151_code, exceptionTable := #[], attributes := #[] }
def k8m3 : Method := { name := "<init>", desc := "([BB)V", sig := { parameters := [(.array .byte), .byte], returnType := none }, accessFlags := 0, code := some k8c3 }
/-- java/lang/String -/
def k8 : Class := { plain "java/lang/String" (some 0) with
  accessFlags := 49
  interfaces := #[3, 4, 5, 6, 7]
  cf := some (fileOf pool8 10 #[.nestMembers #[1103]] #[{ accessFlags := 1, nameIndex := 5, descriptorIndex := 6, attributes := #[] }, { accessFlags := 1, nameIndex := 543, descriptorIndex := 573, attributes := #[] }, { accessFlags := 9, nameIndex := 782, descriptorIndex := 783, attributes := #[] }, { accessFlags := 0, nameIndex := 5, descriptorIndex := 211, attributes := #[] }] 49 2 #[1106, 1108, 575, 1110, 1112] #[{ accessFlags := 18, nameIndex := 13, descriptorIndex := 14, attributes := #[] }, { accessFlags := 18, nameIndex := 17, descriptorIndex := 18, attributes := #[] }, { accessFlags := 2, nameIndex := 21, descriptorIndex := 22, attributes := #[] }, { accessFlags := 2, nameIndex := 25, descriptorIndex := 26, attributes := #[] }, { accessFlags := 26, nameIndex := 1116, descriptorIndex := 1117, attributes := #[] }, { accessFlags := 24, nameIndex := 40, descriptorIndex := 26, attributes := #[] }, { accessFlags := 26, nameIndex := 1101, descriptorIndex := 1102, attributes := #[] }, { accessFlags := 26, nameIndex := 1121, descriptorIndex := 1122, attributes := #[] }, { accessFlags := 25, nameIndex := 599, descriptorIndex := 600, attributes := #[] }, { accessFlags := 24, nameIndex := 1125, descriptorIndex := 18, attributes := #[] }, { accessFlags := 24, nameIndex := 1127, descriptorIndex := 18, attributes := #[] }])
  fields := #[{ name := "value", type := (.array .byte), accessFlags := 18, slot := 0, constantValue := 0 }, { name := "coder", type := .byte, accessFlags := 18, slot := 1, constantValue := 0 }, { name := "hash", type := .int, accessFlags := 2, slot := 2, constantValue := 0 }, { name := "hashIsZero", type := .boolean, accessFlags := 2, slot := 3, constantValue := 0 }, { name := "serialVersionUID", type := .long, accessFlags := 26, slot := 0, constantValue := 0 }, { name := "COMPACT_STRINGS", type := .boolean, accessFlags := 24, slot := 1, constantValue := 0 }, { name := "serialPersistentFields", type := (.array (.object "java/io/ObjectStreamField")), accessFlags := 26, slot := 2, constantValue := 0 }, { name := "REPL", type := .char, accessFlags := 26, slot := 3, constantValue := 0 }, { name := "CASE_INSENSITIVE_ORDER", type := (.object "java/util/Comparator"), accessFlags := 25, slot := 4, constantValue := 0 }, { name := "LATIN1", type := .byte, accessFlags := 24, slot := 5, constantValue := 0 }, { name := "UTF16", type := .byte, accessFlags := 24, slot := 6, constantValue := 0 }]
  methods := #[k8m0, k8m1, k8m2, k8m3]
  instanceTypes := #[(.array .byte), .byte, .int, .boolean]
  staticTypes := #[.long, .boolean, (.array (.object "java/io/ObjectStreamField")), .char, (.object "java/util/Comparator"), .byte, .byte]
  resolved := Array.replicate 1451 none
  statics := some 0 }

def pool9 : Array CpInfo := pool [(4, .class_ 6), (1, u "java/lang/Object"), (0, u "<init>"), (0, u "()V"), (5, .class_ 16), (1, u "java/lang/StringLatin1"), (73, u "canEncode"), (14, u "(C)Z"), (15, u "$assertionsDisabled"), (0, u "Z"), (98, .class_ 223), (1, u "java/lang/StringLatin1$LinesSpliterator"), (57, u "equals"), (0, u "([B[B)Z"), (97, u "toBytes"), (1, u "(C)[B"), (7, .class_ 391), (0, u "java/lang/StringLatin1$CharsSpliterator")] 3

def k9m0 : Method := { name := "<init>", desc := "()V", sig := { parameters := [], returnType := none }, accessFlags := 0, code := none }
def k9c1 : Code := { maxStack := 2, maxLocals := 1, code := jdk_43_method_3_code, exceptionTable := #[], attributes := #[] }
def k9m1 : Method := { name := "canEncode", desc := "(C)Z", sig := { parameters := [.char], returnType := some .boolean }, accessFlags := 9, code := some k9c1 }
def k9c2 : Code := { maxStack := 3, maxLocals := 3, code := jdk_43_method_13_code, exceptionTable := #[], attributes := #[] }
def k9m2 : Method := { name := "equals", desc := "([B[B)Z", sig := { parameters := [(.array .byte), (.array .byte)], returnType := some .boolean }, accessFlags := 9, code := some k9c2 }
def k9c3 : Code := { maxStack := 4, maxLocals := 1, code := jdk_43_method_46_code, exceptionTable := #[], attributes := #[] }
def k9m3 : Method := { name := "toBytes", desc := "(C)[B", sig := { parameters := [.char], returnType := some (.array .byte) }, accessFlags := 9, code := some k9c3 }
/-- java/lang/StringLatin1 -/
def k9 : Class := { plain "java/lang/StringLatin1" (some 0) with
  accessFlags := 48
  interfaces := #[]
  cf := some (fileOf pool9 14 #[.nestMembers #[390, 221]] #[{ accessFlags := 0, nameIndex := 7, descriptorIndex := 8, attributes := #[] }, { accessFlags := 9, nameIndex := 90, descriptorIndex := 105, attributes := #[] }, { accessFlags := 9, nameIndex := 281, descriptorIndex := 282, attributes := #[] }, { accessFlags := 9, nameIndex := 380, descriptorIndex := 382, attributes := #[] }] 48 4 #[] #[{ accessFlags := 4120, nameIndex := 121, descriptorIndex := 122, attributes := #[] }])
  fields := #[{ name := "$assertionsDisabled", type := .boolean, accessFlags := 4120, slot := 0, constantValue := 0 }]
  methods := #[k9m0, k9m1, k9m2, k9m3]
  instanceTypes := #[]
  staticTypes := #[.boolean]
  resolved := Array.replicate 395 none
  statics := none }

def pool10 : Array CpInfo := pool [(2, .class_ 4), (1, u "java/lang/Enum"), (0, u "name"), (0, u "Ljava/lang/String;"), (2, u "ordinal"), (0, u "I"), (1, .class_ 14), (1, u "java/lang/Object"), (4, u "hash"), (86, .class_ 108), (1, u "java/lang/Enum$EnumDesc"), (2, .class_ 112), (0, u "java/lang/constant/Constable"), (0, .class_ 114), (0, u "java/lang/Comparable"), (0, .class_ 116), (0, u "java/io/Serializable")] 87

/-- java/lang/Enum -/
def k10 : Class := { plain "java/lang/Enum" (some 0) with
  accessFlags := 1057
  interfaces := #[6, 4, 3]
  cf := some (fileOf pool10 2 #[.nestMembers #[106]] #[] 1057 12 #[111, 113, 115] #[{ accessFlags := 18, nameIndex := 5, descriptorIndex := 6, attributes := #[] }, { accessFlags := 18, nameIndex := 9, descriptorIndex := 10, attributes := #[] }, { accessFlags := 2, nameIndex := 19, descriptorIndex := 10, attributes := #[] }])
  fields := #[{ name := "name", type := (.object "java/lang/String"), accessFlags := 18, slot := 0, constantValue := 0 }, { name := "ordinal", type := .int, accessFlags := 18, slot := 1, constantValue := 0 }, { name := "hash", type := .int, accessFlags := 2, slot := 2, constantValue := 0 }]
  methods := #[]
  instanceTypes := #[(.object "java/lang/String"), .int, .int]
  staticTypes := #[]
  resolved := Array.replicate 204 none
  statics := none }

def pool11 : Array CpInfo := pool [(1, .class_ 2), (0, u "com/example/throttle/throttle/OnStoreFailure"), (2, u "ALLOW"), (0, u "Lcom/example/throttle/throttle/OnStoreFailure;"), (2, u "DENY"), (2, u "$VALUES"), (0, u "[Lcom/example/throttle/throttle/OnStoreFailure;"), (6, .class_ 22), (1, u "java/lang/Enum"), (6, .fieldref 1 30), (0, .nameAndType 31 32), (0, u "allows"), (0, u "Z"), (16, u "()Z")] 5

def k11c0 : Code := { maxStack := 1, maxLocals := 1, code := prog_20_method_4_code, exceptionTable := #[], attributes := #[] }
def k11m0 : Method := { name := "allows", desc := "()Z", sig := { parameters := [], returnType := some .boolean }, accessFlags := 1, code := some k11c0 }
/-- com/example/throttle/throttle/OnStoreFailure -/
def k11 : Class := { plain "com/example/throttle/throttle/OnStoreFailure" (some 10) with
  accessFlags := 16433
  interfaces := #[]
  cf := some (fileOf pool11 1 #[] #[{ accessFlags := 1, nameIndex := 31, descriptorIndex := 49, attributes := #[] }] 16433 20 #[] #[{ accessFlags := 16409, nameIndex := 5, descriptorIndex := 6, attributes := #[] }, { accessFlags := 16409, nameIndex := 9, descriptorIndex := 6, attributes := #[] }, { accessFlags := 18, nameIndex := 31, descriptorIndex := 32, attributes := #[] }, { accessFlags := 4122, nameIndex := 12, descriptorIndex := 13, attributes := #[] }])
  fields := #[{ name := "ALLOW", type := (.object "com/example/throttle/throttle/OnStoreFailure"), accessFlags := 16409, slot := 0, constantValue := 0 }, { name := "DENY", type := (.object "com/example/throttle/throttle/OnStoreFailure"), accessFlags := 16409, slot := 1, constantValue := 0 }, { name := "allows", type := .boolean, accessFlags := 18, slot := 3, constantValue := 0 }, { name := "$VALUES", type := (.array (.object "com/example/throttle/throttle/OnStoreFailure")), accessFlags := 4122, slot := 2, constantValue := 0 }]
  methods := #[k11m0]
  instanceTypes := #[(.object "java/lang/String"), .int, .int, .boolean]
  staticTypes := #[(.object "com/example/throttle/throttle/OnStoreFailure"), (.object "com/example/throttle/throttle/OnStoreFailure"), (.array (.object "com/example/throttle/throttle/OnStoreFailure"))]
  resolved := Array.replicate 55 none
  statics := some 1 }

def pool12 : Array CpInfo := pool [(2, .class_ 4), (1, u "java/lang/Object"), (0, u "<init>"), (0, u "()V"), (17, .class_ 26), (1, u "jdk/internal/util/Preconditions"), (28, .class_ 56), (0, u "jdk/internal/util/Preconditions$4"), (57, .class_ 115), (0, u "jdk/internal/util/Preconditions$1"), (7, u "SIOOBE_FORMATTER"), (0, u "Ljava/util/function/BiFunction;"), (0, .class_ 126), (0, u "jdk/internal/util/Preconditions$2"), (3, u "AIOOBE_FORMATTER"), (0, .class_ 132), (0, u "jdk/internal/util/Preconditions$3"), (3, u "IOOBE_FORMATTER")] 57

def k12m0 : Method := { name := "<init>", desc := "()V", sig := { parameters := [], returnType := none }, accessFlags := 1, code := none }
/-- jdk/internal/util/Preconditions -/
def k12 : Class := { plain "jdk/internal/util/Preconditions" (some 0) with
  accessFlags := 33
  interfaces := #[]
  cf := some (fileOf pool12 24 #[.nestMembers #[55, 131, 125, 114]] #[{ accessFlags := 1, nameIndex := 5, descriptorIndex := 6, attributes := #[] }] 33 2 #[] #[{ accessFlags := 25, nameIndex := 123, descriptorIndex := 124, attributes := #[] }, { accessFlags := 25, nameIndex := 130, descriptorIndex := 124, attributes := #[] }, { accessFlags := 25, nameIndex := 136, descriptorIndex := 124, attributes := #[] }])
  fields := #[{ name := "SIOOBE_FORMATTER", type := (.object "java/util/function/BiFunction"), accessFlags := 25, slot := 0, constantValue := 0 }, { name := "AIOOBE_FORMATTER", type := (.object "java/util/function/BiFunction"), accessFlags := 25, slot := 1, constantValue := 0 }, { name := "IOOBE_FORMATTER", type := (.object "java/util/function/BiFunction"), accessFlags := 25, slot := 2, constantValue := 0 }]
  methods := #[k12m0]
  instanceTypes := #[]
  staticTypes := #[(.object "java/util/function/BiFunction"), (.object "java/util/function/BiFunction"), (.object "java/util/function/BiFunction")]
  resolved := Array.replicate 194 none
  statics := some 2 }

def pool13 : Array CpInfo := pool [(9, u "<init>"), (6, .class_ 18), (1, u "java/lang/Object"), (0, u "()V"), (1, .class_ 23), (1, u "jdk/internal/util/ArraysSupport"), (0, u "LOG2_ARRAY_LONG_INDEX_SCALE"), (0, u "I"), (2, u "U"), (0, u "Ljdk/internal/misc/Unsafe;"), (8, u "BIG_ENDIAN"), (0, u "Z"), (8, u "LOG2_BYTE_BIT_SIZE"), (4, u "LOG2_ARRAY_INT_INDEX_SCALE"), (54, u "JLA"), (0, u "Ljdk/internal/access/JavaLangAccess;"), (11, u "LOG2_ARRAY_BOOLEAN_INDEX_SCALE"), (9, u "LOG2_ARRAY_BYTE_INDEX_SCALE"), (5, u "LOG2_ARRAY_CHAR_INDEX_SCALE"), (5, u "LOG2_ARRAY_SHORT_INDEX_SCALE"), (18, u "LOG2_ARRAY_FLOAT_INDEX_SCALE"), (24, u "LOG2_ARRAY_DOUBLE_INDEX_SCALE"), (89, u "T_BOOLEAN"), (2, u "T_CHAR"), (1, u "T_FLOAT"), (1, u "T_DOUBLE"), (1, u "T_BYTE"), (1, u "T_SHORT"), (1, u "T_INT"), (1, u "T_LONG"), (1, u "SOFT_MAX_ARRAY_LENGTH")] 83

def k13m0 : Method := { name := "<init>", desc := "()V", sig := { parameters := [], returnType := none }, accessFlags := 2, code := none }
/-- jdk/internal/util/ArraysSupport -/
def k13 : Class := { plain "jdk/internal/util/ArraysSupport" (some 0) with
  accessFlags := 33
  interfaces := #[]
  cf := some (fileOf pool13 21 #[] #[{ accessFlags := 2, nameIndex := 9, descriptorIndex := 19, attributes := #[] }] 33 16 #[] #[{ accessFlags := 24, nameIndex := 28, descriptorIndex := 29, attributes := #[] }, { accessFlags := 26, nameIndex := 38, descriptorIndex := 39, attributes := #[] }, { accessFlags := 25, nameIndex := 121, descriptorIndex := 25, attributes := #[] }, { accessFlags := 25, nameIndex := 131, descriptorIndex := 25, attributes := #[] }, { accessFlags := 25, nameIndex := 137, descriptorIndex := 25, attributes := #[] }, { accessFlags := 25, nameIndex := 143, descriptorIndex := 25, attributes := #[] }, { accessFlags := 25, nameIndex := 53, descriptorIndex := 25, attributes := #[] }, { accessFlags := 25, nameIndex := 24, descriptorIndex := 25, attributes := #[] }, { accessFlags := 25, nameIndex := 162, descriptorIndex := 25, attributes := #[] }, { accessFlags := 25, nameIndex := 187, descriptorIndex := 25, attributes := #[] }, { accessFlags := 26, nameIndex := 48, descriptorIndex := 25, attributes := #[] }, { accessFlags := 25, nameIndex := 277, descriptorIndex := 25, attributes := #[] }, { accessFlags := 25, nameIndex := 280, descriptorIndex := 25, attributes := #[] }, { accessFlags := 25, nameIndex := 282, descriptorIndex := 25, attributes := #[] }, { accessFlags := 25, nameIndex := 284, descriptorIndex := 25, attributes := #[] }, { accessFlags := 25, nameIndex := 286, descriptorIndex := 25, attributes := #[] }, { accessFlags := 25, nameIndex := 288, descriptorIndex := 25, attributes := #[] }, { accessFlags := 25, nameIndex := 290, descriptorIndex := 25, attributes := #[] }, { accessFlags := 25, nameIndex := 292, descriptorIndex := 25, attributes := #[] }, { accessFlags := 26, nameIndex := 108, descriptorIndex := 109, attributes := #[] }, { accessFlags := 25, nameIndex := 294, descriptorIndex := 25, attributes := #[] }])
  fields := #[{ name := "U", type := (.object "jdk/internal/misc/Unsafe"), accessFlags := 24, slot := 0, constantValue := 0 }, { name := "BIG_ENDIAN", type := .boolean, accessFlags := 26, slot := 1, constantValue := 0 }, { name := "LOG2_ARRAY_BOOLEAN_INDEX_SCALE", type := .int, accessFlags := 25, slot := 2, constantValue := 0 }, { name := "LOG2_ARRAY_BYTE_INDEX_SCALE", type := .int, accessFlags := 25, slot := 3, constantValue := 0 }, { name := "LOG2_ARRAY_CHAR_INDEX_SCALE", type := .int, accessFlags := 25, slot := 4, constantValue := 0 }, { name := "LOG2_ARRAY_SHORT_INDEX_SCALE", type := .int, accessFlags := 25, slot := 5, constantValue := 0 }, { name := "LOG2_ARRAY_INT_INDEX_SCALE", type := .int, accessFlags := 25, slot := 6, constantValue := 0 }, { name := "LOG2_ARRAY_LONG_INDEX_SCALE", type := .int, accessFlags := 25, slot := 7, constantValue := 0 }, { name := "LOG2_ARRAY_FLOAT_INDEX_SCALE", type := .int, accessFlags := 25, slot := 8, constantValue := 0 }, { name := "LOG2_ARRAY_DOUBLE_INDEX_SCALE", type := .int, accessFlags := 25, slot := 9, constantValue := 0 }, { name := "LOG2_BYTE_BIT_SIZE", type := .int, accessFlags := 26, slot := 10, constantValue := 0 }, { name := "T_BOOLEAN", type := .int, accessFlags := 25, slot := 11, constantValue := 0 }, { name := "T_CHAR", type := .int, accessFlags := 25, slot := 12, constantValue := 0 }, { name := "T_FLOAT", type := .int, accessFlags := 25, slot := 13, constantValue := 0 }, { name := "T_DOUBLE", type := .int, accessFlags := 25, slot := 14, constantValue := 0 }, { name := "T_BYTE", type := .int, accessFlags := 25, slot := 15, constantValue := 0 }, { name := "T_SHORT", type := .int, accessFlags := 25, slot := 16, constantValue := 0 }, { name := "T_INT", type := .int, accessFlags := 25, slot := 17, constantValue := 0 }, { name := "T_LONG", type := .int, accessFlags := 25, slot := 18, constantValue := 0 }, { name := "JLA", type := (.object "jdk/internal/access/JavaLangAccess"), accessFlags := 26, slot := 19, constantValue := 0 }, { name := "SOFT_MAX_ARRAY_LENGTH", type := .int, accessFlags := 25, slot := 20, constantValue := 0 }]
  methods := #[k13m0]
  instanceTypes := #[]
  staticTypes := #[(.object "jdk/internal/misc/Unsafe"), .boolean, .int, .int, .int, .int, .int, .int, .int, .int, .int, .int, .int, .int, .int, .int, .int, .int, .int, (.object "jdk/internal/access/JavaLangAccess"), .int]
  resolved := Array.replicate 378 none
  statics := none }

def pool14 : Array CpInfo := pool [(1, u "java/lang/Cloneable"), (0, .class_ 1), (0, u "java/lang/Object"), (0, .class_ 3)] 3

/-- java/lang/Cloneable -/
def k14 : Class := { plain "java/lang/Cloneable" (some 0) with
  accessFlags := 1537
  interfaces := #[]
  cf := some (fileOf pool14 2 #[] #[] 1537 4 #[] #[])
  fields := #[]
  methods := #[]
  instanceTypes := #[]
  staticTypes := #[]
  resolved := Array.replicate 8 none
  statics := none }

/-- the primitive byte -/
def k15 : Class := { plain "byte" none with kind := .primitive 'B', accessFlags := 0x411 }
/-- [B -/
def k16 : Class := { plain "[B" (some 0) with kind := .array 15 .byte, interfaces := #[14, 3], accessFlags := 1041 }

/-- the primitive int -/
def k17 : Class := { plain "int" none with kind := .primitive 'I', accessFlags := 0x411 }
/-- [I -/
def k18 : Class := { plain "[I" (some 0) with kind := .array 17 .int, interfaces := #[14, 3], accessFlags := 1041 }

def heap : Heap := #[{ cls := 8, slots := #[.long 0, .int 1, .null, .int 0, .null, .int 0, .int 0], vm := .statics 8 },
  { cls := 11, slots := #[.ref 3, .ref 4, .null], vm := .statics 11 },
  { cls := 12, slots := #[.null, .null, .null], vm := .statics 12 },
  { cls := 11, slots := #[.null, .int 0, .int 0, .int 1], vm := .none },
  { cls := 11, slots := #[.null, .int 1, .int 0, .int 0], vm := .none }]
def classes : Array Class := #[k0, k1, k2, k3, k4, k5, k6, k7, k8, k9, k10, k11, k12, k13, k14, k15, k16, k17, k18]
def interned : List (Array UInt16 × Addr) := []
def slotsUsed : Nat := 21
def theMethod : MethodId := ⟨1, 3⟩
def args0 : Array Value := #[.int 5, .int 5, .long 5, .long 5, .long 5, .long 5]
def aboutOver (below : List Frame) : State where
  vm := { classes := classes, interned := interned.toArray }
  heap := heap
  slotsUsed := slotsUsed
  threads := #[{ frames := .invoking theMethod args0 :: below }]
def below0 : List Frame := [.native { method := ⟨0, 0⟩, args := #[] }]
def about1 : State := aboutOver below0
def p0 : Program := .bare "" "" ""
def e0 : Env := launch0.env 0 0 0
theorem w_frames : about1.frames = Frame.invoking theMethod args0 :: below0 := rfl
set_option maxRecDepth 65536 in
theorem w_args : argsFit about1.vm theMethod args0 = true := by decide +kernel
set_option maxRecDepth 65536 in
theorem w_heap : heapFits about1 = true := by decide +kernel
set_option maxRecDepth 65536 in
theorem w_runnable : about1.curStatus? = some .runnable := by decide +kernel
set_option maxRecDepth 65536 in
theorem w_alone : about1.alone = true := by decide +kernel
set_option maxRecDepth 65536 in
theorem w_named : about1.methodNamed? x = some theMethod := by decide +kernel
set_option maxRecDepth 65536 in
theorem w_hears : about1.hears theMethod below0 = true := by decide +kernel
set_option maxRecDepth 65536 in
theorem w_ripe : about1.ripe theMethod args0 below0 = true := by decide +kernel
theorem w_running : about1.status = .running := rfl
set_option maxRecDepth 65536 in
theorem w_room : about1.hasRoom e0.platform room_1 = true :=
  launch0.hasRoom_least _ room_1 (by decide +kernel) (by decide +kernel) (by decide +kernel) (by decide +kernel) (by decide +kernel) (by decide +kernel)
theorem allAtoms_all (ts : List Jvm.Cond) (a : Array Jvm.Value) (st : Jvm.State) : (allAtoms ts).before a st = ts.all (fun c => c.before a st) := by
  induction ts with
  | nil => rfl
  | cons c t ih =>
    show (Jvm.Cond.and c (allAtoms t)).before a st = _
    rw [Jvm.Cond.before_and, ih, List.all_cons]
def words1 : List Jvm.Cond := Jvm.Cond.code x code maxLocals ret :: tables_1
/-- a 'code' word, met by the world's own term for the bytes: nothing is compared byte by byte -/
theorem code_word {y : MethodName} {bytes : ByteArray} {mx : Nat} {rt : Option FieldType} {a : Array Value} {s : State} {m : MethodId} {meth : Method} {c : Code} (h1 : s.methodNamed? y = some m) (h2 : s.vm.method? m = some meth) (h3 : meth.code = some c) (h4 : c.code = bytes)
    (h5 : (c.maxLocals == mx && c.exceptionTable.isEmpty && decide (c.maxStack ≤ mostOperands) && decide (meth.sig.returnType = rt) && !meth.locks && decide (parseMethodDescriptor y.desc = some meth.sig)) = true) : (Jvm.Cond.code y bytes mx rt).before a s = true := by
  simp only [Bool.and_eq_true, beq_iff_eq, Bool.not_eq_true', decide_eq_true_eq] at h5
  obtain ⟨⟨⟨⟨⟨g1, g2⟩, g3⟩, g4⟩, g5⟩, g6⟩ := h5
  simp [Cond.before, Cond.holds, Cond.value, h1, h2, h3, h4, g1, g2, g3, g4, g5, g6]
def isCode : Jvm.Cond → Bool
  | .code _ _ _ _ => true
  | _ => false
theorem all_split {L : List Jvm.Cond} {P : Jvm.Cond → Bool} (h1 : L.all (fun c => isCode c || P c) = true) (h2 : ∀ c ∈ L.filter isCode, P c = true) : L.all P = true := by
  refine List.all_eq_true.mpr fun c hc => ?_
  have h := List.all_eq_true.mp h1 c hc
  rcases Bool.eq_false_or_eq_true (isCode c) with hi | hi
  · exact h2 c (List.mem_filter.mpr ⟨hc, hi⟩)
  · simpa [hi] using h
set_option maxRecDepth 65536 in
theorem w_c0 : (Jvm.Cond.code x code maxLocals ret).before args0 about1 = true := code_word (m := ⟨1, 3⟩) (meth := k1m3) (c := k1c3) (by decide +kernel) rfl rfl rfl (by decide +kernel)
set_option maxRecDepth 65536 in
theorem w_c1 : (Jvm.Cond.code ({ cls := "com/example/throttle/throttle/DecisionEqualsPinLaw", name := "bit", desc := "(II)Z" } : Jvm.MethodName) method_2_code (2 : Nat) (Option.some Jvm.ClassFile.FieldType.boolean)).before args0 about1 = true := code_word (m := ⟨1, 1⟩) (meth := k1m1) (c := k1c1) (by decide +kernel) rfl rfl rfl (by decide +kernel)
set_option maxRecDepth 65536 in
theorem w_c2 : (Jvm.Cond.code ({ cls := "com/example/throttle/throttle/DecisionEqualsPinLaw", name := "make", desc := "(CCZZJJJJ)Lcom/example/throttle/throttle/Decision;" } : Jvm.MethodName) method_3_code (12 : Nat) (Option.some (Jvm.ClassFile.FieldType.object "com/example/throttle/throttle/Decision"))).before args0 about1 = true := code_word (m := ⟨1, 2⟩) (meth := k1m2) (c := k1c2) (by decide +kernel) rfl rfl rfl (by decide +kernel)
set_option maxRecDepth 65536 in
theorem w_c3 : (Jvm.Cond.code ({ cls := "java/lang/String", name := "valueOf", desc := "(C)Ljava/lang/String;" } : Jvm.MethodName) jdk_42_method_139_code (1 : Nat) (Option.some (Jvm.ClassFile.FieldType.object "java/lang/String"))).before args0 about1 = true := code_word (m := ⟨8, 2⟩) (meth := k8m2) (c := k8c2) (by decide +kernel) rfl rfl rfl (by decide +kernel)
set_option maxRecDepth 65536 in
theorem w_c4 : (Jvm.Cond.code ({ cls := "java/lang/StringLatin1", name := "canEncode", desc := "(C)Z" } : Jvm.MethodName) jdk_43_method_3_code (1 : Nat) (Option.some Jvm.ClassFile.FieldType.boolean)).before args0 about1 = true := code_word (m := ⟨9, 1⟩) (meth := k9m1) (c := k9c1) (by decide +kernel) rfl rfl rfl (by decide +kernel)
set_option maxRecDepth 65536 in
theorem w_c5 : (Jvm.Cond.code ({ cls := "java/lang/StringLatin1", name := "toBytes", desc := "(C)[B" } : Jvm.MethodName) jdk_43_method_46_code (1 : Nat) (Option.some (Jvm.ClassFile.FieldType.array Jvm.ClassFile.FieldType.byte))).before args0 about1 = true := code_word (m := ⟨9, 3⟩) (meth := k9m3) (c := k9c3) (by decide +kernel) rfl rfl rfl (by decide +kernel)
set_option maxRecDepth 65536 in
theorem w_c6 : (Jvm.Cond.code ({ cls := "java/lang/String", name := "<init>", desc := "([BB)V" } : Jvm.MethodName) jdk_42_method_151_code (3 : Nat) (Option.none : Option Jvm.ClassFile.FieldType)).before args0 about1 = true := code_word (m := ⟨8, 3⟩) (meth := k8m3) (c := k8c3) (by decide +kernel) rfl rfl rfl (by decide +kernel)
set_option maxRecDepth 65536 in
theorem w_c7 : (Jvm.Cond.code ({ cls := "java/lang/Object", name := "<init>", desc := "()V" } : Jvm.MethodName) object_method_1_code (1 : Nat) (Option.none : Option Jvm.ClassFile.FieldType)).before args0 about1 = true := code_word (m := ⟨0, 0⟩) (meth := k0m0) (c := k0c0) (by decide +kernel) rfl rfl rfl (by decide +kernel)
set_option maxRecDepth 65536 in
theorem w_c8 : (Jvm.Cond.code ({ cls := "com/example/throttle/throttle/Decision", name := "<init>", desc := "(Ljava/lang/String;Ljava/lang/String;ZJJJJ)V" } : Jvm.MethodName) prog_7_method_1_code (12 : Nat) (Option.none : Option Jvm.ClassFile.FieldType)).before args0 about1 = true := code_word (m := ⟨2, 0⟩) (meth := k2m0) (c := k2c0) (by decide +kernel) rfl rfl rfl (by decide +kernel)
set_option maxRecDepth 65536 in
theorem w_c9 : (Jvm.Cond.code ({ cls := "com/example/throttle/throttle/Decision", name := "equals", desc := "(Ljava/lang/Object;)Z" } : Jvm.MethodName) prog_7_method_15_code (3 : Nat) (Option.some Jvm.ClassFile.FieldType.boolean)).before args0 about1 = true := code_word (m := ⟨2, 3⟩) (meth := k2m3) (c := k2c3) (by decide +kernel) rfl rfl rfl (by decide +kernel)
set_option maxRecDepth 65536 in
theorem w_c10 : (Jvm.Cond.code ({ cls := "java/lang/String", name := "equals", desc := "(Ljava/lang/Object;)Z" } : Jvm.MethodName) jdk_42_method_66_code (3 : Nat) (Option.some Jvm.ClassFile.FieldType.boolean)).before args0 about1 = true := code_word (m := ⟨8, 1⟩) (meth := k8m1) (c := k8c1) (by decide +kernel) rfl rfl rfl (by decide +kernel)
set_option maxRecDepth 65536 in
theorem w_c11 : (Jvm.Cond.code ({ cls := "java/lang/StringLatin1", name := "equals", desc := "([B[B)Z" } : Jvm.MethodName) jdk_43_method_13_code (3 : Nat) (Option.some Jvm.ClassFile.FieldType.boolean)).before args0 about1 = true := code_word (m := ⟨9, 2⟩) (meth := k9m2) (c := k9c2) (by decide +kernel) rfl rfl rfl (by decide +kernel)
set_option maxRecDepth 65536 in
theorem w_c12 : (Jvm.Cond.code ({ cls := "com/example/throttle/throttle/Decision", name := "onStoreFailure", desc := "(Ljava/lang/String;Ljava/lang/String;Lcom/example/throttle/throttle/OnStoreFailure;)Lcom/example/throttle/throttle/Decision;" } : Jvm.MethodName) prog_7_method_5_code (3 : Nat) (Option.some (Jvm.ClassFile.FieldType.object "com/example/throttle/throttle/Decision"))).before args0 about1 = true := code_word (m := ⟨2, 2⟩) (meth := k2m2) (c := k2c2) (by decide +kernel) rfl rfl rfl (by decide +kernel)
set_option maxRecDepth 65536 in
theorem w_c13 : (Jvm.Cond.code ({ cls := "com/example/throttle/throttle/OnStoreFailure", name := "allows", desc := "()Z" } : Jvm.MethodName) prog_20_method_4_code (1 : Nat) (Option.some Jvm.ClassFile.FieldType.boolean)).before args0 about1 = true := code_word (m := ⟨11, 0⟩) (meth := k11m0) (c := k11c0) (by decide +kernel) rfl rfl rfl (by decide +kernel)
set_option maxRecDepth 65536 in
theorem w_c14 : (Jvm.Cond.code ({ cls := "com/example/throttle/throttle/Decision", name := "<init>", desc := "(Ljava/lang/String;Ljava/lang/String;Z)V" } : Jvm.MethodName) prog_7_method_4_code (4 : Nat) (Option.none : Option Jvm.ClassFile.FieldType)).before args0 about1 = true := code_word (m := ⟨2, 1⟩) (meth := k2m1) (c := k2c1) (by decide +kernel) rfl rfl rfl (by decide +kernel)
def codes1 : List Jvm.Cond := [Jvm.Cond.code x code maxLocals ret, Jvm.Cond.code ({ cls := "com/example/throttle/throttle/DecisionEqualsPinLaw", name := "bit", desc := "(II)Z" } : Jvm.MethodName) method_2_code (2 : Nat) (Option.some Jvm.ClassFile.FieldType.boolean), Jvm.Cond.code ({ cls := "com/example/throttle/throttle/DecisionEqualsPinLaw", name := "make", desc := "(CCZZJJJJ)Lcom/example/throttle/throttle/Decision;" } : Jvm.MethodName) method_3_code (12 : Nat) (Option.some (Jvm.ClassFile.FieldType.object "com/example/throttle/throttle/Decision")), Jvm.Cond.code ({ cls := "java/lang/String", name := "valueOf", desc := "(C)Ljava/lang/String;" } : Jvm.MethodName) jdk_42_method_139_code (1 : Nat) (Option.some (Jvm.ClassFile.FieldType.object "java/lang/String")), Jvm.Cond.code ({ cls := "java/lang/StringLatin1", name := "canEncode", desc := "(C)Z" } : Jvm.MethodName) jdk_43_method_3_code (1 : Nat) (Option.some Jvm.ClassFile.FieldType.boolean), Jvm.Cond.code ({ cls := "java/lang/StringLatin1", name := "toBytes", desc := "(C)[B" } : Jvm.MethodName) jdk_43_method_46_code (1 : Nat) (Option.some (Jvm.ClassFile.FieldType.array Jvm.ClassFile.FieldType.byte)), Jvm.Cond.code ({ cls := "java/lang/String", name := "<init>", desc := "([BB)V" } : Jvm.MethodName) jdk_42_method_151_code (3 : Nat) (Option.none : Option Jvm.ClassFile.FieldType), Jvm.Cond.code ({ cls := "java/lang/Object", name := "<init>", desc := "()V" } : Jvm.MethodName) object_method_1_code (1 : Nat) (Option.none : Option Jvm.ClassFile.FieldType), Jvm.Cond.code ({ cls := "com/example/throttle/throttle/Decision", name := "<init>", desc := "(Ljava/lang/String;Ljava/lang/String;ZJJJJ)V" } : Jvm.MethodName) prog_7_method_1_code (12 : Nat) (Option.none : Option Jvm.ClassFile.FieldType), Jvm.Cond.code ({ cls := "com/example/throttle/throttle/Decision", name := "equals", desc := "(Ljava/lang/Object;)Z" } : Jvm.MethodName) prog_7_method_15_code (3 : Nat) (Option.some Jvm.ClassFile.FieldType.boolean), Jvm.Cond.code ({ cls := "java/lang/String", name := "equals", desc := "(Ljava/lang/Object;)Z" } : Jvm.MethodName) jdk_42_method_66_code (3 : Nat) (Option.some Jvm.ClassFile.FieldType.boolean), Jvm.Cond.code ({ cls := "java/lang/StringLatin1", name := "equals", desc := "([B[B)Z" } : Jvm.MethodName) jdk_43_method_13_code (3 : Nat) (Option.some Jvm.ClassFile.FieldType.boolean), Jvm.Cond.code ({ cls := "com/example/throttle/throttle/Decision", name := "onStoreFailure", desc := "(Ljava/lang/String;Ljava/lang/String;Lcom/example/throttle/throttle/OnStoreFailure;)Lcom/example/throttle/throttle/Decision;" } : Jvm.MethodName) prog_7_method_5_code (3 : Nat) (Option.some (Jvm.ClassFile.FieldType.object "com/example/throttle/throttle/Decision")), Jvm.Cond.code ({ cls := "com/example/throttle/throttle/OnStoreFailure", name := "allows", desc := "()Z" } : Jvm.MethodName) prog_20_method_4_code (1 : Nat) (Option.some Jvm.ClassFile.FieldType.boolean), Jvm.Cond.code ({ cls := "com/example/throttle/throttle/Decision", name := "<init>", desc := "(Ljava/lang/String;Ljava/lang/String;Z)V" } : Jvm.MethodName) prog_7_method_4_code (4 : Nat) (Option.none : Option Jvm.ClassFile.FieldType)]
set_option maxRecDepth 65536 in
theorem codes_eq : words1.filter isCode = codes1 := rfl
theorem w_codes : ∀ c ∈ words1.filter isCode, c.before args0 about1 = true := by
  rw [codes_eq]
  intro c hc
  simp only [codes1, List.mem_cons, List.not_mem_nil, or_false] at hc
  rcases hc with rfl | rfl | rfl | rfl | rfl | rfl | rfl | rfl | rfl | rfl | rfl | rfl | rfl | rfl | rfl
  · exact w_c0
  · exact w_c1
  · exact w_c2
  · exact w_c3
  · exact w_c4
  · exact w_c5
  · exact w_c6
  · exact w_c7
  · exact w_c8
  · exact w_c9
  · exact w_c10
  · exact w_c11
  · exact w_c12
  · exact w_c13
  · exact w_c14
set_option maxRecDepth 65536 in
theorem w_t1 : (words1.take 24).all (fun c => isCode c || c.before args0 about1) = true := by decide +kernel
set_option maxRecDepth 65536 in
theorem w_t2 : ((words1.drop 24).take 24).all (fun c => isCode c || c.before args0 about1) = true := by decide +kernel
set_option maxRecDepth 65536 in
theorem w_t3 : (((words1.drop 24).drop 24).take 24).all (fun c => isCode c || c.before args0 about1) = true := by decide +kernel
set_option maxRecDepth 65536 in
theorem w_t4 : (((words1.drop 24).drop 24).drop 24).all (fun c => isCode c || c.before args0 about1) = true := by decide +kernel
theorem w_tables : (allAtoms (Jvm.Cond.code x code maxLocals ret :: tables_1)).before args0 about1 = true := by
  rw [allAtoms_all]
  show words1.all (fun c => c.before args0 about1) = true
  refine all_split ?_ w_codes
  rw [← List.take_append_drop 24 words1, List.all_append, w_t1, ← List.take_append_drop 24 (words1.drop 24), List.all_append, w_t2, ← List.take_append_drop 24 ((words1.drop 24).drop 24), List.all_append, w_t3, w_t4]
  rfl
set_option maxRecDepth 65536 in
theorem w_rest : rest_1_c.before args0 about1 = true := by decide +kernel
set_option maxRecDepth 65536 in
theorem w_case : (Jvm.Cond.and given_1 narrow_1).before args0 about1 = true := by decide +kernel
theorem w_applies : (headSpec (Jvm.Cond.code x code maxLocals ret :: tables_1) room_1).applies x e0.platform about1 = true :=
  (Spec.applies_iff w_frames).mpr ⟨w_running, w_runnable, w_alone, w_named, w_hears, w_ripe, w_room, w_tables⟩
theorem atStart : AtStart classFile x code maxLocals ret World_1 tables_1 room_1 Calls_1 rest_1 Pre_1 launch0 p0 e0 about1 theMethod args0 below0 :=
  ⟨lists_1, trivial, launch0.admits_env _ _ _, launch0.least_env, fairChoices_fair.cas, fairChoices_fair.clock, w_frames, w_args, w_heap, w_applies, trivial, w_rest, w_case⟩
end start1
theorem witness_1 : WitnessClaimed_1 := ⟨start1.p0, start1.e0, start1.about1, start1.theMethod, start1.args0, start1.below0, start1.atStart⟩
end Jvm.Pilot.@@N@@
