import PyProof.Rows.All
import Wide.All
import OpenK.AllK
import Wide.FinOn
import Lean
import PySem.Challenge.RW_pe0274_01
set_option Elab.async false
set_option maxRecDepth 100000
set_option maxHeartbeats 0
set_option linter.all false
namespace Mine
open PySem PySem.W PySem.W.X PyProof.Rows
noncomputable abbrev dT := @PySem.W.Fast.tw11892475500146522536 PySem.W.Fast.tw14364793385576792824
theorem dT_eq:denote table=dT:=by
  have h1 : @denote = @PySem.W.Fast.tw11892475500146522536:=PySem.W.Fast.te11892475500146522536
  have h2 : @treeTable = @PySem.W.Fast.tw14364793385576792824:=PySem.W.Fast.te14364793385576792824
  show denote table=PySem.W.Fast.tw11892475500146522536 PySem.W.Fast.tw14364793385576792824
  rw [← h1,← h2,table_eq_tree]
inductive ET where
  | nil
  | node (a:Addr) (o:Obj) (l r:ET)
noncomputable def ET.get (t:ET):Nat→Option (Addr × Obj) :=
  @ET.rec (fun _=>Nat→Option (Addr × Obj)) (fun _=>none) (fun a o _ _ gl gr i =>
    @Bool.rec (fun _=>Option (Addr × Obj)) (@Bool.rec (fun _=>Option (Addr × Obj)) (gr (Nat.sub (Nat.div i 2) 1)) (gl (Nat.div i 2)) (Nat.beq (Nat.mod i 2) 1)) (some (a,o)) (Nat.beq i 0)) t
noncomputable def ET.set (t:ET):Nat→Obj→ET :=
  @ET.rec (fun _=>Nat→Obj→ET) (fun _ _ => .nil) (fun a o l r sl sr i x =>
    @Bool.rec (fun _=>ET) (@Bool.rec (fun _=>ET) (.node a o l (sr (Nat.sub (Nat.div i 2) 1) x)) (.node a o (sl (Nat.div i 2) x) r) (Nat.beq (Nat.mod i 2) 1)) (.node a x l r) (Nat.beq i 0)) t
noncomputable def ET.ins (t:ET):Nat→Addr→Obj→ET :=
  @ET.rec (fun _=>Nat→Addr→Obj→ET) (fun _ b x => .node b x .nil .nil) (fun a o l r sl sr i b x =>
    @Bool.rec (fun _=>ET) (@Bool.rec (fun _=>ET) (.node a o l (sr (Nat.sub (Nat.div i 2) 1) b x)) (.node a o (sl (Nat.div i 2) b x) r) (Nat.beq (Nat.mod i 2) 1)) (.node b x l r) (Nat.beq i 0)) t
theorem ET.get_nil (i:Nat):ET.nil.get i=none:=rfl
theorem ET.get_node (a:Addr) (o:Obj) (l r:ET) (i:Nat):(ET.node a o l r).get i=if i=0 then some (a,o) else if i % 2=1 then l.get (i / 2) else r.get (i / 2-1):=by
  show @Bool.rec (fun _=>Option (Addr × Obj)) (@Bool.rec (fun _=>Option (Addr × Obj)) (r.get (i / 2-1)) (l.get (i / 2)) (Nat.beq (i % 2) 1)) (some (a,o)) (Nat.beq i 0)=_
  rw [BT.beq_eq,BT.beq_eq]
  by_cases h:i=0
  · simp [h]
  · by_cases q:i % 2=1 <;> simp [h,q]
theorem ET.set_node (a:Addr) (o:Obj) (l r:ET) (i:Nat) (x:Obj):(ET.node a o l r).set i x=if i=0 then .node a x l r else if i % 2=1 then .node a o (l.set (i / 2) x) r else .node a o l (r.set (i / 2-1) x):=by
  show @Bool.rec (fun _=>ET) (@Bool.rec (fun _=>ET) (.node a o l (r.set (i / 2-1) x)) (.node a o (l.set (i / 2) x) r) (Nat.beq (i % 2) 1)) (.node a x l r) (Nat.beq i 0)=_
  rw [BT.beq_eq,BT.beq_eq]
  by_cases h:i=0
  · simp [h]
  · by_cases q:i % 2=1 <;> simp [h,q]
theorem ET.ins_node (a:Addr) (o:Obj) (l r:ET) (i:Nat) (b:Addr) (x:Obj):(ET.node a o l r).ins i b x=if i=0 then .node b x l r else if i % 2=1 then .node a o (l.ins (i / 2) b x) r else .node a o l (r.ins (i / 2-1) b x):=by
  show @Bool.rec (fun _=>ET) (@Bool.rec (fun _=>ET) (.node a o l (r.ins (i / 2-1) b x)) (.node a o (l.ins (i / 2) b x) r) (Nat.beq (i % 2) 1)) (.node b x l r) (Nat.beq i 0)=_
  rw [BT.beq_eq,BT.beq_eq]
  by_cases h:i=0
  · simp [h]
  · by_cases q:i % 2=1 <;> simp [h,q]
theorem ET.get_set : ∀ (t:ET) (j i:Nat) (x:Obj),(t.set j x).get i=if i=j then (t.get j).map (fun p=>(p.1,x)) else t.get i
  | .nil,j,i,x=>by show ET.nil.get i=_; simp [get_nil]
  | .node a o l r,j,i,x=>by
    rw [set_node,get_node a o l r j,get_node a o l r i]
    by_cases hj:j=0
    · subst hj
      simp only [if_true]
      rw [get_node]
      by_cases hi:i=0 <;> simp [hi]
    · rw [if_neg hj,if_neg hj]
      by_cases qj:j % 2=1
      · rw [if_pos qj,if_pos qj,get_node,get_set l]
        by_cases hi:i=0
        · have:i≠j:=by lia
          simp [hi,Ne.symm hj]
        · by_cases qi:i % 2=1
          · have e:(i / 2=j / 2)↔i=j:=by lia
            simp [hi,qi,e]
          · have:i≠j:=fun z=>qi (z▸qj)
            simp [hi,qi,this]
      · rw [if_neg qj,if_neg qj,get_node,get_set r]
        by_cases hi:i=0
        · have:i≠j:=by lia
          simp [hi,Ne.symm hj]
        · by_cases qi:i % 2=1
          · have:i≠j:=fun z=>qj (z▸qi)
            simp [hi,qi,this]
          · have e:(i / 2-1=j / 2-1)↔i=j:=by lia
            simp [hi,qi,e]
end Mine
namespace Mine
open PySem PySem.W PySem.W.X PyProof.Rows PySem.Calls
theorem runs_toks {M:Model} {Γ:Ctx} {p:Pos} {t:Sem Fin} {fs:List Frame} {s s':Shared} {e:End} (h:Runs M Γ p t fs s e s'):s.toks≤s'.toks:=by
  induction h <;> first
    | exact Nat.le_refl _
    | assumption
    | (dsimp only [Shared.setGen] at *; lia)
    | lia
    | (refine Nat.le_trans ?_ ‹_›; exact Nat.le_succ _)
    | exact Nat.le_trans ‹_› ‹_›
theorem codeAny_toks {M:Model} {A:Around} {c:Code} {R:Result→Shared→Prop} {s:Shared} (h:codeAny M A c (fun r s'=>s.toks≤s'.toks→R r s') s):codeAny M A c R s:=by
  intro Γ p h1 h2
  obtain ⟨r,s',hr,hR⟩:=h Γ p h1 h2
  exact ⟨r,s',hr,hR (runs_toks hr)⟩
end Mine
namespace Mine
open PySem PySem.W PySem.W.X PyProof.Rows PySem.Calls
open Sem (wp)
theorem wp_const {M:Model} {Γ:Ctx} {α:Type} {B:Prop} : ∀ (m:Sem α) (p:Pos) (s:Shared),wp M Γ m (fun _ _ _=>B) (fun _ _ _=>B) p s→B:=by
  intro m
  induction m with
  | pure a=>intro p s h; rw [wp] at h; exact h
  | raise e=>intro p s h; rw [wp] at h; exact h
  | unsupported=>intro p s h; rw [wp] at h; exact h.elim
  | finish=>intro p s h; rw [wp] at h; exact h.elim
  | rule _ k ih=>intro p s h; rw [wp] at h; exact ih _ _ _ h
  | «at» _ k ih=>intro p s h; rw [wp] at h; exact ih _ _ _ h
  | load a _ k ih=>intro p s h; rw [wp] at h; obtain ⟨o,_,h⟩:=h; exact ih _ _ _ h
  | update a _ f k ih=>intro p s h; rw [wp] at h; exact ih _ _ _ h.2
  | loadIfAlive a k ih=>intro p s h; rw [wp] at h; exact ih _ _ _ h
  | point _ k ih=>intro p s h; rw [wp] at h; exact ih _ _ _ h
  | register=>intro p s h; rw [wp] at h; exact h.elim
  | alloc o k ih=>intro p s h; rw [wp] at h; exact ih _ _ _ h
  | fresh k ih=>intro p s h; rw [wp] at h; exact ih _ _ _ h
  | ask k ih=>intro p s h; rw [wp] at h; exact ih _ _ _ h
  | choose src n k ih=>intro p s h; rw [wp] at h; exact ih _ _ _ h.2
  | os q _ k ih=>intro p s h; rw [wp] at h; exact ih _ _ _ h
  | call c h' _ _ k ih=>intro p s h; rw [wp] at h; obtain ⟨r,s',_,h⟩:=h; exact ih _ _ _ h
  | handled own k ih=>intro p s h; rw [wp] at h; exact ih _ _ _ h
  | genState g k ih=>intro p s h; rw [wp] at h; obtain ⟨st,_,h⟩:=h; exact ih _ _ _ h
  | newGen c k ih=>intro p s h; rw [wp] at h; exact ih _ _ _ h
  | resume g r _ k ih=>intro p s h; rw [wp] at h; obtain ⟨res,s',_,h⟩:=h; exact ih _ _ _ h
  | yield=>intro p s h; rw [wp] at h; exact h.elim
  | stack k ih=>intro p s h; rw [wp] at h; exact ih _ _ _ h
  | fork=>intro p s h; rw [wp] at h; exact h.elim
  | thread k ih=>intro p s h; rw [wp] at h; exact ih _ _ _ h
  | await=>intro p s h; rw [wp] at h; exact h.elim
noncomputable def asS (x:Sem Value):Sem Str:=Sem.bind x fun v=>Sem.bind (asStr? v) fun o=>match o with
  | some s => .pure s
  | none => .unsupported ""
noncomputable def oR {α:Type} (x:Sem α):Sem α:=x.onRaise fun _ => .unsupported ""
noncomputable def addX (a b:Str):Sem Value := .call (.builtin "str.__add__" ⟨[.str a 0,.str b 0],[]⟩) none false [] fun r=>match r with
  | .ok f=>match f with
    | .ret v => .pure v
    | _ => .unsupported ""
  | .error _ => .unsupported ""
noncomputable def habX (row:String) (v:Value):Sem Value := .ask fun st => @Bool.rec (fun _=>Sem Value) (.pure v) (match v with
  | .str s _ => .fresh fun t => .pure (.str s t)
  | _ => .unsupported "") (st.params.followText row)
noncomputable def part2 (pos:Pos) (v:Value):Sem Value:=Sem.bind (standAt pos) fun _=>match v with
  | .str _ _=>Sem.bind (habX "fstring-hands-on-the-str" v) fun v=>habX "fstring-hands-on-the-str" v
  | _ => .unsupported ""
noncomputable def joinX (x1 x2 x3 x4:Sem Value):Sem Value:=Sem.bind (asS x1) fun s1=>Sem.bind (oR (asS x2)) fun s2=>Sem.bind (oR (asS x3)) fun s3=>Sem.bind (oR (asS x4)) fun s4 =>
  match s2.cps.toList with
  | [] => .unsupported ""
  | _::_=>match s4.cps.toList with
    | [] => .unsupported ""
    | _::_=>addX (((Str.empty++s1)++s2)++s3) s4
theorem den_add {prog:Program} {w:World} {a b:Str} (ha:a.length≠0) (hb:b.length≠0):(model prog w).den (.builtin "str.__add__" ⟨[.str a 0,.str b 0],[]⟩)=retStr (a++b):=by
  have e1:(model prog w).den=denote table:=rfl
  have e2 : ∀ (id:String) (args:Args) (b:Builtin),entryFor table id=some b→denote table (.builtin id args)=b args:=fun id args b h=>by
    rw [denote]
    cases q:entryFor table id with
    | none=>rw [q] at h; cases h
    | some b'=>rw [q] at h; cases h; rfl
  rw [e1,e2 _ _ _ entry_str_add]
  show (do
      if (true && a.length == 0)=true then (do rule "str.__add__.left-empty"; ret (.str b 0)) else
      if (true && b.length == 0)=true then (do rule "str.__add__.right-empty"; ret (.str a 0)) else
      retStr (a++b))=_
  rw [if_neg (by simpa using ha),if_neg (by simpa using hb)]
theorem add_inv {prog:Program} {w:World} {Γ:Ctx} {p:Pos} {s:Shared} {Q:Value→Pos→Shared→Prop} {E:Value→Pos→Shared→Prop} {a b:Str} (ha:a.length≠0) (hb:b.length≠0) (h:wp (model prog w) Γ (addX a b) Q E p s) :
    (a++b).length≤sizeLine∧wp (model prog w) Γ (mkStr (a++b)) Q E p s:=by
  unfold addX at h
  rw [Sem.wp_call,wpCode_iff_wp] at h
  have e:(model prog w).den (Γ.enter (.builtin "str.__add__" ⟨[.str a 0,.str b 0],[]⟩) none p).code=retStr (a++b):=den_add ha hb
  rw [e] at h
  unfold retStr mkStr at h
  unfold mkStr
  by_cases q:(a++b).length > sizeLine
  · rw [if_pos q] at h
    rw [Sem.wp_bind'] at h
    rw [Sem.wp_unsupported] at h
    exact h.elim
  · rw [if_neg q] at h ⊢
    refine ⟨by omega,?_⟩
    rw [Sem.wp_bind',Sem.wp_bind'] at h
    rw [Sem.wp_bind']
    unfold fresh at h ⊢
    rw [Sem.wp_fresh,Sem.wp_pure,Sem.wp_pure'] at h
    rw [Sem.wp_fresh,Sem.wp_pure,Sem.wp_pure']
    unfold ret at h
    rw [Sem.wp_pure'] at h
    unfold Sem.finPost at h
    simpa using h
theorem join_step {M:Model} {Γ:Ctx} {p:Pos} {s:Shared} {Q:Value→Pos→Shared→Prop} {E:Value→Pos→Shared→Prop} {out:Str} {x:Sem Value} {rest:List (Sem Value)}
    (h:wp M Γ (asS x) (fun a p' s'=>out.length+a.length≤sizeLine∧wp M Γ (joinParts (out++a) rest) Q E p' s') E p s):wp M Γ (joinParts out (x::rest)) Q E p s:=by
  unfold joinParts
  unfold asS at h
  rw [Sem.wp_bind] at h
  rw [Sem.wp_bind']
  refine Sem.wp_mono _ Γ _ (fun v p1 s1 h1 => ?_) (fun _ _ _ h'=>h') p s h
  rw [Sem.wp_bind] at h1
  rw [Sem.wp_bind']
  refine Sem.wp_mono _ Γ _ (fun o p2 s2 h2 => ?_) (fun _ _ _ h'=>h') p1 s1 h1
  cases o with
  | none =>
    rw [Sem.wp_unsupported] at h2
    exact h2.elim
  | some a =>
    rw [Sem.wp_pure] at h2
    obtain ⟨h3,h4⟩:=h2
    show wp M Γ (if out.length+a.length > sizeLine then _ else _) Q E p2 s2
    rw [if_neg (by omega)]
    exact h4
theorem len_app (a b:Str):(a++b).length=a.length+b.length:=by
  show (a.cps++b.cps).size=_
  rw [Array.size_append]
  rfl
noncomputable def Better (M:Model) (x' x:Sem Value):Prop := ∀ (Γ:Ctx) (p:Pos) (s:Shared) (Q:Str→Pos→Shared→Prop) (E:Value→Pos→Shared→Prop),(∀ a p' s',Q a p' s'→a.length≤sizeLine)→wp M Γ (asS x') Q E p s→wp M Γ (asS x) Q E p s
theorem Better.refl {M:Model} (x:Sem Value):Better M x x:=fun _ _ _ _ _ _ h=>h
theorem habX_str {M:Model} {Γ:Ctx} {p:Pos} {s:Shared} {Q:Value→Pos→Shared→Prop} {E:Value→Pos→Shared→Prop} {row:String} {a:Str} {t:Tok} (ha:a.length≤sizeLine) (h:wp M Γ (habX row (.str a t)) Q E p s):wp M Γ (habitSame row (.str a t)) Q E p s:=by
  unfold habX at h
  rw [Sem.wp_ask] at h
  unfold habitSame ask
  rw [Sem.wp_bind',Sem.wp_ask,Sem.wp_pure]
  cases q:M.w.params.followText row with
  | false =>
    simp only [q] at h ⊢
    exact h
  | true =>
    simp only [q] at h
    rw [Sem.wp_fresh] at h
    simp only [q]
    show wp M Γ (mkStr a) Q E p s
    unfold mkStr
    rw [if_neg (by omega),Sem.wp_bind']
    unfold fresh
    rw [Sem.wp_fresh,Sem.wp_pure]
    exact h
theorem habX_val {M:Model} {Γ:Ctx} {p:Pos} {s:Shared} {Q:Value→Pos→Shared→Prop} {E:Value→Pos→Shared→Prop} {row:String} {a:Str} {t:Tok} (h:wp M Γ (habX row (.str a t)) Q E p s) : ∃ t' p' s',Q (.str a t') p' s':=by
  unfold habX at h
  rw [Sem.wp_ask] at h
  cases q:M.w.params.followText row with
  | false =>
    simp only [q] at h
    rw [Sem.wp_pure] at h
    exact ⟨_,_,_,h⟩
  | true =>
    simp only [q] at h
    rw [Sem.wp_fresh,Sem.wp_pure] at h
    exact ⟨_,_,_,h⟩
theorem part_better {M:Model} (x:Sem Value) (pos:Pos):Better M (Sem.bind x (part2 pos)) (Sem.bind x fun v=>Sem.bind (standAt pos) fun _=>Sem.bind (holding [v] (converted 115 v)) fun v=>formatted pos v none):=by
  intro Γ p s Q E hQ h
  unfold asS at h ⊢
  rw [Sem.wp_bind,Sem.wp_bind] at h ⊢
  refine Sem.wp_mono _ Γ _ (fun v p1 s1 h1 => ?_) (fun _ _ _ h'=>h') p s h
  unfold part2 at h1
  rw [Sem.wp_bind] at h1 ⊢
  refine Sem.wp_mono _ Γ _ (fun _ p2 s2 h2 => ?_) (fun _ _ _ h'=>h') p1 s1 h1
  split at h2
  · rename_i a t
    rw [Sem.wp_bind] at h2
    obtain ⟨t1,p3,s3,h3⟩:=habX_val h2
    obtain ⟨t2,p4,s4,h4⟩:=habX_val h3
    have ha:a.length≤sizeLine:=by
      simp only [asStr?] at h4
      rw [Sem.wp_bind] at h4
      have h4:Q a p4 s4:=by simpa using h4
      exact hQ _ _ _ h4
    rw [Sem.wp_bind]
    show wp M Γ (habitSame "fstring-hands-on-the-str" (.str a t)) _ _ _ _
    refine habX_str ha ?_
    have key : ∀ t' p' s',wp M Γ (habX "fstring-hands-on-the-str" (.str a t')) (fun v p' s'=>wp M Γ (Sem.bind (asStr? v) fun o=>match o with
        | some s => .pure s
        | none => .unsupported "") Q E p' s') E p' s'→wp M Γ (formatted pos (.str a t') none) (fun v p' s'=>wp M Γ (Sem.bind (asStr? v) fun o=>match o with
        | some s => .pure s
        | none => .unsupported "") Q E p' s') E p' s':=by
      intro t' p' s' h'
      show wp M Γ (do rule "fstring.same-str"; return ← habitSame "fstring-hands-on-the-str" (.str a t')) _ _ _ _
      rw [Sem.wp_bind']
      unfold rule
      rw [Sem.wp_rule,Sem.wp_pure]
      exact habX_str ha h'
    unfold habX at h2 ⊢
    rw [Sem.wp_ask] at h2 ⊢
    cases q:M.w.params.followText "fstring-hands-on-the-str" with
    | false =>
      simp only [q] at h2 ⊢
      rw [Sem.wp_pure] at h2 ⊢
      exact key _ _ _ h2
    | true =>
      simp only [q] at h2 ⊢
      rw [Sem.wp_fresh,Sem.wp_pure] at h2 ⊢
      exact key _ _ _ h2
  · rw [Sem.wp_unsupported] at h2
    exact h2.elim
theorem step1 {M:Model} {Γ:Ctx} {p:Pos} {s:Shared} {Q:Value→Pos→Shared→Prop} {E:Value→Pos→Shared→Prop} {out:Str} {x x':Sem Value} {rest:List (Sem Value)} {f:Str→Sem Value} (hx:Better M x' x)
    (hf : ∀ a p' s',wp M Γ (f a) Q E p' s'→(out++a).length≤sizeLine∧wp M Γ (joinParts (out++a) rest) Q E p' s') (h:wp M Γ (Sem.bind (asS x') f) Q E p s):wp M Γ (joinParts out (x::rest)) Q E p s:=by
  rw [Sem.wp_bind] at h
  have h:=Sem.wp_mono _ Γ _ (fun s1 p1 t1 h=>hf s1 p1 t1 h) (fun _ _ _ h'=>h') p s h
  have h:=hx Γ p s _ E (fun a p' s' h'=>by have:=h'.1; rw [len_app] at this; omega) h
  refine join_step (Sem.wp_mono _ Γ _ (fun s1 p1 t1 h => ?_) (fun _ _ _ h'=>h') p s h)
  rw [len_app] at h
  exact h
theorem step2 {M:Model} {Γ:Ctx} {p:Pos} {s:Shared} {Q:Value→Pos→Shared→Prop} {E:Value→Pos→Shared→Prop} {out:Str} {x x':Sem Value} {rest:List (Sem Value)} {f:Str→Sem Value} (hx:Better M x' x)
    (hf : ∀ a p' s',wp M Γ (f a) Q E p' s'→(out++a).length≤sizeLine∧wp M Γ (joinParts (out++a) rest) Q E p' s') (h:wp M Γ (Sem.bind (oR (asS x')) f) Q E p s):out.length≤sizeLine∧wp M Γ (joinParts out (x::rest)) Q E p s:=by
  rw [Sem.wp_bind] at h
  unfold oR at h
  rw [Sem.wp_onRaise] at h
  have h:wp M Γ (asS x') (fun a p' s'=>wp M Γ (f a) Q E p' s') (fun _ _ _=>False) p s:=Sem.wp_mono _ Γ _ (fun _ _ _ h'=>h') (fun _ _ _ h'=>by rw [Sem.wp_unsupported] at h'; exact h') p s h
  refine ⟨wp_const (asS x') p s (Sem.wp_mono _ Γ _ (fun a p' s' h' => ?_) (fun _ _ _ h'=>h'.elim) p s h),step1 hx hf ?_⟩
  · have:=(hf a p' s' h').1
    rw [len_app] at this
    omega
  · rw [Sem.wp_bind]
    exact Sem.wp_mono _ Γ _ (fun _ _ _ h'=>h') (fun _ _ _ h'=>h'.elim) p s h
theorem join_le {prog:Program} {w:World} (x1 x2 x3 x4 y1 y2 y3 y4:Sem Value) (g1:Better (model prog w) x1 y1) (g2:Better (model prog w) x2 y2) (g3:Better (model prog w) x3 y3) (g4:Better (model prog w) x4 y4) (Γ:Ctx) (p:Pos) (s:Shared) (Q:Value→Pos→Shared→Prop) (E:Value→Pos→Shared→Prop) (h:wp (model prog w) Γ (joinX x1 x2 x3 x4) Q E p s) :
    wp (model prog w) Γ (joinedStr [y1,y2,y3,y4]) Q E p s:=by
  show wp _ _ (joinParts Str.empty [y1,y2,y3,y4]) Q E p s
  unfold joinX at h
  refine step1 g1 (fun s1 p1 t1 h=>step2 g2 (fun s2 p2 t2 h=>step2 g3 (fun s3 p3 t3 h=>step2 g4 (fun s4 p4 t4 h => ?_) h) h) h) h
  split at h
  · rw [Sem.wp_unsupported] at h; exact h.elim
  · rename_i c l hs2
    split at h
    · rw [Sem.wp_unsupported] at h; exact h.elim
    · rename_i c' l' hs4
      have e2:s2.length=l.length+1:=by
        show s2.cps.size=_
        rw [← Array.length_toList,hs2]; rfl
      have e4:s4.length=l'.length+1:=by
        show s4.cps.size=_
        rw [← Array.length_toList,hs4]; rfl
      obtain ⟨a1,a2⟩:=add_inv (by rw [len_app,len_app]; omega) (by omega) h
      exact ⟨a1,a2⟩
noncomputable def eqX (p q:Int):Sem Bool := .call (.builtin "int.__eq__" ⟨[.int p 0,.int q 0],[]⟩) none false [] fun r=>match r with
  | .ok f=>match f with
    | .ret v=>match v with
      | .bool b => .pure b
      | _ => .unsupported ""
    | _ => .unsupported ""
  | .error _ => .unsupported ""
theorem den_eq {prog:Program} {w:World} {p q:Int}:(model prog w).den (.builtin "int.__eq__" ⟨[.int p 0,.int q 0],[]⟩)=ret (.bool (p == q)):=by
  have e1:(model prog w).den=denote table:=rfl
  have e2 : ∀ (id:String) (args:Args) (b:Builtin),entryFor table id=some b→denote table (.builtin id args)=b args:=fun id args b h=>by
    rw [denote]
    cases q:entryFor table id with
    | none=>rw [q] at h; cases h
    | some b'=>rw [q] at h; cases h; rfl
  rw [e1,e2 _ _ _ F.entry_int_eq]
  rfl
theorem eq_inv {prog:Program} {w:World} {Γ:Ctx} {p:Pos} {s:Shared} {Q:Bool→Pos→Shared→Prop} {E:Value→Pos→Shared→Prop} {a b:Int} (h:wp (model prog w) Γ (eqX a b) Q E p s):Q (a == b) p s:=by
  unfold eqX at h
  rw [Sem.wp_call,wpCode_iff_wp] at h
  have e:(model prog w).den (Γ.enter (.builtin "int.__eq__" ⟨[.int a 0,.int b 0],[]⟩) none p).code=ret (.bool (a == b)):=den_eq
  rw [e] at h
  unfold ret at h
  rw [Sem.wp_pure'] at h
  unfold Sem.finPost at h
  simpa using h
noncomputable def cDii:Nat:=39281955226987371715819988748603916315237
theorem cDii_eq:PySem.code "dict_itemiterator" = cDii:=by decide +kernel
noncomputable def letE (target:Expr) (r a:Addr) (n:String) (p:Int):Sem Unit := @Bool.rec (fun _=>Sem Unit) (letOwnedTupleGo target (.ref r) (.ref a)) (Sem.bind (eqX p (Int.ofNat a)) fun b => @Bool.rec (fun _=>Sem Unit) (.pure ()) (updateField r 0 .none) b) (Nat.beq (PySem.W.S.codeS n) cDii)
noncomputable def letO (target:Expr) (r a:Addr) (o:Obj):Sem Unit:=match o.cls with
  | .type n=>match o.data with
    | .fields vs=>match vs.toList with
      | .int p 0::_=>letE target r a n p
      | _=>letOwnedTupleGo target (.ref r) (.ref a)
    | _=>letOwnedTupleGo target (.ref r) (.ref a)
  | _=>letOwnedTupleGo target (.ref r) (.ref a)
noncomputable def letX (target:Expr) (it v:Value):Sem Unit:=match target with
  | .Tuple .. => match it with
    | .ref r=>match v with
      | .ref a=>Sem.bind (load r) fun o=>letO target r a o
      | _=>letOwnedTupleGo target it v
    | _=>letOwnedTupleGo target it v
  | _=>letOwnedTupleGo target it v
theorem letX_le {prog:Program} {w:World} (target:Expr) (it v:Value) (Γ:Ctx) (p:Pos) (s:Shared) (Q:Unit→Pos→Shared→Prop) (E:Value→Pos→Shared→Prop) (h:wp (model prog w) Γ (letX target it v) Q E p s):wp (model prog w) Γ (letOwnedTupleGo target it v) Q E p s:=by
  unfold letX at h
  split at h
  · rename_i es cx ps
    split at h
    · rename_i r
      split at h
      · rename_i a
        rw [Sem.wp_bind] at h
        unfold load at h
        rw [Sem.wp_load] at h
        obtain ⟨o,ho,h⟩:=h
        rw [Sem.wp_pure] at h
        unfold letO at h
        split at h
        · rename_i n hn
          split at h
          · rename_i vs hvs
            split at h
            · rename_i q rest hl
              unfold letE at h
              cases hc:Nat.beq (PySem.W.S.codeS n) cDii with
              | false=>rw [hc] at h; exact h
              | true =>
                rw [hc] at h
                have e:=Nat.eq_of_beq_eq_true hc
                rw [← cDii_eq,← PySem.W.S.code_S] at e
                have hn':n = "dict_itemiterator" := PySem.code_inj _ _ e
                subst hn'
                have h:wp (model prog w) Γ (Sem.bind (eqX q (Int.ofNat a)) fun b => @Bool.rec (fun _=>Sem Unit) (.pure ()) (updateField r 0 .none) b) Q E p s:=h
                rw [Sem.wp_bind] at h
                have h:=eq_inv h
                show wp (model prog w) Γ (load r >>= fun o=>_) Q E p s
                rw [Sem.wp_bind']
                unfold load
                rw [Sem.wp_load]
                refine ⟨o,ho,?_⟩
                rw [Sem.wp_pure,hn,hvs]
                have hvs0:vs[0]? = some (.int q 0):=by
                  have:vs.toList[0]? = some (.int q 0):=by rw [hl]; rfl
                  simpa using this
                have hc2:["enumerate", "zip", "dict_itemiterator", "dict_reverseitemiterator", "odict_iterator", "itertools.zip_longest", "itertools.pairwise"].contains "dict_itemiterator" = true:=by decide
                have e3:(some (Value.int q 0) == some (rawInt (Int.ofNat a)))=(q == Int.ofNat a):=by
                  show (Value.int q 0 == Value.int (Int.ofNat a) 0)=_
                  by_cases hq:q=Int.ofNat a
                  · subst hq; simp
                  · have : ¬ (Value.int q 0=Value.int (Int.ofNat a) 0):=fun z=>by injection z; contradiction
                    rw [beq_eq_false_iff_ne.mpr this,beq_eq_false_iff_ne.mpr hq]
                show wp (model prog w) Γ (if (_ && vs[0]? == some (rawInt (Int.ofNat a)))=true then _ else _) Q E p s
                rw [hc2,hvs0,e3,Bool.true_and]
                cases hb:(q == Int.ofNat a) with
                | true =>
                  rw [hb] at h
                  show wp (model prog w) Γ (do rule "for.unpacks-the-owned-tuple"; updateField r 0 .none) Q E p s
                  rw [Sem.wp_bind']
                  unfold rule
                  rw [Sem.wp_rule,Sem.wp_pure]
                  exact h
                | false =>
                  rw [hb] at h
                  exact h
            · exact h
          · exact h
        · exact h
      · exact h
    · exact h
  · exact h
noncomputable def Good (y:Sem Flow) (stmts:List Stmt) (env:Env):Prop := ∀ (M:Model) (Γ:Ctx) (p:Pos) (s:Shared) (Q:Flow→Pos→Shared→Prop) (E:Value→Pos→Shared→Prop),wp M Γ (execs stmts env) Q (fun _ _ _=>False) p s→wp M Γ y Q E p s
theorem Good.onRaise {y:Sem Flow} {stmts:List Stmt} {env:Env} {h:Value→Sem Unit} (g:Good y stmts env):Good (y.onRaise h) stmts env:=fun M Γ p s Q E hw=>by
  rw [Sem.wp_onRaise]
  exact g M Γ p s Q _ hw
inductive Var {α:Type}:Sem α→Sem α→Prop
  | refl (t:Sem α):Var t t
  | rule {tag:String} {k k':Unit→Sem α}:(∀ u,Var (k u) (k' u))→Var (.rule tag k) (.rule tag k')
  | at {p:Pos} {k k':Unit→Sem α}:(∀ u,Var (k u) (k' u))→Var (.at p k) (.at p k')
  | load {a:Addr} {q:Option Value} {k k':Obj→Sem α}:(∀ u,Var (k u) (k' u))→Var (.load a q k) (.load a q k')
  | update {a:Addr} {q:Option Value} {f:Obj→Obj} {k k':Unit→Sem α}:(∀ u,Var (k u) (k' u))→Var (.update a q f k) (.update a q f k')
  | alloc {o:Obj} {k k':Addr→Sem α}:(∀ u,Var (k u) (k' u))→Var (.alloc o k) (.alloc o k')
  | alive {a:Addr} {k k':Option Obj→Sem α}:(∀ u,Var (k u) (k' u))→Var (.loadIfAlive a k) (.loadIfAlive a k')
  | point {l:List Value} {k k':Unit→Sem α}:(∀ u,Var (k u) (k' u))→Var (.point l k) (.point l k')
  | register {a:Addr} {k k':Unit→Sem α}:(∀ u,Var (k u) (k' u))→Var (.register a k) (.register a k')
  | fresh {k k':Tok→Sem α}:(∀ u,Var (k u) (k' u))→Var (.fresh k) (.fresh k')
  | ask {k k':Setting→Sem α}:(∀ u,Var (k u) (k' u))→Var (.ask k) (.ask k')
  | choose {src:Source} {n:Nat} {k k':Nat→Sem α}:(∀ u,Var (k u) (k' u))→Var (.choose src n k) (.choose src n k')
  | os {req:OsRequest} {l:List Value} {k k':OsReply→Sem α}:(∀ u,Var (k u) (k' u))→Var (.os req l k) (.os req l k')
  | call {c:Code} {h:Option Value} {g:Bool} {l:List Value} {k k':Result→Sem α}:(∀ u,Var (k u) (k' u))→Var (.call c h g l k) (.call c h g l k')
  | handled {own:Bool} {k k':Option Value→Sem α}:(∀ u,Var (k u) (k' u))→Var (.handled own k) (.handled own k')
  | newGen {c:Code} {k k':Nat→Sem α}:(∀ u,Var (k u) (k' u))→Var (.newGen c k) (.newGen c k')
  | genState {g:Nat} {k k':GenStatus × Option (List (Code × Pos))→Sem α}:(∀ u,Var (k u) (k' u))→Var (.genState g k) (.genState g k')
  | resume {g:Nat} {r:Resume} {l:List Value} {k k':GenResult→Sem α}:(∀ u,Var (k u) (k' u))→Var (.resume g r l k) (.resume g r l k')
  | yield {v:Value} {g:Bool} {l:List Value} {k k':Resume→Sem α}:(∀ u,Var (k u) (k' u))→Var (.yield v g l k) (.yield v g l k')
  | stack {k k':List (Code × Pos)→Sem α}:(∀ u,Var (k u) (k' u))→Var (.stack k) (.stack k')
  | fork {c:Code} {k k':Nat→Sem α}:(∀ u,Var (k u) (k' u))→Var (.fork c k) (.fork c k')
  | thread {k k':Nat→Sem α}:(∀ u,Var (k u) (k' u))→Var (.thread k) (.thread k')
  | await {a:Addr} {f:Obj→Option Obj} {b:Bool} {l:List Value} {k k':Bool→Sem α}:(∀ u,Var (k u) (k' u))→Var (.await a f b l k) (.await a f b l k')
  | inl {stmts:List Stmt} {env:Env} {g:Bool} {l:List Value} {k:Result→Sem α} {y:Sem Flow} {k':Flow→Sem α}:Good y stmts env→(∀ f,Var (k (.ok f)) (k' f))→Var (.call (.block stmts env) none g l k) (Sem.bind y k')
theorem Var.bind_r {α β:Type} {f f':α→Sem β} (hf : ∀ a,Var (f a) (f' a)) : ∀ m:Sem α,Var (m.bind f) (m.bind f'):=by
  intro m
  induction m with
  | pure a=>exact hf a
  | raise e=>exact .refl _
  | unsupported=>exact .refl _
  | finish=>exact .refl _
  | rule _ k ih=>exact .rule ih
  | «at» _ k ih=>exact .at ih
  | load a _ k ih=>exact .load ih
  | update a _ f k ih=>exact .update ih
  | loadIfAlive a k ih=>exact .alive ih
  | point _ k ih=>exact .point ih
  | register _ k ih=>exact .register ih
  | alloc o k ih=>exact .alloc ih
  | fresh k ih=>exact .fresh ih
  | ask k ih=>exact .ask ih
  | choose src n k ih=>exact .choose ih
  | os q _ k ih=>exact .os ih
  | call c h' _ _ k ih=>exact .call ih
  | handled own k ih=>exact .handled ih
  | genState g k ih=>exact .genState ih
  | newGen c k ih=>exact .newGen ih
  | resume g r _ k ih=>exact .resume ih
  | yield _ _ _ k ih=>exact .yield ih
  | stack k ih=>exact .stack ih
  | fork _ k ih=>exact .fork ih
  | thread k ih=>exact .thread ih
  | await _ _ _ _ k ih=>exact .await ih
theorem Var.bind {α β:Type} {m m':Sem α} {f f':α→Sem β} (h:Var m m') (hf : ∀ a,Var (f a) (f' a)):Var (m.bind f) (m'.bind f'):=by
  induction h with
  | refl t=>exact Var.bind_r hf t
  | inl g hk ih =>
    rw [Sem.bind_assoc]
    exact .inl g ih
  | rule _ ih=>exact .rule ih
  | «at» _ ih=>exact .at ih
  | load _ ih=>exact .load ih
  | update _ ih=>exact .update ih
  | alive _ ih=>exact .alive ih
  | point _ ih=>exact .point ih
  | register _ ih=>exact .register ih
  | alloc _ ih=>exact .alloc ih
  | fresh _ ih=>exact .fresh ih
  | ask _ ih=>exact .ask ih
  | choose _ ih=>exact .choose ih
  | os _ ih=>exact .os ih
  | call _ ih=>exact .call ih
  | handled _ ih=>exact .handled ih
  | genState _ ih=>exact .genState ih
  | newGen _ ih=>exact .newGen ih
  | resume _ ih=>exact .resume ih
  | yield _ ih=>exact .yield ih
  | stack _ ih=>exact .stack ih
  | fork _ ih=>exact .fork ih
  | thread _ ih=>exact .thread ih
  | await _ ih=>exact .await ih
theorem onRaise_bind {α β:Type} (h:Value→Sem Unit) (f:α→Sem β) : ∀ m:Sem α,(m.bind f).onRaise h=(m.onRaise h).bind fun a=>(f a).onRaise h:=by
  intro m
  induction m with
  | raise e =>
    show (h e).bind (fun _ => .raise e)=((h e).bind (fun _ => .raise e)).bind _
    rw [Sem.bind_assoc]; rfl
  | _=>first | rfl | (simp only [Sem.bind,Sem.onRaise]; congr 1; funext u; solve_by_elim)
theorem Var.onRaise {α:Type} {h:Value→Sem Unit} {m m':Sem α} (v:Var m m'):Var (m.onRaise h) (m'.onRaise h):=by
  induction v with
  | refl t=>exact .refl _
  | inl g hk ih =>
    rw [onRaise_bind]
    exact .inl g.onRaise ih
  | rule _ ih=>exact .rule ih
  | «at» _ ih=>exact .at ih
  | load _ ih=>exact .load ih
  | update _ ih=>exact .update ih
  | alive _ ih=>exact .alive ih
  | point _ ih=>exact .point ih
  | register _ ih=>exact .register ih
  | alloc _ ih=>exact .alloc ih
  | fresh _ ih=>exact .fresh ih
  | ask _ ih=>exact .ask ih
  | choose _ ih=>exact .choose ih
  | os _ ih=>exact .os ih
  | call _ ih=>exact .call ih
  | handled _ ih=>exact .handled ih
  | genState _ ih=>exact .genState ih
  | newGen _ ih=>exact .newGen ih
  | resume _ ih=>exact .resume ih
  | yield _ ih=>exact .yield ih
  | stack _ ih=>exact .stack ih
  | fork _ ih=>exact .fork ih
  | thread _ ih=>exact .thread ih
  | await _ ih=>exact .await ih
end Mine
namespace Mine
open PySem PySem.W PySem.W.X PyProof.Rows
noncomputable abbrev L:Nat:=331
inductive PT where
  | nil
  | node (a b:Nat) (l r:PT)
noncomputable def PT.ins (t:PT):Nat→Nat→Nat→PT :=
  @PT.rec (fun _=>Nat→Nat→Nat→PT) (fun _ a b => .node a b .nil .nil) (fun c d l r il ir i a b =>
    @Bool.rec (fun _=>PT) (.node c d l (ir (Nat.div i 2) a b)) (.node c d (il (Nat.div i 2) a b) r) (Nat.beq (Nat.mod i 2) 1)) t
noncomputable def PT.AllEq:PT→Prop
  | .nil=>True
  | .node a b l r=>a=b∧l.AllEq∧r.AllEq
theorem PT.allEq_ins : ∀ (t:PT) (i a b:Nat),(t.ins i a b).AllEq→t.AllEq∧a=b
  | .nil,_,_,_,h=>⟨trivial,h.1⟩
  | .node c d l r,i,a,b,h=>by
    have e:(PT.node c d l r).ins i a b = @Bool.rec (fun _=>PT) (.node c d l (r.ins (i / 2) a b)) (.node c d (l.ins (i / 2) a b) r) (Nat.beq (i % 2) 1):=rfl
    rw [e] at h
    cases q:Nat.beq (i % 2) 1 with
    | true=>rw [q] at h; exact ⟨⟨h.1,(allEq_ins l _ _ _ h.2.1).1,h.2.2⟩,(allEq_ins l _ _ _ h.2.1).2⟩
    | false=>rw [q] at h; exact ⟨⟨h.1,h.2.1,(allEq_ins r _ _ _ h.2.2).1⟩,(allEq_ins r _ _ _ h.2.2).2⟩
noncomputable def PT.dup (t:PT):PT := @PT.rec (fun _=>PT) .nil (fun a _ _ _ l r => .node a a l r) t
theorem PT.allEq_of_dup : ∀ {t:PT},t=t.dup→t.AllEq
  | .nil,_=>trivial
  | .node a b l r,h=>by
    have h:PT.node a b l r = .node a a l.dup r.dup:=h
    injection h with _ h1 h2 h3
    exact ⟨h1.symm,allEq_of_dup h2,allEq_of_dup h3⟩
noncomputable def noO:Obj:=⟨.none,none,.plain,⟨[]⟩⟩
structure Out where
  t0:Nat
  x:Nat
  v:Nat→Nat
  ob:Nat→Obj
noncomputable def Out.t (o:Out):Nat:=Nat.succ o.t0
inductive Rz where
  | ok (f:Flow)
  | error (e:Value)
  | go (c:Code)
noncomputable def ofR (r:Result):Rz:=match r with
  | .ok f => .ok f
  | .error e => .error e
structure Post where
  r:Rz
  mod:List Obj
  new:List (Addr × Obj)
noncomputable abbrev En:=Addr × Obj
noncomputable def nthO (l:List En):Nat→Obj := @List.rec En (fun _=>Nat→Obj) (fun _=>noO) (fun p _ ih j => @Nat.rec (fun _=>Obj) p.2 (fun k _=>ih k) j) l
set_option genInjectivity false in
set_option genSizeOfSpec false in
inductive Plan where
  | fin (h:Nat) (v:Nat→Nat) (ni:List Nat)
  | use (h:Nat) (d:Nat) (c:Code) (idx:List Nat) (pre:List En) (post:Out→Post) (next:Out→Plan)
noncomputable def Plan.h:Plan→Nat
  | .fin h _ _=>h
  | .use h _ _ _ _ _ _=>h
set_option genInjectivity false in
set_option genSizeOfSpec false in
inductive Chk where
  | bad (n a:Nat)
  | fin (ps:PT) (r r':Rz) (os os' ns ns':List En)
  | use (ps:PT) (c c':Code) (os os':List En) (f:Out→Chk)
  | stk (ps:PT) (f:Pos→List (Code × Pos)→Chk)
  | more (ps:PT) (rest:Chk)
noncomputable def Chk.Ok:Chk→Prop
  | .bad _ _=>False
  | .fin ps r r' os os' ns ns'=>ps.AllEq∧r=r'∧os=os'∧ns=ns'
  | .use ps c c' os os' f=>ps.AllEq∧c=c'∧os=os' ∧ ∀ o,(f o).Ok
  | .stk ps f=>ps.AllEq ∧ ∀ p b,(f p b).Ok
  | .more ps rest=>ps.AllEq∧rest.Ok
noncomputable def Chk.dup (c:Chk):Chk := @Chk.rec (fun _=>Chk) (fun _ _ => .more .nil (.bad 0 0)) (fun ps r _ os _ ns _ => .fin ps.dup r r os os ns ns) (fun ps c _ os _ _ f => .use ps.dup c c os os f)
  (fun ps _ f => .stk ps.dup f) (fun ps _ rest => .more ps.dup rest) c
theorem Chk.ok_of_dup : ∀ {c:Chk},c=c.dup→c.Ok
  | .bad n a,h=>by
    have h:Chk.bad n a = .more .nil (.bad 0 0):=h
    cases h
  | .fin ps r r' os os' ns ns',h=>by
    have h:Chk.fin ps r r' os os' ns ns' = .fin ps.dup r r os os ns ns:=h
    injection h with h1 h2 h3 h4 h5 h6 h7
    exact ⟨PT.allEq_of_dup h1,h3.symm,h5.symm,h7.symm⟩
  | .use ps c c' os os' f,h=>by
    have h:Chk.use ps c c' os os' f = .use ps.dup c c os os (fun o=>(f o).dup):=h
    injection h with h1 h2 h3 h4 h5 h6
    exact ⟨PT.allEq_of_dup h1,h3.symm,h5.symm,fun o=>ok_of_dup (congrFun h6 o)⟩
  | .stk ps f,h=>by
    have h:Chk.stk ps f = .stk ps.dup (fun p b=>(f p b).dup):=h
    injection h with h1 h2
    exact ⟨PT.allEq_of_dup h1,fun p b=>ok_of_dup (congrFun (congrFun h2 p) b)⟩
  | .more ps rest,h=>by
    have h:Chk.more ps rest = .more ps.dup rest.dup:=h
    injection h with h1 h2
    exact ⟨PT.allEq_of_dup h1,ok_of_dup h2⟩
set_option genInjectivity false in
set_option genSizeOfSpec false in
inductive KK where
  | base
  | ret (c:Code) (dp:Nat) (k:Result→Sem Fin) (κ:KK)
noncomputable def okStrs:List String:=["NoneType.__eq__", "callable_iterator.__iter__", "callable_iterator.__next__", "dict.items", "dict_itemiterator.__next__", "dict_items.__iter__", "float.__add__", "float.__eq__", "float.__gt__", "float.__int__", "float.__le__", "float.__lt__", "float.__mod__", "float.__mul__", "float.__neg__", "float.__sub__", "float.__truediv__", "function.__get__", "int.__add__", "int.__bool__", "int.__eq__", "int.__floordiv__", "int.__gt__", "int.__lt__", "int.__mod__", "int.__mul__", "int.__neg__", "int.__new__", "int.__pow__", "int.__repr__", "int.__sub__", "int.__truediv__", "isinstance", "isinstance.nested", "iter", "len", "list.__add__", "list.__eq__.loop", "list.__getitem__", "list.__init__", "list.__iter__", "list.__len__", "list.__ne__", "list.__new__", "list.append", "list.extend.loop", "list.pop", "list_iterator.__next__", "max", "max.loop", "min", "min.loop", "object.__init__", "object.__new__", "object.__setattr__", "object.__str__", "proto.getattr_hooked", "range.__iter__", "range.__new__", "range_iterator.__next__", "re.Pattern.search", "str.__add__", "str.__contains__", "str.__eq__", "str.__getitem__", "str.__hash__", "str.__iter__", "str.__len__", "str.__ne__", "str.__new__", "str.join", "str.lower", "str.replace", "str.split", "str_ascii_iterator.__next__", "tuple.__eq__", "tuple.__getitem__", "tuple.__iter__", "tuple_iterator.__next__", "proto.let_go", "list.__eq__", "str.__mod__", "list_iterator.__iter__", "range_iterator.__iter__", "str_ascii_iterator.__iter__", "tuple_iterator.__iter__", "dict_itemiterator.__iter__"]
noncomputable def okCodes:List Nat:=[500416673435802740855456380174168143,154871483620844820483908825499292026105330360369147596340290148,154871534474935724191431299575622858322749446335671712506274404,549831036784903104784997,154871534474935724191431299575622858322749704592348232378772069,2149273587171496586788315739181875383800982117,7635736742593746904988760698215,29827158059823676462893919591,29827172263816613219248663911,7635756132778099520341684546919,29827101520553090543118216551,29827172356050333587796421991,7635736794761139145439372668263,7635746494501894959690641599847,7635740374333379904704154201447,7635734405354379277841151847783,32795333153300783131274136868348788501863,128106729249270423073818695490870408807,116512096292018843154739050,29827134633612522566320484202,455126313168696235093866,128106770130096871752080967664072486762,455126529904428302298986,455126531311803185852266,116512097088030077292474218,116512245094328231196454762,116512151707967833018560362,116512446855873012371386218,116512447577011902704086890,29827162985542091517149409130,116512060628576343961202538,500417070820629625416170301335891818,483534081766703640507498,34504710174192491542856066308153637762154,1936094570,7300717,29827096650756823847613524589,150786581052259025172200297655235275373,128106587276438692081757506308484131437,7635756109259221455878126594669,7635753672628796759583453637229,29827143893661030152192420461,116512115458775698011089517,29827186395103491167075199597,122627580202994350266018413,150786581052265140416522592343328844397,8174157772325415533,36058839055461744822429329989390181918337346850548333,7955054,8174156937927680622,7301742,8174156937927027310,500416912376412337332428835721536368,1954754487589502397125371494097776,8395600027772484101628393163519180982150000,1954752958321952417033813716853616,578892190251384323716698947995045951570422297457,1954752940192971970453299505619571,7635759717146493738706625585779,9231062798198206674541908477283886571094360729114862195,35863170436209133097404895493593441986163,116512096292018843154609524,128106709680535770272165659069392319860,455126313168696234964340,500416356548588640944365259017385332,29827115816926449915906979188,29827162783706237342122734964,116512280834613399031870836,455125451010842570225012,116512446855873012371256692,8028352891401237876,2128759343679922206068,123784485916095431283275124,2165937967108325602676,39647112825583545393006412691359451730623858335503063133055055220,29827158059823676398654027381,32795286342768305172929921614907396159093,1954752940192971970453299589641845,9231062798198206674541908477283886571094360729198884469,34788504898062588765686231921,116512336171186236184357485,116512097088030077292344692,36058827215071027279810240841305820761558218265881197,9231059767058182983631421655374290114958903811440075379,  39647099806936274043880659327818758682964572328072889394563085684,  9231059767058182983631421655374290114958903811524097653,  154871483620844820483908825499292026105330618625824116212787813]
noncomputable def tcCode:Nat:=7635746451779523968930960996981
theorem okCodes_eq:okStrs.map PySem.code=okCodes:=by decide +kernel
theorem tcCode_eq:PySem.code "type.__call__" = tcCode:=by decide +kernel
theorem okStrs_plain:okStrs.all plainId=true:=by decide +kernel
noncomputable def memN (l:List Nat) (n:Nat):Bool := @List.rec Nat (fun _=>Bool) false (fun a _ ih => @Bool.rec (fun _=>Bool) ih true (Nat.beq a n)) l
theorem memN_mem : ∀ {l:List Nat} {n:Nat},memN l n=true→n ∈ l
  | [],_,h=>by cases h
  | a::l,n,h=>by
    have h : @Bool.rec (fun _=>Bool) (memN l n) true (Nat.beq a n)=true:=h
    cases q:Nat.beq a n with
    | true=>rw [Nat.eq_of_beq_eq_true q]; exact .head _
    | false=>rw [q] at h; exact .tail _ (memN_mem h)
noncomputable def codeOk (c:Code):Bool:=match c with
  | .builtin id _ => @Bool.rec (fun _=>Bool) (memN okCodes (PySem.W.S.codeS id)) true (Nat.beq tcCode (PySem.W.S.codeS id))
  | _=>true
theorem code_of_ok {id:String} (h:memN okCodes (PySem.W.S.codeS id)=true):plainId id=true:=by
  have:=memN_mem h
  rw [← okCodes_eq,List.mem_map] at this
  obtain ⟨s,hs,e⟩:=this
  rw [← PySem.W.S.code_S] at e
  have:s=id:=PySem.code_inj _ _ e
  subst this
  exact List.all_eq_true.mp okStrs_plain s hs
theorem codeOk_spec {c:Code} (h:codeOk c=true):c.quiet=true∧c.weight≤1:=by
  cases c with
  | builtin id args =>
    have h : @Bool.rec (fun _=>Bool) (memN okCodes (PySem.W.S.codeS id)) true (Nat.beq tcCode (PySem.W.S.codeS id))=true:=h
    cases q:Nat.beq tcCode (PySem.W.S.codeS id) with
    | true =>
      have e:=Nat.eq_of_beq_eq_true q
      rw [← tcCode_eq,← PySem.W.S.code_S] at e
      have : "type.__call__" = id:=PySem.code_inj _ _ e
      subst this
      refine ⟨Code.quiet_builtin args (by decide +kernel),?_⟩
      have f:(Code.builtin "type.__call__" args).frames=0:=by kernel_rfl
      have g:(Code.builtin "type.__call__" args).isGuard=false:=by show guardIds.contains "type.__call__" = false; decide +kernel
      have k:(Code.builtin "type.__call__" args).isCaller=false:=rfl
      unfold Code.weight
      rw [f,g,k]
      split <;> simp
    | false =>
      rw [q] at h
      have p:=code_of_ok h
      exact ⟨plainId_quiet p args,by rw [plainId_weight p args]; exact Nat.zero_le _⟩
  | _ =>
    refine ⟨by simp [Code.quiet,Thread.loud,Thread.atCollectorCode,Thread.yieldsInsideHandler],?_⟩
    first
    | exact Nat.le_of_ble_eq_true (by kernel_rfl!)
    | (show (if Code.isFrame _=true then 1 else 0)+0+0+0≤1; split <;> decide)
noncomputable def recLim:Str:=⟨#[115,121,115,46,114,101,99,117,114,115,105,111,110,108,105,109,105,116]⟩
theorem recLim_eq:Str.ofString "sys.recursionlimit" = recLim:=by decide +kernel
noncomputable def noLimE (e:DictEntry):Bool:=match e.key with
  | .str s _ => @Bool.rec (fun _=>Bool) true false (PySem.W.Fast.sEq s recLim)
  | _=>false
noncomputable def allE (l:List DictEntry):Bool := @List.rec DictEntry (fun _=>Bool) true (fun e _ ih => @Bool.rec (fun _=>Bool) false ih (noLimE e)) l
noncomputable def noLimB (o:Obj):Bool:=match o.data with
  | .dict es _=>allE es.toList
  | _=>false
theorem allE_spec : ∀ {l:List DictEntry},allE l=true → ∀ e ∈ l,noLimE e=true
  | [],_,_,he=>nomatch he
  | a::l,h,e,he=>by
    have h : @Bool.rec (fun _=>Bool) false (allE l) (noLimE a)=true:=h
    cases q:noLimE a with
    | false=>rw [q] at h; cases h
    | true =>
      rw [q] at h
      cases List.mem_cons.mp he with
      | inl z=>rw [z]; exact q
      | inr z=>exact allE_spec h e z
theorem noLim_of {h:Heap} {o:Obj} (ho:h.get? cStatics=some o) (e:noLimB o=true):h.NoLimit:=by
  unfold noLimB at e
  split at e
  · rename_i es ep hd
    have H:=allE_spec e
    have hk:StrKeys es:=fun e' he'=>by
      have z:=H e' (Array.mem_toList_iff.mpr he')
      unfold noLimE at z
      split at z
      · rename_i s t hs; exact ⟨s,t,hs⟩
      · cases z
    refine ⟨nsFind es,⟨o,es,ep,ho,hd,hk,fun _=>rfl⟩,?_⟩
    rw [recLim_eq]
    unfold nsFind findBy
    rw [Option.map_eq_none_iff,Array.find?_eq_none]
    intro e' he'
    have z:=H e' (Array.mem_toList_iff.mpr he')
    unfold noLimE at z
    split at z
    · rename_i s t hs
      rw [hs]
      cases q:PySem.W.Fast.sEq s recLim with
      | true=>rw [q] at z; cases z
      | false =>
        intro y
        have y:(s == recLim)=true:=y
        have:s=recLim:=by simpa using y
        rw [PySem.W.Fast.sEq_iff.mpr this] at q; cases q
    · cases z
  · cases e
noncomputable def roomTree (k:Sem Fin):Sem Fin := .load cStatics none fun o => @Bool.rec (fun _=>Sem Fin) (.unsupported "room") k (noLimB o)
noncomputable def locSuf:Str:=⟨#[46,60,108,111,99,97,108,115,62,46]⟩
theorem locSuf_eq:Str.ofString ".<locals>." = locSuf:=by decide +kernel
noncomputable def bodyCode (b:FuncBody) (env:Env):Code:=match b with
  | .stmts b => .func b env
  | .expr e => .expr e env
noncomputable def callFn (self:Addr) (fd:FuncData) (args:Args):Sem Fin :=
  @Bool.rec (fun _=>Sem Fin) (@Bool.rec (fun _=>Sem Fin)
    (PySem.W.R.bindR (match fd.code with
      | .none => .pure fd.qualname
      | c=>PySem.W.R.bindR (PySem.W.Fast.tw6609576154772507232 c 1) fun v=>match v with
        | .str q _ => .pure q
        | _ => .pure fd.qualname) fun compiled =>
     PySem.W.R.bindR (PySem.W.Fast.tw9782568553167038054 fd args) fun binds =>
     PySem.W.R.bindR (PySem.W.Fast.tw11113344188204177931 fd.scope fd.globals fd.closure binds (compiled++locSuf) (some self) fd.code none fd.builtins) fun env =>
     roomTree (.pure (.again (bodyCode fd.body env)))) (.unsupported "co") fd.scope.isCoroutine) (.unsupported "gen") fd.scope.isGenerator
section
variable {prog:Program} {w:World} {A:Around}
theorem room_wp {Γ:Ctx} {p:Pos} {s:Shared} {a:Fin} {Q:Fin→Shared→Prop} {E:Value→Shared→Prop} (hΓ:Γ.In A) (hd:A.depth < recursionLimit)
    (h:Sem.wp (model prog w) Γ (roomTree (.pure a)) (fun a _ s'=>Q a s') (fun e _ s'=>E e s') p s):Sem.wp (model prog w) Γ (Sem.bind enterFrame fun _ => .pure a) (fun a _ s'=>Q a s') (fun e _ s'=>E e s') p s:=by
  obtain ⟨o,ho,hw⟩:=h
  cases q:noLimB o with
  | false =>
    have hw:Sem.wp (model prog w) Γ (@Bool.rec (fun _=>Sem Fin) (.unsupported "room") (.pure a) (noLimB o)) (fun a _ s'=>Q a s') (fun e _ s'=>E e s') p s:=hw
    rw [q] at hw; exact hw.elim
  | true =>
    have hw:Sem.wp (model prog w) Γ (@Bool.rec (fun _=>Sem Fin) (.unsupported "room") (.pure a) (noLimB o)) (fun a _ s'=>Q a s') (fun e _ s'=>E e s') p s:=hw
    rw [q] at hw
    have hq:Q a s:=hw
    have:=wpAny_bind (M:=model prog w) (A:=A) (E:=E) (s:=s) (m:=enterFrame) (f:=fun _=>(Sem.pure a:Sem Fin)) (Q:=Q) (wpAny_enterFrame (noLim_of ho q) hd (wpAny_pure hq))
    exact this Γ p hΓ
theorem bind_wp' {α β:Type} {Γ:Ctx} {p:Pos} {s:Shared} {Q:β→Pos→Shared→Prop} {E:Value→Pos→Shared→Prop} (m:Sem α) (f:α→Sem β) :
    Sem.wp (model prog w) Γ (Sem.bind m f) Q E p s↔Sem.wp (model prog w) Γ m (fun a p' s'=>Sem.wp (model prog w) Γ (f a) Q E p' s') E p s :=
  Iff.of_eq (Sem.wp_bind (model prog w) Γ m f Q E p s)
theorem bind_wp {α:Type} {Γ:Ctx} {p:Pos} {s:Shared} {Q:Fin→Shared→Prop} {E:Value→Shared→Prop} (m:Sem α) (f:α→Sem Fin) :
    Sem.wp (model prog w) Γ (Sem.bind m f) (fun a _ s'=>Q a s') (fun e _ s'=>E e s') p s↔Sem.wp (model prog w) Γ m (fun a p' s'=>Sem.wp (model prog w) Γ (f a) (fun a _ s'=>Q a s') (fun e _ s'=>E e s') p' s') (fun e _ s'=>E e s') p s:=by
  exact bind_wp' m f
theorem tail_wp {Γ:Ctx} {p:Pos} {s:Shared} {self:Addr} {fd:FuncData} {args:Args} {Q:Fin→Shared→Prop} {E:Value→Shared→Prop} (hΓ:Γ.In A) (hd:A.depth < recursionLimit) (q:Str)
    (h:Sem.wp (model prog w) Γ (Sem.bind (bindArgs fd args) fun binds=>Sem.bind (newFunctionEnv fd.scope fd.globals fd.closure binds (q++Str.ofString ".<locals>.") (some self) fd.code none fd.builtins) fun env=>roomTree (Sem.pure (Fin.again (bodyCode fd.body env))))
      (fun a _ s'=>Q a s') (fun e _ s'=>E e s') p s) :
    Sem.wp (model prog w) Γ (Sem.bind (bindArgs fd args) fun binds=>Sem.bind (newFunctionEnv fd.scope fd.globals fd.closure binds (q++Str.ofString ".<locals>.") (some self) fd.code none fd.builtins) fun env=>Sem.bind enterFrame fun _=>Sem.pure (Fin.again (bodyCode fd.body env)))
      (fun a _ s'=>Q a s') (fun e _ s'=>E e s') p s:=by
  have h1:=(bind_wp _ _).mp h
  refine (bind_wp _ _).mpr (Sem.wp_mono _ Γ _ (fun binds p1 s1 h2 => ?_) (fun _ _ _ h'=>h') p s h1)
  have h3:=(bind_wp _ _).mp h2
  exact (bind_wp _ _).mpr (Sem.wp_mono _ Γ _ (fun env p2 s2 h4=>room_wp hΓ hd h4) (fun _ _ _ h'=>h') p1 s1 h3)
theorem enter_core {Γ:Ctx} {p:Pos} {s:Shared} {Q:Fin→Shared→Prop} {E:Value→Shared→Prop} (cd:Value) (qn:Str) (TA TB:Str→Sem Fin)
    (TW : ∀ q p s,Sem.wp (model prog w) Γ (TA q) (fun a _ s'=>Q a s') (fun e _ s'=>E e s') p s→Sem.wp (model prog w) Γ (TB q) (fun a _ s'=>Q a s') (fun e _ s'=>E e s') p s)
    (h:Sem.wp (model prog w) Γ (match cd with | .none=>Sem.pure qn | c=>Sem.bind (field c 1) fun v=>match v with | .str q _=>Sem.pure q | _=>Sem.pure qn)
      (fun a p' s'=>Sem.wp (model prog w) Γ (TA a) (fun a _ s'=>Q a s') (fun e _ s'=>E e s') p' s') (fun e _ s'=>E e s') p s) :
    Sem.wp (model prog w) Γ (match cd with | .none=>Sem.bind (Sem.pure qn) TB | c=>Sem.bind (field c 1) fun v=>match v with | .str q _=>Sem.bind (Sem.pure q) TB | _=>Sem.bind (Sem.pure qn) TB) (fun a _ s'=>Q a s') (fun e _ s'=>E e s') p s:=by
  have inner : ∀ (v:Value) p s,Sem.wp (model prog w) Γ (match v with | .str q _=>Sem.pure q | _=>Sem.pure qn) (fun a p' s'=>Sem.wp (model prog w) Γ (TA a) (fun a _ s'=>Q a s') (fun e _ s'=>E e s') p' s') (fun e _ s'=>E e s') p s →
      Sem.wp (model prog w) Γ (match v with | .str q _=>Sem.bind (Sem.pure q) TB | _=>Sem.bind (Sem.pure qn) TB) (fun a _ s'=>Q a s') (fun e _ s'=>E e s') p s:=fun v p s h=>by
    cases v with
    | _=>exact TW _ _ _ h
  cases cd with
  | none=>exact TW _ _ _ h
  | _=>exact (bind_wp _ _).mpr (Sem.wp_mono _ Γ _ (fun v p1 s1 h3=>inner v p1 s1 h3) (fun _ _ _ h'=>h') p s ((bind_wp' _ _).mp h))
theorem enter_wp {Γ:Ctx} {p:Pos} {s:Shared} {self:Addr} {fd:FuncData} {args:Args} {Q:Fin→Shared→Prop} {E:Value→Shared→Prop} (hΓ:Γ.In A) (hd:A.depth < recursionLimit)
    (h:Sem.wp (model prog w) Γ (callFn self fd args) (fun a _ s'=>Q a s') (fun e _ s'=>E e s') p s):Sem.wp (model prog w) Γ (callFunction self fd args) (fun a _ s'=>Q a s') (fun e _ s'=>E e s') p s:=by
  unfold callFn at h
  rw [← PySem.W.R.bindR_eq] at h
  rw [← (PySem.W.Fast.te6609576154772507232 : @field=_),← (PySem.W.Fast.te9782568553167038054 : @bindArgs=_),← (PySem.W.Fast.te11113344188204177931 : @newFunctionEnv=_),← locSuf_eq] at h
  unfold callFunction
  cases hg:fd.scope.isGenerator with
  | true=>rw [hg] at h; exact h.elim
  | false =>
    cases hc:fd.scope.isCoroutine with
    | true=>rw [hg,hc] at h; exact h.elim
    | false =>
      rw [hg,hc] at h
      exact enter_core fd.code fd.qualname _ _ (fun q p s h=>tail_wp (self:=self) (fd:=fd) (args:=args) hΓ hd q h) ((bind_wp _ _).mp h)
end
end Mine
namespace Mine
open PySem PySem.W PySem.W.X PyProof.Rows
open Sem (wp)
noncomputable def peel {α:Type}:Sem α→Sem α
  | .stack kk=>kk []
  | t=>t
noncomputable def Le (M:Model) {α:Type} (m' m:Sem α):Prop := ∀ (Γ:Ctx) (p:Pos) (s:Shared) (Q:α→Pos→Shared→Prop) (E:Value→Pos→Shared→Prop),Γ.units < cLine→wp M Γ m' Q E p s→wp M Γ m Q E p s
theorem Le.refl {M:Model} {α:Type} (m:Sem α):Le M m m:=fun _ _ _ _ _ _ h=>h
theorem Le.bind {M:Model} {α β:Type} {m' m:Sem α} {f' f:α→Sem β} (h:Le M m' m) (hf : ∀ a,Le M (f' a) (f a)):Le M (Sem.bind m' f') (Sem.bind m f):=fun Γ p s Q E hu hw=>by
  rw [Sem.wp_bind] at hw ⊢
  exact h Γ p s _ _ hu (Sem.wp_mono _ Γ _ (fun a p' s' h'=>hf a Γ p' s' _ _ hu h') (fun _ _ _ h'=>h') p s hw)
theorem Le.onRaise {M:Model} {α:Type} {m' m:Sem α} {k:Value→Sem Unit} (h:Le M m' m):Le M (m'.onRaise k) (m.onRaise k):=fun Γ p s Q E hu hw=>by
  rw [Sem.wp_onRaise] at hw ⊢
  exact h Γ p s _ _ hu hw
theorem peel_le {M:Model} {α β:Type} {g:Unit→Sem α} {f:α→Sem β} {v1 v2 vs:List Value} {w:String} (hv:vs.any Value.onHeap=true) :
    Le M (peel (Sem.bind (holding v1 (holding v2 (Sem.bind (cRoomFor w vs) g))) f)) (Sem.bind (holding v1 (holding v2 (Sem.bind (cRoomFor w vs) g))) f):=fun Γ p s Q E hu hw=>by
  have e:peel (Sem.bind (holding v1 (holding v2 (Sem.bind (cRoomFor w vs) g))) f)=Sem.bind (holding v1 (holding v2 (g ()))) f:=by
    simp only [holding_eq_keep,cRoomFor,hv,if_true,cRoom]
    rfl
  rw [e] at hw
  rw [Sem.wp_bind,Sem.wp_holding,Sem.wp_holding] at hw ⊢
  rw [Sem.wp_bind]
  exact (Sem.wp_cRoomFor_onHeap w hv).2 ⟨hu,hw⟩
noncomputable def cmpX (l rv:Value):Sem Value := @Bool.rec (fun _=>Sem Value) (operate [l,rv] (compareOp .NotEq l rv)) (peel (operate [l,rv] (compareOp .NotEq l rv))) ([l,rv].any Value.onHeap)
theorem cmpX_le {M:Model} (l rv:Value):Le M (cmpX l rv) (operate [l,rv] (compareOp .NotEq l rv)):=by
  unfold cmpX
  cases hv:[l,rv].any Value.onHeap with
  | false=>exact Le.refl _
  | true=>exact peel_le hv
noncomputable def testX (pos:Pos) (l rv:Value):Sem Bool:=Sem.bind (standAt pos) fun _=>Sem.bind (cmpX l rv) fun c=>holding [c] (truthy c)
noncomputable def isX (e:Expr) (env:Env):Sem Bool:=match e with
  | .Compare left [.NotEq] [r] pos=>Sem.bind (eval left env) fun l=>Sem.bind (holding [l] (markedBehindIn .NotEq r (eval r env))) fun rv=>testX pos l rv
  | e=>isTrue e env (eval e env)
theorem isX_le {M:Model} (e:Expr) (env:Env):Le M (isX e env) (isTrue e env (eval e env)):=by
  cases e with
  | Compare left ops rs pos =>
    cases ops with
    | nil=>exact Le.refl _
    | cons o os =>
      cases o with
      | NotEq =>
        cases os with
        | cons _ _=>exact Le.refl _
        | nil =>
          cases rs with
          | nil=>exact Le.refl _
          | cons r rs =>
            cases rs with
            | cons _ _=>exact Le.refl _
            | nil =>
              show Le M _ (Sem.bind (eval left env) fun l=>Sem.bind (holding [l] (markedBehindIn .NotEq r (eval r env))) fun rv=>Sem.bind (standAt pos) fun _=>Sem.bind (operate [l,rv] (compareOp .NotEq l rv)) fun c=>holding [c] (truthy c))
              exact Le.bind (Le.refl _) fun l=>Le.bind (Le.refl _) fun rv=>Le.bind (Le.refl _) fun _=>Le.bind (cmpX_le _ _) fun c=>Le.refl _
      | _=>exact Le.refl _
  | _=>exact Le.refl _
noncomputable def isX2 (e:Expr) (env:Env):Sem Bool:=match e with
  | .BoolOp .Or [x,y] _=>Sem.bind (isTrue x env (eval x env)) fun b => @Bool.rec (fun _=>Sem Bool) (Sem.bind (isX y env) fun b=>Sem.pure b) (Sem.pure true) b
  | e=>isX e env
theorem or_cons (x:Expr) (l:List Expr) (env:Env):allTrue .Or (x::l) env=Sem.bind (isTrue x env (eval x env)) fun b => @Bool.rec (fun _=>Sem Bool) (allTrue .Or l env) (Sem.pure true) b:=by
  have e : ∀ f g:Bool→Sem Bool,(∀ b,f b=g b)→Sem.bind (isTrue x env (eval x env)) f=Sem.bind (isTrue x env (eval x env)) g:=fun f g h=>by rw [funext h]
  refine Eq.trans ?_ (e (fun b=>match BoolOp.Or,b with
    | .And,false=>Sem.pure false
    | .Or,true=>Sem.pure true
    | _,_=>allTrue .Or l env) _ fun b=>by cases b <;> rfl)
  kernel_rfl
theorem isX2_le {M:Model} (e:Expr) (env:Env):Le M (isX2 e env) (isTrue e env (eval e env)):=by
  cases e with
  | BoolOp op xs pos =>
    cases op with
    | And=>exact Le.refl _
    | Or =>
      cases xs with
      | nil=>exact Le.refl _
      | cons x xs =>
        cases xs with
        | nil=>exact Le.refl _
        | cons y xs =>
          cases xs with
          | cons _ _=>exact Le.refl _
          | nil =>
            show Le M _ (allTrue .Or [x,y] env)
            rw [or_cons]
            refine Le.bind (Le.refl _) fun b => ?_
            cases b with
            | true=>exact Le.refl _
            | false =>
              show Le M _ (allTrue .Or [y] env)
              rw [or_cons]
              refine Le.bind (isX_le y env) fun b => ?_
              cases b with
              | true=>exact Le.refl _
              | false=>exact Le.refl _
  | Compare l o r p=>exact isX_le (.Compare l o r p) env
  | _=>exact Le.refl _
noncomputable def partX (e:Expr) (env:Env):Sem Value:=match e with
  | .FormattedValue v c none pos => @Bool.rec (fun _=>Sem Value) (eval (.FormattedValue v c none pos) env) (Sem.bind (eval v env) (part2 pos)) (decide (c=115))
  | e=>eval e env
theorem partX_le {M:Model} (e:Expr) (env:Env):Better M (partX e env) (eval e env):=by
  cases e with
  | FormattedValue v c f pos =>
    cases f with
    | some f=>exact Better.refl _
    | none =>
      show Better M (@Bool.rec (fun _=>Sem Value) (eval (.FormattedValue v c none pos) env) (Sem.bind (eval v env) (part2 pos)) (decide (c=115))) _
      by_cases q:c=115
      · subst q
        have e:eval (.FormattedValue v 115 none pos) env=Sem.bind (eval v env) fun v=>Sem.bind (standAt pos) fun _=>Sem.bind (holding [v] (converted 115 v)) fun v=>formatted pos v none:=by
          kernel_rfl
        show Better M (Sem.bind (eval v env) (part2 pos)) _
        rw [e]
        exact part_better _ _
      · have e:decide (c=115)=false:=decide_eq_false q
        rw [e]
        exact Better.refl _
  | _=>exact Better.refl _
noncomputable def retX (e:Expr) (env:Env):Sem Value:=match e with
  | .JoinedStr [e1,e2,e3,e4] _=>joinX (partX e1 env) (partX e2 env) (partX e3 env) (partX e4 env)
  | e=>eval e env
theorem retX_le {prog:Program} {w:World} (e:Expr) (env:Env):Le (model prog w) (retX e env) (eval e env):=by
  cases e with
  | JoinedStr xs pos =>
    match xs with
    | [e1,e2,e3,e4] =>
      intro Γ p s Q E _ h
      have e:eval (.JoinedStr [e1,e2,e3,e4] pos) env=joinedStr [eval e1 env,eval e2 env,eval e3 env,eval e4 env]:=by
        kernel_rfl
      rw [e]
      exact join_le _ _ _ _ _ _ _ _ (partX_le _ _) (partX_le _ _) (partX_le _ _) (partX_le _ _) _ _ _ _ _ h
    | [] | [_] | [_,_] | [_,_,_] | _::_::_::_::_::_=>exact Le.refl _
  | _=>exact Le.refl _
inductive SK where
  | ifs (test:Expr) (body orelse:List Stmt) (pos:Pos)
  | ret (e:Expr) (pos:Pos)
  | kw
  | other
noncomputable def kind:Stmt→SK
  | .If t b o p => .ifs t b o p
  | .Return (some e) p => .ret e p
  | .Expr (.Call _ _ (kw::_) _) _=>match kw.arg with
    | none => .kw
    | some _ => .other
  | _ => .other
theorem kind_ex (e:Expr) (p:Pos):kind (.Expr e p) = .kw∨kind (.Expr e p) = .other:=by
  cases e with
  | Call f as ks q =>
    cases ks with
    | nil=>exact .inr rfl
    | cons kw ks =>
      cases h:kw.arg with
      | none=>exact .inl (by show (match kw.arg with | none=>SK.kw | some _=>SK.other)=_; rw [h])
      | some _=>exact .inr (by show (match kw.arg with | none=>SK.kw | some _=>SK.other)=_; rw [h])
  | _=>exact .inr rfl
theorem kind_ifs {s:Stmt} {t:Expr} {b o:List Stmt} {p:Pos} (h:kind s = .ifs t b o p):s = .If t b o p:=by
  cases s with
  | If t' b' o' p'=>injection h with h1 h2 h3 h4; subst h1 h2 h3 h4; rfl
  | Return e p'=>cases e <;> cases h
  | Expr e p'=>rcases kind_ex e p' with k | k <;> rw [k] at h <;> cases h
  | _=>cases h
theorem kind_ret {s:Stmt} {e:Expr} {p:Pos} (h:kind s = .ret e p):s = .Return (some e) p:=by
  cases s with
  | Return e' p' =>
    cases e' with
    | none=>cases h
    | some e'=>injection h with h1 h2; subst h1 h2; rfl
  | If t' b' o' p'=>cases h
  | Expr e p'=>rcases kind_ex e p' with k | k <;> rw [k] at h <;> cases h
  | _=>cases h
theorem execs_nil (env:Env):execs [] env=Sem.pure .next:=by kernel_rfl
theorem execs_cons (s:Stmt) (l:List Stmt) (env:Env):execs (s::l) env=Sem.bind (exec s env) fun f=>match f with
    | .next=>execs l env
    | f=>Sem.pure f:=by kernel_rfl
theorem one_good (s:Stmt) (env:Env):Good (exec s env) [s] env:=fun M Γ p t Q E hw=>by
  rw [execs_cons,Sem.wp_bind] at hw
  refine Sem.wp_mono _ Γ _ (fun a p' s' h' => ?_) (fun _ _ _ h'=>h'.elim) p t hw
  cases a with
  | next=>have h':Sem.wp _ Γ (execs [] env) _ _ p' s':=h'; rw [execs_nil] at h'; exact h'
  | _=>exact h'
noncomputable def mkI (s:Stmt) (env:Env):Sem Flow:=Sem.bind (exec s env) .pure
noncomputable def mkM (s:Stmt) (env:Env):Sem Flow := .call (.block [s] env) none false [] fun r=>match r with
  | .ok f => .pure f
  | .error e => .raise e
theorem mk_var (s:Stmt) (env:Env):Var (mkM s env) (mkI s env) := .inl (one_good s env) fun _ => .refl _
noncomputable abbrev Mk:=Stmt→Env→Sem Flow
noncomputable def stmX (mk:Mk) (ih:List Stmt→Env→Sem Flow) (s:Stmt) (env:Env):Sem Flow:=match kind s with
  | .ifs test body orelse pos=>Sem.bind (standAt pos) fun _=>Sem.bind (isX2 test env) fun b => @Bool.rec (fun _=>Sem Flow) (ih orelse env) (ih body env) b
  | .ret e pos=>Sem.bind (standAt pos) fun _=>Sem.bind (retX e env) fun v => .pure (.ret v)
  | .kw=>mk s env
  | .other=>execs [s] env
theorem stmX_le {prog:Program} {w:World} {ih:List Stmt→Env→Sem Flow} (hih : ∀ l env,Le (model prog w) (ih l env) (execs l env)) (s:Stmt) (env:Env):Le (model prog w) (stmX mkI ih s env) (exec s env):=by
  unfold stmX
  split
  · rename_i test body orelse pos hk
    rw [kind_ifs hk]
    show Le _ _ (Sem.bind (standAt pos) fun _=>Sem.bind (isTrue test env (eval test env)) fun b=>if b=true then execs body env else execs orelse env)
    refine Le.bind (Le.refl _) fun _=>Le.bind (isX2_le test env) fun b => ?_
    cases b with
    | true=>exact hih _ _
    | false=>exact hih _ _
  · rename_i e pos hk
    rw [kind_ret hk]
    show Le (model prog w) _ (Sem.bind (standAt pos) fun _=>Sem.bind (eval e env) fun v=>(Sem.pure (Flow.ret v):Sem Flow))
    exact Le.bind (Le.refl _) fun _=>Le.bind (retX_le _ _) fun v=>Le.refl _
  · unfold mkI
    rw [Sem.bind_pure]
    exact Le.refl _
  · intro Γ p s Q E hu hw
    rw [execs_cons,Sem.wp_bind] at hw
    refine Sem.wp_mono _ Γ _ (fun a p' s' h' => ?_) (fun _ _ _ h'=>h') p s hw
    cases a with
    | next=>have h':Sem.wp _ Γ (execs [] env) _ _ p' s':=h'; rw [execs_nil] at h'; exact h'
    | _=>exact h'
theorem stmX_var {ih ih':List Stmt→Env→Sem Flow} (hih : ∀ l env,Var (ih l env) (ih' l env)) (s:Stmt) (env:Env):Var (stmX mkM ih s env) (stmX mkI ih' s env):=by
  unfold stmX
  cases kind s with
  | ifs test body orelse pos =>
    refine Var.bind (.refl _) fun _=>Var.bind (.refl _) fun b => ?_
    cases b with
    | true=>exact hih _ _
    | false=>exact hih _ _
  | ret e pos=>exact .refl _
  | kw=>exact mk_var s env
  | other=>exact .refl _
noncomputable def listX (mk:Mk) (ih:List Stmt→Env→Sem Flow) (l:List Stmt) (env:Env):Sem Flow := @List.rec Stmt (fun _=>Sem Flow) (.pure .next) (fun s _ r=>Sem.bind (stmX mk ih s env) fun f=>match f with
  | .next=>r
  | f => .pure f) l
theorem listX_le {prog:Program} {w:World} {ih:List Stmt→Env→Sem Flow} (hih : ∀ l env,Le (model prog w) (ih l env) (execs l env)) (env:Env) : ∀ l:List Stmt,Le (model prog w) (listX mkI ih l env) (execs l env)
  | []=>by rw [execs_nil]; exact Le.refl _
  | s::l=>by
    rw [execs_cons]
    show Le _ (Sem.bind (stmX mkI ih s env) fun f=>match f with
      | .next=>listX mkI ih l env
      | f => .pure f) _
    refine Le.bind (stmX_le hih s env) fun f => ?_
    cases f with
    | next=>exact listX_le hih env l
    | _=>exact Le.refl _
theorem listX_var {ih ih':List Stmt→Env→Sem Flow} (hih : ∀ l env,Var (ih l env) (ih' l env)) (env:Env) : ∀ l:List Stmt,Var (listX mkM ih l env) (listX mkI ih' l env)
  | [] => .refl _
  | s::l=>by
    show Var (Sem.bind (stmX mkM ih s env) fun f=>match f with
      | .next=>listX mkM ih l env
      | f => .pure f) (Sem.bind (stmX mkI ih' s env) fun f=>match f with
      | .next=>listX mkI ih' l env
      | f => .pure f)
    refine Var.bind (stmX_var hih s env) fun f => ?_
    cases f with
    | next=>exact listX_var hih env l
    | _=>exact .refl _
noncomputable def execsXn (mk:Mk) (n:Nat):List Stmt→Env→Sem Flow := @Nat.rec (fun _=>List Stmt→Env→Sem Flow) execs (fun _ ih=>listX mk ih) n
theorem execsXn_le {prog:Program} {w:World} : ∀ (n:Nat) (l:List Stmt) (env:Env),Le (model prog w) (execsXn mkI n l env) (execs l env)
  | 0,_,_=>Le.refl _
  | n+1,l,env=>listX_le (execsXn_le n) env l
theorem execsXn_var : ∀ (n:Nat) (l:List Stmt) (env:Env),Var (execsXn mkM n l env) (execsXn mkI n l env)
  | 0,_,_ => .refl _
  | n+1,l,env=>listX_var (execsXn_var n) env l
noncomputable def execsX (mk:Mk) (l:List Stmt) (env:Env):Sem Flow:=execsXn mk 3 l env
theorem execsX_le {prog:Program} {w:World} (env:Env) (l:List Stmt):Le (model prog w) (execsX mkI l env) (execs l env):=execsXn_le 3 l env
theorem execsX_var (env:Env) (l:List Stmt):Var (execsX mkM l env) (execsX mkI l env):=execsXn_var 3 l env
noncomputable def turnX (mk:Mk) (target:Expr) (it:Value) (body orelse:List Stmt) (env:Env):Sem Fin :=
  Sem.bind (standAt target.pos) fun _=>Sem.bind ((pyNext it).onRaise (fun _=>standAt { target.pos with line:=0 })) fun r=>match r with
  | none=>again (.block orelse env)
  | some v=>Sem.bind (letX target it v) fun _=>Sem.bind (assign target env v) fun _=>Sem.bind (execsX mk body env) fun f=>match f with
    | .next | .cont=>again (.forLoop target it body orelse env)
    | .brk => .pure (.done .next)
    | .ret v => .pure (.done (.ret v))
theorem turnX_le {prog:Program} {w:World} (target:Expr) (it:Value) (body orelse:List Stmt) (env:Env):Le (model prog w) (turnX mkI target it body orelse env) (forTurn target it body orelse env):=by
  unfold turnX forTurn
  refine Le.bind (Le.refl _) fun _=>Le.bind (Le.refl _) fun r => ?_
  cases r with
  | none=>exact Le.refl _
  | some v=>exact Le.bind (fun Γ p s Q E _ h=>letX_le target it v Γ p s Q E h) fun _=>Le.bind (Le.refl _) fun _=>Le.bind (execsX_le env body) fun f=>by cases f <;> exact Le.refl _
theorem turnX_var (target:Expr) (it:Value) (body orelse:List Stmt) (env:Env):Var (turnX mkM target it body orelse env) (turnX mkI target it body orelse env):=by
  unfold turnX
  refine Var.bind (.refl _) fun _=>Var.bind (.refl _) fun r => ?_
  cases r with
  | none=>exact .refl _
  | some v=>exact Var.bind (.refl _) fun _=>Var.bind (.refl _) fun _=>Var.bind (execsX_var env body) fun f => .refl _
noncomputable def codeX (mk:Mk) (c:Code):Sem Fin:=match c with
  | .func body env=>Sem.bind point fun _=>Sem.bind ((execsX mk body env).onRaise (leaving env)) fun f=>match f with
    | .ret v=>ret v
    | _=>ret .none
  | .forLoop target it body orelse env=>(turnX mk target it body orelse env).onRaise (fun x=>Sem.bind (noteFrame x env) fun _=>theTreesLotGoes x)
  | c=>denote table c
theorem codeX_le {prog:Program} {w:World} (c:Code):Le (model prog w) (codeX mkI c) (denote table c):=by
  unfold codeX
  split
  · rename_i body env
    refine Le.bind (Le.refl _) fun _=>Le.bind (Le.onRaise (execsX_le env body)) fun f => ?_
    cases f <;> exact Le.refl _
  · exact Le.onRaise (turnX_le _ _ _ _ _)
  · exact Le.refl _
theorem codeX_var (c:Code):Var (codeX mkM c) (codeX mkI c):=by
  unfold codeX
  split
  · rename_i body env
    exact Var.bind (.refl _) fun _=>Var.bind (Var.onRaise (execsX_var env body)) fun f => .refl _
  · exact Var.onRaise (turnX_var _ _ _ _ _)
  · exact .refl _
end Mine
namespace Mine
open PySem PySem.W PySem.W.X PyProof.Rows
noncomputable def cmpY (l rv:Value):Sem Value := @Bool.rec (fun _=>Sem Value) (PySem.W.Fast.tw8004119333741010377 [l,rv] (PySem.W.Fast.tw12886488535604756494 .NotEq l rv)) (peel (PySem.W.Fast.tw8004119333741010377 [l,rv] (PySem.W.Fast.tw12886488535604756494 .NotEq l rv))) ([l,rv].any Value.onHeap)
theorem cmpY_eq : @cmpY = @cmpX:=by
  unfold cmpY cmpX
  rw [← (PySem.W.Fast.te8004119333741010377 : @operate=_),← (PySem.W.Fast.te12886488535604756494 : @compareOp=_)]
  all_goals try rfl
noncomputable def testY (pos:Pos) (l rv:Value):Sem Bool:=Sem.bind (standAt pos) fun _=>Sem.bind (cmpY l rv) fun c=>PySem.W.Fast.tw17359229931016689406 [c] (PySem.W.Fast.tw15245631507167962100 c)
theorem testY_eq : @testY = @testX:=by
  unfold testY testX
  rw [← (PySem.W.Fast.te17359229931016689406 : @holding=_),← (PySem.W.Fast.te15245631507167962100 : @truthy=_),cmpY_eq]
  all_goals try rfl
noncomputable def isY (e:Expr) (env:Env):Sem Bool:=match e with
  | .Compare left [.NotEq] [r] pos=>Sem.bind (PySem.W.Fast.tw14044960220447912780 left env) fun l=>Sem.bind (PySem.W.Fast.tw17359229931016689406 [l] (PySem.W.Fast.tw10513115210890433525 .NotEq r (PySem.W.Fast.tw14044960220447912780 r env))) fun rv=>testY pos l rv
  | e=>PySem.W.Fast.tw15418851999007992765 e env (PySem.W.Fast.tw14044960220447912780 e env)
theorem isY_eq : @isY = @isX:=by
  unfold isY isX
  rw [← (PySem.W.Fast.te14044960220447912780 : @eval=_),← (PySem.W.Fast.te15418851999007992765 : @PySem.isTrue=_),← (PySem.W.Fast.te10513115210890433525 : @markedBehindIn=_),← (PySem.W.Fast.te17359229931016689406 : @holding=_),testY_eq]
  all_goals try rfl
noncomputable def isY2 (e:Expr) (env:Env):Sem Bool:=match e with
  | .BoolOp .Or [x,y] _=>Sem.bind (PySem.W.Fast.tw15418851999007992765 x env (PySem.W.Fast.tw14044960220447912780 x env)) fun b => @Bool.rec (fun _=>Sem Bool) (Sem.bind (isY y env) fun b=>Sem.pure b) (Sem.pure true) b
  | e=>isY e env
theorem isY2_eq : @isY2 = @isX2:=by
  unfold isY2 isX2
  rw [← (PySem.W.Fast.te14044960220447912780 : @eval=_),← (PySem.W.Fast.te15418851999007992765 : @PySem.isTrue=_),isY_eq]
  all_goals try rfl
noncomputable def partY (e:Expr) (env:Env):Sem Value:=match e with
  | .FormattedValue v c none pos => @Bool.rec (fun _=>Sem Value) (PySem.W.Fast.tw14044960220447912780 (.FormattedValue v c none pos) env) (Sem.bind (PySem.W.Fast.tw14044960220447912780 v env) (part2 pos)) (decide (c=115))
  | e=>PySem.W.Fast.tw14044960220447912780 e env
theorem partY_eq : @partY = @partX:=by
  unfold partY partX
  rw [← (PySem.W.Fast.te14044960220447912780 : @eval=_)]
  all_goals try rfl
noncomputable def retY (e:Expr) (env:Env):Sem Value:=match e with
  | .JoinedStr [e1,e2,e3,e4] _=>joinX (partY e1 env) (partY e2 env) (partY e3 env) (partY e4 env)
  | e=>PySem.W.Fast.tw14044960220447912780 e env
theorem retY_eq : @retY = @retX:=by
  unfold retY retX
  rw [← (PySem.W.Fast.te14044960220447912780 : @eval=_),partY_eq]
  all_goals try rfl
noncomputable def stmY (ih:List Stmt→Env→Sem Flow) (s:Stmt) (env:Env):Sem Flow:=match kind s with
  | .ifs test body orelse pos=>Sem.bind (standAt pos) fun _=>Sem.bind (isY2 test env) fun b => @Bool.rec (fun _=>Sem Flow) (ih orelse env) (ih body env) b
  | .ret e pos=>Sem.bind (standAt pos) fun _=>Sem.bind (retY e env) fun v => .pure (.ret v)
  | .kw=>mkM s env
  | .other=>PySem.W.Fast.tw12563942051412417395 [s] env
theorem stmY_eq : @stmY = @stmX mkM:=by
  unfold stmY
  show _=fun ih s env=>stmX mkM ih s env
  unfold stmX
  rw [← (PySem.W.Fast.te12563942051412417395 : @execs=_),isY2_eq,retY_eq]
  all_goals try rfl
noncomputable def listY (ih:List Stmt→Env→Sem Flow) (l:List Stmt) (env:Env):Sem Flow := @List.rec Stmt (fun _=>Sem Flow) (.pure .next) (fun s _ r=>Sem.bind (stmY ih s env) fun f=>match f with
  | .next=>r
  | f => .pure f) l
theorem listY_eq : @listY = @listX mkM:=by
  unfold listY
  show _=fun ih l env=>listX mkM ih l env
  unfold listX
  rw [stmY_eq]
  all_goals try rfl
noncomputable def execsYn (n:Nat):List Stmt→Env→Sem Flow := @Nat.rec (fun _=>List Stmt→Env→Sem Flow) PySem.W.Fast.tw12563942051412417395 (fun _ ih=>listY ih) n
theorem execsYn_eq : @execsYn = @execsXn mkM:=by
  unfold execsYn
  show _=fun n=>execsXn mkM n
  unfold execsXn
  rw [← (PySem.W.Fast.te12563942051412417395 : @execs=_),listY_eq]
  all_goals try rfl
noncomputable def execsY (l:List Stmt) (env:Env):Sem Flow:=execsYn 3 l env
theorem execsY_eq : @execsY = @execsX mkM:=by
  unfold execsY
  show _=fun l env=>execsX mkM l env
  unfold execsX
  rw [execsYn_eq]
  all_goals try rfl
noncomputable def letEY (target:Expr) (r a:Addr) (n:String) (p:Int):Sem Unit := @Bool.rec (fun _=>Sem Unit) (PySem.W.Fast.tw1578499551869305889 target (.ref r) (.ref a)) (Sem.bind (eqX p (Int.ofNat a)) fun b => @Bool.rec (fun _=>Sem Unit) (.pure ()) (updateField r 0 .none) b) (Nat.beq (PySem.W.S.codeS n) cDii)
theorem letEY_eq : @letEY = @letE:=by
  unfold letEY letE
  rw [← (PySem.W.Fast.te1578499551869305889 : @letOwnedTupleGo=_)]
  all_goals try rfl
noncomputable def letOY (target:Expr) (r a:Addr) (o:Obj):Sem Unit:=match o.cls with
  | .type n=>match o.data with
    | .fields vs=>match vs.toList with
      | .int p 0::_=>letEY target r a n p
      | _=>PySem.W.Fast.tw1578499551869305889 target (.ref r) (.ref a)
    | _=>PySem.W.Fast.tw1578499551869305889 target (.ref r) (.ref a)
  | _=>PySem.W.Fast.tw1578499551869305889 target (.ref r) (.ref a)
theorem letOY_eq : @letOY = @letO:=by
  unfold letOY letO
  rw [← (PySem.W.Fast.te1578499551869305889 : @letOwnedTupleGo=_),letEY_eq]
  all_goals try rfl
noncomputable def letY (target:Expr) (it v:Value):Sem Unit:=match target with
  | .Tuple .. => match it with
    | .ref r=>match v with
      | .ref a=>Sem.bind (load r) fun o=>letOY target r a o
      | _=>PySem.W.Fast.tw1578499551869305889 target it v
    | _=>PySem.W.Fast.tw1578499551869305889 target it v
  | _=>PySem.W.Fast.tw1578499551869305889 target it v
theorem letY_eq : @letY = @letX:=by
  unfold letY letX
  rw [← (PySem.W.Fast.te1578499551869305889 : @letOwnedTupleGo=_),letOY_eq]
  all_goals try rfl
noncomputable def turnY (target:Expr) (it:Value) (body orelse:List Stmt) (env:Env):Sem Fin :=
  Sem.bind (standAt target.pos) fun _=>Sem.bind ((PySem.W.Fast.tw9404975358583537561 it).onRaise (fun _=>standAt { target.pos with line:=0 })) fun r=>match r with
  | none=>PySem.W.Fast.tw12377390311714414960 (.block orelse env)
  | some v=>Sem.bind (letY target it v) fun _=>Sem.bind (PySem.W.Fast.tw17772580674575903948 target env v) fun _=>Sem.bind (execsY body env) fun f=>match f with
    | .next | .cont=>PySem.W.Fast.tw12377390311714414960 (.forLoop target it body orelse env)
    | .brk => .pure (.done .next)
    | .ret v => .pure (.done (.ret v))
theorem turnY_eq : @turnY = @turnX mkM:=by
  unfold turnY
  show _=fun target it body orelse env=>turnX mkM target it body orelse env
  unfold turnX
  rw [← (PySem.W.Fast.te9404975358583537561 : @pyNext=_),letY_eq,← (PySem.W.Fast.te17772580674575903948 : @assign=_),← (PySem.W.Fast.te12377390311714414960 : @again=_),execsY_eq]
  all_goals try rfl
noncomputable def codeY (c:Code):Sem Fin:=match c with
  | .func body env=>Sem.bind point fun _=>Sem.bind ((execsY body env).onRaise (PySem.W.Fast.tw9442747609961115081 env)) fun f=>match f with
    | .ret v=>PySem.W.Fast.tw6905046200447255374 v
    | _=>PySem.W.Fast.tw6905046200447255374 .none
  | .forLoop target it body orelse env=>(turnY target it body orelse env).onRaise (fun x=>Sem.bind (PySem.W.Fast.tw17872113653443481271 x env) fun _=>PySem.W.Fast.tw1623429502029203251 x)
  | c=>dT c
theorem codeY_eq : @codeY = @codeX mkM:=by
  unfold codeY
  show _=fun c=>codeX mkM c
  unfold codeX
  rw [← (PySem.W.Fast.te17872113653443481271 : @noteFrame=_),← (PySem.W.Fast.te1623429502029203251 : @theTreesLotGoes=_),← (PySem.W.Fast.te9442747609961115081 : @leaving=_),← (PySem.W.Fast.te6905046200447255374 : @ret=_),execsY_eq,turnY_eq,← dT_eq]
  all_goals try rfl
structure Stat where
  prog:Program
  w:World
  kt:KT
structure Want where
  pre:List En
  ids:List Nat
  post:Out→Post
noncomputable def gather (T:ET):List Nat→Option (List En):=fun l => @List.rec Nat (fun _=>Option (List En)) (some [])
  (fun j _ ih=>match T.get j with
    | some p=>match ih with
      | some l=>some (p::l)
      | none=>none
    | none=>none) l
noncomputable def setAll:List Nat→List Obj→ET→Option ET:=fun l => @List.rec Nat (fun _=>List Obj→ET→Option ET)
  (fun os T=>match os with
    | []=>some T
    | _::_=>none)
  (fun j _ ih os T=>match os with
    | []=>none
    | o::os=>ih os (T.set j o)) l
noncomputable def addAll:List En→ET→Nat→ET × Nat:=fun l => @List.rec En (fun _=>ET→Nat→ET × Nat) (fun T m=>(T,m)) (fun p _ ih T m=>ih (T.ins m p.1 p.2) (Nat.add m 1)) l
noncomputable def nodupB (l:List Nat):Bool := @List.rec Nat (fun _=>Bool) true (fun a r ih => @Bool.rec (fun _=>Bool) ih false (memN r a)) l
noncomputable def allGe (n:Nat) (l:List Nat):Bool := @List.rec Nat (fun _=>Bool) true (fun a _ ih => @Bool.rec (fun _=>Bool) false ih (Nat.ble n a)) l
noncomputable def zipMod (pre:List En) (mod:List Obj):List En:=List.zipWith (fun p o=>(p.1,o)) pre mod
noncomputable abbrev SimTy:=Plan→Nat→Code→Nat→KK→Sem Fin→ET→Nat→Nat→Nat→Nat→Nat→PT→Nat→Chk
noncomputable def pushC (ps:PT) (n a b:Nat) (f:PT→Nat→Chk):Chk := @Bool.rec (fun _=>Chk) (f (ps.ins n a b) (Nat.succ n)) (.more (ps.ins n a b) (f .nil 0)) (Nat.beq n 63)
noncomputable def finS (W:Want) (r:Rz) (P:Plan) (T:ET) (x k t i:Nat) (ps:PT):Chk:=match P with
  | .use .. => .bad 1 0
  | .fin _ v ni=>match gather T W.ids with
    | none => .bad 1 1
    | some l1=>match gather T ni with
      | none => .bad 1 2
      | some l2 => @Bool.rec (fun _=>Chk) (.bad 1 3) (@Bool.rec (fun _=>Chk) (.bad 1 4)
          (match W.post ⟨Nat.pred (Nat.add t i),Nat.add x (Nat.sub k L),v,nthO l1⟩ with
            | ⟨r',mod,new⟩ => .fin ps r r' l1 (zipMod W.pre mod) l2 new)
          (nodupB ni)) (allGe W.ids.length ni)
noncomputable def retS (W:Want) (ih:SimTy) (r:Result) (P:Plan) (h:Nat) (κ:KK) (T:ET) (m x k t i:Nat) (ps:PT) (n:Nat):Chk:=match κ with
  | .base=>finS W (ofR r) P T x k t i ps
  | .ret c dp kk κ'=>ih P h c dp κ' (kk r) T m x k t i ps n
noncomputable def useS (W:Want) (ih:SimTy) (P:Plan) (c':Code) (dp':Nat) (κ':KK) (T:ET) (m:Nat) (ps:PT):Chk:=match P with
  | .fin .. => .bad 3 0
  | .use _ D cu idx pre post next => @Bool.rec (fun _=>Chk) (.bad 3 1) (match gather T idx with
      | none => .bad 3 2
      | some os => .use ps c' cu os pre (fun o=>match post o with
        | ⟨r,mod,new⟩=>match setAll idx mod T with
          | none => .bad 3 3
          | some T1=>match r with
            | .ok f=>retS W ih (.ok f) (next o) (next o).h κ' (addAll new T1 m).1 (addAll new T1 m).2 o.x L o.t 0 .nil 0
            | .error e=>retS W ih (.error e) (next o) (next o).h κ' (addAll new T1 m).1 (addAll new T1 m).2 o.x L o.t 0 .nil 0
            | .go c2=>ih (next o) (next o).h c' dp' κ' (.pure (.again c2)) (addAll new T1 m).1 (addAll new T1 m).2 o.x L o.t 0 .nil 0))
    (@Bool.rec (fun _=>Bool) false (nodupB idx) (Nat.ble dp' D))
noncomputable def enterS (ih:SimTy) (o:Obj) (P:Plan) (h:Nat) (c':Code) (dp':Nat) (κ':KK) (T:ET) (m x k t i:Nat) (ps:PT) (n:Nat):Chk:=match c' with
  | .call f args=>match f with
    | .ref a=>match o.data with
      | .func fd => @Bool.rec (fun _=>Chk) (.bad 4 0) (ih P h c' dp' κ' (callFn a fd args) T m x k t i ps n) (Nat.ble dp' 990)
      | _ => .bad 4 1
    | _ => .bad 4 2
  | _ => .bad 4 3
noncomputable def calleeOf (c:Code):Nat:=match c with
  | .call f _=>match f with
    | .ref a=>a
    | _=>0
  | _=>0
noncomputable def goS (V:Stat) (W:Want) (ih:SimTy) (P:Plan) (h:Nat) (c':Code) (dp':Nat) (κ':KK) (T:ET) (m x k t i:Nat) (ps:PT) (n:Nat):Chk :=
  @Bool.rec (fun _=>Chk) (.bad 2 0)
   (@Bool.rec (fun _=>Chk)
   (@Bool.rec (fun _=>Chk)
    (@Bool.rec (fun _=>Chk)
     (@Bool.rec (fun _=>Chk)
       (match T.get (Nat.sub (Nat.mod h 128) 3) with
         | none => .bad 2 1
         | some p=>pushC ps n (calleeOf c') p.1 fun ps n=>enterS ih p.2 P (Nat.div h 128) c' dp' κ' T m x k t i ps n)
       (match V.kt.get (calleeOf c') with
         | none => .bad 2 2
         | some o=>enterS ih o P (Nat.div h 128) c' dp' κ' T m x k t i ps n)
       (Nat.beq (Nat.mod h 128) 2))
     (useS W ih P c' dp' κ' T m ps)
     (Nat.beq (Nat.mod h 128) 1))
    (@Bool.rec (fun _=>Chk) (.bad 2 3) (ih P (Nat.div h 128) c' dp' κ' (codeY c') T m x k t i ps n) (Nat.ble dp' 990))
    (Nat.beq (Nat.mod h 128) 0))
    (match κ' with
      | .base=>finS W (.go c') P T x k t i ps
      | .ret _ _ _ _ => .bad 2 4)
    (Nat.beq (Nat.mod h 128) 127))
   (codeOk c')
noncomputable def callS (V:Stat) (W:Want) (ih:SimTy) (P:Plan) (h:Nat) (c':Code) (dp':Nat) (κ':KK) (T:ET) (m x k t i:Nat) (ps:PT) (n:Nat):Chk:=match c' with
  | .block _ _ => @Bool.rec (fun _=>Chk) (.bad 23 0) (useS W ih P c' dp' κ' T m ps) (Nat.beq (Nat.mod h 128) 1)
  | c'=>goS V W ih P h c' dp' κ' T m x k t i ps n
noncomputable def simStep (V:Stat) (W:Want) (ih:SimTy):SimTy:=fun P h c dp κ tr T m x k t i ps n=>match tr with
  | .pure fin=>match fin with
    | .done f=>retS W ih (.ok f) P h κ T m x k t i ps n
    | .again c'=>goS V W ih P h c' dp κ T m x k t i ps n
  | .raise e=>retS W ih (.error e) P h κ T m x k t i ps n
  | .rule _ kk=>ih P h c dp κ (kk ()) T m x k t i ps n
  | .at _ kk=>ih P h c dp κ (kk ()) T m x k t i ps n
  | .point _ kk=>ih P h c dp κ (kk ()) T m x k t i ps n
  | .ask kk=>ih P h c dp κ (kk ⟨V.prog,V.w.params⟩) T m x k t i ps n
  | .load a _ kk => @Bool.rec (fun _=>Chk)
      (match T.get (Nat.sub (Nat.mod h 128) 1) with
        | none => .bad 5 0
        | some p=>pushC ps n a p.1 fun ps n=>ih P (Nat.div h 128) c dp κ (kk p.2) T m x k t i ps n)
      (match V.kt.get a with
        | none => .bad 5 a
        | some o=>ih P (Nat.div h 128) c dp κ (kk o) T m x k t i ps n)
      (Nat.beq (Nat.mod h 128) 0)
  | .loadIfAlive a kk => @Bool.rec (fun _=>Chk)
      (match T.get (Nat.sub (Nat.mod h 128) 1) with
        | none => .bad 6 0
        | some p=>pushC ps n a p.1 fun ps n=>ih P (Nat.div h 128) c dp κ (kk (some p.2)) T m x k t i ps n)
      (match V.kt.get a with
        | none => .bad 6 a
        | some o=>ih P (Nat.div h 128) c dp κ (kk (some o)) T m x k t i ps n)
      (Nat.beq (Nat.mod h 128) 0)
  | .update a _ f kk=>match T.get (Nat.sub (Nat.mod h 128) 1) with
      | none => .bad 7 0
      | some p=>pushC ps n a p.1 fun ps n => @Bool.rec (fun _=>Chk) (ih P (Nat.div h 128) c dp κ (kk ()) (T.set (Nat.sub (Nat.mod h 128) 1) (f p.2)) m x k t i ps n) (.bad 7 1) (f p.2).isFreed
  | .alloc o kk => @Bool.rec (fun _=>Chk) (ih P h c dp κ (kk (Nat.add x k)) (T.ins m (Nat.add x k) o) (Nat.add m 1) x (Nat.add k 1) t i ps n) (.bad 8 0) o.isFreed
  | .fresh kk=>ih P h c dp κ (kk (Nat.add t i)) T m x k t (Nat.add i 1) ps n
  | .handled own kk => @Bool.rec (fun _=>Chk) (ih P h c dp κ (kk none) T m x k t i ps n) (.bad 9 0) own
  | .stack kk => .stk ps fun p below=>ih P h c dp κ (kk ((c,p)::below)) T m x k t i .nil 0
  | .call c' hd _ _ kk=>match hd with
    | none=>callS V W ih P h c' (Nat.add dp 1) (.ret c dp kk κ) T m x k t i ps n
    | some _ => .bad 10 0
  | .unsupported _ => .bad 11 0
  | .finish _ => .bad 12 0
  | .register .. => .bad 13 0
  | .choose .. => .bad 14 0
  | .os .. => .bad 15 0
  | .fork .. => .bad 16 0
  | .thread _ => .bad 17 0
  | .await .. => .bad 18 0
  | .newGen .. => .bad 19 0
  | .genState .. => .bad 20 0
  | .resume .. => .bad 21 0
  | .yield .. => .bad 22 0
noncomputable def sim (V:Stat) (W:Want) (n:Nat):SimTy := @Nat.rec (fun _=>SimTy) (fun _ _ _ _ _ _ _ _ _ _ _ _ _ _ => .bad 40 0) (fun _ ih=>simStep V W ih) n
noncomputable def start (V:Stat) (W:Want) (fuel:Nat) (P:Plan) (c:Code) (dp x t:Nat):Chk :=
  goS V W (sim V W fuel) P P.h c dp .base (addAll W.pre .nil 0).1 (addAll W.pre .nil 0).2 x L t 0 .nil 0
noncomputable def Low (A:Around) (d:Nat):Prop:=A.depth≤d∧A.units≤8*d+8
noncomputable def Holds (h:Heap) (l:List En):Prop := ∀ p ∈ l,h.get? p.1=some p.2
noncomputable def Top (kt:KT) (h:Heap):Prop := ∀ a o,kt.get a=some o→h.get? a=some o
noncomputable def endR (V:Stat) (A:Around) (R:Result→Shared→Prop) (r:Rz) (s:Shared):Prop:=match r with
  | .ok f=>R (.ok f) s
  | .error e=>R (.error e) s
  | .go c2=>codeAny (model V.prog V.w) A c2 R s
noncomputable def Spec (V:Stat) (D:Nat) (c:Code) (pre:List En) (post:Out→Post):Prop :=
  ∀ (A:Around) (s:Shared) (R:Result→Shared→Prop),A.handled=none→Low A D→(s.gens = #[]∧0 < s.toks)→Top V.kt s.heap→L≤s.heap.objs.size→Holds s.heap pre→(pre.map (·.1)).Nodup→(∀ p ∈ pre,V.kt.get p.1=none) →
    (∀ (o:Out) (h':Heap),h'.objs.size=o.x+L→s.heap.objs.size≤o.x+L→Top V.kt h'→(∀ b ob,s.heap.get? b=some ob→b ∉ pre.map (·.1)→h'.get? b=some ob) →
      Holds h' (zipMod pre (post o).mod)→Holds h' (post o).new→(∀ p ∈ (post o).new,s.heap.objs.size≤p.1)→((post o).new.map (·.1)).Nodup→endR V A R (post o).r ⟨h',s.gens,s.drawn,o.t,s.os⟩) →
    codeAny (model V.prog V.w) A c R s
noncomputable def SpecB (V:Stat) (D:Nat) (stmts:List Stmt) (env:Env) (pre:List En) (post:Out→Post):Prop :=
  (∀ o,∃ f,(post o).r = .ok f) ∧ ∀ (A:Around) (c:Code) (s:Shared) (Q:Flow→Shared→Prop),c.weight≤1→A.handled=none→Low A D→(s.gens = #[]∧0 < s.toks)→Top V.kt s.heap→L≤s.heap.objs.size→Holds s.heap pre→(pre.map (·.1)).Nodup→(∀ p ∈ pre,V.kt.get p.1=none) →
    (∀ (o:Out) (h':Heap) (f:Flow),(post o).r = .ok f→h'.objs.size=o.x+L→s.heap.objs.size≤o.x+L→Top V.kt h'→(∀ b ob,s.heap.get? b=some ob→b ∉ pre.map (·.1)→h'.get? b=some ob) →
      Holds h' (zipMod pre (post o).mod)→Holds h' (post o).new→(∀ p ∈ (post o).new,s.heap.objs.size≤p.1)→((post o).new.map (·.1)).Nodup→Q f ⟨h',s.gens,s.drawn,o.t,s.os⟩) →
    wpOwn (model V.prog V.w) A c (execs stmts env) Q (fun _ _=>False) s
noncomputable def SpecC (V:Stat) (D:Nat) (c:Code) (pre:List En) (post:Out→Post):Prop:=match c with
  | .block stmts env=>SpecB V D stmts env pre post
  | c=>Spec V D c pre post
noncomputable def Oblig (V:Stat):Plan→Prop
  | .fin .. => True
  | .use _ D c _ pre post next=>SpecC V D c pre post ∧ ∀ o,Oblig V (next o)
set_option genInjectivity false in
set_option genSizeOfSpec false in
structure K (V:Stat) where
  D:Nat
  c:Code
  pre:List En
  post:Out→Post
  S:Spec V D c pre post
noncomputable def kOf {V:Stat} {D:Nat} {c:Code} {pre:List En} {post:Out→Post} (S:Spec V D c pre post):K V:=⟨D,c,pre,post,S⟩
noncomputable def Full (t:ET) (m:Nat):Prop := ∀ i,(t.get i).isSome=true↔i < m
theorem Full.nil:Full .nil 0:=fun i=>by rw [ET.get_nil]; simp
theorem odd_is {i:Nat} (h:i % 2=1):i=2*(i / 2)+1:=by
  have:=Nat.div_add_mod i 2
  rw [h] at this; exact this.symm
theorem even_is {i:Nat} (h0 : ¬ i=0) (h : ¬ i % 2=1):i=2*(i / 2-1)+2:=by lia
theorem ins_full : ∀ (t:ET) (m:Nat) (b:Addr) (x:Obj),Full t m → ∀ i,(t.ins m b x).get i=if i=m then some (b,x) else t.get i
  | .nil,m,b,x,F,i=>by
    have hm:m=0:=by
      have:=(F 0)
      rw [ET.get_nil] at this
      simp at this
      exact this
    subst hm
    show (ET.node b x .nil .nil).get i=_
    rw [ET.get_node,ET.get_nil,ET.get_nil,ET.get_nil]
    by_cases hi:i=0 <;> simp [hi]
  | .node a o l r,m,b,x,F,i=>by
    have hm:0 < m:=(F 0).mp (by rw [ET.get_node]; simp)
    have Fl:Full l (m / 2):=fun q=>by
      have z:=F (2*q+1)
      rw [ET.get_node] at z
      have e1:2*q+1≠0:=by lia
      have e2:(2*q+1) % 2=1:=by lia
      have e3:(2*q+1) / 2=q:=by lia
      simp only [e1,e2,e3,if_true,if_false] at z
      rw [z]; lia
    have Fr:Full r ((m-1) / 2):=fun q=>by
      have z:=F (2*q+2)
      rw [ET.get_node] at z
      have e1:2*q+2≠0:=by lia
      have e2:(2*q+2) % 2≠1:=by lia
      have e3:(2*q+2) / 2-1=q:=by lia
      simp only [e1,e2,e3,if_false] at z
      rw [z]; lia
    rw [ET.ins_node,if_neg (by lia)]
    rw [ET.get_node]
    by_cases hi:i=0
    · have h0 : ¬ i=m:=by lia
      rw [if_pos hi,if_neg h0]
      by_cases qm:m % 2=1
      · rw [if_pos qm,ET.get_node,if_pos hi]
      · rw [if_neg qm,ET.get_node,if_pos hi]
    · rw [if_neg hi]
      by_cases qm:m % 2=1
      · rw [if_pos qm,ET.get_node,if_neg hi]
        by_cases qi:i % 2=1
        · rw [if_pos qi,if_pos qi,ins_full l _ b x Fl]
          exact ite_congr (propext ⟨fun z=>by rw [odd_is qi,odd_is qm,z],fun z=>by rw [z]⟩) (fun _=>rfl) fun _=>rfl
        · rw [if_neg qi,if_neg qi,if_neg (fun z:i=m=>qi (z▸qm))]
      · rw [if_neg qm,ET.get_node,if_neg hi]
        by_cases qi:i % 2=1
        · rw [if_pos qi,if_pos qi,if_neg (fun z:i=m=>qm (z▸qi))]
        · have em:m / 2-1=(m-1) / 2:=by lia
          rw [if_neg qi,if_neg qi,em,ins_full r _ b x Fr]
          exact ite_congr (propext ⟨fun z=>by rw [even_is hi qi,even_is (Nat.ne_of_gt hm) qm,em,z],fun z=>by rw [z,em]⟩) (fun _=>rfl) fun _=>rfl
theorem Full.ins {t:ET} {m:Nat} {b:Addr} {x:Obj} (F:Full t m):Full (t.ins m b x) (m+1):=fun i=>by
  rw [ins_full t m b x F]
  by_cases h:i=m
  · simp [h]
  · rw [if_neg h,F i]; lia
theorem Full.set {t:ET} {m j:Nat} {x:Obj} (F:Full t m):Full (t.set j x) m:=fun i=>by
  rw [ET.get_set]
  by_cases h:i=j
  · rw [if_pos h,Option.isSome_map,← h]; exact F i
  · rw [if_neg h]; exact F i
theorem addAll_spec : ∀ (new:List En) (T:ET) (m:Nat),Full T m→(addAll new T m).2=m+new.length∧Full (addAll new T m).1 (m+new.length) ∧ ∀ i,(addAll new T m).1.get i=if i < m then T.get i else new[i-m]?
  | [],T,m,F=>⟨rfl,F,fun i=>by
    show T.get i=_
    by_cases h:i < m
    · rw [if_pos h]
    · rw [if_neg h]
      cases q:T.get i with
      | none=>simp
      | some p=>exact absurd ((F i).mp (by rw [q]; rfl)) h⟩
  | p::new,T,m,F=>by
    obtain ⟨h1,h2,h3⟩:=addAll_spec new (T.ins m p.1 p.2) (m+1) F.ins
    have e:addAll (p::new) T m=addAll new (T.ins m p.1 p.2) (m+1):=rfl
    rw [e]
    refine ⟨by rw [h1,List.length_cons]; lia,by rw [List.length_cons,show m+(new.length+1)=m+1+new.length by lia]; exact h2,fun i => ?_⟩
    rw [h3,ins_full T m p.1 p.2 F]
    by_cases h:i < m
    · rw [if_pos h,if_pos (by lia),if_neg (by lia)]
    · rw [if_neg h]
      by_cases q:i=m
      · subst q; simp
      · rw [if_neg (by lia),show i-m=(i-(m+1))+1 by lia]; simp
theorem gather_spec (T:ET) : ∀ (idx:List Nat) (l:List En),gather T idx=some l→idx.map T.get=l.map some
  | [],l,h=>by
    have h:some ([]:List En)=some l:=h
    cases h; rfl
  | j::js,l,h=>by
    have h:(match T.get j with | some p=>(match gather T js with | some l=>some (p::l) | none=>none) | none=>none)=some l:=h
    split at h
    · rename_i p hp
      split at h
      · rename_i l' hl
        cases h
        rw [List.map_cons,List.map_cons,hp,gather_spec T js l' hl]
      · cases h
    · cases h
theorem gather_mem {T:ET} {idx:List Nat} {l:List En} (e:idx.map T.get=l.map some) {p:En} (hp:p ∈ l) : ∃ j ∈ idx,T.get j=some p:=by
  have:some p ∈ idx.map T.get:=by rw [e]; exact List.mem_map_of_mem hp
  obtain ⟨j,hj,hg⟩:=List.mem_map.mp this
  exact ⟨j,hj,hg⟩
theorem gather_at {T:ET} {idx:List Nat} {l:List En} (e:idx.map T.get=l.map some) {k j:Nat} {p:En} (hk:idx[k]? = some j) (hp:T.get j=some p):l[k]? = some p:=by
  have:(idx.map T.get)[k]? = some (T.get j):=by rw [List.getElem?_map,hk]; rfl
  rw [e,List.getElem?_map,hp] at this
  cases q:l[k]? with
  | none=>rw [q] at this; cases this
  | some p'=>rw [q] at this; simpa using this
theorem nodupB_spec : ∀ {l:List Nat},nodupB l=true→l.Nodup
  | [],_=>List.nodup_nil
  | a::l,h=>by
    have h : @Bool.rec (fun _=>Bool) (nodupB l) false (memN l a)=true:=h
    cases q:memN l a with
    | true=>rw [q] at h; cases h
    | false =>
      rw [q] at h
      refine List.nodup_cons.mpr ⟨fun hm => ?_,nodupB_spec h⟩
      have key : ∀ l:List Nat,a ∈ l→memN l a=true:=fun l=>by
        intro hm
        induction l with
        | nil=>cases hm
        | cons b l ih =>
          show @Bool.rec (fun _=>Bool) (memN l a) true (Nat.beq b a)=true
          cases z:Nat.beq b a with
          | true=>rfl
          | false =>
            cases List.mem_cons.mp hm with
            | inl y=>rw [y,Nat.beq_refl] at z; cases z
            | inr y=>exact ih y
      rw [key l hm] at q; cases q
theorem allGe_spec {n:Nat} : ∀ {l:List Nat},allGe n l=true → ∀ j ∈ l,n≤j
  | [],_,_,hj=>nomatch hj
  | a::l,h,j,hj=>by
    have h : @Bool.rec (fun _=>Bool) false (allGe n l) (Nat.ble n a)=true:=h
    cases q:Nat.ble n a with
    | false=>rw [q] at h; cases h
    | true =>
      rw [q] at h
      cases List.mem_cons.mp hj with
      | inl y=>rw [y]; exact Nat.le_of_ble_eq_true q
      | inr y=>exact allGe_spec h j y
theorem gather_nodup {T:ET} (inj : ∀ i j a o o',T.get i=some (a,o)→T.get j=some (a,o')→i=j) : ∀ {idx:List Nat} {l:List En},idx.map T.get=l.map some→idx.Nodup→(l.map (·.1)).Nodup
  | [],[],_,_=>List.nodup_nil
  | [],_::_,e,_=>by cases e
  | _::_,[],e,_=>by cases e
  | j::js,p::l,e,hn=>by
    rw [List.map_cons,List.map_cons,List.cons.injEq] at e
    rw [List.map_cons,List.nodup_cons]
    rw [List.nodup_cons] at hn
    refine ⟨fun hm => ?_,gather_nodup inj e.2 hn.2⟩
    obtain ⟨p',hp',e'⟩:=List.mem_map.mp hm
    obtain ⟨j',hj',hg⟩:=gather_mem e.2 hp'
    obtain ⟨a,o⟩:=p
    obtain ⟨a',o'⟩:=p'
    have e':a'=a:=e'
    subst e'
    have:j'=j:=inj _ _ _ _ _ hg e.1
    exact hn.1 (this▸hj')
theorem setAll_spec : ∀ (idx:List Nat) (mod:List Obj) (T T1:ET),setAll idx mod T=some T1 →
    (∀ i a o,T1.get i=some (a,o)→(i ∉ idx∧T.get i=some (a,o)) ∨ ∃ k:Nat,idx[k]? = some i∧mod[k]? = some o ∧ ∃ o',T.get i=some (a,o')) ∧ ∀ m,Full T m→Full T1 m
  | [],[],T,T1,h=>by
    have h:some T=some T1:=h
    cases h; exact ⟨fun i a o e => .inl ⟨by simp,e⟩,fun m F=>F⟩
  | [],_::_,T,T1,h=>by
    have h:(none:Option ET)=some T1:=h
    cases h
  | j::js,[],T,T1,h=>by
    have h:(none:Option ET)=some T1:=h
    cases h
  | j::js,o::os,T,T1,h=>by
    have h:setAll js os (T.set j o)=some T1:=h
    · obtain ⟨h1,h2⟩:=setAll_spec js os (T.set j o) T1 h
      refine ⟨fun i a ob e => ?_,fun m F=>h2 m F.set⟩
      rcases h1 i a ob e with ⟨q1,q2⟩ | ⟨k,q1,q2,o',q3⟩
      · rw [ET.get_set] at q2
        by_cases hi:i=j
        · rw [if_pos hi] at q2
          cases z:T.get j with
          | none=>rw [z] at q2; cases q2
          | some p =>
            rw [z] at q2
            simp only [Option.map_some,Option.some.injEq,Prod.mk.injEq] at q2
            refine .inr ⟨0,by rw [hi]; rfl,by rw [← q2.2]; rfl,p.2,?_⟩
            rw [hi,z,← q2.1]
        · rw [if_neg hi] at q2
          exact .inl ⟨fun hm=>(List.mem_cons.mp hm).elim hi q1,q2⟩
      · rw [ET.get_set] at q3
        by_cases hi:i=j
        · rw [if_pos hi] at q3
          cases z:T.get j with
          | none=>rw [z] at q3; cases q3
          | some p =>
            rw [z] at q3
            simp only [Option.map_some,Option.some.injEq,Prod.mk.injEq] at q3
            refine .inr ⟨k+1,by simpa using q1,by simpa using q2,p.2,?_⟩
            rw [hi,z,← q3.1]
        · rw [if_neg hi] at q3
          exact .inr ⟨k+1,by simpa using q1,by simpa using q2,o',q3⟩
theorem zipMod_mem : ∀ {pre:List En} {mod:List Obj} {k:Nat} {p:En} {o:Obj},pre[k]? = some p→mod[k]? = some o→(p.1,o) ∈ zipMod pre mod
  | [],_,_,_,_,h,_=>by simp at h
  | _::_,[],_,_,_,_,h=>by simp at h
  | q::pre,u::mod,0,p,o,h1,h2=>by
    simp only [List.getElem?_cons_zero,Option.some.injEq] at h1 h2
    subst h1 h2
    exact .head _
  | q::pre,u::mod,k+1,p,o,h1,h2=>by
    simp only [List.getElem?_cons_succ] at h1 h2
    exact .tail _ (zipMod_mem h1 h2)
noncomputable def aroundOf (A0:Around):KK→Around
  | .base=>A0
  | .ret c _ _ κ=>((aroundOf A0 κ).under c).mark none
inductive VK:KK→KK→Prop
  | base:VK .base .base
  | ret {c:Code} {dp:Nat} {k k':Result→Sem Fin} {κ κ':KK}:(∀ r,Var (k r) (k' r))→VK κ κ'→VK (.ret c dp k κ) (.ret c dp k' κ')
theorem VK.around {A0:Around} {κ κ':KK} (v:VK κ κ'):aroundOf A0 κ'=aroundOf A0 κ:=by
  induction v with
  | base=>rfl
  | ret _ _ ih=>show ((aroundOf A0 _).under _).mark none=((aroundOf A0 _).under _).mark none; rw [ih]
noncomputable def endOf (V:Stat) (A0:Around) (R0:Result→Shared→Prop):KK→Result→Shared→Prop
  | .base=>R0
  | .ret c _ k κ=>postR V.prog V.w (aroundOf A0 κ) c (postC V.prog V.w (aroundOf A0 κ) (endOf V A0 R0 κ)) (postE (endOf V A0 R0 κ)) k
noncomputable def KInv (A0:Around):KK→Prop
  | .base=>True
  | .ret c dp _ κ=>Low (aroundOf A0 κ) dp∧c.weight≤1∧KInv A0 κ
noncomputable def Means (V:Stat) (A0:Around) (R0:Result→Shared→Prop) (c:Code) (κ:KK) (t:Sem Fin) (s:Shared):Prop :=
  wpOwn (model V.prog V.w) (aroundOf A0 κ) c t (postC V.prog V.w (aroundOf A0 κ) (endOf V A0 R0 κ)) (postE (endOf V A0 R0 κ)) s
theorem around_handled {A0:Around} (h:A0.handled=none) : ∀ κ:KK,(aroundOf A0 κ).handled=none
  | .base=>h
  | .ret c _ _ κ=>around_handled h κ
structure Rep (V:Stat) (h₀:Heap) (pre:List En) (h:Heap) (T:ET) (m x k:Nat):Prop where
  size:h.objs.size=x+k
  kge:L≤k
  full:Full T m
  np:pre.length≤m
  ent : ∀ i a o,T.get i=some (a,o)→h.get? a=some o
  knone : ∀ i a o,T.get i=some (a,o)→V.kt.get a=none
  low : ∀ i a o,T.get i=some (a,o)→i < pre.length→a ∈ pre.map (·.1)
  high : ∀ i a o,T.get i=some (a,o)→pre.length≤i→h₀.objs.size≤a
  inj : ∀ i j a o o',T.get i=some (a,o)→T.get j=some (a,o')→i=j
  top:Top V.kt h
  keep : ∀ b o,h₀.get? b=some o→b ∉ pre.map (·.1)→h.get? b=some o
  grow:h₀.objs.size≤h.objs.size
section
variable {V:Stat} {h₀:Heap} {W:Want} {d:Drawn} {os:OsState} {A0:Around} {R0:Result→Shared→Prop}
theorem Rep.alloc {h:Heap} {T:ET} {m x k:Nat} {o:Obj} (hV : ∀ a o,V.kt.get a=some o→a < L) (D:Rep V h₀ W.pre h T m x k) (hf:o.isFreed=false) :
    Rep V h₀ W.pre (h.push o) (T.ins m (Nat.add x k) o) (Nat.add m 1) x (Nat.add k 1) where
  size:=by rw [Heap.size_push,D.size]; exact Nat.add_assoc x k 1
  kge:=Nat.le_succ_of_le D.kge
  full:=D.full.ins
  np:=Nat.le_succ_of_le D.np
  ent:=fun i a o' e=>by
    rw [ins_full T m _ _ D.full] at e
    by_cases hi:i=m
    · rw [if_pos hi] at e
      cases e
      show (h.push o).get? (x+k)=some o
      rw [← D.size]; exact Heap.get?_push_size h hf
    · rw [if_neg hi] at e; exact Heap.get?_push_of_some _ (D.ent i a o' e)
  knone:=fun i a o' e=>by
    rw [ins_full T m _ _ D.full] at e
    by_cases hi:i=m
    · rw [if_pos hi] at e
      cases e
      cases q:V.kt.get (Nat.add x k) with
      | none=>rfl
      | some o=>have h1:x+k < L:=hV _ _ q; have:=D.kge; lia
    · rw [if_neg hi] at e; exact D.knone i a o' e
  low:=fun i a o' e hl=>by
    rw [ins_full T m _ _ D.full] at e
    by_cases hi:i=m
    · have:=D.np; lia
    · rw [if_neg hi] at e; exact D.low i a o' e hl
  high:=fun i a o' e hl=>by
    rw [ins_full T m _ _ D.full] at e
    by_cases hi:i=m
    · rw [if_pos hi] at e
      cases e
      show h₀.objs.size≤x+k
      rw [← D.size]; exact D.grow
    · rw [if_neg hi] at e; exact D.high i a o' e hl
  inj:=fun i j a o1 o2 e1 e2=>by
    rw [ins_full T m _ _ D.full] at e1 e2
    have fresh : ∀ i o',T.get i=some (Nat.add x k,o')→False:=fun i o' e=>by
      have:=Heap.lt_size (D.ent _ _ _ e)
      rw [D.size] at this
      exact Nat.lt_irrefl _ this
    by_cases hi:i=m
    · by_cases hj:j=m
      · rw [hi,hj]
      · rw [if_pos hi] at e1; rw [if_neg hj] at e2
        cases e1
        exact (fresh _ _ e2).elim
    · by_cases hj:j=m
      · rw [if_neg hi] at e1; rw [if_pos hj] at e2
        cases e2
        exact (fresh _ _ e1).elim
      · rw [if_neg hi] at e1; rw [if_neg hj] at e2
        exact D.inj i j a o1 o2 e1 e2
  top:=fun a o' e=>Heap.get?_push_of_some _ (D.top a o' e)
  keep:=fun b o' e hb=>Heap.get?_push_of_some _ (D.keep b o' e hb)
  grow:=by rw [Heap.size_push]; exact Nat.le_succ_of_le D.grow
theorem Rep.update {h:Heap} {T:ET} {m x k:Nat} {j:Nat} {a:Addr} {o:Obj} {f:Obj→Obj} (D:Rep V h₀ W.pre h T m x k) (e:T.get j=some (a,o)) (hf:(f o).isFreed=false) :
    Rep V h₀ W.pre (h.update a f) (T.set j (f o)) m x k where
  size:=by rw [Heap.size_after_update,D.size]
  kge:=D.kge
  full:=D.full.set
  np:=D.np
  ent:=fun i b o' e'=>by
    rw [ET.get_set] at e'
    by_cases hi:i=j
    · rw [if_pos hi,e] at e'
      cases e'
      exact Heap.get?_update_self f (D.ent j a o e) hf
    · rw [if_neg hi] at e'
      have ne:a≠b:=fun z=>hi (D.inj i j b o' o e' (z▸e))
      rw [Heap.get?_update_other h f ne]; exact D.ent i b o' e'
  knone:=fun i b o' e'=>by
    rw [ET.get_set] at e'
    by_cases hi:i=j
    · rw [if_pos hi,e] at e'
      cases e'
      exact D.knone j a o e
    · rw [if_neg hi] at e'; exact D.knone i b o' e'
  low:=fun i b o' e' hl=>by
    rw [ET.get_set] at e'
    by_cases hi:i=j
    · rw [if_pos hi,e] at e'
      cases e'
      exact D.low j a o e (hi▸hl)
    · rw [if_neg hi] at e'; exact D.low i b o' e' hl
  high:=fun i b o' e' hl=>by
    rw [ET.get_set] at e'
    by_cases hi:i=j
    · rw [if_pos hi,e] at e'
      cases e'
      exact D.high j a o e (hi▸hl)
    · rw [if_neg hi] at e'; exact D.high i b o' e' hl
  inj:=fun i i' b o1 o2 e1 e2=>by
    have strip : ∀ i b o1,(T.set j (f o)).get i=some (b,o1) → ∃ o',T.get i=some (b,o'):=fun i b o1 e1=>by
      rw [ET.get_set] at e1
      by_cases hi:i=j
      · rw [if_pos hi,e] at e1
        cases e1
        exact ⟨o,hi▸e⟩
      · rw [if_neg hi] at e1; exact ⟨o1,e1⟩
    obtain ⟨u,hu⟩:=strip _ _ _ e1
    obtain ⟨v,hv⟩:=strip _ _ _ e2
    exact D.inj _ _ _ _ _ hu hv
  top:=fun b o' e'=>by
    have ne:a≠b:=fun z=>by
      have:=D.knone j a o e
      rw [z,e'] at this; cases this
    rw [Heap.get?_update_other h f ne]; exact D.top b o' e'
  keep:=fun b o' e' hb=>by
    have ne:a≠b:=fun z=>by
      subst z
      by_cases hj:j < W.pre.length
      · exact hb (D.low j a o e hj)
      · exact absurd (Heap.lt_size e') (Nat.not_lt.mpr (D.high j a o e (Nat.not_lt.mp hj)))
    rw [Heap.get?_update_other h f ne]; exact D.keep b o' e' hb
  grow:=by rw [Heap.size_after_update]; exact D.grow
theorem Rep.use {h h':Heap} {T T1:ET} {m x k x':Nat} {idx:List Nat} {pre':List En} {mod:List Obj} {new:List En} (hV : ∀ a o,V.kt.get a=some o→a < L) (D:Rep V h₀ W.pre h T m x k)
    (hg:idx.map T.get=pre'.map some) (hs:setAll idx mod T=some T1) (hz:h'.objs.size=x'+L) (hgr:h.objs.size≤x'+L) (ht:Top V.kt h')
    (hk : ∀ b ob,h.get? b=some ob→b ∉ pre'.map (·.1)→h'.get? b=some ob) (hm:Holds h' (zipMod pre' mod)) (hn:Holds h' new) (hge : ∀ p ∈ new,h.objs.size≤p.1) (hnd:(new.map (·.1)).Nodup) :
    Rep V h₀ W.pre h' (addAll new T1 m).1 (addAll new T1 m).2 x' L:=by
  obtain ⟨s1,s2⟩:=setAll_spec idx mod T T1 hs
  have F1:=s2 m D.full
  obtain ⟨a1,a2,a3⟩:=addAll_spec new T1 m F1
  have old : ∀ i a o,T1.get i=some (a,o)→h'.get? a=some o ∧ ∃ o',T.get i=some (a,o'):=fun i a o e=>by
    rcases s1 i a o e with ⟨q1,q2⟩ | ⟨k,q1,q2,o',q3⟩
    · refine ⟨hk a o (D.ent i a o q2) fun hmem => ?_,o,q2⟩
      obtain ⟨p,hp,e'⟩:=List.mem_map.mp hmem
      obtain ⟨j,hj,hgj⟩:=gather_mem hg hp
      obtain ⟨b,ob⟩:=p
      have e':b=a:=e'
      subst e'
      have:j=i:=D.inj _ _ _ _ _ hgj q2
      exact q1 (this▸hj)
    · have:=gather_at hg q1 q3
      exact ⟨hm _ (zipMod_mem this q2),o',q3⟩
  have look : ∀ i a o,(addAll new T1 m).1.get i=some (a,o)→(i < m∧T1.get i=some (a,o))∨(m≤i∧new[i-m]? = some (a,o)):=fun i a o e=>by
    rw [a3] at e
    by_cases hi:i < m
    · rw [if_pos hi] at e; exact .inl ⟨hi,e⟩
    · rw [if_neg hi] at e; exact .inr ⟨Nat.not_lt.mp hi,e⟩
  have newIn : ∀ {j:Nat} {p:En},new[j]? = some p→p ∈ new:=fun e=>List.mem_of_getElem? e
  refine ⟨hz,Nat.le_refl _,by rw [a1]; exact a2,by rw [a1]; exact Nat.le_trans D.np (Nat.le_add_right ..),fun i a o e => ?_,fun i a o e => ?_,fun i a o e hl => ?_,fun i a o e hl => ?_,fun i j a o o' e1 e2 => ?_,ht,fun b ob e hb => ?_,?_⟩
  · rcases look i a o e with ⟨_,q⟩ | ⟨_,q⟩
    · exact (old i a o q).1
    · exact hn _ (newIn q)
  · rcases look i a o e with ⟨_,q⟩ | ⟨_,q⟩
    · obtain ⟨o',z⟩:=(old i a o q).2; exact D.knone i a o' z
    · have z:h.objs.size≤a:=hge _ (newIn q)
      cases w:V.kt.get a with
      | none=>rfl
      | some ob=>have z1:=hV _ _ w; have z2:=D.size; have z3:=D.kge; lia
  · rcases look i a o e with ⟨_,q⟩ | ⟨q',q⟩
    · obtain ⟨o',z⟩:=(old i a o q).2; exact D.low i a o' z hl
    · have:=D.np; lia
  · rcases look i a o e with ⟨_,q⟩ | ⟨_,q⟩
    · obtain ⟨o',z⟩:=(old i a o q).2; exact D.high i a o' z hl
    · have z:h.objs.size≤a:=hge _ (newIn q)
      exact Nat.le_trans D.grow z
  · rcases look i a o e1 with ⟨_,q⟩ | ⟨qi,q⟩
    · obtain ⟨u,z⟩:=(old i a o q).2
      rcases look j a o' e2 with ⟨_,q2⟩ | ⟨_,q2⟩
      · obtain ⟨v,y⟩:=(old j a o' q2).2
        exact D.inj _ _ _ _ _ z y
      · have y:h.objs.size≤a:=hge _ (newIn q2)
        exact absurd (Heap.lt_size (D.ent _ _ _ z)) (Nat.not_lt.mpr y)
    · rcases look j a o' e2 with ⟨_,q2⟩ | ⟨qj,q2⟩
      · obtain ⟨v,y⟩:=(old j a o' q2).2
        have z:h.objs.size≤a:=hge _ (newIn q)
        exact absurd (Heap.lt_size (D.ent _ _ _ y)) (Nat.not_lt.mpr z)
      · have e3:(new.map (·.1))[i-m]? = some a:=by rw [List.getElem?_map,q]; rfl
        have e4:(new.map (·.1))[j-m]? = some a:=by rw [List.getElem?_map,q2]; rfl
        obtain ⟨l1,e5⟩:=List.getElem?_eq_some_iff.mp e3
        obtain ⟨l2,e6⟩:=List.getElem?_eq_some_iff.mp e4
        have:=(List.getElem_inj (h₀:=l1) (h₁:=l2) hnd).mp (e5.trans e6.symm)
        lia
  · refine hk b ob (D.keep b ob e hb) fun hmem => ?_
    obtain ⟨p,hp,e'⟩:=List.mem_map.mp hmem
    obtain ⟨j,hj,hgj⟩:=gather_mem hg hp
    obtain ⟨c,oc⟩:=p
    have e':c=b:=e'
    subst e'
    by_cases hj':j < W.pre.length
    · exact hb (D.low j c oc hgj hj')
    · exact absurd (Heap.lt_size e) (Nat.not_lt.mpr (D.high j c oc hgj (Nat.not_lt.mp hj')))
  · rw [hz]; exact Nat.le_trans D.grow hgr
end
theorem pushC_ok {ps:PT} {n a b:Nat} {f:PT→Nat→Chk} (h:(pushC ps n a b f).Ok) (hf : ∀ ps n,(f ps n).Ok→ps.AllEq):ps.AllEq∧a=b ∧ ∃ ps' n',(f ps' n').Ok:=by
  have h:(@Bool.rec (fun _=>Chk) (f (ps.ins n a b) (Nat.succ n)) (.more (ps.ins n a b) (f .nil 0)) (Nat.beq n 63)).Ok:=h
  cases q:Nat.beq n 63 with
  | true =>
    rw [q] at h
    have h:(ps.ins n a b).AllEq∧(f .nil 0).Ok:=h
    have z:=PT.allEq_ins _ _ _ _ h.1
    exact ⟨z.1,z.2,_,_,h.2⟩
  | false =>
    rw [q] at h
    have h:(f (ps.ins n a b) (Nat.succ n)).Ok:=h
    have z:=PT.allEq_ins _ _ _ _ (hf _ _ h)
    exact ⟨z.1,z.2,_,_,h⟩
theorem bad_not {n a:Nat} : ¬ (Chk.bad n a).Ok:=fun z=>z
theorem rec_true {b:Bool} {x y:Chk} (hx : ¬ x.Ok) (h:(@Bool.rec (fun _=>Chk) x y b).Ok):b=true∧y.Ok:=by
  cases b with
  | true=>exact ⟨rfl,h⟩
  | false=>exact (hx h).elim
theorem rec_false {b:Bool} {x y:Chk} (hy : ¬ y.Ok) (h:(@Bool.rec (fun _=>Chk) x y b).Ok):b=false∧x.Ok:=by
  cases b with
  | true=>exact (hy h).elim
  | false=>exact ⟨rfl,h⟩
section
variable {V:Stat} {W:Want} {ih:SimTy}
noncomputable def PsOk (ih:SimTy):Prop := ∀ P h c dp κ tr T m x k t i ps n,(ih P h c dp κ tr T m x k t i ps n).Ok→ps.AllEq
theorem finS_ps {r:Rz} {P:Plan} {T:ET} {x k t i:Nat} {ps:PT} (h:(finS W r P T x k t i ps).Ok):ps.AllEq:=by
  unfold finS at h
  cases P with
  | use=>exact h.elim
  | fin hh v ni =>
    dsimp only at h
    split at h
    · exact h.elim
    · split at h
      · exact h.elim
      · obtain ⟨_,h⟩:=rec_true bad_not h
        obtain ⟨_,h⟩:=rec_true bad_not h
        exact h.1
theorem retS_ps (H:PsOk ih) {r:Result} {P:Plan} {hh:Nat} {κ:KK} {T:ET} {m x k t i:Nat} {ps:PT} {n:Nat} (h:(retS W ih r P hh κ T m x k t i ps n).Ok):ps.AllEq:=by
  cases κ with
  | base=>exact finS_ps h
  | ret c dp kk κ=>exact H _ _ _ _ _ _ _ _ _ _ _ _ _ _ h
theorem useS_ps {P:Plan} {c':Code} {dp':Nat} {κ':KK} {T:ET} {m:Nat} {ps:PT} (h:(useS W ih P c' dp' κ' T m ps).Ok):ps.AllEq:=by
  unfold useS at h
  cases P with
  | fin=>exact h.elim
  | use hh D cu idx pre post next =>
    obtain ⟨_,h⟩:=rec_true bad_not h
    split at h
    · exact h.elim
    · exact h.1
theorem enterS_ps (H:PsOk ih) {o:Obj} {P:Plan} {hh:Nat} {c':Code} {dp':Nat} {κ':KK} {T:ET} {m x k t i:Nat} {ps:PT} {n:Nat} (h:(enterS ih o P hh c' dp' κ' T m x k t i ps n).Ok):ps.AllEq:=by
  unfold enterS at h
  split at h
  · split at h
    · split at h
      · exact H _ _ _ _ _ _ _ _ _ _ _ _ _ _ (rec_true bad_not h).2
      · exact h.elim
    · exact h.elim
  · exact h.elim
theorem goS_ps (H:PsOk ih) {P:Plan} {hh:Nat} {c':Code} {dp':Nat} {κ':KK} {T:ET} {m x k t i:Nat} {ps:PT} {n:Nat} (h:(goS V W ih P hh c' dp' κ' T m x k t i ps n).Ok):ps.AllEq:=by
  unfold goS at h
  obtain ⟨_,h⟩:=rec_true bad_not h
  cases q9:Nat.beq (Nat.mod hh 128) 127 with
  | true =>
    rw [q9] at h
    cases κ' with
    | base=>exact finS_ps h
    | ret=>exact h.elim
  | false =>
  rw [q9] at h
  cases q0:Nat.beq (Nat.mod hh 128) 0 with
  | true=>rw [q0] at h; exact H _ _ _ _ _ _ _ _ _ _ _ _ _ _ (rec_true bad_not h).2
  | false =>
    rw [q0] at h
    cases q1:Nat.beq (Nat.mod hh 128) 1 with
    | true=>rw [q1] at h; exact useS_ps h
    | false =>
      rw [q1] at h
      cases q2:Nat.beq (Nat.mod hh 128) 2 with
      | true =>
        rw [q2] at h
        dsimp only at h
        split at h
        · exact h.elim
        · exact enterS_ps H h
      | false =>
        rw [q2] at h
        dsimp only at h
        split at h
        · exact h.elim
        · exact (pushC_ok h fun ps n z=>enterS_ps H z).1
theorem callS_ps (H:PsOk ih) {P:Plan} {hh:Nat} {c':Code} {dp':Nat} {κ':KK} {T:ET} {m x k t i:Nat} {ps:PT} {n:Nat} (h:(callS V W ih P hh c' dp' κ' T m x k t i ps n).Ok):ps.AllEq:=by
  unfold callS at h
  split at h
  · exact useS_ps (rec_true bad_not h).2
  · exact goS_ps H h
theorem step_ps (H:PsOk ih):PsOk (simStep V W ih):=by
  intro P hh c dp κ tr T m x k t i ps n h
  cases tr with
  | pure fin =>
    cases fin with
    | done f=>exact retS_ps H h
    | again c'=>exact goS_ps H h
  | raise e=>exact retS_ps H h
  | rule _ kk=>exact H _ _ _ _ _ _ _ _ _ _ _ _ _ _ h
  | «at» _ kk=>exact H _ _ _ _ _ _ _ _ _ _ _ _ _ _ h
  | point _ kk=>exact H _ _ _ _ _ _ _ _ _ _ _ _ _ _ h
  | ask kk=>exact H _ _ _ _ _ _ _ _ _ _ _ _ _ _ h
  | load a q kk =>
    unfold simStep at h
    dsimp only at h
    cases q0:Nat.beq (Nat.mod hh 128) 0 with
    | true =>
      rw [q0] at h
      dsimp only at h
      split at h
      · exact h.elim
      · exact H _ _ _ _ _ _ _ _ _ _ _ _ _ _ h
    | false =>
      rw [q0] at h
      dsimp only at h
      split at h
      · exact h.elim
      · exact (pushC_ok h fun ps n z=>H _ _ _ _ _ _ _ _ _ _ _ _ _ _ z).1
  | loadIfAlive a kk =>
    unfold simStep at h
    dsimp only at h
    cases q0:Nat.beq (Nat.mod hh 128) 0 with
    | true =>
      rw [q0] at h
      dsimp only at h
      split at h
      · exact h.elim
      · exact H _ _ _ _ _ _ _ _ _ _ _ _ _ _ h
    | false =>
      rw [q0] at h
      dsimp only at h
      split at h
      · exact h.elim
      · exact (pushC_ok h fun ps n z=>H _ _ _ _ _ _ _ _ _ _ _ _ _ _ z).1
  | update a q f kk =>
    unfold simStep at h
    dsimp only at h
    split at h
    · exact h.elim
    · exact (pushC_ok h fun ps n z=>H _ _ _ _ _ _ _ _ _ _ _ _ _ _ (rec_false bad_not z).2).1
  | alloc o kk=>exact H _ _ _ _ _ _ _ _ _ _ _ _ _ _ (rec_false bad_not h).2
  | fresh kk=>exact H _ _ _ _ _ _ _ _ _ _ _ _ _ _ h
  | handled own kk=>exact H _ _ _ _ _ _ _ _ _ _ _ _ _ _ (rec_false bad_not h).2
  | stack kk=>exact h.1
  | call c' hd g l kk =>
    unfold simStep at h
    cases hd with
    | none=>exact callS_ps H h
    | some _=>exact h.elim
  | unsupported=>exact h.elim
  | finish=>exact h.elim
  | register=>exact h.elim
  | choose=>exact h.elim
  | os=>exact h.elim
  | fork=>exact h.elim
  | thread=>exact h.elim
  | await=>exact h.elim
  | newGen=>exact h.elim
  | genState=>exact h.elim
  | resume=>exact h.elim
  | yield=>exact h.elim
end
theorem sim_ps {V:Stat} {W:Want} : ∀ n,PsOk (sim V W n)
  | 0=>fun _ _ _ _ _ _ _ _ _ _ _ _ _ _ h=>h.elim
  | n+1=>step_ps (sim_ps n)
section
variable {V:Stat} {h₀:Heap} {W:Want} {d:Drawn} {os:OsState} {A0:Around} {R0:Result→Shared→Prop}
noncomputable def GivesS (V:Stat) (h₀:Heap) (W:Want) (d:Drawn) (os:OsState) (A0:Around) (R0:Result→Shared→Prop):Prop :=
  ∀ (o:Out) (h':Heap),h'.objs.size=o.x+L→h₀.objs.size≤o.x+L→Top V.kt h'→(∀ b ob,h₀.get? b=some ob→b ∉ W.pre.map (·.1)→h'.get? b=some ob) →
    Holds h' (zipMod W.pre (W.post o).mod)→Holds h' (W.post o).new→(∀ p ∈ (W.post o).new,h₀.objs.size≤p.1)→((W.post o).new.map (·.1)).Nodup→endR V A0 R0 (W.post o).r ⟨h',#[],d,o.t,os⟩
noncomputable def Sound (V:Stat) (h₀:Heap) (W:Want) (d:Drawn) (os:OsState) (A0:Around) (R0:Result→Shared→Prop) (ih:SimTy):Prop :=
  ∀ P h c dp κ tr T m x k t i ps n hp,(ih P h c dp κ tr T m x k t i ps n).Ok→Oblig V P∧0 < t+i→Rep V h₀ W.pre hp T m x k→Low (aroundOf A0 κ) dp→KInv A0 κ→c.weight≤1 → ∀ κ' tr',VK κ κ'→Var tr tr'→Means V A0 R0 c κ' tr' ⟨hp,#[],d,t+i,os⟩
theorem finS_sound (hG:GivesS V h₀ W d os A0 R0) {r:Rz} {P:Plan} {T:ET} {m x k t i:Nat} {ps:PT} {hp:Heap} (h:(finS W r P T x k t i ps).Ok) (D:Rep V h₀ W.pre hp T m x k) (hids:W.ids.length=W.pre.length) (ht:0 < t+i):endR V A0 R0 r ⟨hp,#[],d,t+i,os⟩:=by
  unfold finS at h
  cases P with
  | use=>exact h.elim
  | fin hh v ni =>
    dsimp only at h
    split at h
    · exact h.elim
    · rename_i l1 g1
      split at h
      · exact h.elim
      · rename_i l2 g2
        obtain ⟨q1,h⟩:=rec_true bad_not h
        obtain ⟨q2,h⟩:=rec_true bad_not h
        have h:ps.AllEq∧r=(W.post ⟨Nat.pred (Nat.add t i),Nat.add x (Nat.sub k L),v,nthO l1⟩).r∧l1=zipMod W.pre (W.post ⟨Nat.pred (Nat.add t i),Nat.add x (Nat.sub k L),v,nthO l1⟩).mod∧l2=(W.post ⟨Nat.pred (Nat.add t i),Nat.add x (Nat.sub k L),v,nthO l1⟩).new:=h
        obtain ⟨_,hr,h1,h2⟩:=h
        have s1:=gather_spec T _ _ g1
        have s2:=gather_spec T _ _ g2
        have hsz:x+k=Nat.add x (Nat.sub k L)+L:=by
          have:=D.kge
          show x+k=x+(k-L)+L
          omega
        have:=hG ⟨Nat.pred (Nat.add t i),Nat.add x (Nat.sub k L),v,nthO l1⟩ hp (D.size.trans hsz) (by show h₀.objs.size≤Nat.add x (Nat.sub k L)+L; rw [← hsz,← D.size]; exact D.grow) D.top D.keep
        have et:Out.t ⟨Nat.pred (Nat.add t i),Nat.add x (Nat.sub k L),v,nthO l1⟩=t+i:=Nat.succ_pred_eq_of_pos ht
        rw [← hr,← h1,← h2,et] at this
        refine this (fun p hp' => ?_) (fun p hp' => ?_) (fun p hp' => ?_) (gather_nodup D.inj s2 (nodupB_spec q2))
        · obtain ⟨j,_,hj⟩:=gather_mem s1 hp'
          exact D.ent j _ _ hj
        · obtain ⟨j,_,hj⟩:=gather_mem s2 hp'
          exact D.ent j _ _ hj
        · obtain ⟨j,hm,hj⟩:=gather_mem s2 hp'
          exact D.high j _ _ hj (hids▸allGe_spec q1 j hm)
end
theorem low_le {A:Around} {a b:Nat} (h:Low A a) (hab:a≤b):Low A b:=⟨Nat.le_trans h.1 hab,Nat.le_trans h.2 (by lia)⟩
theorem cUnits_le (c:Code) (h:c.weight≤1):c.cUnits≤4:=by
  have hf:c.frames≤1:=by unfold Code.weight at h; lia
  unfold Code.cUnits
  split <;> lia
theorem low_call {A:Around} {c:Code} {d:Nat} (h:Low A d) (hw:c.weight≤1):Low ((A.under c).mark none) (Nat.add d 1):=by
  have:=cUnits_le c hw
  obtain ⟨h1,h2⟩:=h
  refine ⟨?_,?_⟩
  · show A.depth+c.weight≤d+1
    lia
  · show A.units+c.cUnits≤8*(d+1)+8
    lia
theorem Var.inv_pure {α:Type} {a:α} {t':Sem α} (v:Var (.pure a) t'):t' = .pure a:=by cases v; rfl
theorem Var.inv_raise {α:Type} {e:Value} {t':Sem α} (v:Var (.raise e) t'):t' = .raise e:=by cases v; rfl
theorem Var.inv_rule {α:Type} {g:String} {k:Unit→Sem α} {t':Sem α} (v:Var (.rule g k) t') : ∃ k',t'=(.rule g k') ∧ ∀ u,Var (k u) (k' u):=by
  cases v with
  | refl=>exact ⟨k,rfl,fun u => .refl _⟩
  | rule h=>exact ⟨_,rfl,h⟩
theorem Var.inv_at {α:Type} {g:Pos} {k:Unit→Sem α} {t':Sem α} (v:Var (.at g k) t') : ∃ k',t'=(.at g k') ∧ ∀ u,Var (k u) (k' u):=by
  cases v with
  | refl=>exact ⟨k,rfl,fun u => .refl _⟩
  | «at» h=>exact ⟨_,rfl,h⟩
theorem Var.inv_point {α:Type} {g:List Value} {k:Unit→Sem α} {t':Sem α} (v:Var (.point g k) t') : ∃ k',t'=(.point g k') ∧ ∀ u,Var (k u) (k' u):=by
  cases v with
  | refl=>exact ⟨k,rfl,fun u => .refl _⟩
  | point h=>exact ⟨_,rfl,h⟩
theorem Var.inv_ask {α:Type}  {k:Setting→Sem α} {t':Sem α} (v:Var (.ask k) t') : ∃ k',t'=(.ask k') ∧ ∀ u,Var (k u) (k' u):=by
  cases v with
  | refl=>exact ⟨k,rfl,fun u => .refl _⟩
  | ask h=>exact ⟨_,rfl,h⟩
theorem Var.inv_load {α:Type} {a:Addr} {g:Option Value} {k:Obj→Sem α} {t':Sem α} (v:Var (.load a g k) t') : ∃ k',t'=(.load a g k') ∧ ∀ u,Var (k u) (k' u):=by
  cases v with
  | refl=>exact ⟨k,rfl,fun u => .refl _⟩
  | load h=>exact ⟨_,rfl,h⟩
theorem Var.inv_alive {α:Type} {a:Addr} {k:Option Obj→Sem α} {t':Sem α} (v:Var (.loadIfAlive a k) t') : ∃ k',t'=(.loadIfAlive a k') ∧ ∀ u,Var (k u) (k' u):=by
  cases v with
  | refl=>exact ⟨k,rfl,fun u => .refl _⟩
  | alive h=>exact ⟨_,rfl,h⟩
theorem Var.inv_update {α:Type} {a:Addr} {g:Option Value} {f:Obj→Obj} {k:Unit→Sem α} {t':Sem α} (v:Var (.update a g f k) t') : ∃ k',t'=(.update a g f k') ∧ ∀ u,Var (k u) (k' u):=by
  cases v with
  | refl=>exact ⟨k,rfl,fun u => .refl _⟩
  | update h=>exact ⟨_,rfl,h⟩
theorem Var.inv_alloc {α:Type} {a:Obj} {k:Addr→Sem α} {t':Sem α} (v:Var (.alloc a k) t') : ∃ k',t'=(.alloc a k') ∧ ∀ u,Var (k u) (k' u):=by
  cases v with
  | refl=>exact ⟨k,rfl,fun u => .refl _⟩
  | alloc h=>exact ⟨_,rfl,h⟩
theorem Var.inv_fresh {α:Type}  {k:Tok→Sem α} {t':Sem α} (v:Var (.fresh k) t') : ∃ k',t'=(.fresh k') ∧ ∀ u,Var (k u) (k' u):=by
  cases v with
  | refl=>exact ⟨k,rfl,fun u => .refl _⟩
  | fresh h=>exact ⟨_,rfl,h⟩
theorem Var.inv_handled {α:Type} {g:Bool} {k:Option Value→Sem α} {t':Sem α} (v:Var (.handled g k) t') : ∃ k',t'=(.handled g k') ∧ ∀ u,Var (k u) (k' u):=by
  cases v with
  | refl=>exact ⟨k,rfl,fun u => .refl _⟩
  | handled h=>exact ⟨_,rfl,h⟩
theorem Var.inv_stack {α:Type}  {k:List (Code × Pos)→Sem α} {t':Sem α} (v:Var (.stack k) t') : ∃ k',t'=(.stack k') ∧ ∀ u,Var (k u) (k' u):=by
  cases v with
  | refl=>exact ⟨k,rfl,fun u => .refl _⟩
  | stack h=>exact ⟨_,rfl,h⟩
theorem Var.inv_call {α:Type} {c:Code} {hd:Option Value} {g:Bool} {l:List Value} {k:Result→Sem α} {t':Sem α} (v:Var (.call c hd g l k) t') :
    (∃ k',t' = .call c hd g l k' ∧ ∀ u,Var (k u) (k' u)) ∨ ∃ stmts env y k',c = .block stmts env∧t'=Sem.bind y k'∧Good y stmts env ∧ ∀ f,Var (k (.ok f)) (k' f):=by
  cases v with
  | refl=>exact .inl ⟨k,rfl,fun u => .refl _⟩
  | call h=>exact .inl ⟨_,rfl,h⟩
  | inl g h=>exact .inr ⟨_,_,_,_,rfl,rfl,g,h⟩
theorem spec_of_specB {V:Stat} {D:Nat} {stmts:List Stmt} {env:Env} {pre:List En} {post:Out→Post} (S:SpecB V D stmts env pre post):Spec V D (.block stmts env) pre post:=by
  intro A s R hA hD hg hT hL hH hN hK hG
  have hw:(Code.block stmts env).weight≤1:=(codeOk_spec (c := .block stmts env) rfl).2
  refine y_code _ _ _ _ _ _ ?_
  have key:=S.2 A (.block stmts env) s (fun f s'=>R (.ok f) s') hw hA hD hg hT hL hH hN hK fun o h' f hf a1 a2 a3 a4 a5 a6 a7 a8=>by
    have:=hG o h' a1 a2 a3 a4 a5 a6 a7 a8
    unfold endR at this
    rw [hf] at this
    exact this
  have e:denote table (.block stmts env)=Sem.bind ((execs stmts env).onRaise (fun x=>Sem.bind (noteFrame x env) fun _=>theTreesLotGoes x)) fun f => .pure (.done f):=by
    rw [denote]
    rfl
  rw [e]
  intro Γ p hc hΓ
  have k1:=key Γ p hc hΓ
  rw [Sem.wp_bind,Sem.wp_onRaise]
  exact Sem.wp_mono _ Γ _ (fun a p' s' h'=>by rw [Sem.wp_pure]; exact h') (fun _ _ _ h'=>h'.elim) p s k1
theorem spec_of_C {V:Stat} {D:Nat} {c:Code} {pre:List En} {post:Out→Post} (S:SpecC V D c pre post):Spec V D c pre post:=by
  unfold SpecC at S
  split at S
  · exact spec_of_specB S
  · exact S
section
variable {V:Stat} {h₀:Heap} {W:Want} {d:Drawn} {os:OsState} {A0:Around} {R0:Result→Shared→Prop} {ih:SimTy}
  (hG:GivesS V h₀ W d os A0 R0) (hids:W.ids.length=W.pre.length) (hV : ∀ a o,V.kt.get a=some o→a < L) (hA:A0.handled=none) (H:PsOk ih) (IH:Sound V h₀ W d os A0 R0 ih)
include hG hids IH
noncomputable def outR (V:Stat) (A0:Around) (R0:Result→Shared→Prop) (c':Code) (κ':KK) (r:Rz) (s:Shared):Prop:=match r with
  | .ok f=>endOf V A0 R0 κ' (.ok f) s
  | .error e=>endOf V A0 R0 κ' (.error e) s
  | .go c2=>Means V A0 R0 c' κ' (.pure (.again c2)) s
omit hG hids IH in
theorem out_end {c':Code} {κ κ':KK} {r:Rz} {s:Shared} {Γ:Ctx} {p:Pos} (vk:VK κ κ') (hc:Γ.code=c') (hΓ:Γ.Below (aroundOf A0 κ)) (h:outR V A0 R0 c' κ' r s):endR V (aroundOf A0 κ) (endOf V A0 R0 κ') r s:=by
  cases r with
  | ok f=>exact h
  | error e=>exact h
  | go c2 =>
    have h:Means V A0 R0 c' κ' (.pure (.again c2)) s:=h
    unfold Means at h
    rw [vk.around] at h
    have z:=h Γ p hc hΓ
    rw [Sem.wp_pure] at z
    exact z.2
theorem retS_sound {r:Result} {P:Plan} {hh:Nat} {κ κ':KK} {T:ET} {m x k t i:Nat} {ps:PT} {n:Nat} {hp:Heap} (vk:VK κ κ') (h:(retS W ih r P hh κ T m x k t i ps n).Ok) (O:Oblig V P∧0 < t+i) (D:Rep V h₀ W.pre hp T m x k) (K:KInv A0 κ) :
    endOf V A0 R0 κ' r ⟨hp,#[],d,t+i,os⟩:=by
  cases vk with
  | base =>
    have z:=finS_sound hG h D hids O.2
    cases r with
    | ok f=>exact z
    | error e=>exact z
  | ret hv vk=>exact IH _ _ _ _ _ _ _ _ _ _ _ _ _ _ _ h O D K.1 K.2.2 K.2.1 _ _ vk (hv r)
include hV hA
theorem useS_core {P:Plan} {c':Code} {dp':Nat} {κ:KK} {T:ET} {m x k t i:Nat} {ps:PT} {hp:Heap} (hd:Low (aroundOf A0 κ) dp') (hw:c'.weight≤1) (h:(useS W ih P c' dp' κ T m ps).Ok) (O:Oblig V P∧0 < t+i) (D:Rep V h₀ W.pre hp T m x k) (K:KInv A0 κ) :
    ∃ (DD:Nat) (pre:List En) (post:Out→Post),SpecC V DD c' pre post∧dp'≤DD∧Holds hp pre∧(pre.map (·.1)).Nodup∧(∀ p ∈ pre,V.kt.get p.1=none) ∧
      ∀ (o:Out) (h':Heap),h'.objs.size=o.x+L→hp.objs.size≤o.x+L→Top V.kt h'→(∀ b ob,hp.get? b=some ob→b ∉ pre.map (·.1)→h'.get? b=some ob) →
        Holds h' (zipMod pre (post o).mod)→Holds h' (post o).new→(∀ p ∈ (post o).new,hp.objs.size≤p.1)→((post o).new.map (·.1)).Nodup → ∀ κ',VK κ κ'→outR V A0 R0 c' κ' (post o).r ⟨h',#[],d,o.t,os⟩:=by
  unfold useS at h
  cases P with
  | fin=>exact h.elim
  | use hh DD cu idx pre post next =>
    obtain ⟨q,h⟩:=rec_true bad_not h
    have hq:nodupB idx=true∧Nat.ble dp' DD=true:=by
      cases z:Nat.ble dp' DD with
      | false=>rw [z] at q; cases q
      | true=>rw [z] at q; exact ⟨q,rfl⟩
    split at h
    · exact h.elim
    · rename_i osl hg
      obtain ⟨_,rfl,rfl,hf⟩:=h
      have hs:=gather_spec T _ _ hg
      obtain ⟨⟨S,On⟩,hpos⟩:=O
      refine ⟨DD,osl,post,S,Nat.le_of_ble_eq_true hq.2,fun p hp' => ?_,gather_nodup D.inj hs (nodupB_spec hq.1),fun p hp' => ?_,fun o h' z1 z2 z3 z4 z5 z6 z7 z8 κ' vk => ?_⟩
      · obtain ⟨j,_,hj⟩:=gather_mem hs hp'
        exact D.ent j _ _ hj
      · obtain ⟨j,_,hj⟩:=gather_mem hs hp'
        exact D.knone j _ _ hj
      · have ho:=hf o
        dsimp only at ho
        split at ho
        · exact ho.elim
        · rename_i T1 hset
          have Dn:=D.use hV hs hset z1 z2 z3 z4 z5 z6 z7 z8
          unfold outR
          split
          · rename_i f hf
            simp only [hf] at ho
            exact retS_sound hG hids IH (t:=o.t) (i:=0) vk ho ⟨On o,Nat.succ_pos _⟩ Dn K
          · rename_i e he
            simp only [he] at ho
            exact retS_sound hG hids IH (t:=o.t) (i:=0) vk ho ⟨On o,Nat.succ_pos _⟩ Dn K
          · rename_i c2 hc2
            simp only [hc2] at ho
            exact IH _ _ _ _ _ _ _ _ _ _ o.t 0 _ _ _ ho ⟨On o,Nat.succ_pos _⟩ Dn hd K hw _ _ vk (Var.refl _)
theorem useS_sound {P:Plan} {c':Code} {dp':Nat} {κ κ':KK} {T:ET} {m x k t i:Nat} {ps:PT} {hp:Heap} (vk:VK κ κ') (h:(useS W ih P c' dp' κ T m ps).Ok) (O:Oblig V P∧0 < t+i) (D:Rep V h₀ W.pre hp T m x k) (hd:Low (aroundOf A0 κ) dp') (K:KInv A0 κ) (hw:c'.weight≤1) :
    codeAny (model V.prog V.w) (aroundOf A0 κ) c' (endOf V A0 R0 κ') ⟨hp,#[],d,t+i,os⟩:=by
  obtain ⟨DD,pre,post,S,hle,a1,a2,a3,a4⟩:=useS_core hG hids hV hA IH hd hw h O D K
  intro Γ p hc hΓ
  exact spec_of_C S _ ⟨hp,#[],d,t+i,os⟩ _ (around_handled hA κ) (low_le hd hle) ⟨rfl,O.2⟩ D.top (by show L≤hp.objs.size; rw [D.size]; have:=D.kge; lia) a1 a2 a3 (fun o h' z1 z2 z3 z4 z5 z6 z7 z8=>out_end (p:=p) vk hc hΓ (a4 o h' z1 z2 z3 z4 z5 z6 z7 z8 κ' vk)) Γ p hc hΓ
theorem enterS_sound {o:Obj} {P:Plan} {hh:Nat} {c':Code} {dp':Nat} {κ κ':KK} {T:ET} {m x k t i:Nat} {ps:PT} {n:Nat} {hp:Heap} (vk:VK κ κ') (h:(enterS ih o P hh c' dp' κ T m x k t i ps n).Ok) (ho:hp.get? (calleeOf c')=some o) (O:Oblig V P∧0 < t+i) (D:Rep V h₀ W.pre hp T m x k)
    (hd:Low (aroundOf A0 κ) dp') (K:KInv A0 κ) (hw:c'.weight≤1) :
    codeAny (model V.prog V.w) (aroundOf A0 κ) c' (endOf V A0 R0 κ') ⟨hp,#[],d,t+i,os⟩:=by
  unfold enterS at h
  split at h
  · rename_i f args
    split at h
    · rename_i a
      split at h
      · rename_i fd hfd
        obtain ⟨q,h⟩:=rec_true bad_not h
        have M:=IH _ _ _ _ _ _ _ _ _ _ _ _ _ _ _ h O D hd K hw κ' _ vk (.refl _)
        unfold Means at M
        rw [vk.around] at M
        have hb:=Nat.le_of_ble_eq_true q
        refine y_code _ _ _ _ _ _ ?_
        have ho:hp.get? a=some o:=ho
        show wpOwn _ _ _ (callAny (.ref a) args) _ _ _
        refine wpOwn_bind (m:=load a) (wpOwn_of_wpAny (wpAny_load ho ?_))
        simp only [hfd]
        intro Γ p hc hΓ
        have hin:Γ.In ((aroundOf A0 κ).under (.call (.ref a) args)):=hc▸hΓ.in
        refine enter_wp hin ?_ (M Γ p hc hΓ)
        have hd0:=hd.1
        show (aroundOf A0 κ).depth+(Code.call (.ref a) args).weight < 1000
        lia
      · exact h.elim
    · exact h.elim
  · exact h.elim
include H
theorem goS_sound {P:Plan} {hh:Nat} {c':Code} {dp':Nat} {κ κ':KK} {T:ET} {m x k t i:Nat} {ps:PT} {n:Nat} {hp:Heap} (vk:VK κ κ') (h:(goS V W ih P hh c' dp' κ T m x k t i ps n).Ok) (O:Oblig V P∧0 < t+i) (D:Rep V h₀ W.pre hp T m x k)
    (hd:Low (aroundOf A0 κ) dp') (K:KInv A0 κ):c'.quiet=true∧codeAny (model V.prog V.w) (aroundOf A0 κ) c' (endOf V A0 R0 κ') ⟨hp,#[],d,t+i,os⟩:=by
  unfold goS at h
  obtain ⟨q,h⟩:=rec_true bad_not h
  obtain ⟨hqu,hw⟩:=codeOk_spec q
  refine ⟨hqu,?_⟩
  cases q9:Nat.beq (Nat.mod hh 128) 127 with
  | true =>
    rw [q9] at h
    cases vk with
    | base=>exact finS_sound hG h D hids O.2
    | ret=>exact h.elim
  | false =>
  rw [q9] at h
  cases q0:Nat.beq (Nat.mod hh 128) 0 with
  | true =>
    rw [q0] at h
    dsimp only at h
    obtain ⟨hb,h⟩:=rec_true bad_not h
    have hb:=Nat.le_of_ble_eq_true hb
    rw [codeY_eq] at h
    have M:=IH _ _ _ _ _ _ _ _ _ _ _ _ _ _ _ h O D hd K hw κ' _ vk (codeX_var c')
    unfold Means at M
    rw [vk.around] at M
    refine y_code _ _ _ _ _ _ ?_
    intro Γ p hc hΓ
    have hin:Γ.In ((aroundOf A0 κ).under c'):=hc▸hΓ.in
    have hu:Γ.units≤(aroundOf A0 κ).units+c'.cUnits:=hin.2.2.2.2
    have h4:=cUnits_le c' hw
    have h5:=hd.2
    have M1:=M Γ p hc hΓ
    refine codeX_le c' Γ p _ _ _ ?_ M1
    show Γ.units < 9900
    lia
  | false =>
    rw [q0] at h
    cases q1:Nat.beq (Nat.mod hh 128) 1 with
    | true=>rw [q1] at h; exact useS_sound hG hids hV hA IH vk h O D hd K hw
    | false =>
      rw [q1] at h
      cases q2:Nat.beq (Nat.mod hh 128) 2 with
      | true =>
        rw [q2] at h
        dsimp only at h
        split at h
        · exact h.elim
        · rename_i o ho
          exact enterS_sound hG hids hV hA IH vk h (D.top _ _ ho) O D hd K hw
      | false =>
        rw [q2] at h
        dsimp only at h
        split at h
        · exact h.elim
        · rename_i p hp'
          obtain ⟨_,e,ps',n',h⟩:=pushC_ok h fun ps n z=>enterS_ps H z
          exact enterS_sound hG hids hV hA IH vk h (e▸D.ent _ p.1 p.2 hp') O D hd K hw
theorem callS_sound {P:Plan} {hh:Nat} {c c':Code} {dp:Nat} {g:Bool} {l:List Value} {kk:Result→Sem Fin} {κ κ':KK} {tr':Sem Fin} {T:ET} {m x k t i:Nat} {ps:PT} {n:Nat} {hp:Heap} (vk:VK κ κ') (v:Var (.call c' none g l kk) tr')
    (h:(callS V W ih P hh c' (Nat.add dp 1) (.ret c dp kk κ) T m x k t i ps n).Ok) (O:Oblig V P∧0 < t+i) (D:Rep V h₀ W.pre hp T m x k) (hd:Low (aroundOf A0 κ) dp) (K:KInv A0 κ) (hw:c.weight≤1) :
    Means V A0 R0 c κ' tr' ⟨hp,#[],d,t+i,os⟩:=by
  have hd':Low (aroundOf A0 (.ret c dp kk κ)) (Nat.add dp 1):=low_call hd hw
  have K':KInv A0 (.ret c dp kk κ):=⟨hd,hw,K⟩
  rcases v.inv_call with ⟨k',rfl,hk⟩ | ⟨stmts,env,y,k',rfl,rfl,hy,hk⟩
  · have z:codeAny (model V.prog V.w) (aroundOf A0 (.ret c dp kk κ)) c' (endOf V A0 R0 (.ret c dp k' κ')) ⟨hp,#[],d,t+i,os⟩:=by
      unfold callS at h
      split at h
      · rename_i stmts env
        exact useS_sound hG hids hV hA IH (.ret hk vk) (rec_true bad_not h).2 O D hd' K' (codeOk_spec (c := .block stmts env) rfl).2
      · exact (goS_sound hG hids hV hA H IH (.ret hk vk) h O D hd' K').2
    unfold Means
    rw [vk.around]
    have z2:codeAny (model V.prog V.w) (((aroundOf A0 κ).under c).mark none) c' (postR V.prog V.w (aroundOf A0 κ) c (postC V.prog V.w (aroundOf A0 κ) (endOf V A0 R0 κ')) (postE (endOf V A0 R0 κ')) k') ⟨hp,#[],d,t+i,os⟩:=by
      have e:endOf V A0 R0 (.ret c dp k' κ')=postR V.prog V.w (aroundOf A0 κ') c (postC V.prog V.w (aroundOf A0 κ') (endOf V A0 R0 κ')) (postE (endOf V A0 R0 κ')) k':=rfl
      rw [e,vk.around] at z
      exact z
    exact y_call _ _ _ _ _ _ _ _ _ _ _ _ _ (by intro e; cases e) z2
  · have h:(@Bool.rec (fun _=>Chk) (.bad 23 0) (useS W ih P (.block stmts env) (Nat.add dp 1) (.ret c dp kk κ) T m ps) (Nat.beq (Nat.mod hh 128) 1)).Ok:=h
    obtain ⟨DD,pre,post,S,hle,a1,a2,a3,a4⟩:=useS_core hG hids hV hA IH hd' (codeOk_spec (c := .block stmts env) rfl).2 (rec_true bad_not h).2 O D K'
    have S:SpecB V DD stmts env pre post:=S
    have hlow:Low (aroundOf A0 κ) DD:=low_le hd (Nat.le_trans (Nat.le_succ dp) hle)
    have key:=S.2 (aroundOf A0 κ) c ⟨hp,#[],d,t+i,os⟩ (fun f s'=>wpOwn (model V.prog V.w) (aroundOf A0 κ) c (k' f) (postC V.prog V.w (aroundOf A0 κ) (endOf V A0 R0 κ')) (postE (endOf V A0 R0 κ')) s') hw (around_handled hA κ) hlow ⟨rfl,O.2⟩ D.top (by show L≤hp.objs.size; rw [D.size]; have:=D.kge; lia) a1 a2 a3
      fun o h' f hf z1 z2 z3 z4 z5 z6 z7 z8=>by
        have:=a4 o h' z1 z2 z3 z4 z5 z6 z7 z8 (.ret c dp (fun r=>match r with | .ok f=>k' f | .error e=>kk (.error e)) κ') (.ret (fun r=>by cases r with | ok f=>exact hk f | error e=>exact .refl _) vk)
        have e:endOf V A0 R0 (.ret c dp (fun r=>match r with | .ok f=>k' f | .error e=>kk (.error e)) κ')=postR V.prog V.w (aroundOf A0 κ') c (postC V.prog V.w (aroundOf A0 κ') (endOf V A0 R0 κ')) (postE (endOf V A0 R0 κ')) (fun r=>match r with | .ok f=>k' f | .error e=>kk (.error e)):=rfl
        rw [hf] at this
        unfold outR at this
        rw [e,vk.around] at this
        exact this
    unfold Means
    rw [vk.around]
    intro Γ p hc hΓ
    rw [Sem.wp_bind]
    exact hy _ Γ p _ _ _ (Sem.wp_mono _ Γ _ (fun f p' s' hq=>hq Γ p' hc hΓ) (fun _ _ _ hq=>hq) p _ (key Γ p hc hΓ))
theorem step_sound:Sound V h₀ W d os A0 R0 (simStep V W ih):=by
  intro P hh c dp κ tr T m x k t i ps n hp h O D hd K hw κ' tr' vk v
  have hA':(aroundOf A0 κ').handled=none:=around_handled hA κ'
  cases tr with
  | pure fin =>
    cases v.inv_pure
    cases fin with
    | done f=>exact y_pure _ _ _ _ _ _ _ _ _ (y_done _ _ _ _ _ _ (retS_sound hG hids IH vk h O D K))
    | again c' =>
      obtain ⟨q,z⟩:=goS_sound hG hids hV hA H IH vk h O D hd K
      rw [← vk.around] at z
      exact y_pure _ _ _ _ _ _ _ _ _ (y_again _ _ _ _ _ _ q z)
  | raise e =>
    cases v.inv_raise
    exact y_raise _ _ _ _ _ _ _ _ _ (y_err _ _ _ (retS_sound hG hids IH vk h O D K))
  | rule _ kk =>
    obtain ⟨k',rfl,hk⟩:=v.inv_rule
    exact y_skim _ _ _ _ _ _ _ _ _ 1 (IH _ _ _ _ _ _ _ _ _ _ _ _ _ _ _ h O D hd K hw _ _ vk (hk _))
  | «at» _ kk =>
    obtain ⟨k',rfl,hk⟩:=v.inv_at
    exact y_skim _ _ _ _ _ _ _ _ _ 1 (IH _ _ _ _ _ _ _ _ _ _ _ _ _ _ _ h O D hd K hw _ _ vk (hk _))
  | point _ kk =>
    obtain ⟨k',rfl,hk⟩:=v.inv_point
    exact y_skim _ _ _ _ _ _ _ _ _ 1 (IH _ _ _ _ _ _ _ _ _ _ _ _ _ _ _ h O D hd K hw _ _ vk (hk _))
  | ask kk =>
    obtain ⟨k',rfl,hk⟩:=v.inv_ask
    exact y_skim _ _ _ _ _ _ _ _ _ 1 (IH _ _ _ _ _ _ _ _ _ _ _ _ _ _ _ h O D hd K hw _ _ vk (hk _))
  | load a q kk =>
    obtain ⟨k',rfl,hk⟩:=v.inv_load
    unfold simStep at h
    dsimp only at h
    cases q0:Nat.beq (Nat.mod hh 128) 0 with
    | true =>
      rw [q0] at h
      dsimp only at h
      split at h
      · exact h.elim
      · rename_i o ho
        exact y_load _ _ _ _ _ _ _ _ _ _ _ _ _ _ _ _ (D.top _ _ ho) (IH _ _ _ _ _ _ _ _ _ _ _ _ _ _ _ h O D hd K hw _ _ vk (hk _))
    | false =>
      rw [q0] at h
      dsimp only at h
      split at h
      · exact h.elim
      · rename_i p hp'
        obtain ⟨_,e,ps',n',h⟩:=pushC_ok h fun ps n z=>H _ _ _ _ _ _ _ _ _ _ _ _ _ _ z
        exact y_load _ _ _ _ _ _ _ _ _ _ _ _ _ _ _ _ (e▸D.ent _ p.1 p.2 hp') (IH _ _ _ _ _ _ _ _ _ _ _ _ _ _ _ h O D hd K hw _ _ vk (hk _))
  | loadIfAlive a kk =>
    obtain ⟨k',rfl,hk⟩:=v.inv_alive
    unfold simStep at h
    dsimp only at h
    cases q0:Nat.beq (Nat.mod hh 128) 0 with
    | true =>
      rw [q0] at h
      dsimp only at h
      split at h
      · exact h.elim
      · rename_i o ho
        exact y_alive _ _ _ _ _ _ _ _ _ _ _ _ _ _ _ (D.top _ _ ho) (IH _ _ _ _ _ _ _ _ _ _ _ _ _ _ _ h O D hd K hw _ _ vk (hk _))
    | false =>
      rw [q0] at h
      dsimp only at h
      split at h
      · exact h.elim
      · rename_i p hp'
        obtain ⟨_,e,ps',n',h⟩:=pushC_ok h fun ps n z=>H _ _ _ _ _ _ _ _ _ _ _ _ _ _ z
        exact y_alive _ _ _ _ _ _ _ _ _ _ _ _ _ _ _ (e▸D.ent _ p.1 p.2 hp') (IH _ _ _ _ _ _ _ _ _ _ _ _ _ _ _ h O D hd K hw _ _ vk (hk _))
  | update a q f kk =>
    obtain ⟨k',rfl,hk⟩:=v.inv_update
    unfold simStep at h
    dsimp only at h
    split at h
    · exact h.elim
    · rename_i p hp'
      obtain ⟨_,e,ps',n',h1⟩:=pushC_ok h fun ps n z=>H _ _ _ _ _ _ _ _ _ _ _ _ _ _ (rec_false bad_not z).2
      clear h
      obtain ⟨hf,h2⟩:=rec_false bad_not h1
      clear h1
      subst e
      have z:=IH _ _ _ _ _ _ _ _ _ _ _ _ _ _ _ h2 O (D.update hp' hf) hd K hw _ _ vk (hk _)
      exact wpOwn_bind (m:=updatePart p.1 q f) (f:=k') (wpOwn_of_wpAny (wpAny_updatePart (D.ent _ p.1 p.2 hp') z))
  | alloc o kk =>
    obtain ⟨k',rfl,hk⟩:=v.inv_alloc
    obtain ⟨hf,h⟩:=rec_false bad_not h
    have z:=IH _ _ _ _ _ _ _ _ _ _ _ _ _ _ _ h O (D.alloc hV hf) hd K hw _ _ vk (hk _)
    have ea:hp.objs.size=Nat.add x k:=D.size
    exact wpOwn_bind (m:=alloc o) (f:=k') (wpOwn_of_wpAny (wpAny_alloc (by show wpOwn _ _ _ (k' hp.objs.size) _ _ _; rw [ea]; exact z)))
  | fresh kk =>
    obtain ⟨k',rfl,hk⟩:=v.inv_fresh
    have z:=IH _ _ _ _ _ _ _ _ _ _ _ _ _ _ _ h ⟨O.1,Nat.succ_pos _⟩ D hd K hw _ _ vk (hk _)
    exact y_fresh _ _ _ _ _ _ _ _ _ _ _ _ _ z
  | handled own kk =>
    obtain ⟨k',rfl,hk⟩:=v.inv_handled
    obtain ⟨hf,h⟩:=rec_false bad_not h
    subst hf
    have z:=IH _ _ _ _ _ _ _ _ _ _ _ _ _ _ _ h O D hd K hw _ _ vk (hk _)
    exact y_handled _ _ _ _ _ _ _ _ _ (by rw [hA']; exact z)
  | stack kk =>
    obtain ⟨k',rfl,hk⟩:=v.inv_stack
    exact y_stack _ _ _ _ _ _ _ _ _ fun p below _=>IH _ _ _ _ _ _ _ _ _ _ _ _ _ _ _ (h.2 p below) O D hd K hw _ _ vk (hk _)
  | call c' hdl g l kk =>
    unfold simStep at h
    cases hdl with
    | none=>exact callS_sound hG hids hV hA H IH vk v h O D hd K hw
    | some _=>exact h.elim
  | unsupported=>exact h.elim
  | finish=>exact h.elim
  | register=>exact h.elim
  | choose=>exact h.elim
  | os=>exact h.elim
  | fork=>exact h.elim
  | thread=>exact h.elim
  | await=>exact h.elim
  | newGen=>exact h.elim
  | genState=>exact h.elim
  | resume=>exact h.elim
  | yield=>exact h.elim
end
theorem sim_sound {V:Stat} {h₀:Heap} {W:Want} {d:Drawn} {os:OsState} {A0:Around} {R0:Result→Shared→Prop} (hG:GivesS V h₀ W d os A0 R0) (hids:W.ids.length=W.pre.length) (hV : ∀ a o,V.kt.get a=some o→a < L) (hA:A0.handled=none) :
    ∀ n,Sound V h₀ W d os A0 R0 (sim V W n)
  | 0=>fun _ _ _ _ _ _ _ _ _ _ _ _ _ _ _ h=>h.elim
  | n+1=>step_sound hG hids hV hA (sim_ps n) (sim_sound hG hids hV hA n)
theorem spec_of {V:Stat} {D:Nat} {c:Code} {pre:List En} {post:Out→Post} (hV : ∀ a o,V.kt.get a=some o→a < L) (ids:List Nat) (hids:ids.length=pre.length) (fuel:Nat) (P:Nat→Nat→Plan)
    (hO : ∀ x t,Oblig V (P x t)) (h : ∀ x t,(start V ⟨pre,ids,post⟩ fuel (P x t) c D x t).Ok):Spec V D c pre post:=by
  intro A s R hA hD hg hT hL hH hN hK hG
  obtain ⟨hp,gens,d,toks,os⟩:=s
  obtain ⟨hg,hpos⟩:=hg
  have hg:gens = #[]:=hg
  have hpos:0 < toks+0:=hpos
  subst hg
  have hT:Top V.kt hp:=hT
  have hL:L≤hp.objs.size:=hL
  have hH:Holds hp pre:=hH
  have G:GivesS V hp ⟨pre,ids,post⟩ d os A R:=fun o h' a1 a2 a3 a4 a5 a6 a7 a8=>hG o h' a1 a2 a3 a4 a5 a6 a7 a8
  obtain ⟨b1,b2,b3⟩:=addAll_spec pre .nil 0 Full.nil
  have look : ∀ i a o,(addAll pre .nil 0).1.get i=some (a,o)→pre[i]? = some (a,o):=fun i a o e=>by
    rw [b3] at e
    simpa using e
  have Dr:Rep V hp pre hp (addAll pre .nil 0).1 (addAll pre .nil 0).2 (hp.objs.size-L) L:=by
    refine ⟨by lia,Nat.le_refl _,by rw [b1]; exact b2,by rw [b1]; lia,fun i a o e=>hH _ (List.mem_of_getElem? (look i a o e)),fun i a o e=>hK _ (List.mem_of_getElem? (look i a o e)),fun i a o e _ => ?_,fun i a o e hl => ?_,fun i j a o o' e1 e2 => ?_,hT,fun b o e _=>e,Nat.le_refl _⟩
    · exact List.mem_map_of_mem (f:=fun p:En=>p.1) (List.mem_of_getElem? (look i a o e))
    · have:=look i a o e
      rw [List.getElem?_eq_none hl] at this
      cases this
    · have e3:(pre.map (·.1))[i]? = some a:=by rw [List.getElem?_map,look i a o e1]; rfl
      have e4:(pre.map (·.1))[j]? = some a:=by rw [List.getElem?_map,look j a o' e2]; rfl
      obtain ⟨l1,e5⟩:=List.getElem?_eq_some_iff.mp e3
      obtain ⟨l2,e6⟩:=List.getElem?_eq_some_iff.mp e4
      exact (List.getElem_inj (h₀:=l1) (h₁:=l2) hN).mp (e5.trans e6.symm)
  exact (goS_sound (A0:=A) (R0:=R) G hids hV hA (sim_ps fuel) (sim_sound G hids hV hA fuel) .base (h (hp.objs.size-L) toks) ⟨hO _ _,hpos⟩ Dr hD trivial).2
noncomputable def blockTree (stmts:List Stmt) (env:Env):Sem Fin:=Sem.bind (PySem.W.Fast.tw12563942051412417395 stmts env) fun f => .pure (.done f)
noncomputable def startB (V:Stat) (W:Want) (fuel:Nat) (P:Plan) (stmts:List Stmt) (env:Env) (c:Code) (dp x t:Nat):Chk :=
  sim V W fuel P P.h c dp .base (blockTree stmts env) (addAll W.pre .nil 0).1 (addAll W.pre .nil 0).2 x L t 0 .nil 0
theorem specB_of {V:Stat} {D:Nat} {stmts:List Stmt} {env:Env} {pre:List En} {post:Out→Post} (hV : ∀ a o,V.kt.get a=some o→a < L) (ids:List Nat) (hids:ids.length=pre.length) (fuel:Nat) (P:Nat→Nat→Plan)
    (hO : ∀ x t,Oblig V (P x t)) (hok : ∀ o,∃ f,(post o).r = .ok f) (h : ∀ c x t,(startB V ⟨pre,ids,post⟩ fuel (P x t) stmts env c D x t).Ok):SpecB V D stmts env pre post:=by
  refine ⟨hok,?_⟩
  intro A c s Q hw hA hD hg hT hL hH hN hK hG
  obtain ⟨hp,gens,d,toks,os⟩:=s
  obtain ⟨hg,hpos⟩:=hg
  have hg:gens = #[]:=hg
  have hpos:0 < toks+0:=hpos
  subst hg
  have hT:Top V.kt hp:=hT
  have hL:L≤hp.objs.size:=hL
  have hH:Holds hp pre:=hH
  have G:GivesS V hp ⟨pre,ids,post⟩ d os A (fun r s'=>match r with | .ok f=>Q f s' | .error _=>False):=fun o h' a1 a2 a3 a4 a5 a6 a7 a8=>by
    obtain ⟨f,hf⟩:=hok o
    unfold endR
    rw [hf]
    exact hG o h' f hf a1 a2 a3 a4 a5 a6 a7 a8
  obtain ⟨b1,b2,b3⟩:=addAll_spec pre .nil 0 Full.nil
  have look : ∀ i a o,(addAll pre .nil 0).1.get i=some (a,o)→pre[i]? = some (a,o):=fun i a o e=>by
    rw [b3] at e
    simpa using e
  have Dr:Rep V hp pre hp (addAll pre .nil 0).1 (addAll pre .nil 0).2 (hp.objs.size-L) L:=by
    refine ⟨by omega,Nat.le_refl _,by rw [b1]; exact b2,by rw [b1]; omega,fun i a o e=>hH _ (List.mem_of_getElem? (look i a o e)),fun i a o e=>hK _ (List.mem_of_getElem? (look i a o e)),fun i a o e _ => ?_,fun i a o e hl => ?_,fun i j a o o' e1 e2 => ?_,hT,fun b o e _=>e,Nat.le_refl _⟩
    · exact List.mem_map_of_mem (f:=fun p:En=>p.1) (List.mem_of_getElem? (look i a o e))
    · have:=look i a o e
      rw [List.getElem?_eq_none hl] at this
      cases this
    · have e3:(pre.map (·.1))[i]? = some a:=by rw [List.getElem?_map,look i a o e1]; rfl
      have e4:(pre.map (·.1))[j]? = some a:=by rw [List.getElem?_map,look j a o' e2]; rfl
      obtain ⟨l1,e5⟩:=List.getElem?_eq_some_iff.mp e3
      obtain ⟨l2,e6⟩:=List.getElem?_eq_some_iff.mp e4
      exact (List.getElem_inj (h₀:=l1) (h₁:=l2) hN).mp (e5.trans e6.symm)
  have M:=sim_sound (A0:=A) G hids hV hA fuel _ _ _ _ _ _ _ _ _ _ _ _ _ _ _ (h c (hp.objs.size-L) toks) ⟨hO _ _,hpos⟩ Dr hD trivial hw _ _ .base (.refl _)
  intro Γ p hc hΓ
  have k:=M Γ p hc hΓ
  unfold blockTree at k
  rw [← (PySem.W.Fast.te12563942051412417395 : @execs=_),Sem.wp_bind] at k
  refine Sem.wp_mono _ Γ _ (fun f p' s' h' => ?_) (fun _ _ _ h'=>h') p _ k
  rw [Sem.wp_pure] at h'
  exact h'
end Mine
section
end
namespace Mine
open PySem PySem.W PySem.W.X
noncomputable def dEnt (P:Params) (x:List Nat) (t:Nat) (v:Value):DictEntry:=⟨PyData.keyHash P ⟨⟨x⟩⟩,.str ⟨⟨x⟩⟩ t,v⟩
noncomputable def zs (x:List Nat) (t:Nat):Value := .str ⟨⟨x⟩⟩ t
noncomputable def nthS:List Stmt→Nat→Stmt
  | [],_ => .Pass ⟨0,0,0,0⟩
  | s::_,0=>s
  | _::r,n+1=>nthS r n
noncomputable def fParams:Stmt→Arguments
  | .FunctionDef _ a _ _ _ _ _ _ _ _=>a
  | _=>{ posonlyargs:=[],args:=[],vararg:=none,kwonlyargs:=[],kw_defaults:=[],kwarg:=none,defaults:=[] }
noncomputable def fBody:Stmt→List Stmt
  | .FunctionDef _ _ b _ _ _ _ _ _ _=>b
  | .ClassDef _ _ _ b _ _ _ _ _ _ _=>b
  | _=>[]
noncomputable def fScope:Stmt→Scope
  | .FunctionDef _ _ _ _ _ _ s _ _ _=>s
  | _=>{ kind := .module,names:=[],isGenerator:=false,isCoroutine:=false,more:=[] }
noncomputable def stm (p:Program) (i:Nat):Stmt:=nthS p.main.body i
noncomputable def meth (p:Program) (i j:Nat):Stmt:=nthS (fBody (stm p i)) j
noncomputable def o0 (p:Program) (P:Params):Obj:={ cls:=(Value.type PySem.W.SL.s14018661285674007319x4),dict:=none,data := .dict ⟨[(dEnt P [95,95,110,97,109,101,95,95] 1 (zs [98,117,105,108,116,105,110,115] 160)),(dEnt P [95,95,100,111,99,95,95] 2 (Value.builtin "builtins.__doc__:str#opaque")),(dEnt P [95,95,112,97,99,107,97,103,101,95,95] 3 (Value.builtin "builtins.__package__:str#opaque")),(dEnt P [95,95,108,111,97,100,101,114,95,95] 4 (Value.builtin "builtins.__loader__:shared#opaque")),(dEnt P [95,95,115,112,101,99,95,95] 5 (Value.builtin PySem.W.SL.s11665532747177232413x24)),(dEnt P [95,95,98,117,105,108,100,95,99,108,97,115,115,95,95] 6 (Value.builtin PySem.W.SL.s15183661809925369436x15)),(dEnt P [95,95,105,109,112,111,114,116,95,95] 7 (Value.builtin PySem.W.SL.s13915890719876406383x10)),(dEnt P [97,98,115] 8 (Value.builtin PySem.W.SL.s13459172003223722735x3)),(dEnt P [97,108,108] 9 (Value.builtin PySem.W.SL.s10557405761357834076x3)),(dEnt P [97,110,121] 10 (Value.builtin PySem.W.SL.s4233737765568776869x3)),(dEnt P [97,115,99,105,105] 11 (Value.builtin PySem.W.SL.s2508922471967985374x5)),(dEnt P [98,105,110] 12 (Value.builtin PySem.W.SL.s15574269061696679450x3)),(dEnt P [98,114,101,97,107,112,111,105,110,116] 13 (Value.builtin PySem.W.SL.s6016482663378992977x10)),(dEnt P [99,97,108,108,97,98,108,101] 14 (Value.builtin PySem.W.SL.s5596568736180474577x8)),(dEnt P [99,104,114] 15 (Value.builtin PySem.W.SL.s2839554839881490554x3)),(dEnt P [99,111,109,112,105,108,101] 16 (Value.builtin PySem.W.SL.s725004073602090463x7)),(dEnt P [100,101,108,97,116,116,114] 17 (Value.builtin PySem.W.SL.s9436932552931045734x7)),(dEnt P [100,105,114] 18 (Value.builtin PySem.W.SL.s2754603736356183583x3)),(dEnt P [100,105,118,109,111,100] 19 (Value.builtin PySem.W.SL.s15185746759980889043x6)),(dEnt P [101,118,97,108] 20 (Value.builtin PySem.W.SL.s8192189862530294059x4)),(dEnt P [101,120,101,99] 21 (Value.builtin PySem.W.SL.s7038307821325472102x4)),(dEnt P [102,111,114,109,97,116] 22 (Value.builtin PySem.W.SL.s5662562618415449548x6)),(dEnt P [103,101,116,97,116,116,114] 23 (Value.builtin PySem.W.SL.s15281542589158584767x7)),(dEnt P [103,108,111,98,97,108,115] 24 (Value.builtin PySem.W.SL.s17651547275483570877x7)),(dEnt P [104,97,115,97,116,116,114] 25 (Value.builtin PySem.W.SL.s4036449017235975746x7)),(dEnt P [104,97,115,104] 26 (Value.builtin PySem.W.SL.s8879979712987360175x4)),(dEnt P [104,101,120] 27 (Value.builtin PySem.W.SL.s1801250619170735830x3)),(dEnt P [105,100] 28 (Value.builtin PySem.W.SL.s17659931425627118568x2)),(dEnt P [105,110,112,117,116] 29 (Value.builtin PySem.W.SL.s6063217899685152688x5)),(dEnt P [105,115,105,110,115,116,97,110,99,101] 30 (Value.builtin PySem.W.SL.s8008927332132565319x10)),(dEnt P [105,115,115,117,98,99,108,97,115,115] 31 (Value.builtin PySem.W.SL.s3544116645089599534x10)),(dEnt P [105,116,101,114] 32 (Value.builtin PySem.W.SL.s13761710972054866084x4)),(dEnt P [97,105,116,101,114] 33 (Value.builtin PySem.W.SL.s12896375587409280029x5)),(dEnt P [108,101,110] 34 (Value.builtin PySem.W.SL.s13014049009108672802x3)),(dEnt P [108,111,99,97,108,115] 35 (Value.builtin PySem.W.SL.s13935586738268321596x6)),(dEnt P [109,97,120] 36 (Value.builtin PySem.W.SL.s8200498257699607233x3)),(dEnt P [109,105,110] 37 (Value.builtin PySem.W.SL.s14114244577727609259x3)),(dEnt P [110,101,120,116] 38 (Value.builtin PySem.W.SL.s1499430450269397089x4)),(dEnt P [97,110,101,120,116] 39 (Value.builtin PySem.W.SL.s8755793994789770505x5)),(dEnt P [111,99,116] 40 (Value.builtin PySem.W.SL.s15725212667919936108x3)),(dEnt P [111,114,100] 41 (Value.builtin PySem.W.SL.s15791221867095933363x3)),(dEnt P [112,111,119] 42 (Value.builtin PySem.W.SL.s81309575031448614x3)),(dEnt P [112,114,105,110,116] 43 (Value.builtin PySem.W.SL.s8069831620301644142x5)),(dEnt P [114,101,112,114] 44 (Value.builtin PySem.W.SL.s10061844253413749634x4)),(dEnt P [114,111,117,110,100] 45 (Value.builtin PySem.W.SL.s9496514870978017513x5)),(dEnt P [115,101,116,97,116,116,114] 46 (Value.builtin PySem.W.SL.s8899691144933366716x7)),(dEnt P [115,111,114,116,101,100] 47 (Value.builtin PySem.W.SL.s15201008993051130160x6)),(dEnt P [115,117,109] 48 (Value.builtin PySem.W.SL.s741896355592496720x3)),(dEnt P [118,97,114,115] 49 (Value.builtin PySem.W.SL.s17925004256654032244x4)),(dEnt P [78,111,110,101] 50 Value.none),(dEnt P [69,108,108,105,112,115,105,115] 51 Value.ellipsis),(dEnt P [78,111,116,73,109,112,108,101,109,101,110,116,101,100] 52 Value.notImplemented),(dEnt P [70,97,108,115,101] 53 (Value.bool false)),(dEnt P [84,114,117,101] 54 (Value.bool true)),(dEnt P [98,111,111,108] 55 (Value.type PySem.W.SL.s11695548795398191787x4)),(dEnt P [109,101,109,111,114,121,118,105,101,119] 56 (Value.type PySem.W.SL.s4156966113859768872x10)),(dEnt P [98,121,116,101,97,114,114,97,121] 57 (Value.type PySem.W.SL.s9501651726347032510x9)),(dEnt P [98,121,116,101,115] 58 (Value.type PySem.W.SL.s15722918466584999320x5)),(dEnt P [99,108,97,115,115,109,101,116,104,111,100] 59 (Value.type PySem.W.SL.s591115383303110208x11)),(dEnt P [99,111,109,112,108,101,120] 60 (Value.type PySem.W.SL.s15721156781594690315x7)),(dEnt P [100,105,99,116] 61 (Value.type PySem.W.SL.s14018661285674007319x4)),(dEnt P [101,110,117,109,101,114,97,116,101] 62 (Value.type PySem.W.SL.s14340494229221121180x9)),(dEnt P [102,105,108,116,101,114] 63 (Value.type PySem.W.SL.s13429844117177748173x6)),(dEnt P [102,108,111,97,116] 64 (Value.type PySem.W.SL.s16463266125957815391x5)),(dEnt P [102,114,111,122,101,110,115,101,116] 65 (Value.type PySem.W.SL.s4922535414793169389x9)),(dEnt P [112,114,111,112,101,114,116,121] 66 (Value.type PySem.W.SL.s8101838861749082086x8)),(dEnt P [105,110,116] 67 (Value.type PySem.W.SL.s7066276694103001551x3)),(dEnt P [108,105,115,116] 68 (Value.type PySem.W.SL.s9222952809800978799x4)),(dEnt P [109,97,112] 69 (Value.type PySem.W.SL.s462964344163437139x3)),(dEnt P [111,98,106,101,99,116] 70 (Value.type PySem.W.SL.s2742458400755230247x6)),(dEnt P [114,97,110,103,101] 71 (Value.type PySem.W.SL.s1438033511350832697x5)),(dEnt P [114,101,118,101,114,115,101,100] 72 (Value.type PySem.W.SL.s14365286008749172514x8)),(dEnt P [115,101,116] 73 (Value.type PySem.W.SL.s3642769012341782148x3)),(dEnt P [115,108,105,99,101] 74 (Value.type PySem.W.SL.s4674234679698826739x5)),(dEnt P [115,116,97,116,105,99,109,101,116,104,111,100] 75 (Value.type PySem.W.SL.s16656946322747308186x12)),(dEnt P [115,116,114] 76 (Value.type PySem.W.SL.s10796804682411823810x3)),(dEnt P [115,117,112,101,114] 77 (Value.type PySem.W.SL.s4290257624100764138x5)),(dEnt P [116,117,112,108,101] 78 (Value.type PySem.W.SL.s2766695959194262286x5)),(dEnt P [116,121,112,101] 79 (Value.type PySem.W.SL.s17162191345867700912x4)),(dEnt P [122,105,112] 80 (Value.type PySem.W.SL.s14339709457334898076x3)),(dEnt P [95,95,100,101,98,117,103,95,95] 81 (Value.bool true)),(dEnt P [66,97,115,101,69,120,99,101,112,116,105,111,110] 82 (Value.type PySem.W.SL.s4278001404047624695x13)),(dEnt P [66,97,115,101,69,120,99,101,112,116,105,111,110,71,114,111,117,112] 83 (Value.type PySem.W.SL.s6585700554429387442x18)),(dEnt P [69,120,99,101,112,116,105,111,110] 84 (Value.type PySem.W.SL.s5946037652744460706x9)),(dEnt P [71,101,110,101,114,97,116,111,114,69,120,105,116] 85 (Value.type PySem.W.SL.s7410770068591931388x13)),(dEnt P [75,101,121,98,111,97,114,100,73,110,116,101,114,114,117,112,116] 86 (Value.type PySem.W.SL.s11817881795495490833x17)),(dEnt P [83,121,115,116,101,109,69,120,105,116] 87 (Value.type PySem.W.SL.s15679963881808890155x10)),(dEnt P [65,114,105,116,104,109,101,116,105,99,69,114,114,111,114] 88 (Value.type PySem.W.SL.s3871700062485845797x15)),(dEnt P [65,115,115,101,114,116,105,111,110,69,114,114,111,114] 89 (Value.type PySem.W.SL.s7689518266570723881x14)),(dEnt P [65,116,116,114,105,98,117,116,101,69,114,114,111,114] 90 (Value.type PySem.W.SL.s9001593270443806431x14)),(dEnt P [66,117,102,102,101,114,69,114,114,111,114] 91 (Value.type PySem.W.SL.s6882542574934516792x11)),(dEnt P [69,79,70,69,114,114,111,114] 92 (Value.type PySem.W.SL.s14403400214490484960x8)),(dEnt P [73,109,112,111,114,116,69,114,114,111,114] 93 (Value.type PySem.W.SL.s14457978657717015782x11)),(dEnt P [76,111,111,107,117,112,69,114,114,111,114] 94 (Value.type PySem.W.SL.s1753610191782819921x11)),(dEnt P [77,101,109,111,114,121,69,114,114,111,114] 95 (Value.type PySem.W.SL.s14119380538032626715x11)),(dEnt P [78,97,109,101,69,114,114,111,114] 96 (Value.type PySem.W.SL.s11437920000406562045x9)),(dEnt P [79,83,69,114,114,111,114] 97 (Value.type PySem.W.SL.s10852414792293593619x7)),(dEnt P [82,101,102,101,114,101,110,99,101,69,114,114,111,114] 98 (Value.type PySem.W.SL.s14816307405966870543x14)),(dEnt P [82,117,110,116,105,109,101,69,114,114,111,114] 99 (Value.type PySem.W.SL.s8682627914449686677x12)),(dEnt P [83,116,111,112,65,115,121,110,99,73,116,101,114,97,116,105,111,110] 100 (Value.type PySem.W.SL.s4428170145600203450x18)),(dEnt P [83,116,111,112,73,116,101,114,97,116,105,111,110] 101 (Value.type PySem.W.SL.s5991306692159431302x13)),(dEnt P [83,121,110,116,97,120,69,114,114,111,114] 102 (Value.type PySem.W.SL.s16067994140765818257x11)),(dEnt P [83,121,115,116,101,109,69,114,114,111,114] 103 (Value.type PySem.W.SL.s2327743974964600596x11)),(dEnt P [84,121,112,101,69,114,114,111,114] 104 (Value.type PySem.W.SL.s2804747833354056582x9)),(dEnt P [86,97,108,117,101,69,114,114,111,114] 105 (Value.type PySem.W.SL.s6070975301684473832x10)),(dEnt P [87,97,114,110,105,110,103] 106 (Value.type PySem.W.SL.s14270485950484850486x7)),(dEnt P [70,108,111,97,116,105,110,103,80,111,105,110,116,69,114,114,111,114] 107 (Value.type PySem.W.SL.s12041534306414923332x18)),(dEnt P [79,118,101,114,102,108,111,119,69,114,114,111,114] 108 (Value.type PySem.W.SL.s2531307568338490285x13)),(dEnt P [90,101,114,111,68,105,118,105,115,105,111,110,69,114,114,111,114] 109 (Value.type PySem.W.SL.s631175304937289666x17)),(dEnt P [66,121,116,101,115,87,97,114,110,105,110,103] 110 (Value.type PySem.W.SL.s5144983644357021410x12)),(dEnt P [68,101,112,114,101,99,97,116,105,111,110,87,97,114,110,105,110,103] 111 (Value.type PySem.W.SL.s18039099521571816885x18)),(dEnt P [69,110,99,111,100,105,110,103,87,97,114,110,105,110,103] 112 (Value.type PySem.W.SL.s6011586214260557989x15)),(dEnt P [70,117,116,117,114,101,87,97,114,110,105,110,103] 113 (Value.type PySem.W.SL.s5430567037509283100x13)),(dEnt P [73,109,112,111,114,116,87,97,114,110,105,110,103] 114 (Value.type PySem.W.SL.s8117915138073963741x13)),(dEnt P [80,101,110,100,105,110,103,68,101,112,114,101,99,97,116,105,111,110,87,97,114,110,105,110,103] 115 (Value.type PySem.W.SL.s3423317712779056401x25)),(dEnt P [82,101,115,111,117,114,99,101,87,97,114,110,105,110,103] 116 (Value.type PySem.W.SL.s2007317383269046180x15)),(dEnt P [82,117,110,116,105,109,101,87,97,114,110,105,110,103] 117 (Value.type PySem.W.SL.s17481586968713580700x14)),(dEnt P [83,121,110,116,97,120,87,97,114,110,105,110,103] 118 (Value.type PySem.W.SL.s2450899226349176912x13)),(dEnt P [85,110,105,99,111,100,101,87,97,114,110,105,110,103] 119 (Value.type PySem.W.SL.s16626165730633575011x14)),(dEnt P [85,115,101,114,87,97,114,110,105,110,103] 120 (Value.type PySem.W.SL.s14288496050688921416x11)),(dEnt P [66,108,111,99,107,105,110,103,73,79,69,114,114,111,114] 121 (Value.type PySem.W.SL.s5735081916595925998x15)),(dEnt P [67,104,105,108,100,80,114,111,99,101,115,115,69,114,114,111,114] 122 (Value.type PySem.W.SL.s3865607918536308442x17)),(dEnt P [67,111,110,110,101,99,116,105,111,110,69,114,114,111,114] 123 (Value.type PySem.W.SL.s13337502604062700212x15)),(dEnt P [70,105,108,101,69,120,105,115,116,115,69,114,114,111,114] 124 (Value.type PySem.W.SL.s13114017843053701147x15)),(dEnt P [70,105,108,101,78,111,116,70,111,117,110,100,69,114,114,111,114] 125 (Value.type PySem.W.SL.s17467278006356818441x17)),(dEnt P [73,110,116,101,114,114,117,112,116,101,100,69,114,114,111,114] 126 (Value.type PySem.W.SL.s17722149559621369488x16)),(dEnt P [73,115,65,68,105,114,101,99,116,111,114,121,69,114,114,111,114] 127 (Value.type PySem.W.SL.s7855274175708717672x17)),(dEnt P [78,111,116,65,68,105,114,101,99,116,111,114,121,69,114,114,111,114] 128 (Value.type PySem.W.SL.s13351283678309829046x18)),(dEnt P [80,101,114,109,105,115,115,105,111,110,69,114,114,111,114] 129 (Value.type PySem.W.SL.s6668348653404991179x15)),(dEnt P [80,114,111,99,101,115,115,76,111,111,107,117,112,69,114,114,111,114] 130 (Value.type PySem.W.SL.s12913350958174193794x18)),(dEnt P [84,105,109,101,111,117,116,69,114,114,111,114] 131 (Value.type PySem.W.SL.s16115879512475548326x12)),(dEnt P [73,110,100,101,110,116,97,116,105,111,110,69,114,114,111,114] 132 (Value.type PySem.W.SL.s15920661018069861047x16)),(dEnt P [95,73,110,99,111,109,112,108,101,116,101,73,110,112,117,116,69,114,114,111,114] 133 (Value.type PySem.W.SL.s10779130036587390575x21)),(dEnt P [73,110,100,101,120,69,114,114,111,114] 134 (Value.type PySem.W.SL.s7801419657504700863x10)),(dEnt P [75,101,121,69,114,114,111,114] 135 (Value.type PySem.W.SL.s1688129525768580628x8)),(dEnt P [77,111,100,117,108,101,78,111,116,70,111,117,110,100,69,114,114,111,114] 136 (Value.type PySem.W.SL.s1031832959479892071x19)),(dEnt P [78,111,116,73,109,112,108,101,109,101,110,116,101,100,69,114,114,111,114] 137 (Value.type PySem.W.SL.s8991790508128307865x19)),(dEnt P [80,121,116,104,111,110,70,105,110,97,108,105,122,97,116,105,111,110,69,114,114,111,114] 138 (Value.type PySem.W.SL.s14539662485746970245x23)),(dEnt P [82,101,99,117,114,115,105,111,110,69,114,114,111,114] 139 (Value.type PySem.W.SL.s11643622729373238714x14)),(dEnt P [85,110,98,111,117,110,100,76,111,99,97,108,69,114,114,111,114] 140 (Value.type PySem.W.SL.s3386828779285465597x17)),(dEnt P [85,110,105,99,111,100,101,69,114,114,111,114] 141 (Value.type PySem.W.SL.s13042696260734638735x12)),(dEnt P [66,114,111,107,101,110,80,105,112,101,69,114,114,111,114] 142 (Value.type PySem.W.SL.s18239426817015966623x15)),(dEnt P [67,111,110,110,101,99,116,105,111,110,65,98,111,114,116,101,100,69,114,114,111,114] 143 (Value.type PySem.W.SL.s1270395311379034370x22)),(dEnt P [67,111,110,110,101,99,116,105,111,110,82,101,102,117,115,101,100,69,114,114,111,114] 144 (Value.type PySem.W.SL.s10696252587037064777x22)),(dEnt P [67,111,110,110,101,99,116,105,111,110,82,101,115,101,116,69,114,114,111,114] 145 (Value.type PySem.W.SL.s7852717498200857586x20)),(dEnt P [84,97,98,69,114,114,111,114] 146 (Value.type PySem.W.SL.s6377248116197321094x8)),(dEnt P [85,110,105,99,111,100,101,68,101,99,111,100,101,69,114,114,111,114] 147 (Value.type PySem.W.SL.s3834378056692298002x18)),(dEnt P [85,110,105,99,111,100,101,69,110,99,111,100,101,69,114,114,111,114] 148 (Value.type PySem.W.SL.s17586630440231065808x18)),(dEnt P [85,110,105,99,111,100,101,84,114,97,110,115,108,97,116,101,69,114,114,111,114] 149 (Value.type PySem.W.SL.s15234114252648025395x21)),(dEnt P [69,120,99,101,112,116,105,111,110,71,114,111,117,112] 150 (Value.type PySem.W.SL.s8496462677383758984x14)),(dEnt P [69,110,118,105,114,111,110,109,101,110,116,69,114,114,111,114] 151 (Value.type PySem.W.SL.s10852414792293593619x7)),(dEnt P [73,79,69,114,114,111,114] 152 (Value.type PySem.W.SL.s10852414792293593619x7)),(dEnt P [111,112,101,110] 153 (Value.builtin PySem.W.SL.s16789243406116112673x4)),(dEnt P [113,117,105,116] 154 (Value.builtin PySem.W.SL.s14400166428656793546x20)),(dEnt P [101,120,105,116] 155 (Value.builtin PySem.W.SL.s5857708277339239366x20)),(dEnt P [99,111,112,121,114,105,103,104,116] 156 (Value.builtin "builtins.copyright#opaque")),(dEnt P [99,114,101,100,105,116,115] 157 (Value.builtin "builtins.credits#opaque")),(dEnt P [108,105,99,101,110,115,101] 158 (Value.builtin "builtins.license#opaque")),(dEnt P [104,101,108,112] 159 (Value.builtin PySem.W.SL.s7804999707787243718x20))]⟩ 159,slots:=⟨[]⟩ }
noncomputable def o2 (p:Program) (P:Params):Obj:={ cls:=Value.none,dict:=none,data := .dict ⟨[(dEnt P [105,109,112,111,114,116,46,108,111,97,100,101,100,46,95,115,114,101] 183 (Value.bool true)),(dEnt P [99,108,97,115,115,46,95,102,114,111,122,101,110,95,105,109,112,111,114,116,108,105,98,46,66,117,105,108,116,105,110,73,109,112,111,114,116,101,114] 185 (Value.ref 14)),(dEnt P [119,97,116,99,104,101,100,46,105,109,112,111,114,116] 206 (Value.ref 18)),(dEnt P [99,108,97,115,115,46,95,102,114,111,122,101,110,95,105,109,112,111,114,116,108,105,98,46,77,111,100,117,108,101,83,112,101,99] 216 (Value.ref 22)),(dEnt P [115,121,115,46,109,111,100,117,108,101,115,46,98,111,111,107,101,100,45,101,112,111,99,104] 245 (Value.int 3 0)),(dEnt P [105,109,112,111,114,116,46,108,97,116,101,114,45,108,97,105,100,46,95,115,114,101] 270 (Value.bool true)),(dEnt P [119,97,116,99,104,101,100,46,108,105,98,114,97,114,121] 272 (Value.ref 27)),(dEnt P [119,97,116,99,104,101,100,46,108,105,98,114,97,114,121,45,111,98,106,101,99,116,115] 0 (zs [12] 0)),(dEnt P [119,97,116,99,104,101,100,46,108,105,98,114,97,114,121,45,100,101,101,112,46,95,115,114,101] 273 (zs [4,0,0,11,4,0,0,11,4,0,0,3,4,0,0,11,8,4,100,105,99,116,2] 0))]⟩ 9,slots:=⟨[]⟩ }
noncomputable def o3 (p:Program) (P:Params):Obj:={ cls:=(Value.type PySem.W.SL.s14018661285674007319x4),dict:=none,data := .dict ⟨[(dEnt P [95,95,110,97,109,101,95,95] 165 (zs [108,97,119,95,112,101,48,50,55,52,95,48,49] 721)),(dEnt P [95,95,100,111,99,95,95] 166 Value.none),(dEnt P [95,95,112,97,99,107,97,103,101,95,95] 167 Value.none),(dEnt P [95,95,108,111,97,100,101,114,95,95] 168 (Value.builtin PySem.W.SL.s7097527257260152453x26)),(dEnt P [95,95,115,112,101,99,95,95] 169 Value.none),(dEnt P [95,95,97,110,110,111,116,97,116,105,111,110,115,95,95] 170 (Value.ref 6)),(dEnt P [95,95,98,117,105,108,116,105,110,115,95,95] 171 (Value.ref 4)),(dEnt P [95,95,102,105,108,101,95,95] 173 (zs [47,99,108,97,105,109,47,99,117,116,46,112,121] 172)),(dEnt P [95,95,99,97,99,104,101,100,95,95] 174 Value.none),(dEnt P [95,115,114,101] 275 (Value.ref 12)),(dEnt P [95,119,97,108,108] 288 (Value.ref 38)),(dEnt P [116,115,112,101,99,105,97,108,115] 324 (Value.ref 43)),(dEnt P [95,110,97,109,101,95,100,105,115,97,108,108,111,119,101,100,95,114,101] 350 (Value.ref 48)),(dEnt P [95,118,97,108,117,101,95,100,105,115,97,108,108,111,119,101,100,95,114,101] 384 (Value.ref 53)),(dEnt P [95,102,111,114,109,97,116,112,97,114,97,109] 394 (Value.ref 61)),(dEnt P [72,101,97,100,101,114,115] 551 (Value.ref 182)),(dEnt P [79,78,69,95,84,72,73,82,68] 557 (Value.float 4599676419421066581 556)),(dEnt P [79,78,69,95,83,73,88,84,72] 561 (Value.float 4595172819793696085 560)),(dEnt P [84,87,79,95,84,72,73,82,68] 565 (Value.float 4604180019048437077 564)),(dEnt P [114,103,98,95,116,111,95,121,105,113] 577 (Value.ref 193)),(dEnt P [121,105,113,95,116,111,95,114,103,98] 589 (Value.ref 200)),(dEnt P [114,103,98,95,116,111,95,104,108,115] 608 (Value.ref 207)),(dEnt P [104,108,115,95,116,111,95,114,103,98] 619 (Value.ref 214)),(dEnt P [95,118] 628 (Value.ref 221)),(dEnt P [114,103,98,95,116,111,95,104,115,118] 646 (Value.ref 228)),(dEnt P [104,115,118,95,116,111,95,114,103,98] 660 (Value.ref 235)),(dEnt P [95,110,101,116,114,99,108,101,120] 720 (Value.ref 273)),(dEnt P [95,108,97,119,95,108,101,120,101,114] 731 (Value.ref 284)),(dEnt P [95,108,97,119,95,110,111,116,101] 740 (Value.ref 291)),(dEnt P [95,108,97,119,95,119,114,105,116,116,101,110] 746 (Value.ref 296)),(dEnt P [95,108,97,119,95,110,101,115,116] 752 (Value.ref 301)),(dEnt P [95,108,97,119,95,112,97,114,97,109,115] 764 (Value.ref 308)),(dEnt P [95,108,97,119,95,100,101,101,100] 779 (Value.ref 315)),(dEnt P [95,108,97,119,95,100,117,101] 785 (Value.ref 320)),(dEnt P [95,108,97,119,95,99,111,108,111,117,114,115] 791 (Value.ref 325)),(dEnt P [108,97,119] 797 (Value.ref 330))]⟩ 36,slots:=⟨[]⟩ }
noncomputable def o4 (p:Program) (P:Params):Obj:={ cls:=(Value.type PySem.W.SL.s6658869562736209489x6),dict:=(some 0),data := .plain,slots:=⟨[]⟩ }
noncomputable def o47 (p:Program) (P:Params):Obj:={ cls:=(Value.type PySem.W.SL.s2766695959194262286x5),dict:=none,data := .seq ⟨[(Value.int 14 0),(Value.int 10 0),(Value.int 4 0),(Value.int 1 0),(Value.int 1 0),(Value.int 22 0),(Value.int 0 0),(Value.int 31 0),(Value.int 16 0),(Value.int 127 0),(Value.int 0 0),(Value.int 13 0),(Value.int 7 0),(Value.int 22 0),(Value.int 0 0),(Value.int 31 0),(Value.int 16 0),(Value.int 127 0),(Value.int 0 0),(Value.int 1 0)]⟩ 0,slots:=⟨[]⟩ }
noncomputable def o48 (p:Program) (P:Params):Obj:={ cls:=(Value.type PySem.W.SL.s12171344214640291687x10),dict:=none,data := .fields ⟨[(zs [91,92,120,48,48,45,92,120,49,70,92,120,55,70,93] 326),(Value.int 32 349),(Value.int 0 0),Value.none,Value.none,(Value.ref 47),(Value.int 0 0)]⟩,slots:=⟨[]⟩ }
noncomputable def o52 (p:Program) (P:Params):Obj:={ cls:=(Value.type PySem.W.SL.s2766695959194262286x5),dict:=none,data := .seq ⟨[(Value.int 14 0),(Value.int 14 0),(Value.int 4 0),(Value.int 1 0),(Value.int 1 0),(Value.int 9 0),(Value.int 4294966783 0),(Value.int 0 0),(Value.int 0 0),(Value.int 2147483648 0),(Value.int 0 0),(Value.int 0 0),(Value.int 0 0),(Value.int 0 0),(Value.int 0 0),(Value.int 13 0),(Value.int 11 0),(Value.int 9 0),(Value.int 4294966783 0),(Value.int 0 0),(Value.int 0 0),(Value.int 2147483648 0),(Value.int 0 0),(Value.int 0 0),(Value.int 0 0),(Value.int 0 0),(Value.int 0 0),(Value.int 1 0)]⟩ 0,slots:=⟨[]⟩ }
noncomputable def o53 (p:Program) (P:Params):Obj:={ cls:=(Value.type PySem.W.SL.s12171344214640291687x10),dict:=none,data := .fields ⟨[(zs [91,92,120,48,48,45,92,120,48,56,92,120,48,65,45,92,120,49,70,92,120,55,70,93] 352),(Value.int 32 383),(Value.int 0 0),Value.none,Value.none,(Value.ref 52),(Value.int 0 0)]⟩,slots:=⟨[]⟩ }
noncomputable def o54 (p:Program) (P:Params):Obj:={ cls:=(Value.type PySem.W.SL.s2766695959194262286x5),dict:=none,data := .seq ⟨[Value.none,(Value.int 1 385)]⟩ 0,slots:=⟨[]⟩ }
noncomputable def o60 (p:Program) (P:Params):Obj:={ cls:=(Value.type PySem.W.SL.s5856160107412720595x4),dict:=none,data := .fields ⟨[(zs [95,102,111,114,109,97,116,112,97,114,97,109] 386),(zs [95,102,111,114,109,97,116,112,97,114,97,109] 387),(zs [47,99,108,97,105,109,47,99,117,116,46,112,121] 388),(Value.int 9 0),(Value.int 3 0),(Value.int 0 0),(Value.int 0 0),(Value.int 3 0),(Value.ref 55),(Value.bool true),(Value.int 276 0),(Value.ref 56),Value.none,(Value.ref 57),(Value.ref 58),(Value.ref 59),(Value.int 392 0),(Value.int 9 0),(zs [47,99,108,97,105,109,47,99,117,116,46,112,121] 393)]⟩,slots:=⟨[]⟩ }
noncomputable def o61 (p:Program) (P:Params):Obj:={ cls:=(Value.type PySem.W.SL.s7174869446012820540x8),dict:=none,data := .func { name:=(⟨⟨[95,102,111,114,109,97,116,112,97,114,97,109]⟩⟩:Str),qualname:=(⟨⟨[95,102,111,114,109,97,116,112,97,114,97,109]⟩⟩:Str),params:=fParams (stm p 6),body := .stmts (fBody (stm p 6)),scope:=fScope (stm p 6),globals:=3,closure:=[],defaults:=(Value.ref 54),kwdefaults:=Value.none,doc:=Value.none,pyModule:=(zs [99,112,121,51,49,51,46,119,115,103,105,114,101,102,46,104,101,97,100,101,114,115] 289),annotations:=none,code:=(Value.ref 60),closureTuple:=Value.none,builtins:=0 },slots:=⟨[]⟩ }
noncomputable def o69 (p:Program) (P:Params):Obj:={ cls:=(Value.type PySem.W.SL.s2766695959194262286x5),dict:=none,data := .seq ⟨[Value.none]⟩ 0,slots:=⟨[]⟩ }
noncomputable def o75 (p:Program) (P:Params):Obj:={ cls:=(Value.type PySem.W.SL.s5856160107412720595x4),dict:=none,data := .fields ⟨[(zs [95,95,105,110,105,116,95,95] 407),(zs [72,101,97,100,101,114,115,46,95,95,105,110,105,116,95,95] 408),(zs [47,99,108,97,105,109,47,99,117,116,46,112,121] 409),(Value.int 20 0),(Value.int 2 0),(Value.int 0 0),(Value.int 0 0),(Value.int 3 0),(Value.ref 70),(Value.bool true),(Value.int 276 0),(Value.ref 71),Value.none,(Value.ref 72),(Value.ref 73),(Value.ref 74),(Value.int 414 0),(Value.int 20 0),(zs [47,99,108,97,105,109,47,99,117,116,46,112,121] 415)]⟩,slots:=⟨[]⟩ }
noncomputable def o76 (p:Program) (P:Params):Obj:={ cls:=(Value.type PySem.W.SL.s7174869446012820540x8),dict:=none,data := .func { name:=(⟨⟨[95,95,105,110,105,116,95,95]⟩⟩:Str),qualname:=(⟨⟨[72,101,97,100,101,114,115,46,95,95,105,110,105,116,95,95]⟩⟩:Str),params:=fParams (meth p 7 0),body := .stmts (fBody (meth p 7 0)),scope:=fScope (meth p 7 0),globals:=3,closure:=[],defaults:=(Value.ref 69),kwdefaults:=Value.none,doc:=Value.none,pyModule:=(zs [99,112,121,51,49,51,46,119,115,103,105,114,101,102,46,104,101,97,100,101,114,115] 289),annotations:=none,code:=(Value.ref 75),closureTuple:=Value.none,builtins:=0 },slots:=⟨[]⟩ }
noncomputable def o82 (p:Program) (P:Params):Obj:={ cls:=(Value.type PySem.W.SL.s5856160107412720595x4),dict:=none,data := .fields ⟨[(zs [95,99,111,110,118,101,114,116,95,115,116,114,105,110,103,95,116,121,112,101] 417),(zs [72,101,97,100,101,114,115,46,95,99,111,110,118,101,114,116,95,115,116,114,105,110,103,95,116,121,112,101] 418),(zs [47,99,108,97,105,109,47,99,117,116,46,112,121] 419),(Value.int 30 0),(Value.int 2 0),(Value.int 0 0),(Value.int 1 0),(Value.int 3 0),(Value.ref 77),(Value.bool true),(Value.int 276 0),(Value.ref 78),Value.none,(Value.ref 79),(Value.ref 80),(Value.ref 81),(Value.int 424 0),(Value.int 30 0),(zs [47,99,108,97,105,109,47,99,117,116,46,112,121] 425)]⟩,slots:=⟨[]⟩ }
noncomputable def o83 (p:Program) (P:Params):Obj:={ cls:=(Value.type PySem.W.SL.s7174869446012820540x8),dict:=none,data := .func { name:=(⟨⟨[95,99,111,110,118,101,114,116,95,115,116,114,105,110,103,95,116,121,112,101]⟩⟩:Str),qualname:=(⟨⟨[72,101,97,100,101,114,115,46,95,99,111,110,118,101,114,116,95,115,116,114,105,110,103,95,116,121,112,101]⟩⟩:Str),params:=fParams (meth p 7 1),body := .stmts (fBody (meth p 7 1)),scope:=fScope (meth p 7 1),globals:=3,closure:=[],defaults:=Value.none,kwdefaults:=Value.none,doc:=Value.none,pyModule:=(zs [99,112,121,51,49,51,46,119,115,103,105,114,101,102,46,104,101,97,100,101,114,115] 289),annotations:=none,code:=(Value.ref 82),closureTuple:=Value.none,builtins:=0 },slots:=⟨[]⟩ }
noncomputable def o120 (p:Program) (P:Params):Obj:={ cls:=(Value.type PySem.W.SL.s5856160107412720595x4),dict:=none,data := .fields ⟨[(zs [103,101,116,95,97,108,108] 465),(zs [72,101,97,100,101,114,115,46,103,101,116,95,97,108,108] 466),(zs [47,99,108,97,105,109,47,99,117,116,46,112,121] 467),(Value.int 55 0),(Value.int 2 0),(Value.int 0 0),(Value.int 0 0),(Value.int 3 0),(Value.ref 117),(Value.bool true),(Value.int 276 0),(Value.ref 118),Value.none,Value.none,Value.none,(Value.ref 119),(Value.int 468 0),(Value.int 55 0),(zs [47,99,108,97,105,109,47,99,117,116,46,112,121] 469)]⟩,slots:=⟨[]⟩ }
noncomputable def o121 (p:Program) (P:Params):Obj:={ cls:=(Value.type PySem.W.SL.s7174869446012820540x8),dict:=none,data := .func { name:=(⟨⟨[103,101,116,95,97,108,108]⟩⟩:Str),qualname:=(⟨⟨[72,101,97,100,101,114,115,46,103,101,116,95,97,108,108]⟩⟩:Str),params:=fParams (meth p 7 7),body := .stmts (fBody (meth p 7 7)),scope:=fScope (meth p 7 7),globals:=3,closure:=[],defaults:=Value.none,kwdefaults:=Value.none,doc:=Value.none,pyModule:=(zs [99,112,121,51,49,51,46,119,115,103,105,114,101,102,46,104,101,97,100,101,114,115] 289),annotations:=none,code:=(Value.ref 120),closureTuple:=Value.none,builtins:=0 },slots:=⟨[]⟩ }
noncomputable def o145 (p:Program) (P:Params):Obj:={ cls:=(Value.type PySem.W.SL.s5856160107412720595x4),dict:=none,data := .fields ⟨[(zs [105,116,101,109,115] 494),(zs [72,101,97,100,101,114,115,46,105,116,101,109,115] 495),(zs [47,99,108,97,105,109,47,99,117,116,46,112,121] 496),(Value.int 72 0),(Value.int 1 0),(Value.int 0 0),(Value.int 0 0),(Value.int 3 0),(Value.ref 140),(Value.bool true),(Value.int 276 0),(Value.ref 141),Value.none,(Value.ref 142),(Value.ref 143),(Value.ref 144),(Value.int 498 0),(Value.int 72 0),(zs [47,99,108,97,105,109,47,99,117,116,46,112,121] 499)]⟩,slots:=⟨[]⟩ }
noncomputable def o146 (p:Program) (P:Params):Obj:={ cls:=(Value.type PySem.W.SL.s7174869446012820540x8),dict:=none,data := .func { name:=(⟨⟨[105,116,101,109,115]⟩⟩:Str),qualname:=(⟨⟨[72,101,97,100,101,114,115,46,105,116,101,109,115]⟩⟩:Str),params:=fParams (meth p 7 11),body := .stmts (fBody (meth p 7 11)),scope:=fScope (meth p 7 11),globals:=3,closure:=[],defaults:=Value.none,kwdefaults:=Value.none,doc:=Value.none,pyModule:=(zs [99,112,121,51,49,51,46,119,115,103,105,114,101,102,46,104,101,97,100,101,114,115] 289),annotations:=none,code:=(Value.ref 145),closureTuple:=Value.none,builtins:=0 },slots:=⟨[]⟩ }
noncomputable def o178 (p:Program) (P:Params):Obj:={ cls:=(Value.type PySem.W.SL.s5856160107412720595x4),dict:=none,data := .fields ⟨[(zs [97,100,100,95,104,101,97,100,101,114] 530),(zs [72,101,97,100,101,114,115,46,97,100,100,95,104,101,97,100,101,114] 531),(zs [47,99,108,97,105,109,47,99,117,116,46,112,121] 532),(Value.int 87 0),(Value.int 3 0),(Value.int 0 0),(Value.int 0 0),(Value.int 11 0),(Value.ref 173),(Value.bool true),(Value.int 276 0),(Value.ref 174),Value.none,(Value.ref 175),(Value.ref 176),(Value.ref 177),(Value.int 540 0),(Value.int 87 0),(zs [47,99,108,97,105,109,47,99,117,116,46,112,121] 541)]⟩,slots:=⟨[]⟩ }
noncomputable def o179 (p:Program) (P:Params):Obj:={ cls:=(Value.type PySem.W.SL.s7174869446012820540x8),dict:=none,data := .func { name:=(⟨⟨[97,100,100,95,104,101,97,100,101,114]⟩⟩:Str),qualname:=(⟨⟨[72,101,97,100,101,114,115,46,97,100,100,95,104,101,97,100,101,114]⟩⟩:Str),params:=fParams (meth p 7 16),body := .stmts (fBody (meth p 7 16)),scope:=fScope (meth p 7 16),globals:=3,closure:=[],defaults:=Value.none,kwdefaults:=Value.none,doc:=Value.none,pyModule:=(zs [99,112,121,51,49,51,46,119,115,103,105,114,101,102,46,104,101,97,100,101,114,115] 289),annotations:=none,code:=(Value.ref 178),closureTuple:=Value.none,builtins:=0 },slots:=⟨[]⟩ }
noncomputable def o181 (p:Program) (P:Params):Obj:={ cls:=(Value.type PySem.W.SL.s14018661285674007319x4),dict:=none,data := .dict ⟨[(dEnt P [95,95,109,111,100,117,108,101,95,95] 402 (zs [99,112,121,51,49,51,46,119,115,103,105,114,101,102,46,104,101,97,100,101,114,115] 289)),(dEnt P [95,95,102,105,114,115,116,108,105,110,101,110,111,95,95] 406 (Value.int 18 405)),(dEnt P [95,95,105,110,105,116,95,95] 416 (Value.ref 76)),(dEnt P [95,99,111,110,118,101,114,116,95,115,116,114,105,110,103,95,116,121,112,101] 426 (Value.ref 83)),(dEnt P [95,95,108,101,110,95,95] 433 (Value.ref 90)),(dEnt P [95,95,115,101,116,105,116,101,109,95,95] 442 (Value.ref 97)),(dEnt P [95,95,100,101,108,105,116,101,109,95,95] 448 (Value.ref 102)),(dEnt P [95,95,103,101,116,105,116,101,109,95,95] 456 (Value.ref 109)),(dEnt P [95,95,99,111,110,116,97,105,110,115,95,95] 464 (Value.ref 116)),(dEnt P [103,101,116,95,97,108,108] 470 (Value.ref 121)),(dEnt P [103,101,116] 481 (Value.ref 129)),(dEnt P [107,101,121,115] 487 (Value.ref 134)),(dEnt P [118,97,108,117,101,115] 493 (Value.ref 139)),(dEnt P [105,116,101,109,115] 500 (Value.ref 146)),(dEnt P [95,95,114,101,112,114,95,95] 507 (Value.ref 153)),(dEnt P [95,95,115,116,114,95,95] 513 (Value.ref 158)),(dEnt P [95,95,98,121,116,101,115,95,95] 520 (Value.ref 165)),(dEnt P [115,101,116,100,101,102,97,117,108,116] 529 (Value.ref 172)),(dEnt P [97,100,100,95,104,101,97,100,101,114] 542 (Value.ref 179)),(dEnt P [95,95,115,116,97,116,105,99,95,97,116,116,114,105,98,117,116,101,115,95,95] 544 (Value.ref 180)),(dEnt P [95,95,100,105,99,116,95,95] 546 (Value.ref 183)),(dEnt P [95,95,119,101,97,107,114,101,102,95,95] 548 (Value.ref 184)),(dEnt P [95,95,100,111,99,95,95] 549 Value.none)]⟩ 4,slots:=⟨[]⟩ }
noncomputable def o182 (p:Program) (P:Params):Obj:={ cls:=(Value.type PySem.W.SL.s17162191345867700912x4),dict:=none,data := .cls { name:=(⟨⟨[72,101,97,100,101,114,115]⟩⟩:Str),bases:=[(Value.type PySem.W.SL.s2742458400755230247x6)],mro:=[(Value.ref 182),(Value.type PySem.W.SL.s2742458400755230247x6)],ns:=181,qualname:=(⟨⟨[72,101,97,100,101,114,115]⟩⟩:Str),hasDict:=true,slotNames:=[],subclasses:=[],abstract:=false,collection:=none,hasDel:=false },slots:=⟨[none,none,(some (zs [72,101,97,100,101,114,115] 395)),(some (zs [72,101,97,100,101,114,115] 403)),(some (Value.builtin PySem.W.SL.s11443829558043349243x14)),(some (Value.bool true))]⟩ }
noncomputable def o192 (p:Program) (P:Params):Obj:={ cls:=(Value.type PySem.W.SL.s5856160107412720595x4),dict:=none,data := .fields ⟨[(zs [114,103,98,95,116,111,95,121,105,113] 566),(zs [114,103,98,95,116,111,95,121,105,113] 567),(zs [47,99,108,97,105,109,47,99,117,116,46,112,121] 568),(Value.int 104 0),(Value.int 3 0),(Value.int 0 0),(Value.int 0 0),(Value.int 3 0),(Value.ref 187),(Value.bool true),(Value.int 276 0),(Value.ref 188),Value.none,(Value.ref 189),(Value.ref 190),(Value.ref 191),(Value.int 575 0),(Value.int 104 0),(zs [47,99,108,97,105,109,47,99,117,116,46,112,121] 576)]⟩,slots:=⟨[]⟩ }
noncomputable def o193 (p:Program) (P:Params):Obj:={ cls:=(Value.type PySem.W.SL.s7174869446012820540x8),dict:=none,data := .func { name:=(⟨⟨[114,103,98,95,116,111,95,121,105,113]⟩⟩:Str),qualname:=(⟨⟨[114,103,98,95,116,111,95,121,105,113]⟩⟩:Str),params:=fParams (stm p 12),body := .stmts (fBody (stm p 12)),scope:=fScope (stm p 12),globals:=3,closure:=[],defaults:=Value.none,kwdefaults:=Value.none,doc:=Value.none,pyModule:=(zs [99,112,121,51,49,51,46,99,111,108,111,114,115,121,115] 552),annotations:=none,code:=(Value.ref 192),closureTuple:=Value.none,builtins:=0 },slots:=⟨[]⟩ }
noncomputable def o199 (p:Program) (P:Params):Obj:={ cls:=(Value.type PySem.W.SL.s5856160107412720595x4),dict:=none,data := .fields ⟨[(zs [121,105,113,95,116,111,95,114,103,98] 578),(zs [121,105,113,95,116,111,95,114,103,98] 579),(zs [47,99,108,97,105,109,47,99,117,116,46,112,121] 580),(Value.int 109 0),(Value.int 3 0),(Value.int 0 0),(Value.int 0 0),(Value.int 3 0),(Value.ref 194),(Value.bool true),(Value.int 276 0),(Value.ref 195),Value.none,(Value.ref 196),(Value.ref 197),(Value.ref 198),(Value.int 587 0),(Value.int 109 0),(zs [47,99,108,97,105,109,47,99,117,116,46,112,121] 588)]⟩,slots:=⟨[]⟩ }
noncomputable def o200 (p:Program) (P:Params):Obj:={ cls:=(Value.type PySem.W.SL.s7174869446012820540x8),dict:=none,data := .func { name:=(⟨⟨[121,105,113,95,116,111,95,114,103,98]⟩⟩:Str),qualname:=(⟨⟨[121,105,113,95,116,111,95,114,103,98]⟩⟩:Str),params:=fParams (stm p 13),body := .stmts (fBody (stm p 13)),scope:=fScope (stm p 13),globals:=3,closure:=[],defaults:=Value.none,kwdefaults:=Value.none,doc:=Value.none,pyModule:=(zs [99,112,121,51,49,51,46,99,111,108,111,114,115,121,115] 552),annotations:=none,code:=(Value.ref 199),closureTuple:=Value.none,builtins:=0 },slots:=⟨[]⟩ }
noncomputable def o206 (p:Program) (P:Params):Obj:={ cls:=(Value.type PySem.W.SL.s5856160107412720595x4),dict:=none,data := .fields ⟨[(zs [114,103,98,95,116,111,95,104,108,115] 590),(zs [114,103,98,95,116,111,95,104,108,115] 591),(zs [47,99,108,97,105,109,47,99,117,116,46,112,121] 592),(Value.int 126 0),(Value.int 3 0),(Value.int 0 0),(Value.int 0 0),(Value.int 3 0),(Value.ref 201),(Value.bool true),(Value.int 276 0),(Value.ref 202),Value.none,(Value.ref 203),(Value.ref 204),(Value.ref 205),(Value.int 606 0),(Value.int 126 0),(zs [47,99,108,97,105,109,47,99,117,116,46,112,121] 607)]⟩,slots:=⟨[]⟩ }
noncomputable def o207 (p:Program) (P:Params):Obj:={ cls:=(Value.type PySem.W.SL.s7174869446012820540x8),dict:=none,data := .func { name:=(⟨⟨[114,103,98,95,116,111,95,104,108,115]⟩⟩:Str),qualname:=(⟨⟨[114,103,98,95,116,111,95,104,108,115]⟩⟩:Str),params:=fParams (stm p 14),body := .stmts (fBody (stm p 14)),scope:=fScope (stm p 14),globals:=3,closure:=[],defaults:=Value.none,kwdefaults:=Value.none,doc:=Value.none,pyModule:=(zs [99,112,121,51,49,51,46,99,111,108,111,114,115,121,115] 552),annotations:=none,code:=(Value.ref 206),closureTuple:=Value.none,builtins:=0 },slots:=⟨[]⟩ }
noncomputable def o213 (p:Program) (P:Params):Obj:={ cls:=(Value.type PySem.W.SL.s5856160107412720595x4),dict:=none,data := .fields ⟨[(zs [104,108,115,95,116,111,95,114,103,98] 609),(zs [104,108,115,95,116,111,95,114,103,98] 610),(zs [47,99,108,97,105,109,47,99,117,116,46,112,121] 611),(Value.int 149 0),(Value.int 3 0),(Value.int 0 0),(Value.int 0 0),(Value.int 3 0),(Value.ref 208),(Value.bool true),(Value.int 276 0),(Value.ref 209),Value.none,(Value.ref 210),(Value.ref 211),(Value.ref 212),(Value.int 617 0),(Value.int 149 0),(zs [47,99,108,97,105,109,47,99,117,116,46,112,121] 618)]⟩,slots:=⟨[]⟩ }
noncomputable def o214 (p:Program) (P:Params):Obj:={ cls:=(Value.type PySem.W.SL.s7174869446012820540x8),dict:=none,data := .func { name:=(⟨⟨[104,108,115,95,116,111,95,114,103,98]⟩⟩:Str),qualname:=(⟨⟨[104,108,115,95,116,111,95,114,103,98]⟩⟩:Str),params:=fParams (stm p 15),body := .stmts (fBody (stm p 15)),scope:=fScope (stm p 15),globals:=3,closure:=[],defaults:=Value.none,kwdefaults:=Value.none,doc:=Value.none,pyModule:=(zs [99,112,121,51,49,51,46,99,111,108,111,114,115,121,115] 552),annotations:=none,code:=(Value.ref 213),closureTuple:=Value.none,builtins:=0 },slots:=⟨[]⟩ }
noncomputable def o220 (p:Program) (P:Params):Obj:={ cls:=(Value.type PySem.W.SL.s5856160107412720595x4),dict:=none,data := .fields ⟨[(zs [95,118] 620),(zs [95,118] 621),(zs [47,99,108,97,105,109,47,99,117,116,46,112,121] 622),(Value.int 158 0),(Value.int 3 0),(Value.int 0 0),(Value.int 0 0),(Value.int 3 0),(Value.ref 215),(Value.bool true),(Value.int 276 0),(Value.ref 216),Value.none,(Value.ref 217),(Value.ref 218),(Value.ref 219),(Value.int 626 0),(Value.int 158 0),(zs [47,99,108,97,105,109,47,99,117,116,46,112,121] 627)]⟩,slots:=⟨[]⟩ }
noncomputable def o221 (p:Program) (P:Params):Obj:={ cls:=(Value.type PySem.W.SL.s7174869446012820540x8),dict:=none,data := .func { name:=(⟨⟨[95,118]⟩⟩:Str),qualname:=(⟨⟨[95,118]⟩⟩:Str),params:=fParams (stm p 16),body := .stmts (fBody (stm p 16)),scope:=fScope (stm p 16),globals:=3,closure:=[],defaults:=Value.none,kwdefaults:=Value.none,doc:=Value.none,pyModule:=(zs [99,112,121,51,49,51,46,99,111,108,111,114,115,121,115] 552),annotations:=none,code:=(Value.ref 220),closureTuple:=Value.none,builtins:=0 },slots:=⟨[]⟩ }
noncomputable def o227 (p:Program) (P:Params):Obj:={ cls:=(Value.type PySem.W.SL.s5856160107412720595x4),dict:=none,data := .fields ⟨[(zs [114,103,98,95,116,111,95,104,115,118] 629),(zs [114,103,98,95,116,111,95,104,115,118] 630),(zs [47,99,108,97,105,109,47,99,117,116,46,112,121] 631),(Value.int 167 0),(Value.int 3 0),(Value.int 0 0),(Value.int 0 0),(Value.int 3 0),(Value.ref 222),(Value.bool true),(Value.int 276 0),(Value.ref 223),Value.none,(Value.ref 224),(Value.ref 225),(Value.ref 226),(Value.int 644 0),(Value.int 167 0),(zs [47,99,108,97,105,109,47,99,117,116,46,112,121] 645)]⟩,slots:=⟨[]⟩ }
noncomputable def o228 (p:Program) (P:Params):Obj:={ cls:=(Value.type PySem.W.SL.s7174869446012820540x8),dict:=none,data := .func { name:=(⟨⟨[114,103,98,95,116,111,95,104,115,118]⟩⟩:Str),qualname:=(⟨⟨[114,103,98,95,116,111,95,104,115,118]⟩⟩:Str),params:=fParams (stm p 17),body := .stmts (fBody (stm p 17)),scope:=fScope (stm p 17),globals:=3,closure:=[],defaults:=Value.none,kwdefaults:=Value.none,doc:=Value.none,pyModule:=(zs [99,112,121,51,49,51,46,99,111,108,111,114,115,121,115] 552),annotations:=none,code:=(Value.ref 227),closureTuple:=Value.none,builtins:=0 },slots:=⟨[]⟩ }
noncomputable def o234 (p:Program) (P:Params):Obj:={ cls:=(Value.type PySem.W.SL.s5856160107412720595x4),dict:=none,data := .fields ⟨[(zs [104,115,118,95,116,111,95,114,103,98] 647),(zs [104,115,118,95,116,111,95,114,103,98] 648),(zs [47,99,108,97,105,109,47,99,117,116,46,112,121] 649),(Value.int 186 0),(Value.int 3 0),(Value.int 0 0),(Value.int 0 0),(Value.int 3 0),(Value.ref 229),(Value.bool true),(Value.int 276 0),(Value.ref 230),Value.none,(Value.ref 231),(Value.ref 232),(Value.ref 233),(Value.int 658 0),(Value.int 186 0),(zs [47,99,108,97,105,109,47,99,117,116,46,112,121] 659)]⟩,slots:=⟨[]⟩ }
noncomputable def o235 (p:Program) (P:Params):Obj:={ cls:=(Value.type PySem.W.SL.s7174869446012820540x8),dict:=none,data := .func { name:=(⟨⟨[104,115,118,95,116,111,95,114,103,98]⟩⟩:Str),qualname:=(⟨⟨[104,115,118,95,116,111,95,114,103,98]⟩⟩:Str),params:=fParams (stm p 18),body := .stmts (fBody (stm p 18)),scope:=fScope (stm p 18),globals:=3,closure:=[],defaults:=Value.none,kwdefaults:=Value.none,doc:=Value.none,pyModule:=(zs [99,112,121,51,49,51,46,99,111,108,111,114,115,121,115] 552),annotations:=none,code:=(Value.ref 234),closureTuple:=Value.none,builtins:=0 },slots:=⟨[]⟩ }
noncomputable def o248 (p:Program) (P:Params):Obj:={ cls:=(Value.type PySem.W.SL.s5856160107412720595x4),dict:=none,data := .fields ⟨[(zs [95,95,105,110,105,116,95,95] 675),(zs [95,110,101,116,114,99,108,101,120,46,95,95,105,110,105,116,95,95] 676),(zs [47,99,108,97,105,109,47,99,117,116,46,112,121] 677),(Value.int 210 0),(Value.int 2 0),(Value.int 0 0),(Value.int 0 0),(Value.int 3 0),(Value.ref 243),(Value.bool true),(Value.int 276 0),(Value.ref 244),Value.none,(Value.ref 245),(Value.ref 246),(Value.ref 247),(Value.int 680 0),(Value.int 210 0),(zs [47,99,108,97,105,109,47,99,117,116,46,112,121] 681)]⟩,slots:=⟨[]⟩ }
noncomputable def o249 (p:Program) (P:Params):Obj:={ cls:=(Value.type PySem.W.SL.s7174869446012820540x8),dict:=none,data := .func { name:=(⟨⟨[95,95,105,110,105,116,95,95]⟩⟩:Str),qualname:=(⟨⟨[95,110,101,116,114,99,108,101,120,46,95,95,105,110,105,116,95,95]⟩⟩:Str),params:=fParams (meth p 20 0),body := .stmts (fBody (meth p 20 0)),scope:=fScope (meth p 20 0),globals:=3,closure:=[],defaults:=Value.none,kwdefaults:=Value.none,doc:=Value.none,pyModule:=(zs [99,112,121,51,49,51,46,110,101,116,114,99] 661),annotations:=none,code:=(Value.ref 248),closureTuple:=Value.none,builtins:=0 },slots:=⟨[]⟩ }
noncomputable def o255 (p:Program) (P:Params):Obj:={ cls:=(Value.type PySem.W.SL.s5856160107412720595x4),dict:=none,data := .fields ⟨[(zs [95,114,101,97,100,95,99,104,97,114] 683),(zs [95,110,101,116,114,99,108,101,120,46,95,114,101,97,100,95,99,104,97,114] 684),(zs [47,99,108,97,105,109,47,99,117,116,46,112,121] 685),(Value.int 216 0),(Value.int 1 0),(Value.int 0 0),(Value.int 0 0),(Value.int 3 0),(Value.ref 250),(Value.bool true),(Value.int 276 0),(Value.ref 251),Value.none,(Value.ref 252),(Value.ref 253),(Value.ref 254),(Value.int 688 0),(Value.int 216 0),(zs [47,99,108,97,105,109,47,99,117,116,46,112,121] 689)]⟩,slots:=⟨[]⟩ }
noncomputable def o256 (p:Program) (P:Params):Obj:={ cls:=(Value.type PySem.W.SL.s7174869446012820540x8),dict:=none,data := .func { name:=(⟨⟨[95,114,101,97,100,95,99,104,97,114]⟩⟩:Str),qualname:=(⟨⟨[95,110,101,116,114,99,108,101,120,46,95,114,101,97,100,95,99,104,97,114]⟩⟩:Str),params:=fParams (meth p 20 1),body := .stmts (fBody (meth p 20 1)),scope:=fScope (meth p 20 1),globals:=3,closure:=[],defaults:=Value.none,kwdefaults:=Value.none,doc:=Value.none,pyModule:=(zs [99,112,121,51,49,51,46,110,101,116,114,99] 661),annotations:=none,code:=(Value.ref 255),closureTuple:=Value.none,builtins:=0 },slots:=⟨[]⟩ }
noncomputable def o262 (p:Program) (P:Params):Obj:={ cls:=(Value.type PySem.W.SL.s5856160107412720595x4),dict:=none,data := .fields ⟨[(zs [103,101,116,95,116,111,107,101,110] 691),(zs [95,110,101,116,114,99,108,101,120,46,103,101,116,95,116,111,107,101,110] 692),(zs [47,99,108,97,105,109,47,99,117,116,46,112,121] 693),(Value.int 222 0),(Value.int 1 0),(Value.int 0 0),(Value.int 0 0),(Value.int 3 0),(Value.ref 257),(Value.bool true),(Value.int 276 0),(Value.ref 258),Value.none,(Value.ref 259),(Value.ref 260),(Value.ref 261),(Value.int 698 0),(Value.int 222 0),(zs [47,99,108,97,105,109,47,99,117,116,46,112,121] 699)]⟩,slots:=⟨[]⟩ }
noncomputable def o263 (p:Program) (P:Params):Obj:={ cls:=(Value.type PySem.W.SL.s7174869446012820540x8),dict:=none,data := .func { name:=(⟨⟨[103,101,116,95,116,111,107,101,110]⟩⟩:Str),qualname:=(⟨⟨[95,110,101,116,114,99,108,101,120,46,103,101,116,95,116,111,107,101,110]⟩⟩:Str),params:=fParams (meth p 20 2),body := .stmts (fBody (meth p 20 2)),scope:=fScope (meth p 20 2),globals:=3,closure:=[],defaults:=Value.none,kwdefaults:=Value.none,doc:=Value.none,pyModule:=(zs [99,112,121,51,49,51,46,110,101,116,114,99] 661),annotations:=none,code:=(Value.ref 262),closureTuple:=Value.none,builtins:=0 },slots:=⟨[]⟩ }
noncomputable def o272 (p:Program) (P:Params):Obj:={ cls:=(Value.type PySem.W.SL.s14018661285674007319x4),dict:=none,data := .dict ⟨[(dEnt P [95,95,109,111,100,117,108,101,95,95] 670 (zs [99,112,121,51,49,51,46,110,101,116,114,99] 661)),(dEnt P [95,95,102,105,114,115,116,108,105,110,101,110,111,95,95] 674 (Value.int 208 673)),(dEnt P [95,95,105,110,105,116,95,95] 682 (Value.ref 249)),(dEnt P [95,114,101,97,100,95,99,104,97,114] 690 (Value.ref 256)),(dEnt P [103,101,116,95,116,111,107,101,110] 700 (Value.ref 263)),(dEnt P [112,117,115,104,95,116,111,107,101,110] 708 (Value.ref 270)),(dEnt P [95,95,115,116,97,116,105,99,95,97,116,116,114,105,98,117,116,101,115,95,95] 713 (Value.ref 271)),(dEnt P [95,95,100,105,99,116,95,95] 715 (Value.ref 274)),(dEnt P [95,95,119,101,97,107,114,101,102,95,95] 717 (Value.ref 275)),(dEnt P [95,95,100,111,99,95,95] 718 Value.none)]⟩ 4,slots:=⟨[]⟩ }
noncomputable def o273 (p:Program) (P:Params):Obj:={ cls:=(Value.type PySem.W.SL.s17162191345867700912x4),dict:=none,data := .cls { name:=(⟨⟨[95,110,101,116,114,99,108,101,120]⟩⟩:Str),bases:=[(Value.type PySem.W.SL.s2742458400755230247x6)],mro:=[(Value.ref 273),(Value.type PySem.W.SL.s2742458400755230247x6)],ns:=272,qualname:=(⟨⟨[95,110,101,116,114,99,108,101,120]⟩⟩:Str),hasDict:=true,slotNames:=[],subclasses:=[],abstract:=false,collection:=none,hasDel:=false },slots:=⟨[none,none,(some (zs [95,110,101,116,114,99,108,101,120] 663)),(some (zs [95,110,101,116,114,99,108,101,120] 671)),(some (Value.builtin PySem.W.SL.s11443829558043349243x14)),(some (Value.bool true))]⟩ }
noncomputable def o279 (p:Program) (P:Params):Obj:={ cls:=Value.none,dict:=none,data := .fields ⟨[]⟩,slots:=⟨[]⟩ }
noncomputable def o283 (p:Program) (P:Params):Obj:={ cls:=(Value.type PySem.W.SL.s5856160107412720595x4),dict:=none,data := .fields ⟨[(zs [95,108,97,119,95,108,101,120,101,114] 723),(zs [95,108,97,119,95,108,101,120,101,114] 724),(zs [47,99,108,97,105,109,47,99,117,116,46,112,121] 725),(Value.int 252 0),(Value.int 1 0),(Value.int 0 0),(Value.int 0 0),(Value.int 3 0),(Value.ref 278),(Value.bool true),(Value.int 276 0),(Value.ref 279),Value.none,(Value.ref 280),(Value.ref 281),(Value.ref 282),(Value.int 729 0),(Value.int 252 0),(zs [47,99,108,97,105,109,47,99,117,116,46,112,121] 730)]⟩,slots:=⟨[]⟩ }
noncomputable def o284 (p:Program) (P:Params):Obj:={ cls:=(Value.type PySem.W.SL.s7174869446012820540x8),dict:=none,data := .func { name:=(⟨⟨[95,108,97,119,95,108,101,120,101,114]⟩⟩:Str),qualname:=(⟨⟨[95,108,97,119,95,108,101,120,101,114]⟩⟩:Str),params:=fParams (stm p 22),body := .stmts (fBody (stm p 22)),scope:=fScope (stm p 22),globals:=3,closure:=[],defaults:=Value.none,kwdefaults:=Value.none,doc:=Value.none,pyModule:=(zs [108,97,119,95,112,101,48,50,55,52,95,48,49] 721),annotations:=none,code:=(Value.ref 283),closureTuple:=Value.none,builtins:=0 },slots:=⟨[]⟩ }
noncomputable def o290 (p:Program) (P:Params):Obj:={ cls:=(Value.type PySem.W.SL.s5856160107412720595x4),dict:=none,data := .fields ⟨[(zs [95,108,97,119,95,110,111,116,101] 732),(zs [95,108,97,119,95,110,111,116,101] 733),(zs [47,99,108,97,105,109,47,99,117,116,46,112,121] 734),(Value.int 257 0),(Value.int 1 0),(Value.int 0 0),(Value.int 0 0),(Value.int 3 0),(Value.ref 285),(Value.bool true),(Value.int 276 0),(Value.ref 286),Value.none,(Value.ref 287),(Value.ref 288),(Value.ref 289),(Value.int 738 0),(Value.int 257 0),(zs [47,99,108,97,105,109,47,99,117,116,46,112,121] 739)]⟩,slots:=⟨[]⟩ }
noncomputable def o291 (p:Program) (P:Params):Obj:={ cls:=(Value.type PySem.W.SL.s7174869446012820540x8),dict:=none,data := .func { name:=(⟨⟨[95,108,97,119,95,110,111,116,101]⟩⟩:Str),qualname:=(⟨⟨[95,108,97,119,95,110,111,116,101]⟩⟩:Str),params:=fParams (stm p 23),body := .stmts (fBody (stm p 23)),scope:=fScope (stm p 23),globals:=3,closure:=[],defaults:=Value.none,kwdefaults:=Value.none,doc:=Value.none,pyModule:=(zs [108,97,119,95,112,101,48,50,55,52,95,48,49] 721),annotations:=none,code:=(Value.ref 290),closureTuple:=Value.none,builtins:=0 },slots:=⟨[]⟩ }
noncomputable def o295 (p:Program) (P:Params):Obj:={ cls:=(Value.type PySem.W.SL.s5856160107412720595x4),dict:=none,data := .fields ⟨[(zs [95,108,97,119,95,119,114,105,116,116,101,110] 741),(zs [95,108,97,119,95,119,114,105,116,116,101,110] 742),(zs [47,99,108,97,105,109,47,99,117,116,46,112,121] 743),(Value.int 261 0),(Value.int 2 0),(Value.int 0 0),(Value.int 0 0),(Value.int 3 0),(Value.ref 292),(Value.bool true),(Value.int 276 0),(Value.ref 293),Value.none,Value.none,Value.none,(Value.ref 294),(Value.int 744 0),(Value.int 261 0),(zs [47,99,108,97,105,109,47,99,117,116,46,112,121] 745)]⟩,slots:=⟨[]⟩ }
noncomputable def o296 (p:Program) (P:Params):Obj:={ cls:=(Value.type PySem.W.SL.s7174869446012820540x8),dict:=none,data := .func { name:=(⟨⟨[95,108,97,119,95,119,114,105,116,116,101,110]⟩⟩:Str),qualname:=(⟨⟨[95,108,97,119,95,119,114,105,116,116,101,110]⟩⟩:Str),params:=fParams (stm p 24),body := .stmts (fBody (stm p 24)),scope:=fScope (stm p 24),globals:=3,closure:=[],defaults:=Value.none,kwdefaults:=Value.none,doc:=Value.none,pyModule:=(zs [108,97,119,95,112,101,48,50,55,52,95,48,49] 721),annotations:=none,code:=(Value.ref 295),closureTuple:=Value.none,builtins:=0 },slots:=⟨[]⟩ }
noncomputable def o300 (p:Program) (P:Params):Obj:={ cls:=(Value.type PySem.W.SL.s5856160107412720595x4),dict:=none,data := .fields ⟨[(zs [95,108,97,119,95,110,101,115,116] 747),(zs [95,108,97,119,95,110,101,115,116] 748),(zs [47,99,108,97,105,109,47,99,117,116,46,112,121] 749),(Value.int 265 0),(Value.int 2 0),(Value.int 0 0),(Value.int 0 0),(Value.int 3 0),(Value.ref 297),(Value.bool true),(Value.int 276 0),(Value.ref 298),Value.none,Value.none,Value.none,(Value.ref 299),(Value.int 750 0),(Value.int 265 0),(zs [47,99,108,97,105,109,47,99,117,116,46,112,121] 751)]⟩,slots:=⟨[]⟩ }
noncomputable def o301 (p:Program) (P:Params):Obj:={ cls:=(Value.type PySem.W.SL.s7174869446012820540x8),dict:=none,data := .func { name:=(⟨⟨[95,108,97,119,95,110,101,115,116]⟩⟩:Str),qualname:=(⟨⟨[95,108,97,119,95,110,101,115,116]⟩⟩:Str),params:=fParams (stm p 25),body := .stmts (fBody (stm p 25)),scope:=fScope (stm p 25),globals:=3,closure:=[],defaults:=Value.none,kwdefaults:=Value.none,doc:=Value.none,pyModule:=(zs [108,97,119,95,112,101,48,50,55,52,95,48,49] 721),annotations:=none,code:=(Value.ref 300),closureTuple:=Value.none,builtins:=0 },slots:=⟨[]⟩ }
noncomputable def o307 (p:Program) (P:Params):Obj:={ cls:=(Value.type PySem.W.SL.s5856160107412720595x4),dict:=none,data := .fields ⟨[(zs [95,108,97,119,95,112,97,114,97,109,115] 753),(zs [95,108,97,119,95,112,97,114,97,109,115] 754),(zs [47,99,108,97,105,109,47,99,117,116,46,112,121] 755),(Value.int 288 0),(Value.int 1 0),(Value.int 0 0),(Value.int 0 0),(Value.int 3 0),(Value.ref 302),(Value.bool true),(Value.int 276 0),(Value.ref 303),Value.none,(Value.ref 304),(Value.ref 305),(Value.ref 306),(Value.int 762 0),(Value.int 288 0),(zs [47,99,108,97,105,109,47,99,117,116,46,112,121] 763)]⟩,slots:=⟨[]⟩ }
noncomputable def o308 (p:Program) (P:Params):Obj:={ cls:=(Value.type PySem.W.SL.s7174869446012820540x8),dict:=none,data := .func { name:=(⟨⟨[95,108,97,119,95,112,97,114,97,109,115]⟩⟩:Str),qualname:=(⟨⟨[95,108,97,119,95,112,97,114,97,109,115]⟩⟩:Str),params:=fParams (stm p 26),body := .stmts (fBody (stm p 26)),scope:=fScope (stm p 26),globals:=3,closure:=[],defaults:=Value.none,kwdefaults:=Value.none,doc:=Value.none,pyModule:=(zs [108,97,119,95,112,101,48,50,55,52,95,48,49] 721),annotations:=none,code:=(Value.ref 307),closureTuple:=Value.none,builtins:=0 },slots:=⟨[]⟩ }
noncomputable def o314 (p:Program) (P:Params):Obj:={ cls:=(Value.type PySem.W.SL.s5856160107412720595x4),dict:=none,data := .fields ⟨[(zs [95,108,97,119,95,100,101,101,100] 765),(zs [95,108,97,119,95,100,101,101,100] 766),(zs [47,99,108,97,105,109,47,99,117,116,46,112,121] 767),(Value.int 305 0),(Value.int 2 0),(Value.int 0 0),(Value.int 0 0),(Value.int 3 0),(Value.ref 309),(Value.bool true),(Value.int 276 0),(Value.ref 310),Value.none,(Value.ref 311),(Value.ref 312),(Value.ref 313),(Value.int 777 0),(Value.int 305 0),(zs [47,99,108,97,105,109,47,99,117,116,46,112,121] 778)]⟩,slots:=⟨[]⟩ }
noncomputable def o315 (p:Program) (P:Params):Obj:={ cls:=(Value.type PySem.W.SL.s7174869446012820540x8),dict:=none,data := .func { name:=(⟨⟨[95,108,97,119,95,100,101,101,100]⟩⟩:Str),qualname:=(⟨⟨[95,108,97,119,95,100,101,101,100]⟩⟩:Str),params:=fParams (stm p 27),body := .stmts (fBody (stm p 27)),scope:=fScope (stm p 27),globals:=3,closure:=[],defaults:=Value.none,kwdefaults:=Value.none,doc:=Value.none,pyModule:=(zs [108,97,119,95,112,101,48,50,55,52,95,48,49] 721),annotations:=none,code:=(Value.ref 314),closureTuple:=Value.none,builtins:=0 },slots:=⟨[]⟩ }
noncomputable def o319 (p:Program) (P:Params):Obj:={ cls:=(Value.type PySem.W.SL.s5856160107412720595x4),dict:=none,data := .fields ⟨[(zs [95,108,97,119,95,100,117,101] 780),(zs [95,108,97,119,95,100,117,101] 781),(zs [47,99,108,97,105,109,47,99,117,116,46,112,121] 782),(Value.int 318 0),(Value.int 2 0),(Value.int 0 0),(Value.int 0 0),(Value.int 3 0),(Value.ref 316),(Value.bool true),(Value.int 276 0),(Value.ref 317),Value.none,Value.none,Value.none,(Value.ref 318),(Value.int 783 0),(Value.int 318 0),(zs [47,99,108,97,105,109,47,99,117,116,46,112,121] 784)]⟩,slots:=⟨[]⟩ }
noncomputable def o320 (p:Program) (P:Params):Obj:={ cls:=(Value.type PySem.W.SL.s7174869446012820540x8),dict:=none,data := .func { name:=(⟨⟨[95,108,97,119,95,100,117,101]⟩⟩:Str),qualname:=(⟨⟨[95,108,97,119,95,100,117,101]⟩⟩:Str),params:=fParams (stm p 28),body := .stmts (fBody (stm p 28)),scope:=fScope (stm p 28),globals:=3,closure:=[],defaults:=Value.none,kwdefaults:=Value.none,doc:=Value.none,pyModule:=(zs [108,97,119,95,112,101,48,50,55,52,95,48,49] 721),annotations:=none,code:=(Value.ref 319),closureTuple:=Value.none,builtins:=0 },slots:=⟨[]⟩ }
noncomputable def o324 (p:Program) (P:Params):Obj:={ cls:=(Value.type PySem.W.SL.s5856160107412720595x4),dict:=none,data := .fields ⟨[(zs [95,108,97,119,95,99,111,108,111,117,114,115] 786),(zs [95,108,97,119,95,99,111,108,111,117,114,115] 787),(zs [47,99,108,97,105,109,47,99,117,116,46,112,121] 788),(Value.int 329 0),(Value.int 2 0),(Value.int 0 0),(Value.int 0 0),(Value.int 3 0),(Value.ref 321),(Value.bool true),(Value.int 276 0),(Value.ref 322),Value.none,Value.none,Value.none,(Value.ref 323),(Value.int 789 0),(Value.int 329 0),(zs [47,99,108,97,105,109,47,99,117,116,46,112,121] 790)]⟩,slots:=⟨[]⟩ }
noncomputable def o325 (p:Program) (P:Params):Obj:={ cls:=(Value.type PySem.W.SL.s7174869446012820540x8),dict:=none,data := .func { name:=(⟨⟨[95,108,97,119,95,99,111,108,111,117,114,115]⟩⟩:Str),qualname:=(⟨⟨[95,108,97,119,95,99,111,108,111,117,114,115]⟩⟩:Str),params:=fParams (stm p 29),body := .stmts (fBody (stm p 29)),scope:=fScope (stm p 29),globals:=3,closure:=[],defaults:=Value.none,kwdefaults:=Value.none,doc:=Value.none,pyModule:=(zs [108,97,119,95,112,101,48,50,55,52,95,48,49] 721),annotations:=none,code:=(Value.ref 324),closureTuple:=Value.none,builtins:=0 },slots:=⟨[]⟩ }
noncomputable def o329 (p:Program) (P:Params):Obj:={ cls:=(Value.type PySem.W.SL.s5856160107412720595x4),dict:=none,data := .fields ⟨[(zs [108,97,119] 792),(zs [108,97,119] 793),(zs [47,99,108,97,105,109,47,99,117,116,46,112,121] 794),(Value.int 338 0),(Value.int 1 0),(Value.int 0 0),(Value.int 0 0),(Value.int 3 0),(Value.ref 326),(Value.bool true),(Value.int 276 0),(Value.ref 327),Value.none,Value.none,Value.none,(Value.ref 328),(Value.int 795 0),(Value.int 338 0),(zs [47,99,108,97,105,109,47,99,117,116,46,112,121] 796)]⟩,slots:=⟨[]⟩ }
noncomputable def o330 (p:Program) (P:Params):Obj:={ cls:=(Value.type PySem.W.SL.s7174869446012820540x8),dict:=none,data := .func { name:=(⟨⟨[108,97,119]⟩⟩:Str),qualname:=(⟨⟨[108,97,119]⟩⟩:Str),params:=fParams (stm p 30),body := .stmts (fBody (stm p 30)),scope:=fScope (stm p 30),globals:=3,closure:=[],defaults:=Value.none,kwdefaults:=Value.none,doc:=Value.none,pyModule:=(zs [108,97,119,95,112,101,48,50,55,52,95,48,49] 721),annotations:=none,code:=(Value.ref 329),closureTuple:=Value.none,builtins:=0 },slots:=⟨[]⟩ }
noncomputable def ktop (p:Program) (P:Params):KT:=(.node (some (o0 p P)) (.node none (.node (some (o3 p P)) (.node none (.node none (.node none (.node none (.node none (.node (some (o255 p P)) .nil .nil) .nil) (.node none (.node (some (o319 p P)) .nil .nil) .nil)) .nil) (.node (some (o47 p P)) (.node none .nil (.node (some (o207 p P)) .nil .nil)) .nil)) (.node none (.node none (.node none (.node none (.node (some (o263 p P)) .nil .nil) .nil) (.node (some (o199 p P)) .nil .nil)) (.node none (.node none (.node (some (o295 p P)) .nil .nil) .nil) .nil)) .nil)) (.node none (.node none (.node none .nil (.node none (.node none (.node (some (o291 p P)) .nil .nil) .nil) (.node (some (o227 p P)) .nil .nil))) (.node none (.node (some (o83 p P)) .nil .nil) (.node none (.node (some (o179 p P)) (.node (some (o307 p P)) .nil .nil) .nil) .nil))) (.node none (.node none (.node (some (o75 p P)) .nil .nil) (.node none .nil (.node (some (o235 p P)) .nil .nil))) (.node none (.node none (.node none (.node (some (o283 p P)) .nil .nil) .nil) .nil) (.node none (.node none (.node (some (o315 p P)) .nil .nil) .nil) .nil))))) (.node none (.node none (.node none (.node none (.node none .nil (.node (some (o193 p P)) .nil .nil)) .nil) (.node none (.node none (.node (some (o145 p P)) (.node (some (o273 p P)) .nil .nil) .nil) .nil) .nil)) (.node none (.node none (.node none .nil (.node none (.node (some (o329 p P)) .nil .nil) .nil)) .nil) (.node none .nil (.node (some (o121 p P)) .nil (.node (some (o249 p P)) .nil .nil))))) (.node none (.node none (.node none (.node (some (o69 p P)) .nil (.node none (.node (some (o325 p P)) .nil .nil) .nil)) .nil) (.node (some (o53 p P)) (.node none .nil (.node (some (o213 p P)) .nil .nil)) (.node none (.node (some (o181 p P)) .nil .nil) .nil))) (.node none (.node none .nil (.node none (.node none (.node (some (o301 p P)) .nil .nil) .nil) .nil)) (.node (some (o61 p P)) (.node none .nil (.node (some (o221 p P)) .nil .nil)) .nil))))) (.node (some (o2 p P)) (.node (some (o4 p P)) (.node none (.node none (.node none (.node none (.node none (.node (some (o256 p P)) .nil .nil) .nil) (.node (some (o192 p P)) (.node (some (o320 p P)) .nil .nil) .nil)) .nil) (.node (some (o48 p P)) (.node none (.node none (.node (some (o272 p P)) .nil .nil) .nil) .nil) .nil)) (.node none (.node none (.node none .nil (.node (some (o200 p P)) .nil .nil)) (.node none (.node none (.node (some (o296 p P)) .nil .nil) .nil) .nil)) (.node none .nil (.node (some (o120 p P)) .nil (.node (some (o248 p P)) .nil .nil))))) (.node none (.node none (.node none (.node none .nil (.node none (.node (some (o324 p P)) .nil .nil) .nil)) (.node none .nil (.node (some (o228 p P)) .nil .nil))) (.node (some (o52 p P)) .nil (.node none (.node none (.node (some (o308 p P)) .nil .nil) .nil) .nil))) (.node none (.node none (.node (some (o76 p P)) .nil .nil) (.node none (.node none (.node (some (o300 p P)) .nil .nil) .nil) .nil)) (.node (some (o60 p P)) (.node none (.node none (.node (some (o284 p P)) .nil .nil) .nil) (.node (some (o220 p P)) .nil .nil)) .nil)))) (.node none (.node none (.node none (.node none .nil (.node none (.node none (.node (some (o290 p P)) .nil .nil) .nil) .nil)) (.node none (.node (some (o82 p P)) (.node (some (o146 p P)) .nil .nil) .nil) (.node none (.node (some (o178 p P)) .nil .nil) .nil))) (.node none (.node none (.node none .nil (.node none (.node (some (o330 p P)) .nil .nil) .nil)) (.node none .nil (.node (some (o234 p P)) .nil .nil))) (.node none .nil (.node none (.node none (.node (some (o314 p P)) .nil .nil) .nil) .nil)))) (.node none (.node none (.node none (.node none (.node none (.node (some (o262 p P)) .nil .nil) .nil) .nil) .nil) (.node (some (o54 p P)) (.node none .nil (.node (some (o214 p P)) .nil .nil)) (.node none (.node (some (o182 p P)) .nil .nil) .nil))) (.node none (.node none (.node none .nil (.node (some (o206 p P)) .nil .nil)) .nil) .nil)))))
noncomputable def katts:List Nat:=[0,2,3,4,47,48,52,53,54,60,61,69,75,76,82,83,120,121,145,146,178,179,181,182,192,193,199,200,206,207,213,214,220,221,227,228,234,235,248,249,255,256,262,263,272,273,279,283,284,290,291,295,296,300,301,307,308,314,315,319,320,324,325,329,330]
noncomputable def klist (p:Program) (P:Params):List Obj:=[o0 p P,o2 p P,o3 p P,o4 p P,o47 p P,o48 p P,o52 p P,o53 p P,o54 p P,o60 p P,o61 p P,o69 p P,o75 p P,o76 p P,o82 p P,o83 p P,o120 p P,o121 p P,o145 p P,o146 p P,o178 p P,o179 p P,o181 p P,o182 p P,o192 p P,o193 p P,o199 p P,o200 p P,o206 p P,o207 p P,o213 p P,o214 p P,o220 p P,o221 p P,o227 p P,o228 p P,o234 p P,o235 p P,o248 p P,o249 p P,o255 p P,o256 p P,o262 p P,o263 p P,o272 p P,o273 p P,o279 p P,o283 p P,o284 p P,o290 p P,o291 p P,o295 p P,o296 p P,o300 p P,o301 p P,o307 p P,o308 p P,o314 p P,o315 p P,o319 p P,o320 p P,o324 p P,o325 p P,o329 p P,o330 p P]
noncomputable abbrev pT:Program:=PySem.Challenge.pw_pe0274_01
theorem pT_eq:PySem.Challenge.pw_pe0274_01=pT:=rfl
noncomputable def cGet:Nat:=10139888712337904147300001983332972444938612
noncomputable def cTwice:Nat:=2510650655181157320538776789020469319833841985448949215332
noncomputable def cFstr:Nat:=2831041637402183652179144184793551905427079684854878925927
theorem cGet_eq:PySem.code "special-get-raises" = cGet:=by decide +kernel
theorem cTwice_eq:PySem.code "comprehension-iter-twice" = cTwice:=by decide +kernel
theorem cFstr_eq:PySem.code "fstring-hands-on-the-str" = cFstr:=by decide +kernel
noncomputable def rowF (f:String→Bool) (b1 b2 b3:Bool) (r:String):Bool :=
  @Bool.rec (fun _=>Bool) (@Bool.rec (fun _=>Bool) (@Bool.rec (fun _=>Bool) (f r) b3 (Nat.beq (PySem.W.S.codeS r) cFstr)) b2 (Nat.beq (PySem.W.S.codeS r) cTwice)) b1 (Nat.beq (PySem.W.S.codeS r) cGet)
theorem rowF_eq (f:String→Bool):rowF f (f "special-get-raises") (f "comprehension-iter-twice") (f "fstring-hands-on-the-str")=f:=by
  funext r
  unfold rowF
  have key : ∀ (s:String) (n:Nat),PySem.code s=n→Nat.beq (PySem.W.S.codeS r) n=true→r=s:=fun s n hs h=>by
    rw [← PySem.W.S.code_S] at h
    exact PySem.code_inj _ _ ((Nat.eq_of_beq_eq_true h).trans hs.symm)
  cases h1:Nat.beq (PySem.W.S.codeS r) cGet with
  | true=>exact congrArg f (key _ _ cGet_eq h1).symm
  | false =>
    cases h2:Nat.beq (PySem.W.S.codeS r) cTwice with
    | true=>exact congrArg f (key _ _ cTwice_eq h2).symm
    | false =>
      cases h3:Nat.beq (PySem.W.S.codeS r) cFstr with
      | true=>exact congrArg f (key _ _ cFstr_eq h3).symm
      | false=>rfl
noncomputable def wR (w:World) (b1 b2 b3:Bool):World:={ w with params:={ w.params with followText:=rowF w.params.followText b1 b2 b3 } }
theorem wR_eq (w:World):wR w (w.params.followText "special-get-raises") (w.params.followText "comprehension-iter-twice") (w.params.followText "fstring-hands-on-the-str")=w:=by
  unfold wR
  rw [rowF_eq]
set_option genInjectivity false in
set_option genSizeOfSpec false in
structure Ws where
  w:World
  b1:Bool
  b2:Bool
  b3:Bool
noncomputable def Ws.W (w:Ws):World:=wR w.w w.b1 w.b2 w.b3
end Mine
namespace Mine
open PySem PySem.W PySem.W.X PyProof.Rows PySem.Calls
noncomputable def VV (w:Ws):Stat:=⟨pT,w.W,ktop pT w.W.params⟩
noncomputable abbrev FinIs (V:Stat) (A:Around) (R:Result→Shared→Prop):PySem.Fin→Shared→Prop:=fun fin s'=>match fin with | .done f=>R (.ok f) s' | .again c'=>c'.quiet=true∧codeAny (model V.prog V.w) A c' R s'
noncomputable def endQ (R:Result→Shared→Prop) (r:Rz) (s:Shared):Prop:=match r with
  | .ok f=>R (.ok f) s
  | .error e=>R (.error e) s
  | .go _=>True
theorem spec_code {V:Stat} {D:Nat} {c:Code} {pre:List En} {post:Out→Post}
    (h : ∀ (A:Around) (s:Shared) (R:Result→Shared→Prop),A.handled=none→Low A D→s.gens = #[]→Top V.kt s.heap→L≤s.heap.objs.size→Holds s.heap pre→(∀ p ∈ pre,V.kt.get p.1=none) →
      (∀ (t x:Nat) (v:Nat→Nat) (h':Heap),h'.objs.size=x+L→s.heap.objs.size≤x+L→Top V.kt h'→(∀ b ob,s.heap.get? b=some ob→b ∉ pre.map (·.1)→h'.get? b=some ob) →
        Holds h' (zipMod pre (post ⟨t-1,x,v,fun _=>noO⟩).mod)→Holds h' (post ⟨t-1,x,v,fun _=>noO⟩).new→(∀ p ∈ (post ⟨t-1,x,v,fun _=>noO⟩).new,s.heap.objs.size≤p.1)→((post ⟨t-1,x,v,fun _=>noO⟩).new.map (·.1)).Nodup→endQ R (post ⟨t-1,x,v,fun _=>noO⟩).r ⟨h',s.gens,s.drawn,t,s.os⟩) →
      codeAny (model V.prog V.w) A c R s):Spec V D c pre post:=by
  intro A s R hA hD hg hT hL hH hN hK hG
  refine codeAny_toks (h A s _ hA hD hg.1 hT hL hH hK fun t x v h' a1 a2 a3 a4 a5 a6 a7 a8 => ?_)
  have key:s.toks≤t→endR V A R (post ⟨t-1,x,v,fun _=>noO⟩).r ⟨h',s.gens,s.drawn,t,s.os⟩:=fun ht=>by
    have hp:=hg.2
    have e:Out.t ⟨t-1,x,v,fun _=>noO⟩=t:=Nat.succ_pred_eq_of_pos (Nat.lt_of_lt_of_le hp ht)
    have:=hG ⟨t-1,x,v,fun _=>noO⟩ h' a1 a2 a3 a4 a5 a6 a7 a8
    rw [e] at this
    exact this
  revert key
  cases (post ⟨t-1,x,v,fun _=>noO⟩).r with
  | ok f=>exact fun key=>key
  | error e=>exact fun key=>key
  | go c=>exact fun _=>trivial
theorem spec_builtin {V:Stat} {D:Nat} {id:String} {args:Args} {b:Builtin} {pre:List En} {post:Out→Post} (hq:plainId id=true) (hb:entryFor table id=some b)
    (h : ∀ (A:Around) (s:Shared) (R:Result→Shared→Prop),A.handled=none→s.gens = #[]→Top V.kt s.heap→L≤s.heap.objs.size→Holds s.heap pre→(∀ p ∈ pre,V.kt.get p.1=none) →
      (∀ (t x:Nat) (v:Nat→Nat) (h':Heap),h'.objs.size=x+L→s.heap.objs.size≤x+L→Top V.kt h'→(∀ b ob,s.heap.get? b=some ob→b ∉ pre.map (·.1)→h'.get? b=some ob) →
        Holds h' (zipMod pre (post ⟨t-1,x,v,fun _=>noO⟩).mod)→Holds h' (post ⟨t-1,x,v,fun _=>noO⟩).new→(∀ p ∈ (post ⟨t-1,x,v,fun _=>noO⟩).new,s.heap.objs.size≤p.1)→((post ⟨t-1,x,v,fun _=>noO⟩).new.map (·.1)).Nodup→endQ R (post ⟨t-1,x,v,fun _=>noO⟩).r ⟨h',s.gens,s.drawn,t,s.os⟩) →
      wpAny (model V.prog V.w) A.in1 (b args) (FinIs V A R) (fun e s'=>R (.error e) s') s):Spec V D (.builtin id args) pre post:=by
  refine spec_code fun A s R hA hD hg hT hL hH hK hG => ?_
  refine codeAny_builtin hb ?_
  rw [Around.under_plainId hq args]
  exact h A s R hA hg hT hL hH hK hG
theorem zip_self : ∀ (pre:List En),zipMod pre (pre.map (·.2))=pre
  | []=>rfl
  | p::pre=>by
    show (p.1,p.2)::zipMod pre (pre.map (·.2))=_
    rw [zip_self pre]
theorem spec_still {V:Stat} {D:Nat} {id:String} {args:Args} {b:Builtin} {pre:List En} (val:Nat→Value) (hq:plainId id=true) (hb:entryFor table id=some b)
    (h : ∀ (A:Around) (s:Shared) (R:Result→Shared→Prop),A.handled=none→s.gens = #[]→Top V.kt s.heap→Holds s.heap pre→(∀ t τ,R (.ok (.ret (val τ))) { s with toks:=t }) →
      wpAny (model V.prog V.w) A.in1 (b args) (FinIs V A R) (fun e s'=>R (.error e) s') s):Spec V D (.builtin id args) pre (fun o=>⟨.ok (.ret (val (o.v 0))),pre.map (·.2),[]⟩):=by
  refine spec_builtin hq hb fun A s R hA hg hT hL hH hK hG=>h A s R hA hg hT hH fun t τ => ?_
  refine hG t (s.heap.objs.size-L) (fun _=>τ) s.heap (by show _=s.heap.objs.size-L+L; omega) (by show _≤s.heap.objs.size-L+L; omega) hT (fun _ _ e _=>e) ?_ (fun p hp=>(nomatch hp)) (fun p hp=>(nomatch hp)) List.nodup_nil
  show Holds s.heap (zipMod pre (pre.map (·.2)))
  rw [zip_self]; exact hH
theorem spec_gives {V:Stat} {D:Nat} {id:String} {args:Args} {b:Builtin} {pre:List En} {m:Made} (val:Nat→Value) (hq:plainId id=true) (hb:entryFor table id=some b) (g:Gives (b args) m)
    (hm : ∀ (Q:Value→Shared→Prop) (s:Shared),(∀ t τ,Q (val τ) { s with toks:=t })→m.post Q s):Spec V D (.builtin id args) pre (fun o=>⟨.ok (.ret (val (o.v 0))),pre.map (·.2),[]⟩) :=
  spec_still val hq hb fun A s R _ _ _ _ h=>g V.prog V.w A R s (hm _ s h)
theorem r_str_eq {w:Ws} {D:Nat} (x y:Str) (t u:Tok) (b:Bool) (h:(x.cps.toList == y.cps.toList)=b):Spec (VV w) D (.builtin "str.__eq__" ⟨[.str x t,.str y u],[]⟩) [] (fun _=>⟨.ok (.ret (.bool b)),[],[]⟩) :=
  spec_gives (m := .val (.bool b)) (fun _ => .bool b) (by decide +kernel) entry_str_eq (by subst h; exact gives_str_eq x y t u) (fun Q s h=>h s.toks 0)
noncomputable def k_r_str_eq {w:Ws} {D:Nat}:=fun a1 a2 a3 a4 a5 a6=>kOf (r_str_eq (w:=w) (D:=D) a1 a2 a3 a4 a5 a6)
noncomputable abbrev lstO (vs:List Value) (ep:Nat):Obj:={ cls := .type "list",dict:=none,data := .seq ⟨vs⟩ ep,slots := #[] }
theorem r_len {w:Ws} {D:Nat} (a:Addr) (vs:List Value) (ep:Nat) (hz:vs.length < 2^60):Spec (VV w) D (.builtin "len" ⟨[.ref a],[]⟩) [(a,lstO vs ep)] (fun o=>⟨.ok (.ret (.int vs.length (o.v 0))),[lstO vs ep],[]⟩):=by
  refine spec_still (fun τ => .int vs.length τ) (by decide +kernel) entry_len fun A s R _ _ _ hH h => ?_
  have ho:s.heap.get? a=some (lstO vs ep):=hH _ (.head _)
  have hl:s.heap.IsList a ⟨vs⟩:=⟨_,ho,rfl,ep,rfl⟩
  unfold Builtin.«len»
  refine wpAny_bind (m:=oneArg "len" _) (wpAny_pure ?_)
  refine wpAny_bind (m:=callSpecial? (.ref a) (Str.ofString "__len__")) (wpAny_callSpecial?_slot (name:=Str.ofString "__len__") hl.typeIs slot_list_len
    (wpAny_call_entry slot_list_len hl.typeIs entry_list_len ?_ (args_list_len _)))
  · show wpAny _ _ (do retInt (← seqSize a)) _ _ s
    unfold seqSize
    refine wpAny_bind (wpAny_bind (wpAny_load ho ?_))
    refine wpAny_pure (wpAny_bind (wpAny_mkInt (wpAny_pure ⟨_,rfl,?_⟩)))
    refine wpAny_bind (wpAny_holding (wpAny_pure ?_))
    refine wpAny_bind (wpAny_letGo ?_)
    show wpAny _ _ (if ((vs.length:Nat):Int) < 0 then _ else _) _ _ _
    rw [if_neg (by omega)]
    show wpAny _ _ (if ((vs.length:Nat):Int) ≥ 2^63 then _ else _) _ _ _
    rw [if_neg (by omega)]
    exact wpAny_bind (wpAny_mkInt (wpAny_pure (h _ _)))
noncomputable def k_r_len {w:Ws} {D:Nat}:=fun a1 a2 a3 a4=>kOf (r_len (w:=w) (D:=D) a1 a2 a3 a4)
theorem top_update {kt:KT} {h:Heap} {a:Addr} {f:Obj→Obj} (T:Top kt h) (hk:kt.get a=none):Top kt (h.update a f):=fun b o e=>by
  have:a≠b:=fun z=>by rw [z,e] at hk; cases hk
  rw [Heap.get?_update_other h f this]; exact T b o e
theorem spec_one {V:Stat} {D:Nat} {id:String} {args:Args} {b:Builtin} {a:Addr} {o:Obj} (f:Obj→Obj) (val:Nat→Value) (hq:plainId id=true) (hb:entryFor table id=some b) (hf:(f o).isFreed=false)
    (h : ∀ (A:Around) (s:Shared) (R:Result→Shared→Prop),A.handled=none→s.gens = #[]→Top V.kt s.heap→s.heap.get? a=some o→(∀ t τ,R (.ok (.ret (val τ))) { s with heap:=s.heap.update a f,toks:=t }) →
      wpAny (model V.prog V.w) A.in1 (b args) (FinIs V A R) (fun e s'=>R (.error e) s') s):Spec V D (.builtin id args) [(a,o)] (fun ou=>⟨.ok (.ret (val (ou.v 0))),[f o],[]⟩):=by
  refine spec_builtin hq hb fun A s R hA hg hT hL hH hK hG => ?_
  have ho:s.heap.get? a=some o:=hH _ (.head _)
  refine h A s R hA hg hT ho fun t τ => ?_
  refine hG t (s.heap.objs.size-L) (fun _=>τ) (s.heap.update a f) (by rw [Heap.size_after_update]; show _=s.heap.objs.size-L+L; omega) (by show _≤s.heap.objs.size-L+L; omega) (top_update hT (hK _ (.head _))) (fun b ob e hb => ?_) ?_ (fun p hp=>(nomatch hp)) (fun p hp=>(nomatch hp)) List.nodup_nil
  · have:a≠b:=fun z=>hb (by rw [← z]; exact .head _)
    rw [Heap.get?_update_other _ f this]; exact e
  · intro p hp
    have:p=(a,f o):=by simpa [zipMod] using hp
    subst this
    exact Heap.get?_update_self f ho hf
theorem erase0 (v:Value) (vs:List Value):(⟨v::vs⟩:Array Value).eraseIdxIfInBounds 0=⟨vs⟩:=by
  simp [Array.eraseIdxIfInBounds,List.eraseIdx_toArray]
noncomputable def pop0 (o:Obj):Obj:=Obj.mapSeq (·.eraseIdxIfInBounds 0) o
theorem pop0_is (v:Value) (vs:List Value) (ep:Nat):pop0 (lstO (v::vs) ep)=lstO vs (ep+1):=by
  unfold pop0 Obj.mapSeq
  simp only [erase0]
  have : ¬ (vs.length == (v::vs).length)=true:=by simp
  simp [this]
theorem r_pop {w:Ws} {D:Nat} (a:Addr) (v:Value) (vs:List Value) (ep:Nat) (u:Tok) (hz:vs.length < 2^20):Spec (VV w) D (.builtin "list.pop" ⟨[.ref a,.int 0 u],[]⟩) [(a,lstO (v::vs) ep)] (fun _=>⟨.ok (.ret v),[lstO vs (ep+1)],[]⟩):=by
  have key:=spec_one (V:=VV w) (D:=D) (id := "list.pop") (args:=⟨[.ref a,.int 0 u],[]⟩) (a:=a) (o:=lstO (v::vs) ep) pop0 (fun _=>v) (by decide +kernel) (entryFor_of_tree (by kernel_rfl):entryFor table "list.pop" = some Builtin.«list.pop») (by rw [pop0_is]; rfl) fun A s R _ _ _ ho h => ?_
  · rw [pop0_is] at key; exact key
  · obtain ⟨hp,g,d,tk,os⟩:=s
    have hl:=ho
    have hz1:(⟨v::vs⟩:Array Value).size≤sizeLine:=by rw [sizeLine_eq]; simp; omega
    have hz2:((⟨v::vs⟩:Array Value).eraseIdxIfInBounds 0).size≤sizeLine+1:=by rw [erase0,sizeLine_eq]; simp; omega
    have e:((seqIndex? 0 (⟨v::vs⟩:Array Value).size).bind fun k=>Option.map (fun x=>(k,x)) (⟨v::vs⟩:Array Value)[k]?)=some (0,v):=by
      simp [seqIndex?]
    wp_walk
    rw [e]
    wp_walk using (wpAny_updateSeq hl rfl (hz:=hz1) (_hz':=hz2))
    exact h _ 0
noncomputable def k_r_pop {w:Ws} {D:Nat}:=fun a1 a2 a3 a4 a5 a6=>kOf (r_pop (w:=w) (D:=D) a1 a2 a3 a4 a5 a6)
theorem r_int_lt {w:Ws} {D:Nat} (x y:Int) (t u:Tok) (b:Bool) (h:decide (x < y)=b):Spec (VV w) D (.builtin "int.__lt__" ⟨[.int x t,.int y u],[]⟩) [] (fun _=>⟨.ok (.ret (.bool b)),[],[]⟩):=by
  refine spec_still (fun _ => .bool b) (by decide +kernel) (entryFor_of_tree (by kernel_rfl):entryFor table "int.__lt__" = some Builtin.«int.__lt__») fun A s R _ _ _ _ h' => ?_
  obtain ⟨hp,g,d,tk,os⟩:=s
  wp_walk
  subst h
  exact h' _ 0
noncomputable def k_r_int_lt {w:Ws} {D:Nat}:=fun a1 a2 a3 a4 a5 a6=>kOf (r_int_lt (w:=w) (D:=D) a1 a2 a3 a4 a5 a6)
theorem str_app (a b:List Nat):(⟨⟨a⟩⟩++⟨⟨b⟩⟩:Str)=⟨⟨a++b⟩⟩:=by
  show Str.mk (Array.mk a++Array.mk b)=_
  congr 1
  apply Array.ext'
  simp
theorem str_len (a:List Nat):(⟨⟨a⟩⟩:Str).length=a.length:=rfl
theorem r_str_add {w:Ws} {D:Nat} (x y:List Nat) (t u:Tok) (hz:x.length+y.length≤2^20):Spec (VV w) D (.builtin "str.__add__" ⟨[.str ⟨⟨x⟩⟩ t,.str ⟨⟨y⟩⟩ u],[]⟩) [] (fun o=>⟨.ok (.ret (.str ⟨⟨x++y⟩⟩ (o.v 0))),[],[]⟩):=by
  refine spec_gives (fun τ => .str ⟨⟨x++y⟩⟩ τ) (by decide +kernel) entry_str_add (gives_str_add ⟨⟨x⟩⟩ ⟨⟨y⟩⟩ t u) fun Q s h => ?_
  rw [str_len,str_len]
  by_cases hx:x=[]
  · subst hx
    simpa [Made.post] using h s.toks u
  · have hx':(x.length == 0)=false:=by simpa using hx
    rw [hx']
    by_cases hy:y=[]
    · subst hy
      simpa [Made.post] using h s.toks t
    · have hy':(y.length == 0)=false:=by simpa using hy
      rw [hy',str_app]
      refine ⟨?_,h _ _⟩
      show (⟨⟨x++y⟩⟩:Str).length≤sizeLine
      rw [str_len,List.length_append,sizeLine_eq]
      omega
noncomputable def k_r_str_add {w:Ws} {D:Nat}:=fun a1 a2 a3 a4 a5=>kOf (r_str_add (w:=w) (D:=D) a1 a2 a3 a4 a5)
end Mine
namespace Mine
open PySem PySem.W PySem.W.X
noncomputable abbrev sDict:=PySem.W.SL.s14018661285674007319x4
noncomputable abbrev sList:=PySem.W.SL.s9222952809800978799x4
noncomputable abbrev sCell:=PySem.W.SL.s15660640913423913556x4
noncomputable abbrev sCode:=PySem.W.SL.s5856160107412720595x4
noncomputable abbrev sFunc:=PySem.W.SL.s7174869446012820540x8
noncomputable def inst (C d:Addr):Obj:=⟨.ref C,some d,.plain,⟨[]⟩⟩
noncomputable def lst (vs:List Value) (ep:Nat):Obj:=⟨.type sList,none,.seq ⟨vs⟩ ep,⟨[]⟩⟩
noncomputable def dct (es:List DictEntry) (n:Nat):Obj:=⟨.type sDict,none,.dict ⟨es⟩ n,⟨[]⟩⟩
noncomputable def cellO (v:Value):Obj:=⟨.type sCell,none,.cell (some v),⟨[]⟩⟩
noncomputable def lexDict (P:Params) (τ:Nat→Nat) (ins pb:Value):Obj:=dct [dEnt P [108,105,110,101,110,111] (τ 0) (.int 1 (τ 1)),dEnt P [105,110,115,116,114,101,97,109] (τ 2) ins,dEnt P [119,104,105,116,101,115,112,97,99,101] (τ 3) (.str ⟨⟨[10,9,13,32]⟩⟩ (τ 4)),dEnt P [112,117,115,104,98,97,99,107] (τ 5) pb] 4
noncomputable def strDict (P:Params) (τ:Nat→Nat) (pb fn:Value):Obj:=dct [dEnt P [108,105,110,101,110,111] (τ 0) (.int 1 (τ 1)),dEnt P [105,110,115,116,114,101,97,109] (τ 2) .none,dEnt P [119,104,105,116,101,115,112,97,99,101] (τ 3) (.str ⟨⟨[10,9,13,32]⟩⟩ (τ 4)),dEnt P [112,117,115,104,98,97,99,107] (τ 5) pb,dEnt P [114,101,97,100] (τ 6) fn] 5
noncomputable def assignValue:Stmt→Expr
  | .Assign _ v _=>v
  | _ => .Name ⟨⟨[]⟩⟩ ⟨0,0,0,0⟩
noncomputable def lamArgs:Expr→Arguments
  | .Lambda a _ _ _=>a
  | _=>{ posonlyargs:=[],args:=[],vararg:=none,kwonlyargs:=[],kw_defaults:=[],kwarg:=none,defaults:=[] }
noncomputable def lamBody:Expr→Expr
  | .Lambda _ b _ _=>b
  | e=>e
noncomputable def lamScope:Expr→Scope
  | .Lambda _ _ s _=>s
  | _=>{ kind := .module,names:=[],isGenerator:=false,isCoroutine:=false,more:=[] }
noncomputable def theLam (p:Program):Expr:=assignValue (nthS (fBody (stm p 22)) 2)
noncomputable def lamFn (p:Program) (τ:Nat→Nat) (ce co ct:Addr):Obj:=⟨.type sFunc,none,.func { name:=⟨⟨[60,108,97,109,98,100,97,62]⟩⟩,qualname:=⟨⟨[95,108,97,119,95,108,101,120,101,114,46,60,108,111,99,97,108,115,62,46,60,108,97,109,98,100,97,62]⟩⟩,params:=lamArgs (theLam p),body := .expr (lamBody (theLam p)),scope:=lamScope (theLam p),globals:=3,closure:=[(⟨⟨[115,105,103,110,115]⟩⟩,ce)],defaults := .none,kwdefaults := .none,doc := .none,pyModule := .str ⟨⟨[108,97,119,95,112,101,48,50,55,52,95,48,49]⟩⟩ (τ 7),annotations:=none,code := .ref co,closureTuple := .ref ct,builtins:=0 },⟨[]⟩⟩
noncomputable def lamCode (τ:Nat→Nat) (w1 w2 w3:Addr) (n1 n2:Value):Obj:=⟨.type sCode,none,.fields ⟨[.str ⟨⟨[60,108,97,109,98,100,97,62]⟩⟩ (τ 8),.str ⟨⟨[95,108,97,119,95,108,101,120,101,114,46,60,108,111,99,97,108,115,62,46,60,108,97,109,98,100,97,62]⟩⟩ (τ 9),.str ⟨⟨[47,99,108,97,105,109,47,99,117,116,46,112,121]⟩⟩ (τ 10),n1,.int 1 0,.int 0 0,.int 0 0,.int 19 0,.ref w1,.bool true,.int 276 0,.ref w2,.none,.none,.none,.ref w3,n2,n1,.str ⟨⟨[47,99,108,97,105,109,47,99,117,116,46,112,121]⟩⟩ (τ 11)]⟩,⟨[]⟩⟩
noncomputable def ktLt (n:Nat) (t:KT):Nat→Nat→Bool := @KT.rec (fun _=>Nat→Nat→Bool) (fun _ _=>true) (fun v _ _ il ir s b =>
  @Bool.rec (fun _=>Bool) false (@Bool.rec (fun _=>Bool) false (ir (2*s) (2*s+b)) (il (2*s) (s+b))) (@Option.rec Obj (fun _=>Bool) true (fun _=>Nat.blt b n) v)) t
theorem ktLt_spec {n:Nat} : ∀ {t:KT} {s b:Nat},ktLt n t s b=true → ∀ {j:Nat} {o:Obj},t.get j=some o→s*j+b < n
  | .nil,_,_,_,_,_,e=>by cases e
  | .node v l r,s,b,H,j,o,e=>by
    have H : @Bool.rec (fun _=>Bool) false (@Bool.rec (fun _=>Bool) false (ktLt n r (2*s) (2*s+b)) (ktLt n l (2*s) (s+b))) (@Option.rec Obj (fun _=>Bool) true (fun _=>Nat.blt b n) v)=true:=H
    have h1 : @Option.rec Obj (fun _=>Bool) true (fun _=>Nat.blt b n) v=true:=by
      cases q:(@Option.rec Obj (fun _=>Bool) true (fun _=>Nat.blt b n) v) with
      | true=>rfl
      | false=>rw [q] at H; cases H
    rw [h1] at H
    have h2:ktLt n l (2*s) (s+b)=true:=by
      cases q:ktLt n l (2*s) (s+b) with
      | true=>rfl
      | false =>
        have H : @Bool.rec (fun _=>Bool) false (ktLt n r (2*s) (2*s+b)) (ktLt n l (2*s) (s+b))=true:=H
        rw [q] at H; cases H
    have h3:ktLt n r (2*s) (2*s+b)=true:=by
      have H : @Bool.rec (fun _=>Bool) false (ktLt n r (2*s) (2*s+b)) (ktLt n l (2*s) (s+b))=true:=H
      rw [h2] at H; exact H
    rw [KT.get_node] at e
    by_cases h0:j=0
    · rw [if_pos h0] at e
      subst e
      have:Nat.blt b n=true:=h1
      have:=PySem.W.X.blt_true this
      rw [h0]; lia
    · rw [if_neg h0] at e
      by_cases p:j % 2=1
      · rw [if_pos p] at e
        have z:=ktLt_spec h2 e
        have:2*s*(j / 2)+(s+b)=s*j+b:=by
          have hj:j=2*(j / 2)+1:=by lia
          generalize j / 2=q at hj
          subst hj
          rw [Nat.mul_add,Nat.mul_one,← Nat.mul_assoc,Nat.mul_comm s 2]; lia
        lia
      · rw [if_neg p] at e
        have z:=ktLt_spec h3 e
        have:2*s*(j / 2-1)+(2*s+b)=s*j+b:=by
          have hj:j=2*(j / 2-1)+2:=by lia
          generalize j / 2-1=q at hj
          subst hj
          rw [Nat.mul_add,← Nat.mul_assoc,Nat.mul_comm s 2]; lia
        lia
theorem kt_ok (p:Program) (P:Params):ktLt 331 (ktop p P) 1 0=true:=by kernel_rfl
theorem kt_low (p:Program) (P:Params) : ∀ a o,(ktop p P).get a=some o→a < L:=fun a o e=>by
  have:=ktLt_spec (kt_ok p P) e
  show a < 331
  lia
set_option genInjectivity false in
set_option genSizeOfSpec false in
structure PlanOk (V:Stat) where
  plan:Plan
  ok:Oblig V plan
noncomputable def isBlk:Code→Bool
  | .block _ _=>true
  | _=>false
theorem specC_of {V:Stat} {D:Nat} {c:Code} {pre:List En} {post:Out→Post} (S:Spec V D c pre post) (hb:isBlk c=false):SpecC V D c pre post:=by
  unfold SpecC
  split
  · cases hb
  · exact S
noncomputable def useK {V:Stat} {D:Nat} {c:Code} {pre:List En} {post:Out→Post} (S:Spec V D c pre post) (h:Nat) (idx:List Nat) (next:Out→PlanOk V) (hb:isBlk c=false:=by rfl):PlanOk V :=
  ⟨.use h D c idx pre post fun o=>(next o).plan,⟨specC_of S hb,fun o=>(next o).ok⟩⟩
noncomputable def useQ {V:Stat} (k:K V) (h:Nat) (idx:List Nat) (next:Out→PlanOk V) (hb:isBlk k.c=false:=by rfl):PlanOk V :=
  useK k.S h idx next hb
noncomputable def useB {V:Stat} {D:Nat} {stmts:List Stmt} {env:Env} {pre:List En} {post:Out→Post} (S:SpecB V D stmts env pre post) (h:Nat) (idx:List Nat) (next:Out→PlanOk V):PlanOk V :=
  ⟨.use h D (.block stmts env) idx pre post fun o=>(next o).plan,⟨S,fun o=>(next o).ok⟩⟩
noncomputable def finK {V:Stat} (h:Nat) (v:Nat→Nat) (ni:List Nat):PlanOk V:=⟨.fin h v ni,trivial⟩
theorem spec_run {w:Ws} {D:Nat} {c:Code} {pre:List En} {post:Out→Post} (ids:List Nat) (fuel:Nat) (P:Nat→Nat→PlanOk (VV w)) (hids:ids.length=pre.length)
    (h : ∀ x t,start (VV w) ⟨pre,ids,post⟩ fuel (P x t).plan c D x t=(start (VV w) ⟨pre,ids,post⟩ fuel (P x t).plan c D x t).dup):Spec (VV w) D c pre post :=
  spec_of (kt_low _ _) ids hids fuel (fun x t=>(P x t).plan) (fun x t=>(P x t).ok) fun x t=>Chk.ok_of_dup (h x t)
noncomputable abbrev A (y:Nat):Nat:=Nat.add y L
noncomputable abbrev ch (c t:Nat):Value := .str ⟨⟨[c]⟩⟩ t
end Mine
namespace Mine
open PySem PySem.W PySem.W.X PyProof.Rows PySem.Calls
section
variable {prog:Program} {w:World} {A:Around} {E:Value→Shared→Prop} {s:Shared}
theorem codeType_codes {T newId initId:String} {Bi:Builtin} {args:List Value} {Q Q₁:Value→Shared→Prop} (ft:TypeCalled T newId initId)
    (hct:checkTypeCall T ⟨args,[]⟩=pure ()) (entryI:entryFor table initId=some Bi)
    (hnew:codeAny (model prog w) A.in1 (.call (.builtin newId) ⟨.type T::args,[]⟩) (wants Q₁ E) s)
    (hnext : ∀ obj s₁,Q₁ obj s₁→s₁.TypeIs obj T∧argsOk initId ⟨obj::args,[]⟩ ∧
      wpAny (model prog w) A.in1.in1 (Bi ⟨obj::args,[]⟩)
        (fun fin s'=>match fin with | .done f=>wants (fun r s₂=>r = .none∧Q obj s₂) E (.ok f) s' | .again c'=>c'.quiet=true∧codeAny (model prog w) A.in1 c' (wants (fun r s₂=>r = .none∧Q obj s₂) E) s')
        (fun e s'=>wants (fun r s₂=>r = .none∧Q obj s₂) E (.error e) s') s₁) :
    codeAny (model prog w) A (.call (.type T) ⟨args,[]⟩) (wants Q E) s:=by
  obtain ⟨c,tl,hmro⟩:=ft.mro
  have hmade:=ft.made
  have hsub:=ft.sub
  refine codeAny_of_tree ?_
  show wpAny _ _ (callAny (.type T) _) _ _ _
  refine wpAny_pure ⟨Code.quiet_builtin _ (by decide +kernel),codeAny_builtin F.entry_type_call ?_⟩
  rw [Around.under_plain (weight_type_call_type T args []) rfl]
  have h1:=ft.notType
  have h2:=ft.canCreate
  repeat (any_goals (first | assumption | wp_step))
  refine codeAny_mono hnew fun r s₁ hr => ?_
  cases r with
  | error e=>exact hr
  | ok fl =>
    cases fl with
    | ret obj =>
      obtain ⟨hT,hok,hsi⟩:=hnext _ _ hr
      have hli:=ft.init.lookup
      have hbi:=ft.init.bind obj
      repeat (any_goals (first | assumption | wp_step))
      refine codeAny_mono (codeAny_call_builtin ft.init.plain entryI (ft.init.check _ _ _ _ _ _ _ _ hT hok hsi)) fun r₂ s₂ hr₂ => ?_
      cases r₂ with
      | error e=>exact hr₂
      | ok fl₂ =>
        cases fl₂ with
        | ret r =>
          obtain ⟨rfl,hq⟩:=hr₂
          repeat (any_goals (first | assumption | wp_step))
        | _=>exact hr₂.elim
    | _=>exact hr.elim
theorem code_list_str {Q:Value→Shared→Prop} (hh:A.handled=none) (x:Str) (t:Tok)
    (hQ : ∀ h' tk acc' c',(∀ b o,s.heap.get? b=some o→h'.get? b=some o) →
      h'.get? s.heap.objs.size=some { cls := .type "list",dict:=none,data := .seq acc' c',slots := #[] }→ItemsOf (SignAt x) acc' x.cps.size→Q (.ref s.heap.objs.size) { s with heap:=h',toks:=tk }) (hn:x.cps.size≤sizeLine) :
    codeAny (model prog w) A (.call (.type "list") ⟨[.str x t],[]⟩) (wants Q E) s:=by
  refine codeType_codes (Q₁:=fun obj s₁=>obj = .ref s.heap.objs.size∧s₁={ s with heap:=s.heap.push { cls := .type "list",data := .seq #[] } }) F.called_list (F.typeCall_list_1 _) F.entry_list_init
    (code_list_new _ ⟨rfl,rfl⟩) fun obj s₁ h₁ => ?_
  obtain ⟨rfl,rfl⟩:=h₁
  have hS:(s.heap.push { cls := .type "list",data := .seq #[] }).get? s.heap.objs.size=some { cls := .type "list",data := .seq #[] }:=Heap.get?_push_size _ rfl
  refine ⟨⟨_,hS,rfl⟩,F.args_list_init_2 _ _,wpAny_list_init_str (A:=A.in1) (hn:=hn) hh x t _ hS fun h' tk acc' c' hk hS' hacc => ?_⟩
  exact ⟨rfl,hQ h' tk acc' c' (fun b o e=>hk b o (Nat.ne_of_lt (Heap.lt_size e)) (Heap.get?_push_of_some _ e)) hS' hacc⟩
end
noncomputable def sgs (cs:List Nat) (v:Nat→Nat):Nat→List Value := @List.rec Nat (fun _=>Nat→List Value) (fun _=>[]) (fun c _ ih i=>Value.str ⟨⟨[c]⟩⟩ (v i)::ih (Nat.succ i)) cs
theorem sgs_cons (c:Nat) (cs:List Nat) (v:Nat→Nat) (i:Nat):sgs (c::cs) v i=Value.str ⟨⟨[c]⟩⟩ (v i)::sgs cs v (i+1):=rfl
theorem sgs_of : ∀ (cs:List Nat) (acc:List Value) (v:Nat→Nat) (i:Nat),acc.length=cs.length→(∀ j x,acc[j]? = some x → ∃ c,cs[j]? = some c∧x=Value.str ⟨⟨[c]⟩⟩ (v (i+j)))→acc=sgs cs v i
  | [],[],_,_,_,_=>rfl
  | c::cs,a::acc,v,i,hl,h=>by
    obtain ⟨c',e,ea⟩:=h 0 a rfl
    cases e
    rw [sgs_cons,ea]
    congr 1
    exact sgs_of cs acc v (i+1) (by simpa using hl) fun j x hj=>by
      obtain ⟨c',e,ex⟩:=h (j+1) x (by simpa using hj)
      exact ⟨c',by simpa using e,by rw [ex,show i+1+j=i+(j+1) by lia]⟩
theorem r_list_str {w:Ws} {D:Nat} (x:List Nat) (t:Tok) (hz:x.length≤2^20) :
    Spec (VV w) D (.call (.type sList) ⟨[.str ⟨⟨x⟩⟩ t],[]⟩) [] (fun o=>⟨.ok (.ret (.ref (Nat.add (o.v 0) L))),[],[(Nat.add (o.v 0) L,lstO (sgs x o.v 2) (o.v 1))]⟩):=by
  refine spec_code fun A s R hA hD hg hT hL hH hK hG => ?_
  have main:codeAny (model (VV w).prog (VV w).w) A (.call (.type "list") ⟨[.str ⟨⟨x⟩⟩ t],[]⟩) (wants (fun v s'=>R (.ok (.ret v)) s') (fun e s'=>R (.error e) s')) s:=by
    refine code_list_str hA ⟨⟨x⟩⟩ t (fun h' tk acc c' hk hS hi => ?_) (by rw [sizeLine_eq]; show x.length≤_; lia)
    have hlt:s.heap.objs.size < h'.objs.size:=Heap.lt_size hS
    have tok : ∀ j:Nat,∃ u:Nat,∀ y,acc[j]? = some y → ∃ c,x[j]? = some c∧y=Value.str ⟨⟨[c]⟩⟩ u:=fun j=>by
      cases q:acc[j]? with
      | none=>exact ⟨0,fun y e=>by cases e⟩
      | some y =>
        obtain ⟨c,u,e1,e2⟩:=hi.2 j y q
        refine ⟨u,fun y' e => ?_⟩
        cases e
        exact ⟨c,by simpa using e1,e2⟩
    obtain ⟨v,hv⟩:=Classical.axiomOfChoice tok
    have e:=sgs_of x acc.toList (fun n=>match n with | 0=>s.heap.objs.size-L | 1=>c' | n+2=>v n) 2 (by rw [Array.length_toList]; exact hi.1) fun j y hj=>by
      obtain ⟨c,e1,e2⟩:=hv j y (by simpa using hj)
      refine ⟨c,e1,?_⟩
      rw [e2,show 2+j=j+2 by lia]
    have rv:(Value.ref (Nat.add (s.heap.objs.size-L) L)) = .ref s.heap.objs.size:=congrArg _ (Nat.sub_add_cancel hL)
    rw [← rv]
    refine hG tk (h'.objs.size-L) (fun n=>match n with | 0=>s.heap.objs.size-L | 1=>c' | n+2=>v n) h' (by show _=h'.objs.size-L+L; lia) (by show _≤h'.objs.size-L+L; lia) (fun a o e=>hk a o (hT a o e)) (fun b ob e _=>hk b ob e) (fun p hp=>(nomatch hp)) ?_ ?_ ?_
    · intro p hp
      have hp:p ∈ [(Nat.add (s.heap.objs.size-L) L,lstO (sgs x (fun n=>match n with | 0=>s.heap.objs.size-L | 1=>c' | n+2=>v n) 2) c')]:=hp
      rw [← e] at hp
      cases List.mem_singleton.mp hp
      show h'.get? (s.heap.objs.size-L+L)=_
      rw [Nat.sub_add_cancel hL]
      exact hS
    · intro p hp
      cases List.mem_singleton.mp hp
      show _≤s.heap.objs.size-L+L
      lia
    · exact List.nodup_cons.2 ⟨List.not_mem_nil,List.nodup_nil⟩
  refine codeAny_mono main fun r s₁ hr => ?_
  cases r with
  | error e=>exact hr
  | ok f=>cases f with
    | ret v=>exact hr
    | _=>exact hr.elim
noncomputable def k_r_list_str {w:Ws} {D:Nat}:=fun a1 a2 a3=>kOf (r_list_str (w:=w) (D:=D) a1 a2 a3)
noncomputable def app1 (v:Value) (o:Obj):Obj:=Obj.mapSeq (·.push v) o
theorem app1_is (v:Value) (vs:List Value) (ep:Nat):app1 v (lstO vs ep)=lstO (vs++[v]) (ep+1):=by
  unfold app1 Obj.mapSeq
  have e:(⟨vs⟩:Array Value).push v=⟨vs++[v]⟩:=by simp
  simp only [e]
  have : ¬ ((vs++[v]).length == vs.length)=true:=by simp
  simp
theorem r_append {w:Ws} {D:Nat} (a:Addr) (v:Value) (vs:List Value) (ep:Nat) (hz:vs.length < 2^20):Spec (VV w) D (.builtin "list.append" ⟨[.ref a,v],[]⟩) [(a,lstO vs ep)] (fun _=>⟨.ok (.ret .none),[lstO (vs++[v]) (ep+1)],[]⟩):=by
  have key:=spec_one (V:=VV w) (D:=D) (id := "list.append") (args:=⟨[.ref a,v],[]⟩) (a:=a) (o:=lstO vs ep) (app1 v) (fun _ => .none) (by decide +kernel) PySem.F.entry_list_append (by rw [app1_is]; rfl) fun A s R _ _ _ ho h => ?_
  · rw [app1_is] at key; exact key
  · obtain ⟨hp,g,d,tk,os⟩:=s
    have hl:=ho
    have hz1:(⟨vs⟩:Array Value).size≤sizeLine:=by rw [sizeLine_eq]; simp; lia
    have hz2:((⟨vs⟩:Array Value).push v).size≤sizeLine+1:=by rw [sizeLine_eq]; simp; lia
    show wpAny _ _ (updateSeq a (·.push v) >>= fun _=>ret .none) _ _ _
    refine wpAny_bind (wpAny_updateSeq hl rfl (hz:=hz1) (_hz':=hz2) ?_)
    refine wpAny_pure ?_
    exact h _ 0
noncomputable def k_r_append {w:Ws} {D:Nat}:=fun a1 a2 a3 a4 a5=>kOf (r_append (w:=w) (D:=D) a1 a2 a3 a4 a5)
theorem admitted_none (m:Sre.M) (h : ∀ c ∈ m.text.toList,∀ seen,∃ seen',Sre.inSet m.code c m.code.size 5 true seen = .ok (false,seen')) (hl:m.lim≤m.text.size) : ∀ (fuel s:Nat) (seen:Sre.Seen),∃ seen',Sre.M.admitted m fuel s seen = .ok (none,seen')
  | 0,s,seen=>⟨seen,rfl⟩
  | fuel+1,s,seen=>by
    unfold Sre.M.admitted
    by_cases hs:s ≥ m.lim
    · rw [if_pos hs]; exact ⟨seen,rfl⟩
    · rw [if_neg hs]
      have hlt:s < m.text.size:=by lia
      have hm:m.text.getD s 0 ∈ m.text.toList:=by
        rw [Array.getD_eq_getD_getElem?,Array.getElem?_eq_getElem hlt]
        exact Array.getElem_mem_toList hlt
      obtain ⟨seen',e⟩:=h _ hm seen
      rw [e]
      exact admitted_none m h hl fuel (s+1) seen'
noncomputable def okName (l:List Nat):Prop := ∀ c ∈ l,32≤c∧c≠127
noncomputable def okText (l:List Nat):Prop := ∀ c ∈ l,(32≤c∨c=9)∧c < 127
noncomputable def nameCode:Array Nat:=⟨[14,10,4,1,1,22,0,31,16,127,0,13,7,22,0,31,16,127,0,1]⟩
noncomputable def textCode:Array Nat:=⟨[14,14,4,1,1,9,4294966783,0,0,2147483648,0,0,0,0,0,13,11,9,4294966783,0,0,2147483648,0,0,0,0,0,1]⟩
theorem inSet_name (c:Nat) (h:32≤c∧c≠127) (seen:Sre.Seen) : ∃ seen',Sre.inSet nameCode c nameCode.size 5 true seen = .ok (false,seen'):=by
  have h1 : ¬ c≤31:=by lia
  have h2:(c == 127)=false:=by simpa using h.2
  have s1:Sre.inSet nameCode c 20 5 true seen=(if (0≤c && c≤31)=true then .ok (true,seen.add 22) else Sre.inSet nameCode c 19 8 true (seen.add 22)):=by kernel_rfl
  have s2 : ∀ s,Sre.inSet nameCode c 19 8 true s=(if (c == 127)=true then .ok (true,s.add 16) else Sre.inSet nameCode c 18 10 true (s.add 16)):=fun s=>by kernel_rfl
  have s3 : ∀ s,Sre.inSet nameCode c 18 10 true s = .ok (false,s.add 0):=fun s=>by kernel_rfl
  refine ⟨((seen.add 22).add 16).add 0,?_⟩
  show Sre.inSet nameCode c 20 5 true seen=_
  rw [s1,if_neg (by simp [h1]),s2,h2,if_neg (by decide),s3]
theorem inSet_text (c:Nat) (h:(32≤c∨c=9)∧c < 127) (seen:Sre.Seen) : ∃ seen',Sre.inSet textCode c textCode.size 5 true seen = .ok (false,seen'):=by
  have key : ∀ d:Fin 127,(32≤d.val∨d.val=9)→((textCode.getD (5+(1+d.val / 32)) 0).testBit (d.val % 32))=false:=by decide +kernel
  have k:=key ⟨c,h.2⟩ h.1
  refine ⟨(seen.add 9).add 0,?_⟩
  have s1:Sre.inSet textCode c 28 5 true seen=(if (c < 256 && (textCode.getD (5+(1+c / 32)) 0).testBit (c % 32))=true then .ok (true,seen.add 9) else Sre.inSet textCode c 27 14 true (seen.add 9)):=by kernel_rfl
  have s2 : ∀ s,Sre.inSet textCode c 27 14 true s = .ok (false,s.add 0):=fun s=>by kernel_rfl
  show Sre.inSet textCode c 28 5 true seen=_
  have k:(textCode.getD (5+(1+c / 32)) 0).testBit (c % 32)=false:=k
  rw [s1,k,Bool.and_false,if_neg (by decide),s2]
theorem attempt_none (m:Sre.M) (s:Nat) (b:Bool) (hf : ∀ c ∈ m.text.toList,∀ seen,∃ seen',Sre.inSet m.code c m.code.size 5 true seen = .ok (false,seen')) (hl:m.lim≤m.text.size) (hs:m.hasFirstSet=true) (h2:m.frames=[]) (h3:m.outcome=none) :
    (m.attemptFrom s b).answer=some false∧(m.attemptFrom s b).frames=[]∧(m.attemptFrom s b).outcome=none:=by
  obtain ⟨seen',e⟩:=admitted_none m hf hl (m.lim+1-s) s m.seen
  have:m.attemptFrom s b=({ m with seen:=seen' }:Sre.M).say false:=by
    unfold Sre.M.attemptFrom
    rw [hs,if_neg (by decide),e]
  rw [this]
  exact ⟨rfl,h2,h3⟩
theorem search_none (code text:Array Nat) (gs lim:Nat) (hf : ∀ c ∈ text.toList,∀ seen,∃ seen',Sre.inSet code c code.size 5 true seen = .ok (false,seen')) (hl:lim≤text.size)
    (hs : ∀ m:Sre.M,m.code=code→m.hasFirstSet=true):(Sre.forSearch code text gs 0 lim false).answer=some false∧(Sre.forSearch code text gs 0 lim false).frames=[]∧(Sre.forSearch code text gs 0 lim false).outcome=none:=by
  unfold Sre.forSearch
  dsimp only
  split
  · exact ⟨rfl,rfl,rfl⟩
  · exact attempt_none _ _ _ hf hl (hs _ rfl) rfl rfl
theorem run_none {m:Sre.M} (h1:m.answer=some false) (h2:m.frames=[]) (h3:m.outcome=none):(m.runFor 4).outcome=some .failed:=by
  have e:m.step={ m with outcome:=some .failed }:=by
    unfold Sre.M.step
    rw [h3,h1,h2]
    rfl
  unfold Sre.M.runFor
  rw [h3,if_neg (by decide),e]
  unfold Sre.M.runFor
  rfl
theorem hs_name : ∀ m:Sre.M,m.code=nameCode→m.hasFirstSet=true:=fun m e=>by unfold Sre.M.hasFirstSet; rw [e]; rfl
theorem hs_text : ∀ m:Sre.M,m.code=textCode→m.hasFirstSet=true:=fun m e=>by unfold Sre.M.hasFirstSet; rw [e]; rfl
theorem answer_none {V:Stat} {A:Around} {R:Result→Shared→Prop} {s:Shared} (t:Builtin.Re.ReTarget) (m:Sre.M) (hm:(m.runFor 4).outcome=some .failed) (hR:R (.ok (.ret .none)) s) :
    wpAny (model V.prog V.w) A.in1 (Builtin.Re.reAnswer t m) (FinIs V A R) (fun e s'=>R (.error e) s') s:=by
  have loop : ∀ (l:List Nat) (f:Nat→Sem (ForInStep PUnit)) (hf : ∀ i,f i=(do rule (Sre.names.getD i ""); pure (.yield .unit))∨f i=pure (.yield .unit)) (Q:PUnit→Shared→Prop) (E:Value→Shared→Prop),Q .unit s→wpAny (model V.prog V.w) A.in1 (forIn l PUnit.unit fun i _=>f i) Q E s:=by
    intro l f hf Q E hQ
    induction l with
    | nil=>exact wpAny_pure hQ
    | cons i l ih =>
      rw [List.forIn_cons]
      refine wpAny_bind ?_
      rcases hf i with e | e
      · rw [e]; refine wpAny_bind (wpAny_rule (wpAny_pure ih))
      · rw [e]; exact wpAny_pure ih
  unfold Builtin.Re.reAnswer
  refine wpAny_bind ?_
  unfold Builtin.Re.reRunToEnd
  refine wpAny_bind ?_
  show wpAny _ _ (if (m.runFor 4).outcome.isSome=true then pure (m.runFor 4) else _) _ _ _
  rw [hm,if_pos (by rfl)]
  refine wpAny_pure (wpAny_bind (loop _ _ (fun i => ?_) _ _ ?_))
  · by_cases q:(m.runFor 4).seen.has i=true
    · left
      simp only [q,if_true]
    · right
      simp only [q]
      rfl
  · rw [hm]
    exact wpAny_pure (wpAny_pure hR)
theorem search_gen {w:Ws} {D:Nat} (x:List Nat) (t:Tok) (a b:Addr) (oa ob:Obj) (code:Array Nat) (hs : ∀ m:Sre.M,m.code=code→m.hasFirstSet=true) (hf : ∀ c ∈ x,∀ seen,∃ seen',Sre.inSet code c code.size 5 true seen = .ok (false,seen'))
    (target : ∀ (A:Around) (s:Shared) (Q:Builtin.Re.ReTarget→Shared→Prop) (E:Value→Shared→Prop),s.heap.get? a=some oa→s.heap.get? b=some ob→(∀ T:Builtin.Re.ReTarget,T.code=code→T.text=⟨x⟩→T.pos=0→T.lim≤x.length→Q T s) →
      wpAny (model (VV w).prog (VV w).w) A.in1 (Builtin.Re.reTarget "re.Pattern.search" "search" ⟨[.ref a,.str ⟨⟨x⟩⟩ t],[]⟩) Q E s) (h1:(VV w).kt.get a=some oa) (h2:(VV w).kt.get b=some ob) :
    Spec (VV w) D (.builtin "re.Pattern.search" ⟨[.ref a,.str ⟨⟨x⟩⟩ t],[]⟩) [] (fun _=>⟨.ok (.ret .none),[],[]⟩):=by
  refine spec_still (fun _ => .none) (by decide +kernel) (entryFor_of_tree (by kernel_rfl):entryFor table "re.Pattern.search" = some Builtin.«re.Pattern.search») fun A s R _ _ hT _ hR => ?_
  refine wpAny_bind (target A s _ _ (hT a _ h1) (hT b _ h2) fun T e1 e2 e3 hl => ?_)
  obtain ⟨pt,st,code',tx,kd,gs,ps,lm⟩:=T
  simp only at e1 e2 e3 hl
  subst e1 e2 e3
  obtain ⟨a1,a2,a3⟩:=search_none code' ⟨x⟩ gs lm hf hl hs
  exact answer_none _ _ (run_none a1 a2 a3) (hR s.toks 0)
theorem r_search_name {w:Ws} {D:Nat} (x:List Nat) (t:Tok) (h:okName x):Spec (VV w) D (.builtin "re.Pattern.search" ⟨[.ref 48,.str ⟨⟨x⟩⟩ t],[]⟩) [] (fun _=>⟨.ok (.ret .none),[],[]⟩):=by
  refine search_gen x t 48 47 (o48 pT w.W.params) (o47 pT w.W.params) nameCode hs_name (fun c hc=>inSet_name c (h c hc)) (fun A s Q E h48 h47 hQ => ?_) rfl rfl
  obtain ⟨hp,g,d,tk,os⟩:=s
  wp_walk
  refine hQ _ ?_ rfl ?_ (Nat.min_le_right _ _)
  · simp [Builtin.Re.reRawOf,nameCode]
  · simp
noncomputable def k_r_search_name {w:Ws} {D:Nat}:=fun a1 a2 a3=>kOf (r_search_name (w:=w) (D:=D) a1 a2 a3)
theorem r_search_text {w:Ws} {D:Nat} (x:List Nat) (t:Tok) (h:okText x):Spec (VV w) D (.builtin "re.Pattern.search" ⟨[.ref 53,.str ⟨⟨x⟩⟩ t],[]⟩) [] (fun _=>⟨.ok (.ret .none),[],[]⟩):=by
  refine search_gen x t 53 52 (o53 pT w.W.params) (o52 pT w.W.params) textCode hs_text (fun c hc=>inSet_text c (h c hc)) (fun A s Q E h48 h47 hQ => ?_) rfl rfl
  obtain ⟨hp,g,d,tk,os⟩:=s
  wp_walk
  refine hQ _ ?_ rfl ?_ (Nat.min_le_right _ _)
  · simp [Builtin.Re.reRawOf,textCode]
  · simp
noncomputable def k_r_search_text {w:Ws} {D:Nat}:=fun a1 a2 a3=>kOf (r_search_text (w:=w) (D:=D) a1 a2 a3)
theorem r_int_fdiv {w:Ws} {D:Nat} (x y:Nat) (t u:Tok) (hy:y≠0) (hs:Builtin.divisionGoesByPylong (Int.ofNat x) (Int.ofNat y)=false):Spec (VV w) D (.builtin "int.__floordiv__" ⟨[.int (Int.ofNat x) t,.int (Int.ofNat y) u],[]⟩) [] (fun o=>⟨.ok (.ret (.int (Int.ofNat (x / y)) (o.v 0))),[],[]⟩):=by
  refine spec_still (fun τ => .int (Int.ofNat (x / y)) τ) (by decide +kernel) (entryFor_of_tree (by kernel_rfl):entryFor table "int.__floordiv__" = some Builtin.«int.__floordiv__») fun A s R _ _ _ _ h' => ?_
  obtain ⟨hp,g,d,tk,os⟩:=s
  wp_walk
  rw [hs]
  wp_walk
  have e:(Int.ofNat x).fdiv (Int.ofNat y)=Int.ofNat (x / y):=(Int.fdiv_eq_ediv_of_nonneg (Int.ofNat x) (Int.natCast_nonneg y)).trans rfl
  rw [e]
  exact h' _ _
noncomputable def k_r_int_fdiv {w:Ws} {D:Nat}:=fun a1 a2 a3 a4 a5 a6=>kOf (r_int_fdiv (w:=w) (D:=D) a1 a2 a3 a4 a5 a6)
theorem r_int_mod {w:Ws} {D:Nat} (x:Int) (y:Nat) (t u:Tok) (hy:y≠0):Spec (VV w) D (.builtin "int.__mod__" ⟨[.int x t,.int (Int.ofNat y) u],[]⟩) [] (fun o=>⟨.ok (.ret (.int (x % (Int.ofNat y)) (o.v 0))),[],[]⟩):=by
  refine spec_still (fun τ => .int (x % (Int.ofNat y)) τ) (by decide +kernel) (entryFor_of_tree (by kernel_rfl):entryFor table "int.__mod__" = some Builtin.«int.__mod__») fun A s R _ _ _ _ h' => ?_
  obtain ⟨hp,g,d,tk,os⟩:=s
  wp_walk
  have e:x.fmod (Int.ofNat y)=x % (Int.ofNat y):=Int.fmod_eq_emod_of_nonneg x (Int.natCast_nonneg y)
  rw [e]
  exact h' _ _
noncomputable def k_r_int_mod {w:Ws} {D:Nat}:=fun a1 a2 a3 a4 a5=>kOf (r_int_mod (w:=w) (D:=D) a1 a2 a3 a4 a5)
theorem r_get {w:Ws} {D:Nat} (a:Addr) (vs:List Value) (ep:Nat) (i:Nat) (u:Tok) (val:Nat→Value) (h : ∃ τ,vs[i]? = some (val τ)) (hi:i < 2^20):Spec (VV w) D (.builtin "list.__getitem__" ⟨[.ref a,.int (Int.ofNat i) u],[]⟩) [(a,lstO vs ep)] (fun o=>⟨.ok (.ret (val (o.v 0))),[lstO vs ep],[]⟩):=by
  obtain ⟨τ,hv⟩:=h
  refine spec_still val (by decide +kernel) (entryFor_of_tree (by kernel_rfl):entryFor table "list.__getitem__" = some Builtin.«list.__getitem__») fun A s R _ _ _ hH h' => ?_
  have ho:s.heap.get? a=some (lstO vs ep):=hH _ (.head _)
  have e:(⟨vs⟩:Array Value)[i]? = some (val τ):=by simpa using hv
  have hfit:(!Builtin.List.listFitsIndex (Int.ofNat i))=false:=by
    unfold Builtin.List.listFitsIndex
    have h1:(Int.ofNat i)=(i:Int):=rfl
    have h2:decide (-(2^63:Int)≤(i:Int))=true:=decide_eq_true (by lia)
    have h3:decide ((i:Int) < 2^63)=true:=decide_eq_true (by lia)
    rw [h1,h2,h3]
    rfl
  obtain ⟨hp,g,d,tk,os⟩:=s
  generalize hI:Int.ofNat i=I at hfit ⊢
  have f1:=PySem.AutoSeq1.idx_int
  wp_walk using wpAny_loadPart' ho
  subst hI
  refine wpAny_bind ?_
  unfold seqItemAt
  wp_walk using wpAny_loadPart' ho
  rw [e]
  exact wpAny_pure (h' _ _)
noncomputable def k_r_get {w:Ws} {D:Nat}:=fun a1 a2 a3 a4 a5 a6 a7 a8=>kOf (r_get (w:=w) (D:=D) a1 a2 a3 a4 a5 a6 a7 a8)
end Mine
namespace Mine
open PySem PySem.W PySem.W.X
set_option genInjectivity false in
set_option genSizeOfSpec false in
structure Lx where
  τ:Nat→Nat
  σ:Nat→Nat
  lx:Nat
  d:Nat
  st:Nat
  ds:Nat
  fn:Nat
  co:Nat
  ce:Nat
  sg:Nat
  pb1:Nat
  pb2:Nat
  ct:Nat
  w1:Nat
  w2:Nat
  w3:Nat
  n1:Value
  n2:Value
noncomputable def Lx.pre (P:Params) (l:Lx):List En:=[(A l.lx,inst 273 (A l.d)),(A l.d,lexDict P l.σ (.ref (A l.st)) (.ref (A l.pb1))),(A l.st,inst 273 (A l.ds)),(A l.ds,strDict P l.τ (.ref (A l.pb2)) (.ref (A l.fn))),
  (A l.fn,lamFn pT l.τ (A l.ce) (A l.co) l.ct),(A l.co,lamCode l.τ l.w1 l.w2 l.w3 l.n1 l.n2),(A l.ce,cellO (.ref (A l.sg)))]
noncomputable def Lx.pre1 (P:Params) (l:Lx) (vs:List Value) (ep:Nat):List En:=l.pre P++[(A l.sg,lstO vs ep)]
noncomputable def Lx.objs (P:Params) (l:Lx) (vs:List Value) (ep:Nat):List Obj:=(l.pre1 P vs ep).map (·.2)
section
variable (w:World) (b1 b3:Bool) (l:Lx) (c tk ep:Nat) (vs:List Value)
noncomputable def readP (b2:Bool) (hz:vs.length < 2^20) (hc:c≠10) (x t:Nat):PlanOk (VV ⟨w,b1,b2,b3⟩) :=
  useQ (k_r_len (D:=900) (A l.sg) (ch c tk::vs) ep (by simp only [List.length_cons]; lia)) 346731788402980008996237049416360880029658580316135840828195604347121381929022264365816985119652236698709532228367681369080479746 [7] fun o1 =>
  useQ (k_r_int_lt (D:=900) ((ch c tk::vs:List Value).length) 1 (o1.v 0) (Nat.add t 3) false (by simp only [List.length_cons]; simp; lia)) 442037831305623395325478598235439894087150261271176695594657558273638400 [] fun o2 =>
  useQ (k_r_pop (D:=900) (A l.sg) (ch c tk) vs ep (Nat.add o2.t 4) hz) (cond b2 10717384466921443785303627593482543867986068811081880514778744562974237240272607486709256859648195088110513935056307840 47135555362904058735597082566830805667722759126222598103185839891553051684859287706825471040821865928097443159163847779730747229824) [7] fun o3 =>
  useQ (k_r_str_eq (D:=900) ⟨⟨[c]⟩⟩ ⟨⟨[10]⟩⟩ tk (Nat.add o3.t 1) false (by simpa using hc)) 6133375979025501199331533650012165420712389991100057856 [] fun _ =>
  finK 9 (fun _=>0) []
theorem sp_read (b2:Bool) (hz:vs.length < 2^20) (hc:c≠10):Spec (VV ⟨w,b1,b2,b3⟩) 600 (.call (.ref 256) ⟨[.ref (A l.lx)],[]⟩) (l.pre1 w.params (ch c tk::vs) ep)
    (fun _=>⟨.ok (.ret (ch c tk)),l.objs w.params vs (ep+1),[]⟩):=by
  refine spec_run [0,1,2,3,4,5,6,7] 3000 (readP w b1 b3 l c tk ep vs b2 hz hc) rfl fun x t => ?_
  cases b2 <;> cases b1 <;> kernel_rfl
noncomputable def k_sp_read:=fun a1 a2 a3 a4 a5 a6 a7 a8 a9 a10 a11=>kOf (sp_read a1 a2 a3 a4 a5 a6 a7 a8 a9 a10 a11)
noncomputable def readE (b2:Bool) (_ t:Nat):PlanOk (VV ⟨w,b1,b2,b3⟩) :=
  finK (cond b2 1001446820784641038240377039230808181943494254481905157269762189663251530148383824268131048735928879980580475623745756566811402835354629550007493359763112412864354199410297990499770339895007905808573092847198181482195591279004836084568432265976332142130572876679793552014800435789910005989781492464752859079249839324858275925274086490114
    4404409696208083269982110484690565260386848078284497635887106175422190212991976142219124517569547216840654714444454902989364049157537452564727506482670165294635805366978138359315553448014043260708677069612425114294820186317682859604076520287009922150837793162491769981140778939785932102272894446507354893298964389318322241624722611178864403846152194) (fun _=>Nat.add t 10) []
theorem sp_readE (b2:Bool):Spec (VV ⟨w,b1,b2,b3⟩) 600 (.call (.ref 256) ⟨[.ref (A l.lx)],[]⟩) (l.pre1 w.params [] ep)
    (fun o=>⟨.ok (.ret (.str ⟨⟨[]⟩⟩ (o.v 0))),l.objs w.params [] ep,[]⟩):=by
  refine spec_run [0,1,2,3,4,5,6,7] 3000 (readE w b1 b3 b2) rfl fun x t => ?_
  cases b2 <;> cases b1 <;> kernel_rfl
noncomputable def k_sp_readE:=fun a1 a2 a3 a4 a5 a6=>kOf (sp_readE a1 a2 a3 a4 a5 a6)
end
noncomputable def forT:Stmt→Expr
  | .For t _ _ _ _=>t
  | _ => .Name ⟨⟨[]⟩⟩ ⟨0,0,0,0⟩
noncomputable def forB:Stmt→List Stmt
  | .For _ _ b _ _=>b
  | .While _ b _ _=>b
  | _=>[]
noncomputable def forE:Stmt→List Stmt
  | .For _ _ _ e _=>e
  | .While _ _ e _=>e
  | _=>[]
noncomputable def whT:Stmt→Expr
  | .While t _ _ _=>t
  | _ => .Name ⟨⟨[]⟩⟩ ⟨0,0,0,0⟩
noncomputable def ifB:Stmt→List Stmt
  | .If _ b _ _=>b
  | _=>[]
noncomputable def ifE:Stmt→List Stmt
  | .If _ _ e _=>e
  | _=>[]
noncomputable abbrev sFrame:=PySem.W.SL.s658472552662922059x5
noncomputable abbrev sCI:=PySem.W.SL.s12148877158373987119x17
noncomputable abbrev sMeth:=PySem.W.SL.s6181755712446570794x6
noncomputable def frO (es:List DictEntry) (n:Nat):Obj:=⟨.type sFrame,none,.dict ⟨es⟩ n,⟨[]⟩⟩
noncomputable def fldO (T:String) (vs:List Value):Obj:=⟨.type T,none,.fields ⟨vs⟩,⟨[]⟩⟩
noncomputable def gtFn:Stmt:=meth pT 20 2
noncomputable def gtFor:Stmt:=nthS (fBody gtFn) 3
noncomputable def gtIn:Stmt:=nthS (ifB (nthS (forB gtFor) 1)) 0
noncomputable def gtEnv (fr:Nat):Env:={ scope:=fScope gtFn,locals:=A fr,globals:=3,cells:=[],qual:=⟨⟨[95,110,101,116,114,99,108,101,120,46,103,101,116,95,116,111,107,101,110]⟩⟩++locSuf,func:=some 263,code := .ref 262,frame:=some (A fr),builtins:=0 }
noncomputable def inC (fr it:Nat):Code := .forLoop (forT gtIn) (.ref (A it)) (forB gtIn) (forE gtIn) (gtEnv fr)
noncomputable def gtFr (P:Params) (ρ:Nat→Nat) (lx it:Nat) (tok chv:Value):Obj:=frO [dEnt P [115,101,108,102] (ρ 0) (.ref (A lx)),dEnt P [116,111,107,101,110] (ρ 1) tok,dEnt P [102,105,116,101,114] (ρ 2) (.ref (A it)),dEnt P [99,104] (ρ 3) chv] 4
noncomputable def ciO (me:Nat) (a:Nat):Obj:=fldO sCI [.ref (A me),.str ⟨⟨[]⟩⟩ a,.bool false]
noncomputable def meO (lx:Nat):Obj:=fldO sMeth [.ref 256,.ref (A lx)]
noncomputable def esc:List Nat→List Nat
  | []=>[]
  | c::v=>if c=34∨c=92 then 92::c::esc v else c::esc v
noncomputable def chs (E:List (Nat × Nat)) (rest:List Value):List Value:=E.map (fun p=>ch p.1 p.2)++rest
section
variable (w:World) (b1 b2 b3:Bool) (l:Lx) (ρ:Nat→Nat) (fr it me ca:Nat) (rest:List Value)
noncomputable def inPre (vs:List Value) (ep:Nat) (tok chv:Value):List En:=l.pre1 w.params vs ep++[(A fr,gtFr w.params ρ l.lx it tok chv),(A it,ciO me ca),(A me,meO l.lx)]
noncomputable def inPost (res:List Nat) (o:Out):Post:=⟨.ok (.ret (.str ⟨⟨res⟩⟩ (o.v 0))),(inPre w l ρ fr it me ca rest (o.v 1) (.str ⟨⟨res⟩⟩ (o.v 0)) (ch 34 (o.v 2))).map (·.2),[]⟩
theorem sp_inner : ∀ (v acc res:List Nat) (E:List (Nat × Nat)) (a0 ep:Nat) (chv:Value),res=acc++v→(∀ c ∈ v,c≠10∧c≠0)→E.map (·.1)=esc v++[34]→acc.length+v.length≤2^19→E.length+rest.length < 2^20 →
    Spec (VV ⟨w,b1,b2,b3⟩) 540 (inC fr it) (inPre w l ρ fr it me ca (chs E rest) ep (.str ⟨⟨acc⟩⟩ a0) chv) (inPost w l ρ fr it me ca rest res)
  | [],acc,res,E,a0,ep,chv,hr,hv,hE,hz,hl=>by
    obtain ⟨t1,rfl⟩ : ∃ t1,E=[(34,t1)]:=by
      match E,hE with
      | [(c,t1)],hE=>simp [esc] at hE; exact ⟨t1,by rw [hE]⟩
      | _::_::_,hE=>simp [esc] at hE
    rw [List.append_nil] at hr
    subst hr
    have hz1:rest.length < 2^20:=by simp at hl; lia
    refine spec_run [0,1,2,3,4,5,6,7,8,9,10] 3000 (fun x t =>
      useQ (k_sp_read w b1 b3 l 34 t1 ep rest b2 hz1 (by decide)) 164102241516493742277888 [0,1,2,3,4,5,6,7] fun o1 =>
      useQ (k_r_str_eq (D:=900) ⟨⟨[34]⟩⟩ ⟨⟨[34]⟩⟩ t1 (Nat.add o1.t 1) true (by decide)) 72097488110093578 [] fun o2 =>
      finK 9 (fun j => @Nat.rec (fun _=>Nat) a0 (fun j _ => @Nat.rec (fun _=>Nat) (ep+1) (fun _ _=>t1) j) j) []) rfl fun x t => ?_
    cases b1 <;> kernel_rfl
  | c::v,acc,res,E,a0,ep,chv,hr,hv,hE,hz,hl=>by
    have hc:c≠10:=(hv c (.head _)).1
    have hc0:c≠0:=(hv c (.head _)).2
    have hv' : ∀ c ∈ v,c≠10∧c≠0:=fun c' h'=>hv c' (.tail _ h')
    by_cases q:c=34∨c=92
    · have e:esc (c::v)=92::c::esc v:=by simp [esc,q]
      rw [e] at hE
      obtain ⟨t1,t2,E',rfl,hE'⟩ : ∃ t1 t2 E',E=(92,t1)::(c,t2)::E'∧E'.map (·.1)=esc v++[34]:=by
        match E,hE with
        | (x,t1)::(y,t2)::E',hE=>simp at hE; exact ⟨t1,t2,E',by rw [hE.1,hE.2.1],hE.2.2⟩
        | [_],hE=>simp at hE
      have hl':E'.length+rest.length+2 < 2^20:=by simp only [List.length_cons] at hl; lia
      have hz1:(chs ((c,t2)::E') rest).length < 2^20:=by simp only [chs,List.length_append,List.length_map,List.length_cons]; lia
      have hz2:(chs E' rest).length < 2^20:=by simp only [chs,List.length_append,List.length_map]; lia
      have hz3:acc.length+1+v.length≤2^19:=by simp only [List.length_cons] at hz; lia
      have ih:=fun a0 ep chv=>sp_inner v (acc++[c]) res E' a0 ep chv (by rw [hr]; simp) hv' hE' (by simp only [List.length_append,List.length_cons,List.length_nil]; lia) (by lia)
      refine spec_run [0,1,2,3,4,5,6,7,8,9,10] 3000 (fun x t =>
        useQ (k_sp_read w b1 b3 l 92 t1 ep (chs ((c,t2)::E') rest) b2 hz1 (by decide)) 164102241516493742277888 [0,1,2,3,4,5,6,7] fun o1 =>
        useQ (k_r_str_eq (D:=900) ⟨⟨[92]⟩⟩ ⟨⟨[34]⟩⟩ t1 (Nat.add o1.t 1) false (by decide)) 72097488110093578 [] fun o2 =>
        useQ (k_r_str_eq (D:=900) ⟨⟨[92]⟩⟩ ⟨⟨[92]⟩⟩ t1 (Nat.add o2.t 0) true (by decide)) 16393 [] fun o3 =>
        useQ (k_sp_read w b1 b3 l c t2 (ep+1) (chs E' rest) b2 hz2 hc) 664695444443522609414321764535632009 [0,1,2,3,4,5,6,7] fun o4 =>
        useQ (k_r_str_add (D:=900) acc [c] a0 t2 (by simp only [List.length_cons,List.length_nil]; lia)) 34378761353 [] fun o5 =>
        useK (ih (o5.v 0) (ep+1+1) (ch c t2)) 17545 [0,1,2,3,4,5,6,7,8,9,10] fun o6 =>
        finK 0 o6.v []) rfl fun x t => ?_
      cases b1 <;> kernel_rfl
    · have e:esc (c::v)=c::esc v:=by simp [esc,q]
      rw [e] at hE
      obtain ⟨c,rfl⟩:=Nat.exists_eq_succ_of_ne_zero hc0
      obtain ⟨t1,E',rfl,hE'⟩ : ∃ t1 E',E=(c.succ,t1)::E'∧E'.map (·.1)=esc v++[34]:=by
        match E,hE with
        | (x,t1)::E',hE=>simp at hE; exact ⟨t1,E',by rw [hE.1],hE.2⟩
      have hl':E'.length+rest.length+1 < 2^20:=by simp only [List.length_cons] at hl; lia
      have hz2:(chs E' rest).length < 2^20:=by simp only [chs,List.length_append,List.length_map]; lia
      have hz3:acc.length+1+v.length≤2^19:=by simp only [List.length_cons] at hz; lia
      have q1:c.succ≠34:=fun z=>q (.inl z)
      have q2:c.succ≠92:=fun z=>q (.inr z)
      have ih:=fun a0 ep chv=>sp_inner v (acc++[c.succ]) res E' a0 ep chv (by rw [hr]; simp) hv' hE' (by simp only [List.length_append,List.length_cons,List.length_nil]; lia) (by lia)
      refine spec_run [0,1,2,3,4,5,6,7,8,9,10] 3000 (fun x t =>
        useQ (k_sp_read w b1 b3 l c.succ t1 ep (chs E' rest) b2 hz2 hc) 164102241516493742277888 [0,1,2,3,4,5,6,7] fun o1 =>
        useQ (k_r_str_eq (D:=900) ⟨⟨[c.succ]⟩⟩ ⟨⟨[34]⟩⟩ t1 (Nat.add o1.t 1) false (by simpa using q1)) 72097488110093578 [] fun o2 =>
        useQ (k_r_str_eq (D:=900) ⟨⟨[c.succ]⟩⟩ ⟨⟨[92]⟩⟩ t1 (Nat.add o2.t 0) false (by simpa using q2)) 16393 [] fun o3 =>
        useQ (k_r_str_add (D:=900) acc [c.succ] a0 t1 (by simp only [List.length_cons,List.length_nil]; lia)) 2098313 [] fun o4 =>
        useK (ih (o4.v 0) (ep+1) (ch c.succ t1)) 17545 [0,1,2,3,4,5,6,7,8,9,10] fun o5 =>
        finK 0 o5.v []) rfl fun x t => ?_
      cases b1 <;> kernel_rfl
end
noncomputable def pick (l:List Nat) (j:Nat):Nat := @List.rec Nat (fun _=>Nat→Nat) (fun _=>0) (fun a _ ih j => @Nat.rec (fun _=>Nat) a (fun j _=>ih j) j) l j
section
variable (w:World) (b1 b2 b3:Bool) (l:Lx) (rest:List Value)
noncomputable def tokPre (vs:List Value) (ep:Nat):List En:=l.pre1 w.params vs ep++[(A l.pb1,lstO [] 0)]
theorem sp_token (v:List Nat) (E:List (Nat × Nat)) (t0 ep:Nat) (hv : ∀ c ∈ v,c≠10∧c≠0) (hE:E.map (·.1)=esc v++[34]) (hz:v.length≤2^18) (hl:E.length+rest.length < 2^19) :
    Spec (VV ⟨w,b1,b2,b3⟩) 500 (.call (.ref 263) ⟨[.ref (A l.lx)],[]⟩) (tokPre w l (ch 34 t0::chs E rest) ep) (fun o=>⟨.ok (.ret (.str ⟨⟨v⟩⟩ (o.v 0))),(tokPre w l rest (o.v 1)).map (·.2),[]⟩):=by
  have hz2:(chs E rest).length < 2^20:=by simp only [chs,List.length_append,List.length_map]; lia
  have hin:=fun ρ fr it me ca a0 ep chv=>sp_inner w b1 b2 b3 l ρ fr it me ca rest v [] v E a0 ep chv rfl hv hE (by simp; lia) (by lia)
  refine spec_run [0,1,2,3,4,5,6,7,8] 3000 (fun x t =>
    useQ (k_sp_read w b1 b3 l 34 t0 ep (chs E rest) b2 hz2 (by decide)) 250139616496773878502613581570620913432802456365614535088752865525747789820223337620687238095274210741291145971190082382024849415952178807620196079092139139417669634 [0,1,2,3,4,5,6,7] fun o1 =>
    useQ (k_r_str_eq (D:=900) ⟨⟨[34]⟩⟩ ⟨⟨[34]⟩⟩ t0 (Nat.add o1.t 2) true (by decide)) 47919715687593323767084476790747333376607119606810124 [] fun o2 =>
    useK (hin (pick [Nat.add t 0,Nat.add t 5,Nat.add t 8,Nat.add o1.t 0]) x (Nat.add x 2) (Nat.add x 1) (Nat.add t 7) (Nat.add t 4) (ep+1) (ch 34 t0)) 615729732978186 [0,1,2,3,4,5,6,7,9,11,10] fun o3 =>
    finK 0 o3.v []) rfl fun x t => ?_
  cases b1 <;> kernel_rfl
noncomputable def k_sp_token:=fun a1 a2 a3 a4 a5 a6 a7 a8 a9 a10 a11 a12 a13 a14=>kOf (sp_token a1 a2 a3 a4 a5 a6 a7 a8 a9 a10 a11 a12 a13 a14)
end
noncomputable def pickR (f:Nat→Nat) (l:List Nat) (j:Nat):Nat := @List.rec Nat (fun _=>Nat→Nat) f (fun a _ ih j => @Nat.rec (fun _=>Nat) a (fun j _=>ih j) j) l j
noncomputable def lxOf (v:Nat→Nat):Lx:=⟨fun j=>v (Nat.add j 20),fun j=>v (Nat.add j 40),v 0,v 1,v 2,v 3,v 4,v 5,v 6,v 7,v 8,v 9,v 10,v 11,v 12,v 13,.int 255 0,.int (Int.ofNat (v 32)) 0⟩
noncomputable def lxOf2 (v:Nat→Nat) (co:Nat) (τ:Nat→Nat) (w1 w2 w3:Nat):Lx:=⟨pickR (fun j=>τ (Nat.add j 8)) [v 20,v 21,v 22,v 23,v 24,v 25,v 26,v 27],fun j=>v (Nat.add j 40),v 0,v 1,v 2,v 3,v 4,co,v 6,v 7,v 8,v 9,v 10,w1,w2,w3,.int 255 0,.int (Int.ofNat (τ 12)) 0⟩
noncomputable def sgv (v:Nat→Nat) (x:List Nat):List Value:=sgs x (fun n=>v (Nat.add n 64)) 2
noncomputable def tblO (vs:List Value):Obj:=⟨.none,none,.fields ⟨vs⟩,⟨[]⟩⟩
noncomputable def tbl1 (co:Nat):Obj:=tblO [.int 255 0,.int 18 0,.ref (A co)]
noncomputable def lxNew (w:World) (v:Nat→Nat) (x:List Nat):List En:=tokPre w (lxOf v) (sgv v x) (v 14)
section
variable (w:World) (b1 b2 b3:Bool) (x:List Nat) (t0:Nat)
noncomputable def pl_sp_lexer1 (w:World) (b1 b2 b3:Bool) (x:List Nat) (t0:Nat) (hz:x.length≤2^20):Nat→Nat→PlanOk (VV ⟨w,b1,b2,b3⟩):=fun x t =>
    useQ (k_r_list_str (D:=900) _ t0 hz) 9367487224934858754 [] fun o1 =>
    finK 30535739327976060151828712329312511451025596044132887521250678394748202397411173372308519166659721695235729937563546295110198801263372936682446139063293540635311634678565892919410875254694886087464470235023422967122132468924102640557640594587718152485630554495106247241438090153174177991405910768997642661258548046443032299614358300862490802685626893926031385578929685372371774424275243287510009603048903739187775943036641565836757543199596701906332958223322268521305349299181824205292785556114426570239843091517114847921277341780948722679459913917141581162288894145271798186489952894706104222509425177095671128260995 (pickR o1.v [Nat.add o1.x 11,Nat.add o1.x 10,Nat.add o1.x 1,Nat.add o1.x 0,Nat.add o1.x 9,Nat.add o1.x 8,Nat.add x 1,o1.v 0,Nat.add o1.x 13,Nat.add o1.x 3,Nat.add o1.x 335,Nat.add o1.x 336,Nat.add o1.x 337,Nat.add o1.x 338,o1.v 1,0,0,0,0,0,Nat.add o1.t 4,Nat.add o1.t 2,Nat.add o1.t 6,Nat.add o1.t 9,Nat.add o1.t 7,Nat.add o1.t 11,Nat.add o1.t 20,721,Nat.add o1.t 13,Nat.add o1.t 14,Nat.add o1.t 15,Nat.add o1.t 18,Nat.add o1.t 17,0,0,0,0,0,0,0,Nat.add o1.t 25,Nat.add o1.t 23,Nat.add o1.t 27,Nat.add o1.t 30,Nat.add o1.t 28,Nat.add o1.t 32,0,0,0,0,0,0,0,0,0,0,0,0,0,0,0,0,0,0]) [15,14,5,4,13,12,2,3,17]
theorem sp_lexer1 (hz:x.length≤2^20):Spec (VV ⟨w,b1,b2,b3⟩) 480 (.call (.ref 284) ⟨[.str ⟨⟨x⟩⟩ t0],[]⟩) [(279,tblO [])]
    (fun o=>⟨.ok (.ret (.ref (A (o.v 0)))),[tbl1 (o.v 5)],lxNew w o.v x⟩):=by
  refine spec_run [0] 3000 (pl_sp_lexer1 w b1 b2 b3 x t0 hz) rfl fun x t => ?_
  cases b1 <;> kernel_rfl
noncomputable def coO (τ:Nat→Nat) (w1 w2 w3:Addr):Obj:=lamCode τ w1 w2 w3 (.int 255 0) (.int (Int.ofNat (τ 12)) 0)
noncomputable def tokNoCo (P:Params) (l:Lx) (vs:List Value) (ep:Nat):List En:=[(A l.lx,inst 273 (A l.d)),(A l.d,lexDict P l.σ (.ref (A l.st)) (.ref (A l.pb1))),(A l.st,inst 273 (A l.ds)),(A l.ds,strDict P l.τ (.ref (A l.pb2)) (.ref (A l.fn))),
  (A l.fn,lamFn pT l.τ (A l.ce) (A l.co) l.ct),(A l.ce,cellO (.ref (A l.sg))),(A l.sg,lstO vs ep),(A l.pb1,lstO [] 0)]
noncomputable def lxNew2 (w:World) (v:Nat→Nat) (co:Nat) (τ:Nat→Nat) (w1 w2 w3:Nat) (x:List Nat):List En:=tokNoCo w.params (lxOf2 v co τ w1 w2 w3) (sgv v x) (v 14)
noncomputable def pl_sp_lexer2 (w:World) (b1 b2 b3:Bool) (x:List Nat) (t0:Nat) (co:Nat) (hz:x.length≤2^20):Nat→Nat→PlanOk (VV ⟨w,b1,b2,b3⟩):=fun x t =>
    useQ (k_r_list_str (D:=900) _ t0 hz) 9439544818974900226 [] fun o1 =>
    finK 11648460132544386859883923451302378711427673393587650482127196009141112033822417874372882199911312079992638899382472143132161828466251633216644133342610233007314851734962004076622620205364721554498231007745157009779589982282942115225940497696373359501767099634454140840391298401801572591083232227935706121407856105545692231086787098588401584652505475488385176048191476586053751574104041215702009180164775244026801924207235414316050992485275348538696041760151275186782642665683793407013893492450636444308091468102303739996571041490477480425208037358081585797409280346201540429736459681695116008404050748731556356 (pickR o1.v [Nat.add o1.x 7,Nat.add o1.x 6,Nat.add o1.x 1,Nat.add o1.x 0,Nat.add o1.x 5,co,Nat.add x 1,o1.v 0,Nat.add o1.x 9,Nat.add o1.x 3,Nat.add o1.x 335,0,0,0,o1.v 1,0,0,0,0,0,Nat.add o1.t 4,Nat.add o1.t 2,Nat.add o1.t 6,Nat.add o1.t 9,Nat.add o1.t 7,Nat.add o1.t 11,Nat.add o1.t 14,721,0,0,0,0,0,0,0,0,0,0,0,0,Nat.add o1.t 19,Nat.add o1.t 17,Nat.add o1.t 21,Nat.add o1.t 24,Nat.add o1.t 22,Nat.add o1.t 26,0,0,0,0,0,0,0,0,0,0,0,0,0,0,0,0,0,0]) [12,11,6,5,10,3,4,14]
theorem sp_lexer2 (τ:Nat→Nat) (w1 w2 w3 co:Nat) (hz:x.length≤2^20):Spec (VV ⟨w,b1,b2,b3⟩) 480 (.call (.ref 284) ⟨[.str ⟨⟨x⟩⟩ t0],[]⟩) [(279,tbl1 co),(A co,coO τ w1 w2 w3)]
    (fun o=>⟨.ok (.ret (.ref (A (o.v 0)))),[tbl1 co,coO τ w1 w2 w3],lxNew2 w o.v co τ w1 w2 w3 x⟩):=by
  refine spec_run [0,1] 3000 (pl_sp_lexer2 w b1 b2 b3 x t0 co hz) rfl fun x t => ?_
  cases b1 <;> kernel_rfl
end
noncomputable abbrev sTuple:=PySem.W.SL.s2766695959194262286x5
noncomputable def tup (vs:List Value):Obj:=⟨.type sTuple,none,.seq ⟨vs⟩ 0,⟨[]⟩⟩
noncomputable def prFn:Stmt:=stm pT 26
noncomputable def prW:Stmt:=nthS (fBody prFn) 3
noncomputable def prEnv (fr:Nat):Env:={ scope:=fScope prFn,locals:=A fr,globals:=3,cells:=[],qual:=⟨⟨[95,108,97,119,95,112,97,114,97,109,115]⟩⟩++locSuf,func:=some 308,code := .ref 307,frame:=some (A fr),builtins:=0 }
noncomputable def prC (fr:Nat):Code := .whileLoop (whT prW) (forB prW) (forE prW) (prEnv fr)
noncomputable def prFr (P:Params) (ρ:Nat→Nat) (lx ro:Nat) (text key sign value:Value):Obj:=frO [dEnt P [116,101,120,116] (ρ 0) text,dEnt P [108,101,120,101,114] (ρ 1) (.ref (A lx)),dEnt P [114,111,119,115] (ρ 2) (.ref (A ro)),dEnt P [107,101,121] (ρ 3) key,dEnt P [115,105,103,110] (ρ 4) sign,dEnt P [118,97,108,117,101] (ρ 5) value] 6
noncomputable def ov:Option (List Nat)→Nat→Value
  | none,_ => .none
  | some v,t => .str ⟨⟨v⟩⟩ t
noncomputable def tl:Option (List Nat)→List Nat
  | none=>[]
  | some v=>61::34::(esc v++[34])
noncomputable def okV:Option (List Nat)→Prop
  | none=>True
  | some v=>(∀ c ∈ v,c≠10∧c≠0)∧v.length≤2^17
noncomputable def okK (k:List Nat):Prop:=(∀ c ∈ k,c≠10∧c≠0∧c≠61∧c≠59)
section
variable (w:World) (b1 b2 b3:Bool) (l:Lx) (fr ro:Nat) (text:Value)
noncomputable def prPre (ρ:Nat→Nat) (vs:List Value) (ep:Nat) (key sign value:Value) (rs:List Value) (epr:Nat):List En:=l.pre1 w.params vs ep++[(A l.pb1,lstO [] 0),(A fr,prFr w.params ρ l.lx ro text key sign value),(A ro,lstO rs epr)]
noncomputable def prPost (ρ:Nat→Nat) (key:List Nat) (v:Option (List Nat)) (rs:List Value) (epr:Nat) (o:Out):Post :=
  ⟨.ok (.ret (.ref (A ro))),(prPre w l fr ro text ρ [] (o.v 1) (.str ⟨⟨[]⟩⟩ (o.v 2)) (.str ⟨⟨[]⟩⟩ (o.v 3)) (ov v (o.v 0)) (rs++[.ref (A (o.v 5))]) (epr+1)).map (·.2),[(A (o.v 5),tup [.str ⟨⟨key⟩⟩ (o.v 4),ov v (o.v 0)])]⟩
theorem sp_whA (key:List Nat) (v:Option (List Nat)) (hv:okV v) (ρ:Nat→Nat) (rs:List Value) (epr:Nat) (hrs:rs.length < 2^19) (hkey:key.length < 2^18) : ∀ (k acc:List Nat) (E:List (Nat × Nat)) (a0 ep:Nat) (sgn vl:Value),key=acc++k→okK k→E.map (·.1)=k++tl v→E.length < 2^18 →
    Spec (VV ⟨w,b1,b2,b3⟩) 400 (prC fr) (prPre w l fr ro text ρ (chs E []) ep (.str ⟨⟨acc⟩⟩ a0) sgn vl rs epr) (prPost w l fr ro text ρ key v rs epr)
  | [],acc,E,a0,ep,sgn,vl,hk,ho,hE,hl=>by
    rw [List.append_nil] at hk
    subst hk
    match v,hv,hE with
    | none,_,hE =>
      obtain rfl:E=[]:=by simpa [tl] using hE
      refine spec_run [0,1,2,3,4,5,6,7,8,9,10] 3000 (fun x t =>
        useQ (k_sp_readE w b1 b3 l ep b2) 85081016888770894005033185860560897280 [0,1,2,3,4,5,6,7] fun o1 =>
        useQ (k_r_append (D:=900) (A ro) (.ref (A o1.x)) rs epr (by lia)) 11824864582632877303177046593852194063626 [10] fun o2 =>
        finK 343597548810 (pick [0,ep,Nat.add o2.t 0,o1.v 0,a0,o1.x]) [11]) rfl fun x t => ?_
      cases b1 <;> kernel_rfl
    | some v,hv,hE =>
      obtain ⟨t1,t2,E',rfl,hE'⟩ : ∃ t1 t2 E',E=(61,t1)::(34,t2)::E'∧E'.map (·.1)=esc v++[34]:=by
        match E,hE with
        | (x,t1)::(y,t2)::E',hE=>simp [tl] at hE; exact ⟨t1,t2,E',by rw [hE.1,hE.2.1],hE.2.2⟩
        | [_],hE=>simp [tl] at hE
        | [],hE=>simp [tl] at hE
      have hv1:=hv.1
      have hv2:=hv.2
      have hl':E'.length+2 < 2^18:=by simp only [List.length_cons] at hl; lia
      have hz1:(chs ((34,t2)::E') []).length < 2^20:=by simp only [chs,List.length_append,List.length_map,List.length_cons,List.length_nil]; lia
      refine spec_run [0,1,2,3,4,5,6,7,8,9,10] 3000 (fun x t =>
        useQ (k_sp_read w b1 b3 l 61 t1 ep (chs ((34,t2)::E') []) b2 hz1 (by decide)) 85081016888770894005033185860560897280 [0,1,2,3,4,5,6,7] fun o1 =>
        useQ (k_r_str_eq (D:=900) ⟨⟨[61]⟩⟩ ⟨⟨[61]⟩⟩ t1 (Nat.add o1.t 2) true (by decide)) 4400752002314 [] fun o2 =>
        useQ (k_sp_token w b1 b2 b3 l [] v E' t2 (ep+1) hv1 hE' (by lia) (by simp only [List.length_nil]; lia)) 664695444443522609414321764535632010 [0,1,2,3,4,5,6,7,8] fun o3 =>
        useQ (k_sp_readE w b1 b3 l (o3.v 1) b2) 10890370161762674432644247790151794853130 [0,1,2,3,4,5,6,7] fun o4 =>
        useQ (k_r_append (D:=900) (A ro) (.ref (A o4.x)) rs epr (by lia)) 344148853986782408993954497802 [10] fun o5 =>
        finK 343597548810 (pick [o3.v 0,o3.v 1,Nat.add o5.t 0,o4.v 0,a0,o4.x]) [11]) rfl fun x t => ?_
      cases b1 <;> kernel_rfl
  | c::k,acc,E,a0,ep,sgn,vl,hk,ho,hE,hl=>by
    obtain ⟨h10,h0,h61,h59⟩:=ho c (.head _)
    have ho':okK k:=fun c' h'=>ho c' (.tail _ h')
    obtain ⟨c,rfl⟩:=Nat.exists_eq_succ_of_ne_zero h0
    obtain ⟨t1,E',rfl,hE'⟩ : ∃ t1 E',E=(c.succ,t1)::E'∧E'.map (·.1)=k++tl v:=by
      match E,hE with
      | (x,t1)::E',hE=>simp at hE; exact ⟨t1,E',by rw [hE.1],hE.2⟩
    have hl':E'.length+1 < 2^18:=by simp only [List.length_cons] at hl; lia
    have hz1:(chs E' []).length < 2^20:=by simp only [chs,List.length_append,List.length_map,List.length_nil]; lia
    have hz3:acc.length+1 < 2^18:=by rw [hk] at hkey; simp only [List.length_append,List.length_cons] at hkey; lia
    have ih:=fun a0 ep sgn vl=>sp_whA key v hv ρ rs epr hrs hkey k (acc++[c.succ]) E' a0 ep sgn vl (by rw [hk]; simp) ho' hE' (by lia)
    refine spec_run [0,1,2,3,4,5,6,7,8,9,10] 3000 (fun x t =>
      useQ (k_sp_read w b1 b3 l c.succ t1 ep (chs E' []) b2 hz1 h10) 85081016888770894005033185860560897280 [0,1,2,3,4,5,6,7] fun o1 =>
      useQ (k_r_str_eq (D:=900) ⟨⟨[c.succ]⟩⟩ ⟨⟨[61]⟩⟩ t1 (Nat.add o1.t 2) false (by simpa using h61)) 4400752002314 [] fun o2 =>
      useQ (k_r_str_eq (D:=900) ⟨⟨[c.succ]⟩⟩ ⟨⟨[59]⟩⟩ t1 (Nat.add o2.t 1) false (by simpa using h59)) 34380709898 [] fun o3 =>
      useQ (k_r_str_add (D:=900) acc [c.succ] a0 t1 (by simp only [List.length_cons,List.length_nil]; lia)) 2098442 [] fun o4 =>
      useK (ih (o4.v 0) (ep+1) (ch c.succ t1) .none) 17674 [0,1,2,3,4,5,6,7,8,9,10] fun o5 =>
      finK 0 o5.v [11]) rfl fun x t => ?_
    cases b1 <;> kernel_rfl
end
noncomputable def two (E1 E2:List (Nat × Nat)) (s1 s2:Nat):List Value:=chs E1 (ch 59 s1::ch 32 s2::chs E2 [])
section
variable (w:World) (b1 b2 b3:Bool) (l:Lx) (fr ro:Nat) (text:Value)
noncomputable def prPostB (ρ:Nat→Nat) (key1 key2:List Nat) (v1 v2:Option (List Nat)) (rs:List Value) (epr:Nat) (o:Out):Post :=
  ⟨.ok (.ret (.ref (A ro))),(prPre w l fr ro text ρ [] (o.v 1) (.str ⟨⟨[]⟩⟩ (o.v 2)) (.str ⟨⟨[]⟩⟩ (o.v 3)) (ov v2 (o.v 0)) (rs++[.ref (A (o.v 6))]++[.ref (A (o.v 5))]) (epr+1+1)).map (·.2),
    [(A (o.v 6),tup [.str ⟨⟨key1⟩⟩ (o.v 7),ov v1 (o.v 8)]),(A (o.v 5),tup [.str ⟨⟨key2⟩⟩ (o.v 4),ov v2 (o.v 0)])]⟩
theorem sp_whB (key key2:List Nat) (v1 v2:Option (List Nat)) (hv1:okV v1) (hv2:okV v2) (hk2:okK key2) (E2:List (Nat × Nat)) (s1 s2:Nat) (hE2:E2.map (·.1)=key2++tl v2) (hl2:E2.length < 2^18) (ρ:Nat→Nat) (rs:List Value) (epr:Nat) (hrs:rs.length < 2^18) (hkey:key.length < 2^18) (hkey2:key2.length < 2^18) : ∀ (k acc:List Nat) (E:List (Nat × Nat)) (a0 ep:Nat) (sgn vl:Value),key=acc++k→okK k→E.map (·.1)=k++tl v1→E.length < 2^18 →
    Spec (VV ⟨w,b1,b2,b3⟩) 400 (prC fr) (prPre w l fr ro text ρ (two E E2 s1 s2) ep (.str ⟨⟨acc⟩⟩ a0) sgn vl rs epr) (prPostB w l fr ro text ρ key key2 v1 v2 rs epr)
  | [],acc,E,a0,ep,sgn,vl,hk,ho,hE,hl=>by
    rw [List.append_nil] at hk
    subst hk
    have hz0:(chs E2 []).length < 2^19:=by simp only [chs,List.length_append,List.length_map,List.length_nil]; lia
    have hz9:(ch 32 s2::chs E2 []).length < 2^20:=by simp only [List.length_cons]; lia
    have hz8:(chs E2 []).length < 2^20:=by lia
    have A:=fun x ep a0 sgn vl=>sp_whA w b1 b2 b3 l fr ro text key2 v2 hv2 ρ (rs++[.ref (A x)]) (epr+1) (by simp only [List.length_append,List.length_cons,List.length_nil]; lia) hkey2 key2 [] E2 a0 ep sgn vl rfl hk2 hE2 hl2
    match v1,hv1,hE with
    | none,_,hE =>
      obtain rfl:E=[]:=by simpa [tl] using hE
      refine spec_run [0,1,2,3,4,5,6,7,8,9,10] 3000 (fun x t =>
        useQ (k_sp_read w b1 b3 l 59 s1 ep (ch 32 s2::chs E2 []) b2 hz9 (by decide)) 85081016888770894005033185860560897280 [0,1,2,3,4,5,6,7] fun o1 =>
        useQ (k_r_str_eq (D:=900) ⟨⟨[59]⟩⟩ ⟨⟨[61]⟩⟩ s1 (Nat.add o1.t 2) false (by decide)) 4400752002314 [] fun o2 =>
        useQ (k_r_str_eq (D:=900) ⟨⟨[59]⟩⟩ ⟨⟨[59]⟩⟩ s1 (Nat.add o2.t 1) true (by decide)) 34380709898 [] fun o3 =>
        useQ (k_r_append (D:=900) (Mine.A ro) (.ref (Mine.A o3.x)) rs epr (by lia)) 10016049898310518154 [10] fun o4 =>
        useQ (k_sp_read w b1 b3 l 32 s2 (ep+1) (chs E2 []) b2 hz8 (by decide)) 22838761565480916211768749541612416877126124810 [0,1,2,3,4,5,6,7] fun o5 =>
        useK (A o3.x (ep+1+1) (Nat.add o4.t 0) (ch 59 s1) .none) 16384 [0,1,2,3,4,5,6,7,8,9,10] fun o6 =>
        finK 0 (pick [o6.v 0,o6.v 1,o6.v 2,o6.v 3,o6.v 4,o6.v 5,o3.x,a0,0]) [11,12]) rfl fun x t => ?_
      cases b1 <;> kernel_rfl
    | some v,hv,hE =>
      obtain ⟨t1,t2,E',rfl,hE'⟩ : ∃ t1 t2 E',E=(61,t1)::(34,t2)::E'∧E'.map (·.1)=esc v++[34]:=by
        match E,hE with
        | (x,t1)::(y,t2)::E',hE=>simp [tl] at hE; exact ⟨t1,t2,E',by rw [hE.1,hE.2.1],hE.2.2⟩
        | [_],hE=>simp [tl] at hE
        | [],hE=>simp [tl] at hE
      have hv1:=hv.1
      have hv2:=hv.2
      have hl':E'.length+2 < 2^18:=by simp only [List.length_cons] at hl; lia
      have hz1:(two ((34,t2)::E') E2 s1 s2).length < 2^20:=by simp only [two,chs,List.length_append,List.length_map,List.length_cons,List.length_nil]; lia
      refine spec_run [0,1,2,3,4,5,6,7,8,9,10] 3000 (fun x t =>
        useQ (k_sp_read w b1 b3 l 61 t1 ep (two ((34,t2)::E') E2 s1 s2) b2 hz1 (by decide)) 85081016888770894005033185860560897280 [0,1,2,3,4,5,6,7] fun o1 =>
        useQ (k_r_str_eq (D:=900) ⟨⟨[61]⟩⟩ ⟨⟨[61]⟩⟩ t1 (Nat.add o1.t 2) true (by decide)) 4400752002314 [] fun o2 =>
        useQ (k_sp_token w b1 b2 b3 l (ch 59 s1::ch 32 s2::chs E2 []) v E' t2 (ep+1) hv1 hE' (by lia) (by simp only [chs,List.length_append,List.length_map,List.length_cons,List.length_nil]; lia)) 664695444443522609414321764535632010 [0,1,2,3,4,5,6,7,8] fun o3 =>
        useQ (k_sp_read w b1 b3 l 59 s1 (o3.v 1) (ch 32 s2::chs E2 []) b2 hz9 (by decide)) 10890370161762674432644247790151794853130 [0,1,2,3,4,5,6,7] fun o4 =>
        useQ (k_r_str_eq (D:=900) ⟨⟨[59]⟩⟩ ⟨⟨[59]⟩⟩ s1 (Nat.add o4.t 2) true (by decide)) 563293550970122 [] fun o5 =>
        useQ (k_r_append (D:=900) (Mine.A ro) (.ref (Mine.A o5.x)) rs epr (by lia)) 10016049898310518154 [10] fun o6 =>
        useQ (k_sp_read w b1 b3 l 32 s2 (o3.v 1+1) (chs E2 []) b2 hz8 (by decide)) 22838761565480916211768749541612416877126124810 [0,1,2,3,4,5,6,7] fun o7 =>
        useK (A o5.x (o3.v 1+1+1) (Nat.add o6.t 0) (ch 59 s1) (.str ⟨⟨v⟩⟩ (o3.v 0))) 16384 [0,1,2,3,4,5,6,7,8,9,10] fun o8 =>
        finK 0 (pick [o8.v 0,o8.v 1,o8.v 2,o8.v 3,o8.v 4,o8.v 5,o5.x,a0,o3.v 0]) [11,12]) rfl fun x t => ?_
      cases b1 <;> kernel_rfl
  | c::k,acc,E,a0,ep,sgn,vl,hk,ho,hE,hl=>by
    obtain ⟨h10,h0,h61,h59⟩:=ho c (.head _)
    have ho':okK k:=fun c' h'=>ho c' (.tail _ h')
    obtain ⟨c,rfl⟩:=Nat.exists_eq_succ_of_ne_zero h0
    obtain ⟨t1,E',rfl,hE'⟩ : ∃ t1 E',E=(c.succ,t1)::E'∧E'.map (·.1)=k++tl v1:=by
      match E,hE with
      | (x,t1)::E',hE=>simp at hE; exact ⟨t1,E',by rw [hE.1],hE.2⟩
    have hl':E'.length+1 < 2^18:=by simp only [List.length_cons] at hl; lia
    have hz1:(two E' E2 s1 s2).length < 2^20:=by simp only [two,chs,List.length_append,List.length_map,List.length_cons,List.length_nil]; lia
    have hz3:acc.length+1 < 2^18:=by rw [hk] at hkey; simp only [List.length_append,List.length_cons] at hkey; lia
    have ih:=fun a0 ep sgn vl=>sp_whB key key2 v1 v2 hv1 hv2 hk2 E2 s1 s2 hE2 hl2 ρ rs epr hrs hkey hkey2 k (acc++[c.succ]) E' a0 ep sgn vl (by rw [hk]; simp) ho' hE' (by lia)
    refine spec_run [0,1,2,3,4,5,6,7,8,9,10] 3000 (fun x t =>
      useQ (k_sp_read w b1 b3 l c.succ t1 ep (two E' E2 s1 s2) b2 hz1 h10) 85081016888770894005033185860560897280 [0,1,2,3,4,5,6,7] fun o1 =>
      useQ (k_r_str_eq (D:=900) ⟨⟨[c.succ]⟩⟩ ⟨⟨[61]⟩⟩ t1 (Nat.add o1.t 2) false (by simpa using h61)) 4400752002314 [] fun o2 =>
      useQ (k_r_str_eq (D:=900) ⟨⟨[c.succ]⟩⟩ ⟨⟨[59]⟩⟩ t1 (Nat.add o2.t 1) false (by simpa using h59)) 34380709898 [] fun o3 =>
      useQ (k_r_str_add (D:=900) acc [c.succ] a0 t1 (by simp only [List.length_cons,List.length_nil]; lia)) 2098442 [] fun o4 =>
      useK (ih (o4.v 0) (ep+1) (ch c.succ t1) .none) 17674 [0,1,2,3,4,5,6,7,8,9,10] fun o5 =>
      finK 0 o5.v [11,12]) rfl fun x t => ?_
    cases b1 <;> kernel_rfl
end
noncomputable def prs (cs:List Nat) (f:Nat→Nat):Nat→List (Nat × Nat) := @List.rec Nat (fun _=>Nat→List (Nat × Nat)) (fun _=>[]) (fun c _ ih i=>(c,f i)::ih (Nat.succ i)) cs
theorem prs_cons (c:Nat) (cs:List Nat) (f:Nat→Nat) (i:Nat):prs (c::cs) f i=(c,f i)::prs cs f (i+1):=rfl
theorem prs_fst (f:Nat→Nat) : ∀ (cs:List Nat) (i:Nat),(prs cs f i).map (·.1)=cs
  | [],_=>rfl
  | c::cs,i=>by rw [prs_cons,List.map_cons,prs_fst f cs]
theorem prs_len (f:Nat→Nat) : ∀ (cs:List Nat) (i:Nat),(prs cs f i).length=cs.length
  | [],_=>rfl
  | c::cs,i=>by rw [prs_cons,List.length_cons,prs_len f cs,List.length_cons]
theorem sgs_append (f:Nat→Nat) (y:List Nat) : ∀ (x:List Nat) (i:Nat),sgs (x++y) f i=chs (prs x f i) (sgs y f (i+x.length))
  | [],_=>rfl
  | c::x,i=>by
    rw [List.cons_append,sgs_cons,sgs_append f y x,prs_cons,List.length_cons,show i+1+x.length=i+(x.length+1) by lia]
    rfl
theorem sgs_end (f:Nat→Nat) (x:List Nat) (i:Nat):sgs x f i=chs (prs x f i) []:=by
  have:=sgs_append f [] x i
  rw [List.append_nil] at this
  exact this
noncomputable def wr (key:List Nat) (v:Option (List Nat)):List Nat:=key++tl v
noncomputable def txt2 (r1 r2:List Nat):List Nat:=r1++(59::32::r2)
noncomputable def nE1 (v:Nat→Nat) (r1:List Nat):List (Nat × Nat):=prs r1 (fun n=>v (Nat.add n 64)) 3
noncomputable def nE2 (v:Nat→Nat) (r1 r2:List Nat):List (Nat × Nat):=prs r2 (fun n=>v (Nat.add n 64)) (3+r1.length+1+1)
noncomputable def nS1 (v:Nat→Nat) (r1:List Nat):Nat:=v (Nat.add (3+r1.length) 64)
noncomputable def nS2 (v:Nat→Nat) (r1:List Nat):Nat:=v (Nat.add (3+r1.length+1) 64)
noncomputable def nL (v:Nat→Nat) (c:Nat) (r1 r2:List Nat):List Value:=ch c (v 66)::two (nE1 v r1) (nE2 v r1 r2) (nS1 v r1) (nS2 v r1)
theorem sgv_two (v:Nat→Nat) (c:Nat) (r1 r2:List Nat):sgv v (c::txt2 r1 r2)=nL v c r1 r2:=by
  unfold sgv nL two txt2
  rw [sgs_cons,sgs_append,sgs_cons,sgs_cons,sgs_end]
  rfl
theorem spec_post {V:Stat} {D:Nat} {c:Code} {pre:List En} {post post':Out→Post} (h : ∀ o,post o=post' o) (S:Spec V D c pre post):Spec V D c pre post':=by
  have:post=post':=funext h
  subst this
  exact S
section
variable (w:World) (b1 b2 b3:Bool)
theorem sp_lexer1' (c:Nat) (r1 r2:List Nat) (t0:Nat) (hz:(c::txt2 r1 r2).length≤2^20):Spec (VV ⟨w,b1,b2,b3⟩) 480 (.call (.ref 284) ⟨[.str ⟨⟨c::txt2 r1 r2⟩⟩ t0],[]⟩) [(279,tblO [])]
    (fun o=>⟨.ok (.ret (.ref (A (o.v 0)))),[tbl1 (o.v 5)],tokPre w (lxOf o.v) (nL o.v c r1 r2) (o.v 14)⟩) :=
  spec_post (fun o=>by rw [← sgv_two]; rfl) (sp_lexer1 w b1 b2 b3 (c::txt2 r1 r2) t0 hz)
noncomputable def k_sp_lexer1':=fun a1 a2 a3 a4 a5 a6 a7 a8 a9=>kOf (sp_lexer1' a1 a2 a3 a4 a5 a6 a7 a8 a9)
theorem sp_lexer2' (τ:Nat→Nat) (w1 w2 w3 co:Nat) (c:Nat) (r1 r2:List Nat) (t0:Nat) (hz:(c::txt2 r1 r2).length≤2^20):Spec (VV ⟨w,b1,b2,b3⟩) 480 (.call (.ref 284) ⟨[.str ⟨⟨c::txt2 r1 r2⟩⟩ t0],[]⟩) [(279,tbl1 co),(A co,coO τ w1 w2 w3)]
    (fun o=>⟨.ok (.ret (.ref (A (o.v 0)))),[tbl1 co,coO τ w1 w2 w3],tokNoCo w.params (lxOf2 o.v co τ w1 w2 w3) (nL o.v c r1 r2) (o.v 14)⟩) :=
  spec_post (fun o=>by rw [← sgv_two]; rfl) (sp_lexer2 w b1 b2 b3 (c::txt2 r1 r2) t0 τ w1 w2 w3 co hz)
noncomputable def k_sp_lexer2':=fun a1 a2 a3 a4 a5 a6 a7 a8 a9 a10 a11 a12 a13 a14=>kOf (sp_lexer2' a1 a2 a3 a4 a5 a6 a7 a8 a9 a10 a11 a12 a13 a14)
noncomputable def rowsNew (v:Nat→Nat) (key1 key2:List Nat) (v1 v2:Option (List Nat)):List En :=
  [(A (v 0),lstO [.ref (A (v 2)),.ref (A (v 3))] 2),(A (v 2),tup [.str ⟨⟨key1⟩⟩ (v 4),ov v1 (v 5)]),(A (v 3),tup [.str ⟨⟨key2⟩⟩ (v 6),ov v2 (v 7)])]
theorem sp_params1 (c:Nat) (k key2:List Nat) (v1 v2:Option (List Nat)) (t0:Nat) (hv1:okV v1) (hv2:okV v2) (hk1:okK (c.succ::k)) (hk2:okK key2) (hz:(c.succ::txt2 (wr k v1) (wr key2 v2)).length < 2^17) :
    Spec (VV ⟨w,b1,b2,b3⟩) 380 (.call (.ref 308) ⟨[.str ⟨⟨c.succ::txt2 (wr k v1) (wr key2 v2)⟩⟩ t0],[]⟩) [(279,tblO [])] (fun o=>⟨.ok (.ret (.ref (A (o.v 0)))),[tbl1 (o.v 1)],rowsNew o.v (c.succ::k) key2 v1 v2++[(A (o.v 1),coO (fun j=>o.v (Nat.add j 20)) (o.v 8) (o.v 9) (o.v 10))]⟩):=by
  obtain ⟨h10,h0,h61,h59⟩:=hk1 c.succ (.head _)
  have hk1':okK k:=fun c' h'=>hk1 c' (.tail _ h')
  have hz':k.length+(tl v1).length+key2.length+(tl v2).length+3 < 2^17:=by simp only [txt2,wr,List.length_append,List.length_cons] at hz; lia
  have e1:=fun (v:Nat→Nat)=>prs_len (fun n=>v (Nat.add n 64)) (wr k v1) 3
  have e2:=fun (v:Nat→Nat)=>prs_len (fun n=>v (Nat.add n 64)) (wr key2 v2) (3+(wr k v1).length+1+1)
  simp only [wr,List.length_append] at e1 e2
  have hz1:=fun (v:Nat→Nat)=>(show (two (nE1 v (wr k v1)) (nE2 v (wr k v1) (wr key2 v2)) (nS1 v (wr k v1)) (nS2 v (wr k v1))).length < 2^20 by
    have:=e1 v
    have:=e2 v
    simp only [two,nE1,nE2,chs,wr,List.length_append,List.length_map,List.length_cons,List.length_nil] at *; lia)
  have B:=fun (v:Nat→Nat) l fr ro text ρ a0 ep sgn vl=>sp_whB w b1 b2 b3 l fr ro text (c.succ::k) key2 v1 v2 hv1 hv2 hk2 (nE2 v (wr k v1) (wr key2 v2)) (nS1 v (wr k v1)) (nS2 v (wr k v1)) (prs_fst _ _ _) (by have:=e2 v; simp only [nE2,wr,List.length_append] at *; lia) ρ [] 0 (by decide) (by simp only [List.length_cons]; lia) (by lia) k [c.succ] (nE1 v (wr k v1)) a0 ep sgn vl rfl hk1' (prs_fst _ _ _) (by have:=e1 v; simp only [nE1,wr,List.length_append] at *; lia)
  refine spec_run [0] 3000 (fun x t =>
    useQ (k_sp_lexer1' w b1 b2 b3 c.succ (wr k v1) (wr key2 v2) t0 (by lia)) 9224497936765845506 [0] fun o1 =>
    useQ (k_sp_read w b1 b3 (lxOf o1.v) c.succ (o1.v 66) (o1.v 14) (two (nE1 o1.v (wr k v1)) (nE2 o1.v (wr k v1) (wr key2 v2)) (nS1 o1.v (wr k v1)) (nS2 o1.v (wr k v1))) b2 (hz1 o1.v) h10) 374236298226929108804377077967574208673764025073922 [2,3,4,5,6,7,8,9] fun o2 =>
    useQ (k_r_str_eq (D:=900) ⟨⟨[c.succ]⟩⟩ ⟨⟨[61]⟩⟩ (o1.v 66) (Nat.add o2.t 2) false (by simpa using h61)) 4398587609346 [] fun o3 =>
    useQ (k_r_str_eq (D:=900) ⟨⟨[c.succ]⟩⟩ ⟨⟨[59]⟩⟩ (o1.v 66) (Nat.add o3.t 1) false (by simpa using h59)) 34363932674 [] fun o4 =>
    useQ (k_r_str_add (D:=900) [] [c.succ] (Nat.add o1.t 2) (o1.v 66) (by simp only [List.length_cons,List.length_nil]; lia)) 2097410 [] fun o5 =>
    useK (B o1.v (lxOf o1.v) x o1.x (.str ⟨⟨c.succ::txt2 (wr k v1) (wr key2 v2)⟩⟩ t0) (pick [Nat.add t 0,Nat.add o1.t 0,Nat.add o1.t 1,Nat.add o1.t 3,Nat.add o2.t 0,Nat.add o2.t 1]) (o5.v 0) (o1.v 14+1) (ch c.succ (o1.v 66)) .none) 16642 [2,3,4,5,6,7,8,9,10,1,11] fun o6 =>
    finK 0 (pick [o1.x,o1.v 5,o6.v 6,o6.v 5,o6.v 7,o6.v 8,o6.v 4,o6.v 0,o1.v 11,o1.v 12,o1.v 13,0,0,0,0,0,0,0,0,0,0,0,0,0,0,0,0,0,o1.v 28,o1.v 29,o1.v 30,o1.v 31,o1.v 32]) [11,12,13,7]) rfl fun x t => ?_
  cases b1 <;> kernel_rfl
theorem sp_params2 (τ:Nat→Nat) (w1 w2 w3 co:Nat) (c:Nat) (k key2:List Nat) (v1 v2:Option (List Nat)) (t0:Nat) (hv1:okV v1) (hv2:okV v2) (hk1:okK (c.succ::k)) (hk2:okK key2) (hz:(c.succ::txt2 (wr k v1) (wr key2 v2)).length < 2^17) :
    Spec (VV ⟨w,b1,b2,b3⟩) 380 (.call (.ref 308) ⟨[.str ⟨⟨c.succ::txt2 (wr k v1) (wr key2 v2)⟩⟩ t0],[]⟩) [(279,tbl1 co),(A co,coO τ w1 w2 w3)] (fun o=>⟨.ok (.ret (.ref (A (o.v 0)))),[tbl1 co,coO τ w1 w2 w3],rowsNew o.v (c.succ::k) key2 v1 v2⟩):=by
  obtain ⟨h10,h0,h61,h59⟩:=hk1 c.succ (.head _)
  have hk1':okK k:=fun c' h'=>hk1 c' (.tail _ h')
  have hz':k.length+(tl v1).length+key2.length+(tl v2).length+3 < 2^17:=by simp only [txt2,wr,List.length_append,List.length_cons] at hz; lia
  have e1:=fun (v:Nat→Nat)=>prs_len (fun n=>v (Nat.add n 64)) (wr k v1) 3
  have e2:=fun (v:Nat→Nat)=>prs_len (fun n=>v (Nat.add n 64)) (wr key2 v2) (3+(wr k v1).length+1+1)
  simp only [wr,List.length_append] at e1 e2
  have hz1:=fun (v:Nat→Nat)=>(show (two (nE1 v (wr k v1)) (nE2 v (wr k v1) (wr key2 v2)) (nS1 v (wr k v1)) (nS2 v (wr k v1))).length < 2^20 by
    have:=e1 v
    have:=e2 v
    simp only [two,nE1,nE2,chs,wr,List.length_append,List.length_map,List.length_cons,List.length_nil] at *; lia)
  have B:=fun (v:Nat→Nat) l fr ro text ρ a0 ep sgn vl=>sp_whB w b1 b2 b3 l fr ro text (c.succ::k) key2 v1 v2 hv1 hv2 hk2 (nE2 v (wr k v1) (wr key2 v2)) (nS1 v (wr k v1)) (nS2 v (wr k v1)) (prs_fst _ _ _) (by have:=e2 v; simp only [nE2,wr,List.length_append] at *; lia) ρ [] 0 (by decide) (by simp only [List.length_cons]; lia) (by lia) k [c.succ] (nE1 v (wr k v1)) a0 ep sgn vl rfl hk1' (prs_fst _ _ _) (by have:=e1 v; simp only [nE1,wr,List.length_append] at *; lia)
  refine spec_run [0,1] 3000 (fun x t =>
    useQ (k_sp_lexer2' w b1 b2 b3 τ w1 w2 w3 co c.succ (wr k v1) (wr key2 v2) t0 (by lia)) 9225060886721380354 [0,1] fun o1 =>
    useQ (k_sp_read w b1 b3 (lxOf2 o1.v co τ w1 w2 w3) c.succ (o1.v 66) (o1.v 14) (two (nE1 o1.v (wr k v1)) (nE2 o1.v (wr k v1) (wr key2 v2)) (nS1 o1.v (wr k v1)) (nS2 o1.v (wr k v1))) b2 (hz1 o1.v) h10) 374259312595973997599756020706472396767979943018883 [3,4,5,6,7,1,8,9] fun o2 =>
    useQ (k_r_str_eq (D:=900) ⟨⟨[c.succ]⟩⟩ ⟨⟨[61]⟩⟩ (o1.v 66) (Nat.add o2.t 2) false (by simpa using h61)) 4398858158467 [] fun o3 =>
    useQ (k_r_str_eq (D:=900) ⟨⟨[c.succ]⟩⟩ ⟨⟨[59]⟩⟩ (o1.v 66) (Nat.add o3.t 1) false (by simpa using h59)) 34366029827 [] fun o4 =>
    useQ (k_r_str_add (D:=900) [] [c.succ] (Nat.add o1.t 2) (o1.v 66) (by simp only [List.length_cons,List.length_nil]; lia)) 2097539 [] fun o5 =>
    useK (B o1.v (lxOf2 o1.v co τ w1 w2 w3) x o1.x (.str ⟨⟨c.succ::txt2 (wr k v1) (wr key2 v2)⟩⟩ t0) (pick [Nat.add t 0,Nat.add o1.t 0,Nat.add o1.t 1,Nat.add o1.t 3,Nat.add o2.t 0,Nat.add o2.t 1]) (o5.v 0) (o1.v 14+1) (ch c.succ (o1.v 66)) .none) 16771 [3,4,5,6,7,1,8,9,10,2,11] fun o6 =>
    finK 0 (pick [o1.x,0,o6.v 6,o6.v 5,o6.v 7,o6.v 8,o6.v 4,o6.v 0]) [11,12,13]) rfl fun x t => ?_
  cases b1 <;> kernel_rfl
end
section
variable (w:World) (b1 b2 b3:Bool)
noncomputable def nmKw (b:Bool):List (Str × Value):=[(⟨⟨[110,97,109,101]⟩⟩,.bool b)]
noncomputable def pl_sp_conv_name (w:World) (b1 b2 b3:Bool) (x:List Nat) (t0:Nat) (h:okName x):Nat→Nat→PlanOk (VV ⟨w,b1,b2,b3⟩):=fun x' t =>
    useQ (k_r_search_name (D:=900) x t0 h) 12855510484054085847701778035626026442677664552189042207244290 [] fun o1 =>
    finK 1 (fun _=>0) []
theorem sp_conv_name (a:Nat) (x:List Nat) (t0:Nat) (h:okName x):Spec (VV ⟨w,b1,b2,b3⟩) 800 (.call (.ref 83) ⟨[.ref (A a),.str ⟨⟨x⟩⟩ t0],nmKw true⟩) [] (fun _=>⟨.ok (.ret (.str ⟨⟨x⟩⟩ t0)),[],[]⟩):=by
  refine spec_run [] 3000 (pl_sp_conv_name w b1 b2 b3 x t0 h) rfl fun x t => ?_
  cases b1 <;> kernel_rfl
noncomputable def k_sp_conv_name:=fun a1 a2 a3 a4 a5 a6 a7 a8=>kOf (sp_conv_name a1 a2 a3 a4 a5 a6 a7 a8)
noncomputable def pl_sp_conv_text (w:World) (b1 b2 b3:Bool) (x:List Nat) (t0:Nat) (h:okText x):Nat→Nat→PlanOk (VV ⟨w,b1,b2,b3⟩):=fun x' t =>
    useQ (k_r_search_text (D:=900) x t0 h) 12855510484054085847701778035626026442677664552189042207244290 [] fun o1 =>
    finK 1 (fun _=>0) []
theorem sp_conv_text (a:Nat) (x:List Nat) (t0:Nat) (h:okText x):Spec (VV ⟨w,b1,b2,b3⟩) 800 (.call (.ref 83) ⟨[.ref (A a),.str ⟨⟨x⟩⟩ t0],nmKw false⟩) [] (fun _=>⟨.ok (.ret (.str ⟨⟨x⟩⟩ t0)),[],[]⟩):=by
  refine spec_run [] 3000 (pl_sp_conv_text w b1 b2 b3 x t0 h) rfl fun x t => ?_
  cases b1 <;> kernel_rfl
noncomputable def k_sp_conv_text:=fun a1 a2 a3 a4 a5 a6 a7 a8=>kOf (sp_conv_text a1 a2 a3 a4 a5 a6 a7 a8)
end
noncomputable def sgn:Nat→List Nat
  | 0=>[34] | 1=>[92] | 2=>[32] | 3=>[59] | 4=>[61] | 5=>[95] | 6=>[9] | 7=>[110,45,111] | 8=>[97] | _=>[47]
noncomputable def sgnL (t:Nat):List Value:=[.str ⟨⟨[34]⟩⟩ (Nat.add t 1),.str ⟨⟨[92]⟩⟩ (Nat.add t 2),.str ⟨⟨[32]⟩⟩ (Nat.add t 3),.str ⟨⟨[59]⟩⟩ (Nat.add t 4),.str ⟨⟨[61]⟩⟩ (Nat.add t 5),.str ⟨⟨[95]⟩⟩ (Nat.add t 6),.str ⟨⟨[9]⟩⟩ (Nat.add t 7),.str ⟨⟨[110,45,111]⟩⟩ (Nat.add t 8),.str ⟨⟨[97]⟩⟩ (Nat.add t 9),.str ⟨⟨[47]⟩⟩ (Nat.add t 10)]
theorem sgnL_get (t:Nat) : ∀ i,i < 10 → ∃ τ,(sgnL t)[i]? = some (.str ⟨⟨sgn i⟩⟩ τ)
  | 0,_ | 1,_ | 2,_ | 3,_ | 4,_ | 5,_ | 6,_ | 7,_ | 8,_ | 9,_=>⟨_,rfl⟩
  | n+10,h=>absurd h (by lia)
noncomputable def noteV (n:Nat):Option (List Nat):=match n / 30 % 4 with
  | 0=>none
  | 1=>some []
  | 2=>some (sgn (n / 120 % 10))
  | _=>some (sgn (n / 120 % 10)++sgn (n / 1200 % 10))
theorem sgn_len : ∀ i,(sgn i).length≤3
  | 0 | 1 | 2 | 3 | 4 | 5 | 6 | 7 | 8=>by decide
  | n+9=>by show [47].length≤3; decide
theorem note_get (n a b c:Nat) : ∃ τ,([.none,.str ⟨⟨[]⟩⟩ a,.str ⟨⟨sgn (n / 120 % 10)⟩⟩ b,.str ⟨⟨sgn (n / 120 % 10)++sgn (n / 1200 % 10)⟩⟩ c]:List Value)[n / 30 % 4]? = some (ov (noteV n) τ):=by
  have h:n / 30 % 4 < 4:=Nat.mod_lt _ (by decide)
  unfold noteV
  generalize n / 30 % 4=j at h ⊢
  match j,h with
  | 0,_=>exact ⟨0,rfl⟩
  | 1,_=>exact ⟨a,rfl⟩
  | 2,_=>exact ⟨b,rfl⟩
  | 3,_=>exact ⟨c,rfl⟩
theorem sp_note (w:World) (b1 b2 b3:Bool) (n t0:Nat):Spec (VV ⟨w,b1,b2,b3⟩) 500 (.call (.ref 291) ⟨[.int (Int.ofNat n) t0],[]⟩) [] (fun o=>⟨.ok (.ret (ov (noteV n) (o.v 0))),[],[]⟩):=by
  have ng:=note_get n
  generalize noteV n=r at ng ⊢
  have m10 : ∀ k:Nat,k % 10 < 10:=fun k=>Nat.mod_lt _ (by decide)
  refine spec_run [] 3000 (fun x t =>
    useQ (k_r_int_fdiv (D:=900) n 120 t0 (Nat.add t 12) (by decide) rfl) 151125023448807541587970 [] fun o1 =>
    useQ (k_r_int_mod (D:=900) (Int.ofNat (n / 120)) 10 (o1.v 0) (Nat.add o1.t 0) (by decide)) 128 [] fun o2 =>
    useQ (k_r_get (D:=900) (A (Nat.add x 1)) (sgnL t) 0 (n / 120 % 10) (o2.v 0) (fun τ => .str ⟨⟨sgn (n / 120 % 10)⟩⟩ τ) (sgnL_get t _ (m10 _)) (by have:=m10 (n / 120); lia)) 34896642306 [1] fun o3 =>
    useQ (k_r_int_fdiv (D:=900) n 1200 t0 (Nat.add o3.t 2) (by decide) rfl) 562984583708801 [] fun o4 =>
    useQ (k_r_int_mod (D:=900) (Int.ofNat (n / 1200)) 10 (o4.v 0) (Nat.add o4.t 0) (by decide)) 128 [] fun o5 =>
    useQ (k_r_get (D:=900) (A (Nat.add x 1)) (sgnL t) 0 (n / 1200 % 10) (o5.v 0) (fun τ => .str ⟨⟨sgn (n / 1200 % 10)⟩⟩ τ) (sgnL_get t _ (m10 _)) (by have:=m10 (n / 1200); lia)) 34896642306 [1] fun o6 =>
    useQ (k_r_str_add (D:=900) (sgn (n / 120 % 10)) (sgn (n / 1200 % 10)) (o3.v 0) (o6.v 0) (by have:=sgn_len (n / 120 % 10); have:=sgn_len (n / 1200 % 10); lia)) 128 [] fun o7 =>
    useQ (k_r_int_fdiv (D:=900) n 30 t0 (Nat.add o7.t 0) (by decide) rfl) 16385 [] fun o8 =>
    useQ (k_r_int_mod (D:=900) (Int.ofNat (n / 30)) 4 (o8.v 0) (Nat.add o8.t 0) (by decide)) 128 [] fun o9 =>
    useQ (k_r_get (D:=900) (A o7.x) [.none,.str ⟨⟨[]⟩⟩ (Nat.add o3.t 1),.str ⟨⟨sgn (n / 120 % 10)⟩⟩ (o3.v 0),.str ⟨⟨sgn (n / 120 % 10)++sgn (n / 1200 % 10)⟩⟩ (o7.v 0)] 0 (n / 30 % 4) (o9.v 0) (ov r) (ng _ _ _) (by have:=Nat.mod_lt (n / 30) (show 4 > 0 by decide); lia)) 35165094275 [2] fun o10 =>
    finK 0 o10.v []) rfl fun x t => ?_
  cases r <;> cases b1 <;> kernel_rfl
end Mine
namespace Mine
open PySem PySem.W PySem.W.X PyProof.Rows PySem.Calls
theorem spec_stillU {V:Stat} {D:Nat} {id:String} {args:Args} {b:Builtin} {pre:List En} (val:Nat→Value) (hq:plainId id=true) (hb:entryFor table id=some b)
    (h : ∀ (A:Around) (s:Shared) (R:Result→Shared→Prop),A.handled=none→A.units≤8*D+8→s.gens = #[]→Top V.kt s.heap→Holds s.heap pre→(∀ t τ,R (.ok (.ret (val τ))) { s with toks:=t }) →
      wpAny (model V.prog V.w) A.in1 (b args) (FinIs V A R) (fun e s'=>R (.error e) s') s):Spec V D (.builtin id args) pre (fun o=>⟨.ok (.ret (val (o.v 0))),pre.map (·.2),[]⟩):=by
  refine spec_code fun A s R hA hD hg hT hL hH hK hG => ?_
  refine codeAny_builtin hb ?_
  rw [Around.under_plainId hq args]
  refine h A s R hA hD.2 hg hT hH fun t τ => ?_
  refine hG t (s.heap.objs.size-L) (fun _=>τ) s.heap (by show _=s.heap.objs.size-L+L; omega) (by show _≤s.heap.objs.size-L+L; omega) hT (fun _ _ e _=>e) ?_ (fun p hp=>(nomatch hp)) (fun p hp=>(nomatch hp)) List.nodup_nil
  show Holds s.heap (zipMod pre (pre.map (·.2)))
  rw [zip_self]; exact hH
inductive EqB:Value→Value→Prop
  | same (v:Value):EqB v v
  | str (x:Str) (t u:Tok):EqB (.str x t) (.str x u)
  | int (x:Int) (t u:Tok):EqB (.int x t) (.int x u)
inductive AllB:List Value→List Value→Prop
  | nil:AllB [] []
  | cons {x y:Value} {xs ys:List Value}:EqB x y→AllB xs ys→AllB (x::xs) (y::ys)
inductive EqT (l:List En):Value→Value→Prop
  | base {x y:Value}:EqB x y→EqT l x y
  | tup {a b:Addr} {xs ys:List Value}:(a,tup xs) ∈ l→(b,tup ys) ∈ l→AllB xs ys→EqT l (.ref a) (.ref b)
inductive AllT (l:List En):List Value→List Value→Prop
  | nil:AllT l [] []
  | cons {x y:Value} {xs ys:List Value}:EqT l x y→AllT l xs ys→AllT l (x::xs) (y::ys)
open PySem.SeqAt in
theorem EqB.at {A:Around} {s:Shared} {x y:Value} (h:EqB x y):EqAt A s x y true:=by
  cases h with
  | same=>exact EqAt.same x
  | str x t u =>
    have:=EqAt.str_str (A:=A) (s:=s) x t x u
    rwa [beq_self_eq_true] at this
  | int x t u =>
    have:=EqAt.int_int (A:=A) (s:=s) x t x u
    rwa [beq_self_eq_true] at this
theorem AllB.len : ∀ {xs ys:List Value},AllB xs ys→xs.length=ys.length
  | _,_,.nil=>rfl
  | _,_,.cons _ h=>by rw [List.length_cons,List.length_cons,h.len]
theorem AllB.get : ∀ {xs ys:List Value},AllB xs ys → ∀ (j:Nat) (h1:j < xs.length) (h2:j < ys.length),EqB xs[j] ys[j]
  | _,_,.cons h _,0,_,_=>h
  | _,_,.cons _ h,j+1,h1,h2=>h.get j (Nat.lt_of_succ_lt_succ h1) (Nat.lt_of_succ_lt_succ h2)
theorem AllT.len {l:List En} : ∀ {xs ys:List Value},AllT l xs ys→xs.length=ys.length
  | _,_,.nil=>rfl
  | _,_,.cons _ h=>by rw [List.length_cons,List.length_cons,h.len]
theorem AllT.get {l:List En} : ∀ {xs ys:List Value},AllT l xs ys → ∀ (j:Nat) (h1:j < xs.length) (h2:j < ys.length),EqT l xs[j] ys[j]
  | _,_,.cons h _,0,_,_=>h
  | _,_,.cons _ h,j+1,h1,h2=>h.get j (Nat.lt_of_succ_lt_succ h1) (Nat.lt_of_succ_lt_succ h2)
open PySem.SeqAt in
theorem EqT.at {l:List En} {A:Around} {s:Shared} {x y:Value} (hH:Holds s.heap l) (hu:A.units < cLine) (h:EqT l x y):EqAt A s x y true:=by
  cases h with
  | base h=>exact h.at
  | tup h1 h2 h3 =>
    rename_i a b xs ys
    by_cases hab:a=b
    · subst hab; exact EqAt.same _
    · have t1:s.heap.IsTuple a ⟨xs⟩:=⟨_,hH _ h1,rfl,0,rfl⟩
      have t2:s.heap.IsTuple b ⟨ys⟩:=⟨_,hH _ h2,rfl,0,rfl⟩
      have:=EqAt.of_refs hab (RcAt.tuples (A:=A) (e:=fun _=>true) t1 t2 hu fun j g1 g2=>(h3.get j (by simpa using g1) (by simpa using g2)).at)
      have e:((List.range (min (⟨xs⟩:Array Value).size (⟨ys⟩:Array Value).size)).all (fun _=>true) && (⟨xs⟩:Array Value).size == (⟨ys⟩:Array Value).size)=true:=by
        simp [h3.len]
      rwa [e] at this
open PySem.SeqAt in
theorem r_list_ne {w:Ws} {D:Nat} (l b:Addr) (xs ys:List Value) (e1 e2:Nat) (pre:List En) (hD:D≤1000) (h1:(l,lstO xs e1) ∈ pre) (h2:(b,lstO ys e2) ∈ pre) (h:AllT pre xs ys) :
    Spec (VV w) D (.builtin "list.__ne__" ⟨[.ref l,.ref b],[]⟩) pre (fun _=>⟨.ok (.ret (.bool false)),pre.map (·.2),[]⟩):=by
  refine spec_stillU (fun _ => .bool false) (by decide +kernel) (entryFor_of_tree (by kernel_rfl):entryFor table "list.__ne__" = some Builtin.«list.__ne__») fun A s R _ hu _ _ hH hR => ?_
  refine list_neAt l b ⟨xs⟩ ⟨ys⟩ e1 e2 none none #[] #[] (by simpa using h.len) (fun _=>true) _ _ A R s ⟨hH _ h1,hH _ h2,fun j g1 g2=>(h.get j (by simpa using g1) (by simpa using g2)).at hH (by show A.units+1 < 9900; omega),?_⟩
  have e:(!(List.range (⟨xs⟩:Array Value).size).all (fun _=>true))=false:=by simp
  rw [e]
  exact hR _ 0
noncomputable def k_r_list_ne {w:Ws} {D:Nat}:=fun a1 a2 a3 a4 a5 a6 a7 a8 a9 a10 a11=>kOf (r_list_ne (w:=w) (D:=D) a1 a2 a3 a4 a5 a6 a7 a8 a9 a10 a11)
noncomputable def rep (c:Nat) (z:List Nat):List Nat→List Nat
  | []=>[]
  | k::r=>if k=c then z++rep c z r else k::rep c z r
theorem rep_append (c:Nat) (z:List Nat) : ∀ a b:List Nat,rep c z (a++b)=rep c z a++rep c z b
  | [],_=>rfl
  | k::r,b=>by
    have ih:=rep_append c z r b
    simp only [List.cons_append,rep]
    by_cases h:k=c <;> simp [h,ih]
theorem rep_free (c:Nat) (z:List Nat) : ∀ l:List Nat,c ∉ l→rep c z l=l
  | [],_=>rfl
  | k::r,h=>by
    have h1 : ¬ k=c:=fun e=>h (e▸List.mem_cons_self ..)
    rw [rep,if_neg h1,rep_free c z r fun m=>h (List.mem_cons_of_mem _ m)]
theorem rep_join (c:Nat) (z:List Nat) : ∀ parts:List Str,(∀ p ∈ parts,c ∉ p.cps.toList)→rep c z (Str.join ⟨#[c]⟩ parts).cps.toList=(Str.join ⟨⟨z⟩⟩ parts).cps.toList
  | [],_=>rfl
  | [p],h=>rep_free c z _ (h p (List.mem_singleton.mpr rfl))
  | p::q::r,h=>by
    have ih:=rep_join c z (q::r) fun a ha=>h a (List.mem_cons_of_mem _ ha)
    show rep c z (p++⟨#[c]⟩++Str.join ⟨#[c]⟩ (q::r)).cps.toList=(p++⟨⟨z⟩⟩++Str.join ⟨⟨z⟩⟩ (q::r)).cps.toList
    simp only [Str.cps_append,Array.toList_append]
    rw [rep_append,rep_append,ih,rep_free c z _ (h p (List.mem_cons_self ..))]
    simp [rep]
theorem replace_rep (x:List Nat) (c:Nat) (z:List Nat):Txt.replace ⟨⟨x⟩⟩ ⟨#[c]⟩ ⟨⟨z⟩⟩=⟨⟨rep c z x⟩⟩:=by
  have h:=rep_join c z (Txt.split ⟨⟨x⟩⟩ ⟨#[c]⟩) (StrLaws.split_free _ c)
  rw [StrLaws.join_split,← StrLaws.replace_one] at h
  have h:rep c z x=(Txt.replace ⟨⟨x⟩⟩ ⟨#[c]⟩ ⟨⟨z⟩⟩).cps.toList:=h
  rw [h]
theorem r_replace {w:Ws} {D:Nat} (x:List Nat) (c:Nat) (z:List Nat) (t u v:Tok) (hu:u≠0) (hv:v≠0) (huv:u≠v) (hyz:((⟨#[c]⟩:Str) == ⟨⟨z⟩⟩)=false) (hx:x.length≤2^20) (hz:z.length≤2) :
    Spec (VV w) D (.builtin "str.replace" ⟨[.str ⟨⟨x⟩⟩ t,.str ⟨⟨[c]⟩⟩ u,.str ⟨⟨z⟩⟩ v],[]⟩) [] (fun o=>⟨.ok (.ret (.str ⟨⟨rep c z x⟩⟩ (o.v 0))),[],[]⟩):=by
  have hb:(⟨⟨x⟩⟩:Str).length+((⟨⟨x⟩⟩:Str).length+1)*(⟨⟨z⟩⟩:Str).length≤16777216:=by
    rw [str_len,str_len]
    have:(x.length+1)*z.length≤(x.length+1)*2:=Nat.mul_le_mul_left _ hz
    lia
  have hl:Builtin.Str.tooLong ((⟨⟨x⟩⟩:Str).length+(Builtin.Str.occurrences ⟨⟨x⟩⟩ ⟨#[c]⟩ 0 (⟨⟨x⟩⟩:Str).length ((⟨⟨x⟩⟩:Str).length+1)).length*(⟨⟨z⟩⟩:Str).length)=false:=by
    have h1:=StrLaws.occ_length_le ⟨⟨x⟩⟩ ⟨#[c]⟩ 0 (⟨⟨x⟩⟩:Str).length ((⟨⟨x⟩⟩:Str).length+1)
    have h2:=Nat.mul_le_mul_right (⟨⟨z⟩⟩:Str).length h1
    unfold Builtin.Str.tooLong
    rw [sizeLine_eq]
    exact decide_eq_false (by lia)
  refine spec_gives (fun τ => .str ⟨⟨rep c z x⟩⟩ τ) (by decide +kernel) F.entry_str_replace (gives_str_replace ⟨⟨x⟩⟩ ⟨#[c]⟩ ⟨⟨z⟩⟩ t u v fun _=>⟨by simp [hu,hv],by simpa using huv,hyz,hl⟩) fun Q s h => ?_
  have hr:=replace_rep x c z
  have hfit:=fits_replaced (⟨#[c]⟩:Str) hb
  unfold Txt.replace at hr
  cases hc:((Builtin.Str.occurrences ⟨⟨x⟩⟩ ⟨#[c]⟩ 0 (⟨⟨x⟩⟩:Str).length ((⟨⟨x⟩⟩:Str).length+1)).isEmpty || ((⟨#[c]⟩:Str).length == 0 && (⟨⟨z⟩⟩:Str).length == 0))
  · rw [hc] at hr
    simp only [Bool.false_eq_true,if_false] at hr ⊢
    refine ⟨hfit,?_⟩
    rw [hr]
    exact h _ _
  · rw [hc] at hr
    simp only [if_true] at hr ⊢
    have:=h s.toks t
    rw [← hr] at this
    exact this
noncomputable def k_r_replace {w:Ws} {D:Nat}:=fun a1 a2 a3 a4 a5 a6 a7 a8 a9 a10 a11 a12=>kOf (r_replace (w:=w) (D:=D) a1 a2 a3 a4 a5 a6 a7 a8 a9 a10 a11 a12)
theorem r_slen {w:Ws} {D:Nat} (x:List Nat) (t:Tok) (hz:x.length < 2^60):Spec (VV w) D (.builtin "len" ⟨[.str ⟨⟨x⟩⟩ t],[]⟩) [] (fun o=>⟨.ok (.ret (.int x.length (o.v 0))),[],[]⟩):=by
  refine spec_still (fun τ => .int x.length τ) (by decide +kernel) entry_len fun A s R _ _ _ hH h => ?_
  unfold Builtin.«len»
  refine wpAny_bind (m:=oneArg "len" _) (wpAny_pure ?_)
  refine wpAny_bind (m:=callSpecial? (.str ⟨⟨x⟩⟩ t) (Str.ofString "__len__")) (wpAny_callSpecial?_slot (name:=Str.ofString "__len__") (typeIs_str s _ _) F.slot_str_len
    (wpAny_call_entry F.slot_str_len (typeIs_str s _ _) F.entry_str_len ?_ (F.args_str_len_1 _)))
  show wpAny _ _ (retInt ((⟨⟨x⟩⟩:Str).length:Int)) _ _ s
  refine wpAny_bind (wpAny_mkInt (wpAny_pure ⟨_,rfl,?_⟩))
  refine wpAny_bind (wpAny_holding (wpAny_pure ?_))
  refine wpAny_bind (wpAny_letGo ?_)
  show wpAny _ _ (if ((x.length:Nat):Int) < 0 then _ else _) _ _ _
  rw [if_neg (by lia)]
  show wpAny _ _ (if ((x.length:Nat):Int) ≥ 2^63 then _ else _) _ _ _
  rw [if_neg (by lia)]
  exact wpAny_bind (wpAny_mkInt (wpAny_pure (h _ _)))
noncomputable def k_r_slen {w:Ws} {D:Nat}:=fun a1 a2 a3=>kOf (r_slen (w:=w) (D:=D) a1 a2 a3)
theorem r_int_gt {w:Ws} {D:Nat} (x y:Int) (t u:Tok) (b:Bool) (h:decide (y < x)=b):Spec (VV w) D (.builtin "int.__gt__" ⟨[.int x t,.int y u],[]⟩) [] (fun _=>⟨.ok (.ret (.bool b)),[],[]⟩):=by
  refine spec_still (fun _ => .bool b) (by decide +kernel) (entryFor_of_tree (by kernel_rfl):entryFor table "int.__gt__" = some Builtin.«int.__gt__») fun A s R _ _ _ _ h' => ?_
  obtain ⟨hp,g,d,tk,os⟩:=s
  wp_walk
  subst h
  exact h' _ 0
noncomputable def k_r_int_gt {w:Ws} {D:Nat}:=fun a1 a2 a3 a4 a5 a6=>kOf (r_int_gt (w:=w) (D:=D) a1 a2 a3 a4 a5 a6)
theorem r_int_same {w:Ws} {D:Nat} (n:Nat):Spec (VV w) D (.builtin "int.__eq__" ⟨[.int (Int.ofNat n) 0,.int (Int.ofNat n) 0],[]⟩) [] (fun _=>⟨.ok (.ret (.bool true)),[],[]⟩) :=
  spec_gives (m := .val (.bool true)) (fun _ => .bool true) (by decide +kernel) F.entry_int_eq (by have:=gives_int_eq (Int.ofNat n) (Int.ofNat n) 0 0; rwa [beq_self_eq_true] at this) (fun Q s h=>h s.toks 0)
noncomputable def k_r_int_same {w:Ws} {D:Nat}:=fun a1=>kOf (r_int_same (w:=w) (D:=D) a1)
end Mine
namespace Mine
open PySem PySem.W PySem.W.X
theorem rep_esc : ∀ v:List Nat,rep 34 [92,34] (rep 92 [92,92] v)=esc v
  | []=>rfl
  | c::v=>by
    have ih:=rep_esc v
    by_cases h1:c=92
    · subst h1
      simp [rep,esc,ih]
    · by_cases h2:c=34
      · subst h2
        simp [rep,esc,ih]
      · simp [rep,esc,ih,h1,h2]
theorem rep_len (c:Nat) (z:List Nat) (hz:z.length≤2) : ∀ v:List Nat,(rep c z v).length≤2*v.length
  | []=>by simp [rep]
  | k::v=>by
    have:=rep_len c z hz v
    rw [rep]
    split <;> simp <;> lia
theorem r_str_addS {w:Ws} {D:Nat} (a b:Str) (z:List Nat) (t u:Tok) (h:a++b=⟨⟨z⟩⟩) (hz:z.length≤2^20):Spec (VV w) D (.builtin "str.__add__" ⟨[.str a t,.str b u],[]⟩) [] (fun o=>⟨.ok (.ret (.str ⟨⟨z⟩⟩ (o.v 0))),[],[]⟩):=by
  obtain ⟨⟨x⟩⟩:=a
  obtain ⟨⟨y⟩⟩:=b
  have e:x++y=z:=by
    rw [str_app] at h
    injection h with h
    injection h
  subst e
  exact r_str_add x y t u (by simpa using hz)
noncomputable def k_r_str_addS {w:Ws} {D:Nat}:=fun a1 a2 a3 a4 a5 a6 a7=>kOf (r_str_addS (w:=w) (D:=D) a1 a2 a3 a4 a5 a6 a7)
theorem fmt_app (k v:List Nat):(((Str.empty++(⟨⟨k⟩⟩:Str))++⟨⟨[61,34]⟩⟩)++⟨⟨rep 34 [92,34] (rep 92 [92,92] v)⟩⟩)++⟨⟨[34]⟩⟩=(⟨⟨k++tl (some v)⟩⟩:Str):=by
  have e:Str.empty=(⟨⟨[]⟩⟩:Str):=rfl
  rw [e,str_app,str_app,str_app,str_app,rep_esc,tl]
  simp
section
variable (w:World) (b1 b2 b3:Bool)
theorem sp_fmt_some (k:List Nat) (c:Nat) (v:List Nat) (tk tv:Nat) (hk:k.length≤2^10) (hv:(c::v).length≤2^17):Spec (VV ⟨w,b1,b2,b3⟩) 700 (.call (.ref 61) ⟨[.str ⟨⟨k⟩⟩ tk,.str ⟨⟨c::v⟩⟩ tv],[]⟩) []
    (fun o=>⟨.ok (.ret (.str ⟨⟨k++tl (some (c::v))⟩⟩ (o.v 0))),[],[]⟩):=by
  have l1:=rep_len 92 [92,92] (by decide) (c::v)
  have l2:=rep_len 34 [92,34] (by decide) (rep 92 [92,92] (c::v))
  have l3:(k++tl (some (c::v))).length≤2^20:=by
    have l4:=congrArg List.length (rep_esc (c::v))
    simp only [tl,List.length_append,List.length_cons,List.length_nil] at *
    lia
  refine spec_run [] 3000 (fun x t =>
    useQ (k_r_slen (D:=900) (c::v) tv (by lia)) 5192613771336000485957675819991042 [] fun o1 =>
    useQ (k_r_int_gt (D:=900) ((c::v:List Nat).length) 0 (o1.v 0) (Nat.add o1.t 0) true (by simp only [List.length_cons]; simp)) 128 [] fun o2 =>
    useQ (k_r_replace (D:=900) (c::v) 92 [92,92] tv (Nat.add o2.t 0) (Nat.add o2.t 1) (Nat.succ_ne_zero _) (Nat.succ_ne_zero _) (by show o2.t+0≠o2.t+1; lia) (by decide) (by lia) (by decide)) 34361835521 [] fun o3 =>
    useQ (k_r_replace (D:=900) (rep 92 [92,92] (c::v)) 34 [92,34] (o3.v 0) (Nat.add o3.t 0) (Nat.add o3.t 1) (Nat.succ_ne_zero _) (Nat.succ_ne_zero _) (by show o3.t+0≠o3.t+1; lia) (by decide) (by lia) (by decide)) 128 [] fun o4 =>
    useQ (k_r_str_addS (D:=900) (((Str.empty++(⟨⟨k⟩⟩:Str))++⟨⟨[61,34]⟩⟩)++⟨⟨rep 34 [92,34] (rep 92 [92,92] (c::v))⟩⟩) ⟨⟨[34]⟩⟩ (k++tl (some (c::v))) 0 0 (fmt_app _ _) l3) 270549121 [] fun o5 =>
    finK 0 o5.v []) rfl fun x t => ?_
  cases b1 <;> cases b3 <;> kernel_rfl
theorem sp_fmt_nil (k:List Nat) (tk tv:Nat):Spec (VV ⟨w,b1,b2,b3⟩) 700 (.call (.ref 61) ⟨[.str ⟨⟨k⟩⟩ tk,.str ⟨⟨[]⟩⟩ tv],[]⟩) []
    (fun _=>⟨.ok (.ret (.str ⟨⟨k⟩⟩ tk)),[],[]⟩):=by
  refine spec_run [] 3000 (fun x t =>
    useQ (k_r_slen (D:=900) [] tv (by decide)) 5192613771336000485957675819991042 [] fun o1 =>
    useQ (k_r_int_gt (D:=900) (([]:List Nat).length) 0 (o1.v 0) (Nat.add o1.t 0) false (by decide)) 128 [] fun o2 =>
    finK 1 (fun _=>0) []) rfl fun x t => ?_
  cases b1 <;> cases b3 <;> kernel_rfl
end
end Mine
namespace Mine
open PySem PySem.W PySem.W.X PyProof.Rows PySem.Calls
noncomputable def joinL (sep:List Nat):List (List Nat)→List Nat
  | []=>[]
  | [x]=>x
  | x::y::r=>x++sep++joinL sep (y::r)
theorem joinL_is (sep:List Nat) : ∀ l:List (List Nat),Str.join ⟨⟨sep⟩⟩ (l.map fun x=>⟨⟨x⟩⟩)=⟨⟨joinL sep l⟩⟩
  | []=>rfl
  | [x]=>rfl
  | x::y::r=>by
    have ih:=joinL_is sep (y::r)
    show (⟨⟨x⟩⟩:Str)++⟨⟨sep⟩⟩++Str.join ⟨⟨sep⟩⟩ ((y::r).map fun x=>⟨⟨x⟩⟩)=_
    rw [ih,str_app,str_app]
    rfl
noncomputable def sumL (k:Nat):List (List Nat)→Nat
  | []=>0
  | x::r=>x.length+k+sumL k r
theorem fold_sum (k:Nat) : ∀ (l:List (List Nat)) (a:Nat),(l.map fun x=>(⟨⟨x⟩⟩:Str)).foldl (fun n x=>n+x.length+k) a=a+sumL k l
  | [],a=>rfl
  | x::r,a=>by
    show (r.map fun x=>(⟨⟨x⟩⟩:Str)).foldl (fun n x=>n+x.length+k) (a+x.length+k)=_
    rw [fold_sum k r,sumL]; lia
theorem joinL_len (sep:List Nat) : ∀ l:List (List Nat),(joinL sep l).length≤sumL sep.length l
  | []=>Nat.le_refl _
  | [x]=>by show x.length≤x.length+sep.length+0; lia
  | x::y::r=>by
    have ih:=joinL_len sep (y::r)
    show (x++sep++joinL sep (y::r)).length≤x.length+sep.length+sumL sep.length (y::r)
    simp only [List.length_append]; lia
noncomputable def strL (l:List (List Nat × Nat)):List Value := @List.rec (List Nat × Nat) (fun _=>List Value) [] (fun p _ ih => .str ⟨⟨p.1⟩⟩ p.2::ih) l
theorem strL_is : ∀ l:List (List Nat × Nat),strL l=strValues (l.map fun p=>((⟨⟨p.1⟩⟩:Str),p.2))
  | []=>rfl
  | p::r=>by
    show .str ⟨⟨p.1⟩⟩ p.2::strL r = .str ⟨⟨p.1⟩⟩ p.2::_
    rw [strL_is r]; rfl
theorem r_join {w:Ws} {D:Nat} (sep:List Nat) (t:Tok) (a:Addr) (l:List (List Nat × Nat)) (vs:List Value) (ep:Nat) (z:List Nat) (hv:vs=strL l) (hz:z=joinL sep (l.map (·.1))) (hl:sumL sep.length (l.map (·.1))≤2^20) :
    Spec (VV w) D (.builtin "str.join" ⟨[.str ⟨⟨sep⟩⟩ t,.ref a],[]⟩) [(a,lstO vs ep)] (fun o=>⟨.ok (.ret (.str ⟨⟨z⟩⟩ (o.v 0))),[lstO vs ep],[]⟩):=by
  subst hv hz
  refine spec_still (fun τ => .str ⟨⟨joinL sep (l.map (·.1))⟩⟩ τ) (by decide +kernel) F.entry_str_join fun A s R _ _ _ hH h => ?_
  have ho:s.heap.get? a=some (lstO (strL l) ep):=hH _ (.head _)
  have hlist:s.heap.IsList a (strValues (l.map fun p=>((⟨⟨p.1⟩⟩:Str),p.2))).toArray:=by
    rw [← strL_is]
    exact ⟨_,ho,rfl,ep,rfl⟩
  have e1:((l.map fun p=>((⟨⟨p.1⟩⟩:Str),p.2)).map (·.1))=(l.map (·.1)).map fun x=>(⟨⟨x⟩⟩:Str):=by
    rw [List.map_map,List.map_map]; rfl
  refine meets_str_join_list ⟨⟨sep⟩⟩ t a (l.map fun p=>((⟨⟨p.1⟩⟩:Str),p.2)) ?_ _ _ A R s ⟨hlist,?_⟩
  · rw [e1]
    have:=fold_sum sep.length (l.map (·.1)) 0
    unfold Builtin.Str.tooLong
    rw [List.foldl_toArray]
    refine decide_eq_false ?_
    show ¬ (sizeLine < ((l.map (·.1)).map fun x=>(⟨⟨x⟩⟩:Str)).foldl (fun n x=>n+x.length+sep.length) 0)
    rw [this,sizeLine_eq]
    lia
  · have big : ∀ m:List (Str × Tok),m=l.map (fun p=>((⟨⟨p.1⟩⟩:Str),p.2))→(Made.str (Builtin.Str.glued ⟨⟨sep⟩⟩ (m.map (·.1)))).post (fun v s'=>R (.ok (.ret v)) s') s:=by
      rintro _ rfl
      rw [e1,StrLaws.glued_eq_join,joinL_is]
      have:=joinL_len sep (l.map (·.1))
      refine ⟨?_,h _ _⟩
      show (joinL sep (l.map (·.1))).length≤sizeLine
      rw [sizeLine_eq]; lia
    match l,big,h with
    | [],big,_=>exact big _ rfl
    | [p],_,h=>exact h s.toks p.2
    | p::q::r,big,_=>exact big _ rfl
noncomputable def k_r_join {w:Ws} {D:Nat}:=fun a1 a2 a3 a4 a5 a6 a7 a8 a9 a10=>kOf (r_join (w:=w) (D:=D) a1 a2 a3 a4 a5 a6 a7 a8 a9 a10)
end Mine
namespace Mine
open PySem PySem.W PySem.W.X
theorem tk_ne (a i j:Nat) (h:i < j):Nat.add a i≠Nat.add a j:=Nat.ne_of_lt (Nat.add_lt_add_left h a)
theorem r_repl {w:Ws} {D:Nat} (x:List Nat) (c:Nat) (z r:List Nat) (t u v:PySem.Tok) (hu:u≠0) (hv:v≠0) (huv:u≠v) (hr:rep c z x=r) (hyz:((⟨#[c]⟩:Str) == ⟨⟨z⟩⟩)=false) (hx:x.length≤2^20) (hz:z.length≤2) :
    Spec (VV w) D (.builtin "str.replace" ⟨[.str ⟨⟨x⟩⟩ t,.str ⟨⟨[c]⟩⟩ u,.str ⟨⟨z⟩⟩ v],[]⟩) [] (fun o=>⟨.ok (.ret (.str ⟨⟨r⟩⟩ (o.v 0))),[],[]⟩):=by
  subst hr
  exact r_replace x c z t u v hu hv huv hyz hx hz
noncomputable def k_r_repl {w:Ws} {D:Nat}:=fun a1 a2 a3 a4 a5 a6 a7 a8 a9 a10 a11 a12 a13 a14=>kOf (r_repl (w:=w) (D:=D) a1 a2 a3 a4 a5 a6 a7 a8 a9 a10 a11 a12 a13 a14)
noncomputable def nz:Option (List Nat)→Option (List Nat)
  | none=>none
  | some []=>none
  | some (c::v)=>some (c::v)
noncomputable def rowT (k:List Nat) (v:Option (List Nat)):List Nat:=k++tl (nz v)
noncomputable def txA (own:List Nat) (note:Option (List Nat)):List Nat:=joinL [59,32] [own,rowT [110,45,111] note]
noncomputable def txD (dk inner:List Nat) (note:Option (List Nat)):List Nat:=joinL [59,32] [rowT dk (some inner),rowT [110,45,111] note]
noncomputable def txR (dk inner:List Nat) (note:Option (List Nat)):List Nat:=joinL [59,32] [rowT [110,45,111] note,rowT dk (some inner)]
theorem esc_len : ∀ v:List Nat,(esc v).length≤2*v.length
  | []=>by simp [esc]
  | c::v=>by
    have:=esc_len v
    rw [esc]
    split <;> simp <;> lia
theorem rowT_len (k:List Nat) : ∀ v:Option (List Nat),(rowT k v).length≤k.length+2*(v.getD []).length+3
  | none=>by simp [rowT,nz,tl]
  | some []=>by simp [rowT,nz,tl]
  | some (c::v)=>by
    have:=esc_len (c::v)
    simp only [rowT,nz,tl,List.length_append,List.length_cons,List.length_nil,Option.getD_some] at *
    lia
section
variable (w:World) (b1 b2 b3:Bool)
theorem sp_fmt (k v:List Nat) (tk tv:Nat) (hk:k.length≤2^10) (hv:v.length≤2^17):Spec (VV ⟨w,b1,b2,b3⟩) 700 (.call (.ref 61) ⟨[.str ⟨⟨k⟩⟩ tk,.str ⟨⟨v⟩⟩ tv],[]⟩) []
    (fun o=>⟨.ok (.ret (.str ⟨⟨rowT k (some v)⟩⟩ (o.v 0))),[],[]⟩):=by
  match v,hv with
  | c::v,hv=>exact sp_fmt_some w b1 b2 b3 k c v tk tv hk hv
  | [],_ =>
    have e:rowT k (some [])=k:=by simp [rowT,nz,tl]
    rw [e]
    intro A s R hA hD hg hT hL hH hN hK hG
    exact sp_fmt_nil w b1 b2 b3 k tk tv A s R hA hD hg hT hL hH hN hK fun o=>hG ⟨o.t0,o.x,fun _=>tk,o.ob⟩
noncomputable def k_sp_fmt:=fun a1 a2 a3 a4 a5 a6 a7 a8 a9 a10=>kOf (sp_fmt a1 a2 a3 a4 a5 a6 a7 a8 a9 a10)
noncomputable def hdPre (P:Params) (a d hl th:Nat) (vs:List Value) (ep:Nat):List En:=[(A a,inst 182 (A d)),(A d,dct [dEnt P [95,104,101,97,100,101,114,115] th (.ref (A hl))] 1),(A hl,lstO vs ep)]
noncomputable def adFn:Stmt:=meth pT 7 16
noncomputable def adEnv (fr:Nat):Env:={ scope:=fScope adFn,locals:=A fr,globals:=3,cells:=[],qual:=⟨⟨[72,101,97,100,101,114,115,46,97,100,100,95,104,101,97,100,101,114]⟩⟩++locSuf,func:=some 179,code := .ref 178,frame:=some (A fr),builtins:=0 }
noncomputable def adC (fr:Nat):Code := .func (fBody adFn) (adEnv fr)
noncomputable def adFr0 (P:Params) (ρ:Nat→Nat) (a pd:Nat) (nmv vv:Value):List DictEntry:=[dEnt P [115,101,108,102] (ρ 0) (.ref (A a)),dEnt P [95,110,97,109,101] (ρ 1) nmv,dEnt P [95,118,97,108,117,101] (ρ 2) vv,dEnt P [95,112,97,114,97,109,115] (ρ 3) (.ref (A pd))]
noncomputable def adFr1 (P:Params) (ρ:Nat→Nat) (a pd:Nat) (nmv vv:Value) (pa:Nat) (t1 t2 t3:Nat) (kv v:Value):List DictEntry:=[dEnt P [115,101,108,102] (ρ 0) (.ref (A a)),dEnt P [95,110,97,109,101] (ρ 1) nmv,dEnt P [95,118,97,108,117,101] (ρ 2) vv,dEnt P [95,112,97,114,97,109,115] (ρ 3) (.ref (A pd)),
  dEnt P [112,97,114,116,115] t1 (.ref (A pa)),dEnt P [107] t2 kv,dEnt P [118] t3 v]
noncomputable def adPre (P:Params) (a d hl th:Nat) (vs:List Value) (ep fr pd:Nat) (fd:Obj) (ps:List DictEntry) (n:Nat):List En:=hdPre P a d hl th vs ep++[(A fr,fd),(A pd,dct ps n)]
noncomputable def adPost (P:Params) (a d hl th:Nat) (vs:List Value) (ep fr pd:Nat) (ρ:Nat→Nat) (nm:List Nat) (tn:Nat) (vv:Value) (ps:List DictEntry) (n:Nat) (kv v:Value) (txt:List Nat) (o:Out):Post :=
  ⟨.ok (.ret .none),(adPre P a d hl th (vs++[.ref (A (o.v 0))]) (ep+1) fr pd (frO (adFr1 P ρ a pd (.str ⟨⟨nm⟩⟩ tn) vv (o.v 2) (o.v 3) (o.v 4) (o.v 5) kv v) 7) ps n).map (·.2),[(A (o.v 0),tup [.str ⟨⟨nm⟩⟩ tn,.str ⟨⟨txt⟩⟩ (o.v 1)])]⟩
theorem ok_nK:okName [110,95,111]:=fun c h=>by
  simp only [List.mem_cons,List.not_mem_nil,or_false] at h
  lia
variable (a d' hl th fr pd:Nat) (ρ:Nat→Nat) (vs:List Value) (ep:Nat) (nm:List Nat) (tn:Nat) (hnm:okName nm) (hvs:vs.length < 2^20)
noncomputable def okN:Option (List Nat)→Prop
  | none=>True
  | some v=>okText v∧v.length≤2^10
include hnm hvs
theorem sp_adA (own:List Nat) (t0:Nat) (hx:okText own) (hxl:own.length≤2^10) (note:Option (List Nat)) (tk tv:Nat) (hn:okN note):Spec (VV ⟨w,b1,b2,b3⟩) 600 (adC fr) (adPre w.params a d' hl th vs ep fr pd (frO (adFr0 w.params ρ a pd (.str ⟨⟨nm⟩⟩ tn) (.str ⟨⟨own⟩⟩ t0)) 4) [dEnt w.params [110,95,111] tk (ov note tv)] 1) (adPost w.params a d' hl th vs ep fr pd ρ nm tn (.str ⟨⟨own⟩⟩ t0) [dEnt w.params [110,95,111] tk (ov note tv)] 1 (.str ⟨⟨[110,95,111]⟩⟩ tk) (ov note tv) (txA own note)):=by
  match note,hn with
  | none,_ =>
    have hlen:sumL 2 [own,rowT [110,45,111] none]≤2^20:=by
      have f0:=rowT_len [110,45,111] none
      simp only [sumL,List.length_cons,List.length_nil,Option.getD_some,Option.getD_none] at *
      lia
    refine spec_run [0,1,2,3,4] 3000 (fun x t =>
      useQ (k_sp_conv_text w b1 b2 b3 a own t0 hx) 22841560132737065425490117050372744385702986240 [] fun o1 =>
      useQ (k_r_int_same (D:=900) (Nat.add o1.x 333)) 22486313269085621633639953785051739307543010165945111042628809859106481245511584677248297417957532732009367358213298464031236 [] fun o2 =>
      useQ (k_sp_conv_name w b1 b2 b3 a [110,95,111] tk ok_nK) 21158975753675313932696415431353310460200731767405677879498353284638394620706619133994862874689347080322493348729741425918984 [] fun o3 =>
      useQ (k_r_repl (D:=900) [110,95,111] 95 [45] [110,45,111] tk (Nat.add o3.t 1) (Nat.add o3.t 2) (Nat.succ_ne_zero _) (Nat.succ_ne_zero _) (tk_ne _ _ _ (by decide)) (by decide) (by decide) (by simp) (by decide)) 1180883255389340107268 [] fun o4 =>
      useQ (k_sp_conv_name w b1 b2 b3 a nm tn hnm) 10089385868871361700390060153652816038226496601983240172333772142145942398962477582299906136083270231696550960989995776 [] fun o5 =>
      useQ (k_r_join (D:=900) [59,32] (Nat.add o5.t 0) (Nat.add x 331) [(own,t0),(rowT [110,45,111] none,o4.v 0)] _ 2 (txA own none) rfl rfl hlen) 16388 [5] fun o6 =>
      useQ (k_r_append (D:=900) (A hl) (.ref (Nat.add o6.x 331)) vs ep hvs) 16768 [2] fun o7 =>
      finK 0 (pick [o6.x,o6.v 0,Nat.add x 0,Nat.add t 0,Nat.add o2.t 0,Nat.add o2.t 1]) [14]) rfl fun x t => ?_
    cases b1 <;> kernel_rfl
  | some v,⟨hv,hvl⟩ =>
    have hvl:v.length≤2^17:=by lia
    have hlen:sumL 2 [own,rowT [110,45,111] (some v)]≤2^20:=by
      have f0:=rowT_len [110,45,111] (some v)
      simp only [sumL,List.length_cons,List.length_nil,Option.getD_some,Option.getD_none] at *
      lia
    refine spec_run [0,1,2,3,4] 3000 (fun x t =>
      useQ (k_sp_conv_text w b1 b2 b3 a own t0 hx) 22841560132737065425490117050372744385702986240 [] fun o1 =>
      useQ (k_r_int_same (D:=900) (Nat.add o1.x 333)) 22486313269085621633639953785051739307543010165945111042628809859106481245511584677248297417957532732009367358213298464031236 [] fun o2 =>
      useQ (k_sp_conv_name w b1 b2 b3 a [110,95,111] tk ok_nK) 21158975753675313932696415431353310460200731767405677879498353284638394620706619133994862874689347080322493348729741425918984 [] fun o3 =>
      useQ (k_sp_conv_text w b1 b2 b3 a v tv hv) 178449688537008323636641539456037065513304580 [] fun o4 =>
      useQ (k_r_repl (D:=900) [110,95,111] 95 [45] [110,45,111] tk (Nat.add o4.t 1) (Nat.add o4.t 2) (Nat.succ_ne_zero _) (Nat.succ_ne_zero _) (tk_ne _ _ _ (by decide)) (by decide) (by decide) (by simp) (by decide)) 1180879877689623773700 [] fun o5 =>
      useQ (k_sp_fmt w b1 b2 b3 [110,45,111] v (o5.v 0) tv (by simp) hvl) 16388 [] fun o6 =>
      useQ (k_sp_conv_name w b1 b2 b3 a nm tn hnm) 10089385868871361700390060153652816038226496601983240172333772142145942398962477582299906136083270231696550960989995776 [] fun o7 =>
      useQ (k_r_join (D:=900) [59,32] (Nat.add o7.t 0) (Nat.add x 331) [(own,t0),(rowT [110,45,111] (some v),o6.v 0)] _ 2 (txA own (some v)) rfl rfl hlen) 16388 [5] fun o8 =>
      useQ (k_r_append (D:=900) (A hl) (.ref (Nat.add o8.x 331)) vs ep hvs) 16768 [2] fun o9 =>
      finK 0 (pick [o8.x,o8.v 0,Nat.add x 0,Nat.add t 0,Nat.add o2.t 0,Nat.add o2.t 1]) [14]) rfl fun x t => ?_
    cases b1 <;> kernel_rfl
noncomputable def k_sp_adA:=fun a1 a2 a3 a4 a5 a6 a7 a8 a9 a10 a11 a12 a13 a14 a15 a16 a17 a18 a19 a20 a21 a22 a23 a24 a25=>kOf (sp_adA a1 a2 a3 a4 a5 a6 a7 a8 a9 a10 a11 a12 a13 a14 a15 a16 a17 a18 a19 a20 a21 a22 a23 a24 a25)
theorem sp_adD (c d:Nat) (hc:96≤c∧c≤122) (hd:48≤d∧d≤57) (inner:List Nat) (td t0:Nat) (hx:okText inner) (hxl:inner.length≤2^17) (note:Option (List Nat)) (tk tv:Nat) (hn:okN note):Spec (VV ⟨w,b1,b2,b3⟩) 600 (adC fr) (adPre w.params a d' hl th vs ep fr pd (frO (adFr0 w.params ρ a pd (.str ⟨⟨nm⟩⟩ tn) .none) 4) [dEnt w.params [c,95,d] td (.str ⟨⟨inner⟩⟩ t0),dEnt w.params [110,95,111] tk (ov note tv)] 2) (adPost w.params a d' hl th vs ep fr pd ρ nm tn .none [dEnt w.params [c,95,d] td (.str ⟨⟨inner⟩⟩ t0),dEnt w.params [110,95,111] tk (ov note tv)] 2 (.str ⟨⟨[110,95,111]⟩⟩ tk) (ov note tv) (txD [c,45,d] inner note)):=by
  have hdk:okName [c,95,d]:=by
    intro e he
    simp only [List.mem_cons,List.not_mem_nil,or_false] at he
    lia
  have hrp:rep 95 [45] [c,95,d]=[c,45,d]:=by
    have h1:c≠95:=by lia
    have h2:d≠95:=by lia
    simp [rep,h1,h2]
  match note,hn with
  | none,_ =>
    have hlen:sumL 2 [rowT [c,45,d] (some inner),rowT [110,45,111] none]≤2^20:=by
      have f0:=rowT_len [110,45,111] none
      have f1:=rowT_len [c,45,d] (some inner)
      simp only [sumL,List.length_cons,List.length_nil,Option.getD_some,Option.getD_none] at *
      lia
    refine spec_run [0,1,2,3,4] 3000 (fun x t =>
      useQ (k_r_int_same (D:=900) (Nat.add x 334)) 19046648201197075176393997346566297798194844896249565155555563973650897827242986253839458112728639537664 [] fun o1 =>
      useQ (k_sp_conv_name w b1 b2 b3 a [c,95,d] td hdk) 21158975753675313932696415431353310460200731767405677879498353284638394620706619133994862874689347080322493348729741425918984 [] fun o2 =>
      useQ (k_sp_conv_text w b1 b2 b3 a inner t0 hx) 178449688537008323636641539456037065513304580 [] fun o3 =>
      useQ (k_r_repl (D:=900) [c,95,d] 95 [45] [c,45,d] td (Nat.add o3.t 1) (Nat.add o3.t 2) (Nat.succ_ne_zero _) (Nat.succ_ne_zero _) (tk_ne _ _ _ (by decide)) hrp (by decide) (by simp) (by decide)) 1180879877689623773700 [] fun o4 =>
      useQ (k_sp_fmt w b1 b2 b3 [c,45,d] inner (o4.v 0) t0 (by simp) hxl) 16388 [] fun o5 =>
      useQ (k_r_int_same (D:=900) (Nat.add o5.x 331)) 3668251011089472879148393863808655260160064319608817825681627615855360 [] fun o6 =>
      useQ (k_sp_conv_name w b1 b2 b3 a [110,95,111] tk ok_nK) 21158975753675313932696415431353310460200731767434853838991213775081062884032489735906221039715274808664182131869116025488392 [] fun o7 =>
      useQ (k_r_repl (D:=900) [110,95,111] 95 [45] [110,45,111] tk (Nat.add o7.t 1) (Nat.add o7.t 2) (Nat.succ_ne_zero _) (Nat.succ_ne_zero _) (tk_ne _ _ _ (by decide)) (by decide) (by decide) (by simp) (by decide)) 1180883255389340107268 [] fun o8 =>
      useQ (k_sp_conv_name w b1 b2 b3 a nm tn hnm) 10089385868871361700390060153652816038226496601983240172333772142145942398962477922582273057021733695071158392758207232 [] fun o9 =>
      useQ (k_r_join (D:=900) [59,32] (Nat.add o9.t 0) (Nat.add x 331) [(rowT [c,45,d] (some inner),o5.v 0),(rowT [110,45,111] none,o8.v 0)] _ 2 (txD [c,45,d] inner none) rfl rfl hlen) 16388 [5] fun o10 =>
      useQ (k_r_append (D:=900) (A hl) (.ref (Nat.add o10.x 331)) vs ep hvs) 16768 [2] fun o11 =>
      finK 0 (pick [o10.x,o10.v 0,Nat.add x 0,Nat.add t 0,Nat.add o1.t 0,Nat.add o1.t 1]) [18]) rfl fun x t => ?_
    cases b1 <;> kernel_rfl
  | some v,⟨hv,hvl⟩ =>
    have hvl:v.length≤2^17:=by lia
    have hlen:sumL 2 [rowT [c,45,d] (some inner),rowT [110,45,111] (some v)]≤2^20:=by
      have f0:=rowT_len [110,45,111] (some v)
      have f1:=rowT_len [c,45,d] (some inner)
      simp only [sumL,List.length_cons,List.length_nil,Option.getD_some,Option.getD_none] at *
      lia
    refine spec_run [0,1,2,3,4] 3000 (fun x t =>
      useQ (k_r_int_same (D:=900) (Nat.add x 334)) 19046648201197075176393997346566297798194844896249565155555563973650897827242986253839458112728639537664 [] fun o1 =>
      useQ (k_sp_conv_name w b1 b2 b3 a [c,95,d] td hdk) 21158975753675313932696415431353310460200731767405677879498353284638394620706619133994862874689347080322493348729741425918984 [] fun o2 =>
      useQ (k_sp_conv_text w b1 b2 b3 a inner t0 hx) 178449688537008323636641539456037065513304580 [] fun o3 =>
      useQ (k_r_repl (D:=900) [c,95,d] 95 [45] [c,45,d] td (Nat.add o3.t 1) (Nat.add o3.t 2) (Nat.succ_ne_zero _) (Nat.succ_ne_zero _) (tk_ne _ _ _ (by decide)) hrp (by decide) (by simp) (by decide)) 1180879877689623773700 [] fun o4 =>
      useQ (k_sp_fmt w b1 b2 b3 [c,45,d] inner (o4.v 0) t0 (by simp) hxl) 16388 [] fun o5 =>
      useQ (k_r_int_same (D:=900) (Nat.add o5.x 331)) 3668251011089472879148393863808655260160064319608817825681627615855360 [] fun o6 =>
      useQ (k_sp_conv_name w b1 b2 b3 a [110,95,111] tk ok_nK) 21158975753675313932696415431353310460200731767434853838991213775081062884032489735906221039715274808664182131869116025488392 [] fun o7 =>
      useQ (k_sp_conv_text w b1 b2 b3 a v tv hv) 178449688537008323636641539456037065513304580 [] fun o8 =>
      useQ (k_r_repl (D:=900) [110,95,111] 95 [45] [110,45,111] tk (Nat.add o8.t 1) (Nat.add o8.t 2) (Nat.succ_ne_zero _) (Nat.succ_ne_zero _) (tk_ne _ _ _ (by decide)) (by decide) (by decide) (by simp) (by decide)) 1180879877689623773700 [] fun o9 =>
      useQ (k_sp_fmt w b1 b2 b3 [110,45,111] v (o9.v 0) tv (by simp) hvl) 16388 [] fun o10 =>
      useQ (k_sp_conv_name w b1 b2 b3 a nm tn hnm) 10089385868871361700390060153652816038226496601983240172333772142145942398962477922582273057021733695071158392758207232 [] fun o11 =>
      useQ (k_r_join (D:=900) [59,32] (Nat.add o11.t 0) (Nat.add x 331) [(rowT [c,45,d] (some inner),o5.v 0),(rowT [110,45,111] (some v),o10.v 0)] _ 2 (txD [c,45,d] inner (some v)) rfl rfl hlen) 16388 [5] fun o12 =>
      useQ (k_r_append (D:=900) (A hl) (.ref (Nat.add o12.x 331)) vs ep hvs) 16768 [2] fun o13 =>
      finK 0 (pick [o12.x,o12.v 0,Nat.add x 0,Nat.add t 0,Nat.add o1.t 0,Nat.add o1.t 1]) [18]) rfl fun x t => ?_
    cases b1 <;> kernel_rfl
theorem sp_adR (c d:Nat) (hc:96≤c∧c≤122) (hd:48≤d∧d≤57) (inner:List Nat) (td t0:Nat) (hx:okText inner) (hxl:inner.length≤2^17) (note:Option (List Nat)) (tk tv:Nat) (hn:okN note):Spec (VV ⟨w,b1,b2,b3⟩) 600 (adC fr) (adPre w.params a d' hl th vs ep fr pd (frO (adFr0 w.params ρ a pd (.str ⟨⟨nm⟩⟩ tn) .none) 4) [dEnt w.params [110,95,111] tk (ov note tv),dEnt w.params [c,95,d] td (.str ⟨⟨inner⟩⟩ t0)] 2) (adPost w.params a d' hl th vs ep fr pd ρ nm tn .none [dEnt w.params [110,95,111] tk (ov note tv),dEnt w.params [c,95,d] td (.str ⟨⟨inner⟩⟩ t0)] 2 (.str ⟨⟨[c,95,d]⟩⟩ td) (.str ⟨⟨inner⟩⟩ t0) (txR [c,45,d] inner note)):=by
  have hdk:okName [c,95,d]:=by
    intro e he
    simp only [List.mem_cons,List.not_mem_nil,or_false] at he
    lia
  have hrp:rep 95 [45] [c,95,d]=[c,45,d]:=by
    have h1:c≠95:=by lia
    have h2:d≠95:=by lia
    simp [rep,h1,h2]
  match note,hn with
  | none,_ =>
    have hlen:sumL 2 [rowT [110,45,111] none,rowT [c,45,d] (some inner)]≤2^20:=by
      have f0:=rowT_len [110,45,111] none
      have f1:=rowT_len [c,45,d] (some inner)
      simp only [sumL,List.length_cons,List.length_nil,Option.getD_some,Option.getD_none] at *
      lia
    refine spec_run [0,1,2,3,4] 3000 (fun x t =>
      useQ (k_r_int_same (D:=900) (Nat.add x 334)) 19046648201197075176393997346566297798194844896249565155555563973650897827242986253839458112728639537664 [] fun o1 =>
      useQ (k_sp_conv_name w b1 b2 b3 a [110,95,111] tk ok_nK) 21158975753675313932696415431353310460200731767405677879498353284638394620706619133994862874689347080322493348729741425918984 [] fun o2 =>
      useQ (k_r_repl (D:=900) [110,95,111] 95 [45] [110,45,111] tk (Nat.add o2.t 1) (Nat.add o2.t 2) (Nat.succ_ne_zero _) (Nat.succ_ne_zero _) (tk_ne _ _ _ (by decide)) (by decide) (by decide) (by simp) (by decide)) 1180883255389340107268 [] fun o3 =>
      useQ (k_r_int_same (D:=900) (Nat.add o3.x 331)) 3668251011089472879148393863808655260160064319608817825681627615855360 [] fun o4 =>
      useQ (k_sp_conv_name w b1 b2 b3 a [c,95,d] td hdk) 21158975753675313932696415431353310460200731767434853838991213775081062884032489735906221039715274808664182131869116025488392 [] fun o5 =>
      useQ (k_sp_conv_text w b1 b2 b3 a inner t0 hx) 178449688537008323636641539456037065513304580 [] fun o6 =>
      useQ (k_r_repl (D:=900) [c,95,d] 95 [45] [c,45,d] td (Nat.add o6.t 1) (Nat.add o6.t 2) (Nat.succ_ne_zero _) (Nat.succ_ne_zero _) (tk_ne _ _ _ (by decide)) hrp (by decide) (by simp) (by decide)) 1180879877689623773700 [] fun o7 =>
      useQ (k_sp_fmt w b1 b2 b3 [c,45,d] inner (o7.v 0) t0 (by simp) hxl) 16388 [] fun o8 =>
      useQ (k_sp_conv_name w b1 b2 b3 a nm tn hnm) 10089385868871361700390060153652816038226496601983240172333772142145942398962477922582273057021733695071158392758207232 [] fun o9 =>
      useQ (k_r_join (D:=900) [59,32] (Nat.add o9.t 0) (Nat.add x 331) [(rowT [110,45,111] none,o3.v 0),(rowT [c,45,d] (some inner),o8.v 0)] _ 2 (txR [c,45,d] inner none) rfl rfl hlen) 16388 [5] fun o10 =>
      useQ (k_r_append (D:=900) (A hl) (.ref (Nat.add o10.x 331)) vs ep hvs) 16768 [2] fun o11 =>
      finK 0 (pick [o10.x,o10.v 0,Nat.add x 0,Nat.add t 0,Nat.add o1.t 0,Nat.add o1.t 1]) [18]) rfl fun x t => ?_
    cases b1 <;> kernel_rfl
  | some v,⟨hv,hvl⟩ =>
    have hvl:v.length≤2^17:=by lia
    have hlen:sumL 2 [rowT [110,45,111] (some v),rowT [c,45,d] (some inner)]≤2^20:=by
      have f0:=rowT_len [110,45,111] (some v)
      have f1:=rowT_len [c,45,d] (some inner)
      simp only [sumL,List.length_cons,List.length_nil,Option.getD_some,Option.getD_none] at *
      lia
    refine spec_run [0,1,2,3,4] 3000 (fun x t =>
      useQ (k_r_int_same (D:=900) (Nat.add x 334)) 19046648201197075176393997346566297798194844896249565155555563973650897827242986253839458112728639537664 [] fun o1 =>
      useQ (k_sp_conv_name w b1 b2 b3 a [110,95,111] tk ok_nK) 21158975753675313932696415431353310460200731767405677879498353284638394620706619133994862874689347080322493348729741425918984 [] fun o2 =>
      useQ (k_sp_conv_text w b1 b2 b3 a v tv hv) 178449688537008323636641539456037065513304580 [] fun o3 =>
      useQ (k_r_repl (D:=900) [110,95,111] 95 [45] [110,45,111] tk (Nat.add o3.t 1) (Nat.add o3.t 2) (Nat.succ_ne_zero _) (Nat.succ_ne_zero _) (tk_ne _ _ _ (by decide)) (by decide) (by decide) (by simp) (by decide)) 1180879877689623773700 [] fun o4 =>
      useQ (k_sp_fmt w b1 b2 b3 [110,45,111] v (o4.v 0) tv (by simp) hvl) 16388 [] fun o5 =>
      useQ (k_r_int_same (D:=900) (Nat.add o5.x 331)) 3668251011089472879148393863808655260160064319608817825681627615855360 [] fun o6 =>
      useQ (k_sp_conv_name w b1 b2 b3 a [c,95,d] td hdk) 21158975753675313932696415431353310460200731767434853838991213775081062884032489735906221039715274808664182131869116025488392 [] fun o7 =>
      useQ (k_sp_conv_text w b1 b2 b3 a inner t0 hx) 178449688537008323636641539456037065513304580 [] fun o8 =>
      useQ (k_r_repl (D:=900) [c,95,d] 95 [45] [c,45,d] td (Nat.add o8.t 1) (Nat.add o8.t 2) (Nat.succ_ne_zero _) (Nat.succ_ne_zero _) (tk_ne _ _ _ (by decide)) hrp (by decide) (by simp) (by decide)) 1180879877689623773700 [] fun o9 =>
      useQ (k_sp_fmt w b1 b2 b3 [c,45,d] inner (o9.v 0) t0 (by simp) hxl) 16388 [] fun o10 =>
      useQ (k_sp_conv_name w b1 b2 b3 a nm tn hnm) 10089385868871361700390060153652816038226496601983240172333772142145942398962477922582273057021733695071158392758207232 [] fun o11 =>
      useQ (k_r_join (D:=900) [59,32] (Nat.add o11.t 0) (Nat.add x 331) [(rowT [110,45,111] (some v),o5.v 0),(rowT [c,45,d] (some inner),o10.v 0)] _ 2 (txR [c,45,d] inner (some v)) rfl rfl hlen) 16388 [5] fun o12 =>
      useQ (k_r_append (D:=900) (A hl) (.ref (Nat.add o12.x 331)) vs ep hvs) 16768 [2] fun o13 =>
      finK 0 (pick [o12.x,o12.v 0,Nat.add x 0,Nat.add t 0,Nat.add o1.t 0,Nat.add o1.t 1]) [18]) rfl fun x t => ?_
    cases b1 <;> kernel_rfl
end
end Mine
namespace Mine
open PySem PySem.W PySem.W.X PyProof.Rows PySem.Calls
noncomputable def siO (x:List Nat) (t:Nat) (i:Nat):Obj:=⟨.type "str_ascii_iterator",none,.fields ⟨[.str ⟨⟨x⟩⟩ t,.int (Int.ofNat i) 0]⟩,⟨[]⟩⟩
noncomputable def siE (i:Nat):Obj:=⟨.type "str_ascii_iterator",none,.fields ⟨[.none,.int (Int.ofNat i) 0]⟩,⟨[]⟩⟩
noncomputable def stopO (tu:Addr):Obj:=⟨.type "StopIteration",none,.fields ⟨[.ref tu,.none,.none,.none,.bool false,.none]⟩,⟨[]⟩⟩
theorem top_push {kt:KT} {h:Heap} {o:Obj} (T:Top kt h):Top kt (h.push o):=fun b ob e=>Heap.get?_push_of_some _ (T b ob e)
theorem spec_alloc {V:Stat} {D:Nat} {id:String} {args:Args} {b:Builtin} {pre:List En} (ob:Obj) (hf:ob.isFreed=false) (hq:plainId id=true) (hb:entryFor table id=some b)
    (h : ∀ (U:Around) (s:Shared) (R:Result→Shared→Prop),U.handled=none→s.gens = #[]→Top V.kt s.heap→Holds s.heap pre→(∀ t,R (.ok (.ret (.ref s.heap.objs.size))) { s with heap:=s.heap.push ob,toks:=t }) →
      wpAny (model V.prog V.w) U.in1 (b args) (FinIs V U R) (fun e s'=>R (.error e) s') s):Spec V D (.builtin id args) pre (fun o=>⟨.ok (.ret (.ref (A (o.v 0)))),pre.map (·.2),[(A (o.v 0),ob)]⟩):=by
  refine spec_builtin hq hb fun U s R hA hg hT hL hH hK hG=>h U s R hA hg hT hH fun t => ?_
  have e:s.heap.objs.size-L+L=s.heap.objs.size:=Nat.sub_add_cancel hL
  have rv:(Value.ref (A (s.heap.objs.size-L))) = .ref s.heap.objs.size:=congrArg _ e
  rw [← rv]
  refine hG t (s.heap.objs.size-L+1) (fun _=>s.heap.objs.size-L) (s.heap.push ob) (by rw [Heap.size_push]; lia) (by show _≤s.heap.objs.size-L+1+L; lia) (top_push hT) (fun b o' e' _=>Heap.get?_push_of_some _ e') ?_ ?_ ?_ (List.nodup_cons.2 ⟨List.not_mem_nil,List.nodup_nil⟩)
  · intro p hp
    have hp:p ∈ zipMod pre (pre.map (·.2)):=hp
    rw [zip_self] at hp
    exact Heap.get?_push_of_some _ (hH p hp)
  · intro p hp
    cases List.mem_singleton.mp hp
    show (s.heap.push ob).get? (s.heap.objs.size-L+L)=_
    rw [e]; exact Heap.get?_push_size _ hf
  · intro p hp
    cases List.mem_singleton.mp hp
    show _≤s.heap.objs.size-L+L
    lia
theorem r_siter {w:Ws} {D:Nat} (x:List Nat) (t:Tok) (hx : ∀ c ∈ x,c < 128) :
    Spec (VV w) D (.builtin "str.__iter__" ⟨[.str ⟨⟨x⟩⟩ t],[]⟩) [] (fun o=>⟨.ok (.ret (.ref (A (o.v 0)))),[],[(A (o.v 0),siO x t 0)]⟩):=by
  refine spec_alloc (siO x t 0) rfl (by decide +kernel) (entryFor_of_tree (by kernel_rfl):entryFor table "str.__iter__" = some Builtin.«str.__iter__») fun U s R hA hg hT hH hR => ?_
  have ha:(⟨x⟩:Array Nat).all (fun c=>decide (c < 128))=true:=by
    rw [Array.all_eq_true_iff_forall_mem]
    intro c hc
    exact decide_eq_true (hx c (by simpa using hc))
  show wpAny _ _ (do ret (← newFields (if (true && (⟨x⟩:Array Nat).all (· < 128))=true then "str_ascii_iterator" else "str_iterator") [.str ⟨⟨x⟩⟩ t,rawInt 0])) _ _ s
  rw [ha]
  obtain ⟨hp,g,d,tk,os⟩:=s
  wp_walk
  exact hR tk
noncomputable def k_r_siter {w:Ws} {D:Nat}:=fun a1 a2 a3=>kOf (r_siter (w:=w) (D:=D) a1 a2 a3)
noncomputable def setF (j:Nat) (v:Value) (o:Obj):Obj:=Obj.mapFields (·.setIfInBounds j v) o
theorem r_snext {w:Ws} {D:Nat} (a:Addr) (x:List Nat) (t i c:Nat) (hc:x[i]? = some c) :
    Spec (VV w) D (.builtin "str_ascii_iterator.__next__" ⟨[.ref a],[]⟩) [(a,siO x t i)] (fun o=>⟨.ok (.ret (.str ⟨⟨[c]⟩⟩ (o.v 0))),[siO x t (i+1)],[]⟩):=by
  have key:=spec_one (V:=VV w) (D:=D) (id := "str_ascii_iterator.__next__") (args:=⟨[.ref a],[]⟩) (a:=a) (o:=siO x t i) (setF 1 (rawInt ((Int.ofNat i)+1))) (fun τ => .str ⟨⟨[c]⟩⟩ τ) (by decide +kernel) (entryFor_of_tree (by kernel_rfl):entryFor table "str_ascii_iterator.__next__" = some Builtin.«str_ascii_iterator.__next__») rfl fun U s R _ _ _ ho h => ?_
  · exact key
  · obtain ⟨hp,g,d,tk,os⟩:=s
    have hl:hp.get? a=some { cls := .type "str_ascii_iterator",dict:=none,data := .fields ⟨[.str ⟨⟨x⟩⟩ t,.int (Int.ofNat i) 0]⟩,slots := #[] }:=ho
    have hc':(⟨x⟩:Array Nat)[(Int.ofNat i).toNat]? = some c:=by simpa using hc
    wp_walk
    rw [hc']
    wp_walk
    exact h _ tk
noncomputable def k_r_snext {w:Ws} {D:Nat}:=fun a1 a2 a3 a4 a5 a6=>kOf (r_snext (w:=w) (D:=D) a1 a2 a3 a4 a5 a6)
theorem r_snextE {w:Ws} {D:Nat} (a:Addr) (x:List Nat) (t:Nat) :
    Spec (VV w) D (.builtin "str_ascii_iterator.__next__" ⟨[.ref a],[]⟩) [(a,siO x t x.length)] (fun o=>⟨.error (.ref (A (o.v 0))),[siE x.length],[(A (o.v 0),stopO (A (o.v 1)))]⟩):=by
  refine spec_builtin (by decide +kernel) (entryFor_of_tree (by kernel_rfl):entryFor table "str_ascii_iterator.__next__" = some Builtin.«str_ascii_iterator.__next__») fun U s R hA hg hT hL hH hK hG => ?_
  have ho:s.heap.get? a=some (siO x t x.length):=hH _ (.head _)
  obtain ⟨hp,g,d,tk,os⟩:=s
  have hl:hp.get? a=some { cls := .type "str_ascii_iterator",dict:=none,data := .fields ⟨[.str ⟨⟨x⟩⟩ t,.int (Int.ofNat x.length) 0]⟩,slots := #[] }:=ho
  have hc':(⟨x⟩:Array Nat)[(Int.ofNat x.length).toNat]? = none:=by simp
  wp_walk
  rw [hc']
  wp_walk
  have eo:ownMembersOf (.type "StopIteration") [] = #[]:=by kernel_rfl
  have ef:(if ((Manifest.find? "StopIteration").elim false fun t=>t.mro.contains "StopIteration" || t.mro.contains "SystemExit")=true then ([]:List Value).headD Value.none else Value.none)=Value.none:=by split <;> rfl
  rw [eo,ef]
  refine wpAny_raiseNew_none hA ?_
  have hL:L≤hp.objs.size:=hL
  have s1:(hp.update a (setF 0 .none)).objs.size=hp.objs.size:=Heap.size_after_update _ _ _
  have s2:((hp.update a (setF 0 .none)).push { cls := .type "tuple",data := .seq #[] }).objs.size=hp.objs.size+1:=by rw [Heap.size_push,s1]
  have e1:hp.objs.size-L+L=hp.objs.size:=Nat.sub_add_cancel hL
  have e2:hp.objs.size-L+1+L=hp.objs.size+1:=by lia
  have ra:(Value.ref (A (hp.objs.size-L+1))) = .ref (((hp.update a (setF 0 .none)).push { cls := .type "tuple",data := .seq #[] }).objs.size):=congrArg _ (e2.trans s2.symm)
  have fin:=hG tk (hp.objs.size-L+2) (fun j=>match j with | 0=>hp.objs.size-L+1 | _=>hp.objs.size-L) (((hp.update a (setF 0 .none)).push { cls := .type "tuple",data := .seq #[] }).push (stopO (A (hp.objs.size-L))))
    (by rw [Heap.size_push,s2]; lia) (by show hp.objs.size≤hp.objs.size-L+2+L; lia) (top_push (top_push (top_update hT (hK _ (.head _))))) (fun b ob e hb => ?_) (fun p hp' => ?_) (fun p hp' => ?_) (fun p hp' => ?_) (List.nodup_cons.2 ⟨List.not_mem_nil,List.nodup_nil⟩)
  · have key:A (hp.objs.size-L)=(hp.update a (setF 0 .none)).objs.size:=e1.trans s1.symm
    unfold stopO at fin
    rw [key] at fin
    have fin:R (.error (.ref (A (hp.objs.size-L+1)))) _:=fin
    rw [ra] at fin
    exact fin
  · have hne:a≠b:=fun z=>hb (by rw [← z]; exact .head _)
    refine Heap.get?_push_of_some _ (Heap.get?_push_of_some _ ?_)
    rw [Heap.get?_update_other _ _ hne]; exact e
  · have:p=(a,siE x.length):=by simpa [zipMod] using hp'
    subst this
    refine Heap.get?_push_of_some _ (Heap.get?_push_of_some _ ?_)
    exact Heap.get?_update_self (setF 0 .none) ho rfl
  · cases List.mem_singleton.mp hp'
    show Heap.get? _ (hp.objs.size-L+1+L)=_
    rw [e2,← s2]
    exact Heap.get?_push_size _ rfl
  · cases List.mem_singleton.mp hp'
    show hp.objs.size≤hp.objs.size-L+1+L
    lia
noncomputable def k_r_snextE {w:Ws} {D:Nat}:=fun a1 a2 a3=>kOf (r_snextE (w:=w) (D:=D) a1 a2 a3)
noncomputable def inQ (c:Nat):Bool:=c == 34 || c == 92
theorem inQ_occ : ∀ c:Fin 128,(!(Builtin.Str.occurrences ⟨⟨[34,92]⟩⟩ ⟨⟨[c.val]⟩⟩ 0 2 1).isEmpty)=inQ c.val:=by decide +kernel
theorem r_contains {w:Ws} {D:Nat} (c:Nat) (t u:Tok) (b:Bool) (hc:c < 128) (hb:inQ c=b):Spec (VV w) D (.builtin "str.__contains__" ⟨[.str ⟨⟨[34,92]⟩⟩ t,.str ⟨⟨[c]⟩⟩ u],[]⟩) [] (fun _=>⟨.ok (.ret (.bool b)),[],[]⟩) :=
  spec_gives (m := .val (.bool b)) (fun _ => .bool b) (by decide +kernel) F.entry_str_contains (by
    have:=gives_str_contains ⟨⟨[34,92]⟩⟩ ⟨⟨[c]⟩⟩ t u
    have e:=inQ_occ ⟨c,hc⟩
    have e:(!(Builtin.Str.occurrences ⟨⟨[34,92]⟩⟩ ⟨⟨[c]⟩⟩ 0 (⟨⟨[34,92]⟩⟩:Str).length 1).isEmpty)=inQ c:=e
    rw [e,hb] at this
    exact this) (fun Q s h=>h s.toks 0)
noncomputable def k_r_contains {w:Ws} {D:Nat}:=fun a1 a2 a3 a4 a5 a6=>kOf (r_contains (w:=w) (D:=D) a1 a2 a3 a4 a5 a6)
end Mine
namespace Mine
open PySem PySem.W PySem.W.X
noncomputable def binL:Expr→Expr
  | .BinOp l _ _ _=>l
  | e=>e
noncomputable def binR:Expr→Expr
  | .BinOp _ _ r _=>r
  | e=>e
noncomputable def callA:Expr→Expr
  | .Call _ (a::_) _ _=>a
  | e=>e
noncomputable def lcSc:Expr→Scope
  | .ListComp _ _ s _=>s
  | _=>{ kind := .module,names:=[],isGenerator:=false,isCoroutine:=false,more:=[] }
noncomputable def retV:Stmt→Expr
  | .Return (some e) _=>e
  | _ => .Name ⟨⟨[]⟩⟩ ⟨0,0,0,0⟩
noncomputable def wrFn:Stmt:=stm pT 24
noncomputable def wrE:Expr:=callA (binR (binL (retV (nthS (fBody wrFn) 1))))
noncomputable def wrEnv (fr cl:Nat):Env:={ scope:=lcSc wrE,locals:=A cl,globals:=3,cells:=[],qual:=⟨⟨[95,108,97,119,95,119,114,105,116,116,101,110]⟩⟩++locSuf,func:=none,code := .ref 295,frame:=some (A fr),builtins:=0 }
noncomputable def wrC (fr it ac cl:Nat):Code := .compLoop wrE 0 (.ref (A it)) (.ref (A ac)) (wrEnv fr cl)
noncomputable def wrS (fr it ac cl:Nat):Code := .compStart wrE 0 (.ref (A it)) (.ref (A ac)) (wrEnv fr cl)
noncomputable def qc (c:Nat):List Nat := @Bool.rec (fun _=>List Nat) [c] [92,c] (inQ c)
noncomputable def pE (cs:List Nat):(Nat→Nat)→List (List Nat × Nat) := @List.rec Nat (fun _=>(Nat→Nat)→List (List Nat × Nat)) (fun _=>[]) (fun c _ ih v=>(qc c,v 0)::ih (fun n=>v (Nat.succ n))) cs
noncomputable def shiftV (a b c d:Nat) (f:Nat→Nat):Nat→Nat:=fun j => @Nat.rec (fun _=>Nat) a (fun j _ => @Nat.rec (fun _=>Nat) b (fun j _ => @Nat.rec (fun _=>Nat) c (fun j _ => @Nat.rec (fun _=>Nat) d (fun n _=>f (Nat.succ (Nat.succ (Nat.succ n)))) j) j) j) j
noncomputable def tailV (f:Nat→Nat):Nat→Nat:=fun n=>f (Nat.succ (Nat.succ (Nat.succ n)))
noncomputable def lastOf (cs:List Nat):List Nat→List Nat := @List.rec Nat (fun _=>List Nat→List Nat) (fun d=>d) (fun c _ ih _=>ih [c]) cs
theorem pE_cons (c:Nat) (cs:List Nat) (v:Nat→Nat):pE (c::cs) v=(qc c,v 0)::pE cs (fun n=>v (n+1)):=rfl
theorem joinL_cons0 (x:List Nat) : ∀ l:List (List Nat),joinL [] (x::l)=x++joinL [] l
  | []=>by simp [joinL]
  | y::r=>by simp [joinL]
theorem pE_join : ∀ (cs:List Nat) (v:Nat→Nat),joinL [] ((pE cs v).map (·.1))=esc cs
  | [],_=>rfl
  | c::cs,v=>by
    rw [pE_cons,List.map_cons,joinL_cons0,pE_join cs]
    have e:esc (c::cs)=if c=34∨c=92 then 92::c::esc cs else c::esc cs:=by rw [esc]
    show qc c++esc cs=_
    rw [e]
    unfold qc inQ
    by_cases h1:c=34
    · subst h1; simp
    · by_cases h2:c=92
      · subst h2; simp
      · have hq:(c == 34 || c == 92)=false:=by simp [h1,h2]
        rw [hq,if_neg (by lia)]
        rfl
theorem pE_sum : ∀ (cs:List Nat) (v:Nat→Nat),sumL 0 ((pE cs v).map (·.1))≤2*cs.length
  | [],_=>Nat.le_refl _
  | c::cs,v=>by
    have ih:=pE_sum cs (fun n=>v (n+1))
    rw [pE_cons,List.map_cons,sumL,List.length_cons]
    have:(qc c).length≤2:=by unfold qc; cases inQ c <;> simp
    show (qc c).length+0+_≤_
    lia
noncomputable def cdO (P:Params) (st:Option (Nat × List Nat × Nat)):Obj:=match st with
  | none=>dct [] 0
  | some (k,c,t)=>dct [dEnt P [115,105,103,110] k (.str ⟨⟨c⟩⟩ t)] 1
section
variable (w:World) (b1 b2 b3:Bool) (fr it ac cl:Nat) (x:List Nat) (t0:Nat) (hx : ∀ c ∈ x,c < 128)
include hx
theorem sp_wrL : ∀ (rest pre:List Nat) (i:Nat) (vs:List Value) (ep k:Nat) (cs:List Nat) (s:Nat),x=pre++rest→i=pre.length→vs.length+rest.length < 2^20 →
    Spec (VV ⟨w,b1,b2,b3⟩) 500 (wrC fr it ac cl) [(A it,siO x t0 i),(A ac,lstO vs ep),(A cl,cdO w.params (some (k,cs,s)))] (fun o=>⟨.ok .next,[siE x.length,lstO (vs++strL (pE rest (tailV o.v))) (o.v 0),cdO w.params (some (k,lastOf rest cs,o.v 1))],[]⟩)
  | [],pre,i,vs,ep,k,cs,s,hp,hi,hl=>by
    have hi':i=x.length:=by rw [hp,hi]; simp
    subst hi'
    have e : ∀ o:Out,vs++strL (pE [] (tailV o.v))=vs:=fun o=>List.append_nil vs
    refine spec_post (fun o=>by rw [e o]) (?_:Spec _ _ _ _ (fun o=>⟨.ok .next,[siE x.length,lstO vs (o.v 0),cdO w.params (some (k,lastOf [] cs,o.v 1))],[]⟩))
    refine spec_run [0,1,2] 3000 (fun x' t =>
      useQ (k_r_snextE (D:=900) (A it) x t0) 270532736 [0] fun o1 =>
      finK 4 (pick [ep,s]) []) rfl fun x' t => ?_
    cases b1 <;> kernel_rfl
  | c::rest,pre,i,vs,ep,k,cs,s,hp,hi,hl=>by
    have hc:x[i]? = some c:=by rw [hp,hi]; simp
    have hc128:c < 128:=hx c (by rw [hp]; simp)
    have hl':vs.length+rest.length+1 < 2^20:=by simp only [List.length_cons] at hl; lia
    have ih : ∀ (a:Value) (k s:Nat),Spec (VV ⟨w,b1,b2,b3⟩) 500 (wrC fr it ac cl) [(A it,siO x t0 (i+1)),(A ac,lstO (vs++[a]) (ep+1)),(A cl,cdO w.params (some (k,[c],s)))] (fun o=>⟨.ok .next,[siE x.length,lstO (vs++(a::strL (pE rest (tailV o.v)))) (o.v 0),cdO w.params (some (k,lastOf rest [c],o.v 1))],[]⟩):=fun a k s =>
      spec_post (fun o=>by rw [List.append_assoc]; rfl) (sp_wrL rest (pre++[c]) (i+1) (vs++[a]) (ep+1) k [c] s (by rw [hp]; simp) (by rw [hi]; simp) (by simp only [List.length_append,List.length_cons,List.length_nil]; lia))
    cases hb:inQ c with
    | false =>
      have hq : ∀ o:Out,strL (pE (c::rest) (tailV o.v)) = .str ⟨⟨[c]⟩⟩ (o.v 3)::strL (pE rest (fun n=>o.v (Nat.succ (Nat.succ (Nat.succ (Nat.succ n)))))):=fun o=>by
        show Value.str ⟨⟨qc c⟩⟩ (o.v 3)::_=_
        unfold qc; rw [hb]; rfl
      refine spec_post (fun o=>by rw [hq o]; rfl) (?_:Spec _ _ _ _ (fun o=>⟨.ok .next,[siE x.length,lstO (vs++(.str ⟨⟨[c]⟩⟩ (o.v 3)::strL (pE rest (fun n=>o.v (Nat.succ (Nat.succ (Nat.succ (Nat.succ n)))))))) (o.v 0),cdO w.params (some (k,lastOf rest [c],o.v 1))],[]⟩))
      refine spec_run [0,1,2] 3000 (fun x' t =>
        useQ (k_r_snext (D:=900) (A it) x t0 i c hc) 270532736 [0] fun o1 =>
        useQ (k_r_contains (D:=900) c (Nat.add o1.t 1) (o1.v 0) false hc128 hb) 268484995 [] fun o2 =>
        useQ (k_r_append (D:=900) (A ac) (.str ⟨⟨[c]⟩⟩ (o1.v 0)) vs ep (by lia)) 2129923 [1] fun o3 =>
        useK (ih (.str ⟨⟨[c]⟩⟩ (o1.v 0)) k (o1.v 0)) 1 [0,1,2] fun o4 =>
        finK 0 (shiftV (o4.v 0) (o4.v 1) (0) (o1.v 0) o4.v) []) rfl fun x' t => ?_
      cases b1 <;> kernel_rfl
    | true =>
      have hq : ∀ o:Out,strL (pE (c::rest) (tailV o.v)) = .str ⟨⟨[92,c]⟩⟩ (o.v 3)::strL (pE rest (fun n=>o.v (Nat.succ (Nat.succ (Nat.succ (Nat.succ n)))))):=fun o=>by
        show Value.str ⟨⟨qc c⟩⟩ (o.v 3)::_=_
        unfold qc; rw [hb]; rfl
      refine spec_post (fun o=>by rw [hq o]; rfl) (?_:Spec _ _ _ _ (fun o=>⟨.ok .next,[siE x.length,lstO (vs++(.str ⟨⟨[92,c]⟩⟩ (o.v 3)::strL (pE rest (fun n=>o.v (Nat.succ (Nat.succ (Nat.succ (Nat.succ n)))))))) (o.v 0),cdO w.params (some (k,lastOf rest [c],o.v 1))],[]⟩))
      refine spec_run [0,1,2] 3000 (fun x' t =>
        useQ (k_r_snext (D:=900) (A it) x t0 i c hc) 270532736 [0] fun o1 =>
        useQ (k_r_contains (D:=900) c (Nat.add o1.t 1) (o1.v 0) true hc128 hb) 268484995 [] fun o2 =>
        useQ (k_r_str_add (D:=900) [92] [c] (Nat.add o2.t 0) (o1.v 0) (by simp)) 16387 [] fun o3 =>
        useQ (k_r_append (D:=900) (A ac) (.str ⟨⟨[92,c]⟩⟩ (o3.v 0)) vs ep (by lia)) 16640 [1] fun o4 =>
        useK (ih (.str ⟨⟨[92,c]⟩⟩ (o3.v 0)) k (o1.v 0)) 1 [0,1,2] fun o5 =>
        finK 0 (shiftV (o5.v 0) (o5.v 1) (0) (o3.v 0) o5.v) []) rfl fun x' t => ?_
      cases b1 <;> kernel_rfl
theorem sp_wr0 (c:Nat) (rest pre:List Nat) (i:Nat) (vs:List Value) (ep:Nat) (hp:x=pre++c::rest) (hi:i=pre.length) (hl:vs.length+(c::rest).length < 2^20) :
    Spec (VV ⟨w,b1,b2,b3⟩) 490 (wrC fr it ac cl) [(A it,siO x t0 i),(A ac,lstO vs ep),(A cl,cdO w.params none)] (fun o=>⟨.ok .next,[siE x.length,lstO (vs++strL (pE (c::rest) (tailV o.v))) (o.v 0),cdO w.params (some (o.v 2,lastOf rest [c],o.v 1))],[]⟩):=by
    have hc:x[i]? = some c:=by rw [hp,hi]; simp
    have hc128:c < 128:=hx c (by rw [hp]; simp)
    have hl':vs.length+rest.length+1 < 2^20:=by simp only [List.length_cons] at hl; lia
    have ih : ∀ (a:Value) (k s:Nat),Spec (VV ⟨w,b1,b2,b3⟩) 500 (wrC fr it ac cl) [(A it,siO x t0 (i+1)),(A ac,lstO (vs++[a]) (ep+1)),(A cl,cdO w.params (some (k,[c],s)))] (fun o=>⟨.ok .next,[siE x.length,lstO (vs++(a::strL (pE rest (tailV o.v)))) (o.v 0),cdO w.params (some (k,lastOf rest [c],o.v 1))],[]⟩):=fun a k s =>
      spec_post (fun o=>by rw [List.append_assoc]; rfl) (sp_wrL w b1 b2 b3 fr it ac cl x t0 hx rest (pre++[c]) (i+1) (vs++[a]) (ep+1) k [c] s (by rw [hp]; simp) (by rw [hi]; simp) (by simp only [List.length_append,List.length_cons,List.length_nil]; lia))
    cases hb:inQ c with
    | false =>
      have hq : ∀ o:Out,strL (pE (c::rest) (tailV o.v)) = .str ⟨⟨[c]⟩⟩ (o.v 3)::strL (pE rest (fun n=>o.v (Nat.succ (Nat.succ (Nat.succ (Nat.succ n)))))):=fun o=>by
        show Value.str ⟨⟨qc c⟩⟩ (o.v 3)::_=_
        unfold qc; rw [hb]; rfl
      refine spec_post (fun o=>by rw [hq o]) (?_:Spec _ _ _ _ (fun o=>⟨.ok .next,[siE x.length,lstO (vs++(.str ⟨⟨[c]⟩⟩ (o.v 3)::strL (pE rest (fun n=>o.v (Nat.succ (Nat.succ (Nat.succ (Nat.succ n)))))))) (o.v 0),cdO w.params (some ((o.v 2),lastOf rest [c],o.v 1))],[]⟩))
      refine spec_run [0,1,2] 3000 (fun x' t =>
        useQ (k_r_snext (D:=900) (A it) x t0 i c hc) 270532736 [0] fun o1 =>
        useQ (k_r_contains (D:=900) c (Nat.add o1.t 1) (o1.v 0) false hc128 hb) 268484995 [] fun o2 =>
        useQ (k_r_append (D:=900) (A ac) (.str ⟨⟨[c]⟩⟩ (o1.v 0)) vs ep (by lia)) 2129923 [1] fun o3 =>
        useK (ih (.str ⟨⟨[c]⟩⟩ (o1.v 0)) (Nat.add o1.t 0) (o1.v 0)) 1 [0,1,2] fun o4 =>
        finK 0 (shiftV (o4.v 0) (o4.v 1) (Nat.add o1.t 0) (o1.v 0) o4.v) []) rfl fun x' t => ?_
      cases b1 <;> kernel_rfl
    | true =>
      have hq : ∀ o:Out,strL (pE (c::rest) (tailV o.v)) = .str ⟨⟨[92,c]⟩⟩ (o.v 3)::strL (pE rest (fun n=>o.v (Nat.succ (Nat.succ (Nat.succ (Nat.succ n)))))):=fun o=>by
        show Value.str ⟨⟨qc c⟩⟩ (o.v 3)::_=_
        unfold qc; rw [hb]; rfl
      refine spec_post (fun o=>by rw [hq o]) (?_:Spec _ _ _ _ (fun o=>⟨.ok .next,[siE x.length,lstO (vs++(.str ⟨⟨[92,c]⟩⟩ (o.v 3)::strL (pE rest (fun n=>o.v (Nat.succ (Nat.succ (Nat.succ (Nat.succ n)))))))) (o.v 0),cdO w.params (some ((o.v 2),lastOf rest [c],o.v 1))],[]⟩))
      refine spec_run [0,1,2] 3000 (fun x' t =>
        useQ (k_r_snext (D:=900) (A it) x t0 i c hc) 270532736 [0] fun o1 =>
        useQ (k_r_contains (D:=900) c (Nat.add o1.t 1) (o1.v 0) true hc128 hb) 268484995 [] fun o2 =>
        useQ (k_r_str_add (D:=900) [92] [c] (Nat.add o2.t 0) (o1.v 0) (by simp)) 16387 [] fun o3 =>
        useQ (k_r_append (D:=900) (A ac) (.str ⟨⟨[92,c]⟩⟩ (o3.v 0)) vs ep (by lia)) 16640 [1] fun o4 =>
        useK (ih (.str ⟨⟨[92,c]⟩⟩ (o3.v 0)) (Nat.add o1.t 0) (o1.v 0)) 1 [0,1,2] fun o5 =>
        finK 0 (shiftV (o5.v 0) (o5.v 1) (Nat.add o1.t 0) (o3.v 0) o5.v) []) rfl fun x' t => ?_
      cases b1 <;> kernel_rfl
theorem sp_wrS (c:Nat) (rest:List Nat) (hp:x=c::rest) (hl:x.length < 2^20):Spec (VV ⟨w,b1,b2,b3⟩) 480 (wrS fr it ac cl) [(A it,siO x t0 0),(A ac,lstO [] 0),(A cl,dct [] 0)] (fun o=>⟨.ok .next,[siE x.length,lstO (strL (pE (c::rest) (tailV o.v))) (o.v 0),cdO w.params (some (o.v 2,lastOf rest [c],o.v 1))],[]⟩):=by
  have key:=sp_wr0 w b1 b2 b3 fr it ac cl x t0 hx c rest [] 0 [] 0 hp rfl (by rw [hp] at hl; simpa using hl)
  refine spec_run [0,1,2] 3000 (fun x' t =>
    useK key (cond b2 128 567348268384384) [0,1,2] fun o1 =>
    finK 0 o1.v []) rfl fun x' t => ?_
  cases b2 <;> cases b1 <;> kernel_rfl
noncomputable def k_sp_wrS:=fun a1 a2 a3 a4 a5 a6 a7 a8 a9 a10 a11 a12 a13 a14 a15=>kOf (sp_wrS a1 a2 a3 a4 a5 a6 a7 a8 a9 a10 a11 a12 a13 a14 a15)
end
section
variable (w:World) (b1 b2 b3:Bool)
theorem sp_written (key:List Nat) (tk:Nat) (hk:key.length≤2^10) : ∀ (v:Option (List Nat)) (tv:Nat) (_:okV v) (_ : ∀ y,v=some y → ∀ c ∈ y,c < 128),Spec (VV ⟨w,b1,b2,b3⟩) 460 (.call (.ref 296) ⟨[.str ⟨⟨key⟩⟩ tk,ov v tv],[]⟩) [] (fun o=>⟨.ok (.ret (.str ⟨⟨rowT key v⟩⟩ (o.v 0))),[],[]⟩)
  | none,tv,_,_=>by
    have e:rowT key none=key:=by simp [rowT,nz,tl]
    refine spec_post (fun o=>by rw [e]) (?_:Spec _ _ _ _ (fun o=>⟨.ok (.ret (.str ⟨⟨key⟩⟩ (o.v 0))),[],[]⟩))
    refine spec_run [] 3000 (fun x t=>finK 9295429665522991106 (fun _=>tk) []) rfl fun x t => ?_
    cases b1 <;> kernel_rfl
  | some [],tv,_,_=>by
    have e:rowT key (some [])=key:=by simp [rowT,nz,tl]
    refine spec_post (fun o=>by rw [e]) (?_:Spec _ _ _ _ (fun o=>⟨.ok (.ret (.str ⟨⟨key⟩⟩ (o.v 0))),[],[]⟩))
    refine spec_run [] 3000 (fun x t =>
      useQ (k_r_str_eq (D:=900) ⟨⟨[]⟩⟩ ⟨⟨[]⟩⟩ tv (Nat.add t 2) true (by decide)) 151125022881494169829378 [] fun o1 =>
      finK 1 (fun _=>tk) []) rfl fun x t => ?_
    cases b1 <;> kernel_rfl
  | some (c::y),tv,hv,h128=>by
    have hx : ∀ d ∈ c::y,d < 128:=h128 _ rfl
    have hl:(c::y).length≤2^17:=hv.2
    have l1:=esc_len (c::y)
    have e:((key++[61,34])++esc (c::y))++[34]=rowT key (some (c::y)):=by simp [rowT,nz,tl]
    refine spec_post (fun o=>by rw [← e]) (?_:Spec _ _ _ _ (fun o=>⟨.ok (.ret (.str ⟨⟨((key++[61,34])++esc (c::y))++[34]⟩⟩ (o.v 0))),[],[]⟩))
    refine spec_run [] 3000 (fun x t =>
      useQ (k_r_str_eq (D:=900) ⟨⟨c::y⟩⟩ ⟨⟨[]⟩⟩ tv (Nat.add t 2) false (by simp)) 151125022881494169829378 [] fun o1 =>
      useQ (k_r_str_add (D:=900) key [61,34] tk (Nat.add o1.t 0) (by simp only [List.length_cons,List.length_nil]; lia)) 16385 [] fun o2 =>
      useQ (k_r_siter (D:=900) (c::y) tv hx) 16385 [] fun o3 =>
      useQ (k_sp_wrS w b1 b2 b3 x (o3.v 0) o3.x (Nat.add o3.x 1) (c::y) tv hx c y rfl (by lia)) 130 [1,2,3] fun o4 =>
      useQ (k_r_join (D:=900) [] (Nat.add o2.t 0) (A o3.x) (pE (c::y) (tailV o4.v)) _ (o4.v 0) (esc (c::y)) rfl (pE_join _ _).symm (by have:=pE_sum (c::y) (tailV o4.v); simp only [List.length_nil] at *; lia)) 268501508 [2] fun o5 =>
      useQ (k_r_str_add (D:=900) (key++[61,34]) (esc (c::y)) (o2.v 0) (o5.v 0) (by simp only [List.length_append,List.length_cons,List.length_nil] at *; lia)) 128 [] fun o6 =>
      useQ (k_r_str_add (D:=900) ((key++[61,34])++esc (c::y)) [34] (o6.v 0) (Nat.add o6.t 0) (by simp only [List.length_append,List.length_cons,List.length_nil] at *; lia)) 128 [] fun o7 =>
      finK 0 o7.v []) rfl fun x t => ?_
    cases b1 <;> kernel_rfl
noncomputable def k_sp_written:=fun a1 a2 a3 a4 a5 a6 a7 a8 a9 a10 a11=>kOf (sp_written a1 a2 a3 a4 a5 a6 a7 a8 a9 a10 a11)
end
noncomputable def exprS:Stmt→Expr
  | .Expr e _=>e
  | _ => .Name ⟨⟨[]⟩⟩ ⟨0,0,0,0⟩
noncomputable def neFn:Stmt:=stm pT 25
noncomputable def neFor:Stmt:=nthS (fBody neFn) 2
noncomputable def ne1E:Expr:=callA (callA (exprS (nthS (forB neFor) 4)))
noncomputable def ne2E:Expr:=callA (exprS (nthS (forB neFor) 5))
noncomputable def neQ:Str:=⟨⟨[95,108,97,119,95,110,101,115,116]⟩⟩++locSuf
noncomputable def neCEnv (e:Expr) (fr cl:Nat):Env:={ scope:=lcSc e,locals:=A cl,globals:=3,cells:=[],qual:=neQ,func:=none,code := .ref 300,frame:=some (A fr),builtins:=0 }
noncomputable def cmC (e:Expr) (fr it ac cl:Nat):Code := .compStart e 0 (.ref (A it)) (.ref (A ac)) (neCEnv e fr cl)
noncomputable def liO (ro i:Nat):Obj:=⟨.type "list_iterator",none,.fields ⟨[.ref (A ro),.int (Int.ofNat i) 0]⟩,⟨[]⟩⟩
section
variable (w:World) (b1 b2 b3:Bool) (fr it ac cl ro u1 u2:Nat) (k1 k2:List Nat) (tk1 tk2 tv1 tv2:Nat)
noncomputable def cmPre (v1 v2:Value):List En:=[(A it,liO ro 0),(A ac,lstO [] 0),(A cl,dct [] 0),(A ro,lstO [.ref (A u1),.ref (A u2)] 0),(A u1,tup [.str ⟨⟨k1⟩⟩ tk1,v1]),(A u2,tup [.str ⟨⟨k2⟩⟩ tk2,v2])]
noncomputable def cmMod (P:Params) (v1 v2:Value) (vs:List Value) (o:Out) (a b:Nat):List Obj:=[o.ob 0,lstO vs 2,dct [dEnt P [107,101,121] a (.str ⟨⟨k2⟩⟩ tk2),dEnt P [118,97,108,117,101] b v2] 2,lstO [.ref (A u1),.ref (A u2)] 0,tup [.str ⟨⟨k1⟩⟩ tk1,v1],tup [.str ⟨⟨k2⟩⟩ tk2,v2]]
noncomputable def pl_cm1 (w:World) (b1 b2 b3:Bool) (k1 k2:List Nat) (tk1 tk2 tv1 tv2:Nat) (v1 v2:Option (List Nat)) (hk1:k1.length≤2^10) (hk2:k2.length≤2^10) (h1:okV v1) (h2:okV v2) (g1 : ∀ y,v1=some y → ∀ c ∈ y,c < 128) (g2 : ∀ y,v2=some y → ∀ c ∈ y,c < 128):Nat→Nat→PlanOk (VV ⟨w,b1,b2,b3⟩):=fun x t =>
    useQ (k_sp_written w b1 b2 b3 k1 tk1 hk1 v1 tv1 h1 g1) (cond b2 78818554575396167032069350633467118840785114242222391716800443130105841397310648225741913744747369403477347891429376 346647668960581328534007034034890914316817916553184250657340617730163160903692468717692871547026271610845427579395822498730754176) [] fun o1 =>
    useQ (k_sp_written w b1 b2 b3 k2 tk2 hk2 v2 tv2 h2 g2) 2708184913754541630059567814950111092652780720228907228720212783362223544696614516209886757792548735898026028629950014542577920 [] fun o2 =>
    finK 72733047674359199545888367991324928 (pick [o1.v 0,o2.v 0,Nat.add t 0,Nat.add t 1]) []
theorem cm1 (v1 v2:Option (List Nat)) (hk1:k1.length≤2^10) (hk2:k2.length≤2^10) (h1:okV v1) (h2:okV v2) (g1 : ∀ y,v1=some y → ∀ c ∈ y,c < 128) (g2 : ∀ y,v2=some y → ∀ c ∈ y,c < 128) :
    Spec (VV ⟨w,b1,b2,b3⟩) 450 (cmC ne1E fr it ac cl) (cmPre it ac cl ro u1 u2 k1 k2 tk1 tk2 (ov v1 tv1) (ov v2 tv2)) (fun o=>⟨.ok .next,cmMod u1 u2 k1 k2 tk1 tk2 w.params (ov v1 tv1) (ov v2 tv2) [.str ⟨⟨rowT k1 v1⟩⟩ (o.v 0),.str ⟨⟨rowT k2 v2⟩⟩ (o.v 1)] o (o.v 2) (o.v 3),[]⟩):=by
  refine spec_run [0,1,2,3,4,5] 3000 (pl_cm1 w b1 b2 b3 k1 k2 tk1 tk2 tv1 tv2 v1 v2 hk1 hk2 h1 h2 g1 g2) rfl fun x t => ?_
  cases v1 <;> cases v2 <;> cases b2 <;> cases b1 <;> kernel_rfl
noncomputable def k_cm1:=fun a1 a2 a3 a4 a5 a6 a7 a8 a9 a10 a11 a12 a13 a14 a15 a16 a17 a18 a19 a20 a21 a22 a23 a24 a25=>kOf (cm1 a1 a2 a3 a4 a5 a6 a7 a8 a9 a10 a11 a12 a13 a14 a15 a16 a17 a18 a19 a20 a21 a22 a23 a24 a25)
noncomputable def pl_cm2_nn (w:World) (b1 b2 b3:Bool):Nat→Nat→PlanOk (VV ⟨w,b1,b2,b3⟩):=fun x t =>
    finK (cond b2 78000886439588280942531745534619827721902974978699201547387455570688596687364287501558744178599552989788621921481685719261930211812362191163284184209775450372217400672228200384304438386709632379767465134538773476723416423392208499262408299246186202796190612543911194307002771832799183781888 343051526468650543465506716173297864559336919468666232081757917098762791907700276487717227796393434287473820780208660507832552977990091263542482705546265766760801037198692900965910727248450429050146728793768214657514793754479436682798370577880423622385727932680505286120323367734499813866195816821047424) (pick [Nat.add x 3,Nat.add x 7,Nat.add t 0,Nat.add t 1]) [9,13]
theorem cm2_nn:Spec (VV ⟨w,b1,b2,b3⟩) 450 (cmC ne2E fr it ac cl) (cmPre it ac cl ro u1 u2 k1 k2 tk1 tk2 (ov none tv1) (ov none tv2))
    (fun o=>⟨.ok .next,cmMod u1 u2 k1 k2 tk1 tk2 w.params (ov none tv1) (ov none tv2) [.ref (A (o.v 0)),.ref (A (o.v 1))] o (o.v 2) (o.v 3),[(A (o.v 0),tup [.str ⟨⟨k1⟩⟩ tk1,ov (nz none) tv1]),(A (o.v 1),tup [.str ⟨⟨k2⟩⟩ tk2,ov (nz none) tv2])]⟩):=by
  refine spec_run [0,1,2,3,4,5] 3000 (pl_cm2_nn w b1 b2 b3) rfl fun x t => ?_
  cases b2 <;> cases b1 <;> kernel_rfl
noncomputable def pl_cm2_ne (w:World) (b1 b2 b3:Bool) (tv2:Nat):Nat→Nat→PlanOk (VV ⟨w,b1,b2,b3⟩):=fun x t =>
    useQ (k_r_str_eq (D:=900) ⟨⟨[]⟩⟩ ⟨⟨[]⟩⟩ tv2 (Nat.add t 5) true (by simp)) (cond b2 3496605120760132641215679022017948098168706557116929330708525882215602655562150563396563236232168735327427788641349191979448426264942730412867831463155848171693946254412509945863132502510074268741586086172186808175806387884959252073345586617663488 15378231952067481963154885715968359430819831965120478743896358064625214900807873705181402909095001068938221776912583734136582650804834773438680999633606857572932497493896628132615049820564896660250856770844856489899738986899241572298382835536691139777042333824) [] fun o1 =>
    finK 83117641391428854802949360649765120 (pick [Nat.add x 3,Nat.add o1.x 0,Nat.add t 0,Nat.add t 1]) [9,13]
theorem cm2_ne:Spec (VV ⟨w,b1,b2,b3⟩) 450 (cmC ne2E fr it ac cl) (cmPre it ac cl ro u1 u2 k1 k2 tk1 tk2 (ov none tv1) (ov (some []) tv2))
    (fun o=>⟨.ok .next,cmMod u1 u2 k1 k2 tk1 tk2 w.params (ov none tv1) (ov (some []) tv2) [.ref (A (o.v 0)),.ref (A (o.v 1))] o (o.v 2) (o.v 3),[(A (o.v 0),tup [.str ⟨⟨k1⟩⟩ tk1,ov (nz none) tv1]),(A (o.v 1),tup [.str ⟨⟨k2⟩⟩ tk2,ov (nz (some [])) tv2])]⟩):=by
  refine spec_run [0,1,2,3,4,5] 3000 (pl_cm2_ne w b1 b2 b3 tv2) rfl fun x t => ?_
  cases b2 <;> cases b1 <;> kernel_rfl
noncomputable def pl_cm2_ns (w:World) (b1 b2 b3:Bool) (tv2:Nat) (c2:Nat) (y2:List Nat):Nat→Nat→PlanOk (VV ⟨w,b1,b2,b3⟩):=fun x t =>
    useQ (k_r_str_eq (D:=900) ⟨⟨c2::y2⟩⟩ ⟨⟨[]⟩⟩ tv2 (Nat.add t 5) false (by simp)) (cond b2 3496605120760132641215679022017948098168706557116929330708525882215602655562150563396563236232168735327427788641349191979448426264942730412867831463155848171693946254412509945863132502510074268741586086172186808175806387884959252073345586617663488 15378231952067481963154885715968359430819831965120478743896358064625214900807873705181402909095001068938221776912583734136582650804834773438680999633606857572932497493896628132615049820564896660250856770844856489899738986899241572298382835536691139777042333824) [] fun o1 =>
    finK 10639058098102893414777518163169935363 (pick [Nat.add x 3,Nat.add o1.x 0,Nat.add t 0,Nat.add t 1]) [9,13]
theorem cm2_ns (c2:Nat) (y2:List Nat):Spec (VV ⟨w,b1,b2,b3⟩) 450 (cmC ne2E fr it ac cl) (cmPre it ac cl ro u1 u2 k1 k2 tk1 tk2 (ov none tv1) (ov (some (c2::y2)) tv2))
    (fun o=>⟨.ok .next,cmMod u1 u2 k1 k2 tk1 tk2 w.params (ov none tv1) (ov (some (c2::y2)) tv2) [.ref (A (o.v 0)),.ref (A (o.v 1))] o (o.v 2) (o.v 3),[(A (o.v 0),tup [.str ⟨⟨k1⟩⟩ tk1,ov (nz none) tv1]),(A (o.v 1),tup [.str ⟨⟨k2⟩⟩ tk2,ov (nz (some (c2::y2))) tv2])]⟩):=by
  refine spec_run [0,1,2,3,4,5] 3000 (pl_cm2_ns w b1 b2 b3 tv2 c2 y2) rfl fun x t => ?_
  cases b2 <;> cases b1 <;> kernel_rfl
noncomputable def pl_cm2_sn (w:World) (b1 b2 b3:Bool) (tv1:Nat) (c1:Nat) (y1:List Nat):Nat→Nat→PlanOk (VV ⟨w,b1,b2,b3⟩):=fun x t =>
    useQ (k_r_str_eq (D:=900) ⟨⟨c1::y1⟩⟩ ⟨⟨[]⟩⟩ tv1 (Nat.add t 2) false (by simp)) (cond b2 615769964500778454038437924513185305635195699692984108424874325560757689323951182418254477451163304128530901647360 2708184944015282612875806733015293551094712357622992882004534580422155403905944246258619570235715408268638211175227412447248512) [] fun o1 =>
    finK 60413120435405880883271040427661832197082714177431909163365658854576397592908586131579439313062352037216562262792966280402935866252742765733352435572774610440350752342019 (pick [Nat.add o1.x 0,Nat.add o1.x 4,Nat.add t 0,Nat.add t 1]) [9,13]
theorem cm2_sn (c1:Nat) (y1:List Nat):Spec (VV ⟨w,b1,b2,b3⟩) 450 (cmC ne2E fr it ac cl) (cmPre it ac cl ro u1 u2 k1 k2 tk1 tk2 (ov (some (c1::y1)) tv1) (ov none tv2))
    (fun o=>⟨.ok .next,cmMod u1 u2 k1 k2 tk1 tk2 w.params (ov (some (c1::y1)) tv1) (ov none tv2) [.ref (A (o.v 0)),.ref (A (o.v 1))] o (o.v 2) (o.v 3),[(A (o.v 0),tup [.str ⟨⟨k1⟩⟩ tk1,ov (nz (some (c1::y1))) tv1]),(A (o.v 1),tup [.str ⟨⟨k2⟩⟩ tk2,ov (nz none) tv2])]⟩):=by
  refine spec_run [0,1,2,3,4,5] 3000 (pl_cm2_sn w b1 b2 b3 tv1 c1 y1) rfl fun x t => ?_
  cases b2 <;> cases b1 <;> kernel_rfl
noncomputable def pl_cm2_se (w:World) (b1 b2 b3:Bool) (tv1 tv2:Nat) (c1:Nat) (y1:List Nat):Nat→Nat→PlanOk (VV ⟨w,b1,b2,b3⟩):=fun x t =>
    useQ (k_r_str_eq (D:=900) ⟨⟨c1::y1⟩⟩ ⟨⟨[]⟩⟩ tv1 (Nat.add t 2) false (by simp)) (cond b2 615769964500778454038437924513185305635195699692984108424874325560757689323951182418254477451163304128530901647360 2708184944015282612875806733015293551094712357622992882004534580422155403905944246258619570235715408268638211175227412447248512) [] fun o1 =>
    useQ (k_r_str_eq (D:=900) ⟨⟨[]⟩⟩ ⟨⟨[]⟩⟩ tv2 (Nat.add o1.t 2) true (by simp)) 2708184944015282764365995798660388467267504405041780116038927266273936481261676968824440842865019256392999733346429651751305219 [] fun o2 =>
    finK 83117641391428854802949360649765120 (pick [Nat.add o1.x 0,Nat.add o2.x 0,Nat.add t 0,Nat.add t 1]) [9,13]
theorem cm2_se (c1:Nat) (y1:List Nat):Spec (VV ⟨w,b1,b2,b3⟩) 450 (cmC ne2E fr it ac cl) (cmPre it ac cl ro u1 u2 k1 k2 tk1 tk2 (ov (some (c1::y1)) tv1) (ov (some []) tv2))
    (fun o=>⟨.ok .next,cmMod u1 u2 k1 k2 tk1 tk2 w.params (ov (some (c1::y1)) tv1) (ov (some []) tv2) [.ref (A (o.v 0)),.ref (A (o.v 1))] o (o.v 2) (o.v 3),[(A (o.v 0),tup [.str ⟨⟨k1⟩⟩ tk1,ov (nz (some (c1::y1))) tv1]),(A (o.v 1),tup [.str ⟨⟨k2⟩⟩ tk2,ov (nz (some [])) tv2])]⟩):=by
  refine spec_run [0,1,2,3,4,5] 3000 (pl_cm2_se w b1 b2 b3 tv1 tv2 c1 y1) rfl fun x t => ?_
  cases b2 <;> cases b1 <;> kernel_rfl
noncomputable def pl_cm2_ss (w:World) (b1 b2 b3:Bool) (tv1 tv2:Nat) (c1:Nat) (y1:List Nat) (c2:Nat) (y2:List Nat):Nat→Nat→PlanOk (VV ⟨w,b1,b2,b3⟩):=fun x t =>
    useQ (k_r_str_eq (D:=900) ⟨⟨c1::y1⟩⟩ ⟨⟨[]⟩⟩ tv1 (Nat.add t 2) false (by simp)) (cond b2 615769964500778454038437924513185305635195699692984108424874325560757689323951182418254477451163304128530901647360 2708184944015282612875806733015293551094712357622992882004534580422155403905944246258619570235715408268638211175227412447248512) [] fun o1 =>
    useQ (k_r_str_eq (D:=900) ⟨⟨c2::y2⟩⟩ ⟨⟨[]⟩⟩ tv2 (Nat.add o1.t 2) false (by simp)) 2708184944015282764365995798660388467267504405041780116038927266273936481261676968824440842865019256392999733346429651751305219 [] fun o2 =>
    finK 10639058098102893414777518163169935363 (pick [Nat.add o1.x 0,Nat.add o2.x 0,Nat.add t 0,Nat.add t 1]) [9,13]
theorem cm2_ss (c1:Nat) (y1:List Nat) (c2:Nat) (y2:List Nat):Spec (VV ⟨w,b1,b2,b3⟩) 450 (cmC ne2E fr it ac cl) (cmPre it ac cl ro u1 u2 k1 k2 tk1 tk2 (ov (some (c1::y1)) tv1) (ov (some (c2::y2)) tv2))
    (fun o=>⟨.ok .next,cmMod u1 u2 k1 k2 tk1 tk2 w.params (ov (some (c1::y1)) tv1) (ov (some (c2::y2)) tv2) [.ref (A (o.v 0)),.ref (A (o.v 1))] o (o.v 2) (o.v 3),[(A (o.v 0),tup [.str ⟨⟨k1⟩⟩ tk1,ov (nz (some (c1::y1))) tv1]),(A (o.v 1),tup [.str ⟨⟨k2⟩⟩ tk2,ov (nz (some (c2::y2))) tv2])]⟩):=by
  refine spec_run [0,1,2,3,4,5] 3000 (pl_cm2_ss w b1 b2 b3 tv1 tv2 c1 y1 c2 y2) rfl fun x t => ?_
  cases b2 <;> cases b1 <;> kernel_rfl
noncomputable def pl_cm2_es (w:World) (b1 b2 b3:Bool) (tv1 tv2:Nat) (c2:Nat) (y2:List Nat):Nat→Nat→PlanOk (VV ⟨w,b1,b2,b3⟩):=fun x t =>
    useQ (k_r_str_eq (D:=900) ⟨⟨[]⟩⟩ ⟨⟨[]⟩⟩ tv1 (Nat.add t 2) true (by simp)) (cond b2 615769964500778454038437924513185305635195699692984108424874325560757689323951182418254477451163304128530901647360 2708184944015282612875806733015293551094712357622992882004534580422155403905944246258619570235715408268638211175227412447248512) [] fun o1 =>
    useQ (k_r_str_eq (D:=900) ⟨⟨c2::y2⟩⟩ ⟨⟨[]⟩⟩ tv2 (Nat.add o1.t 2) false (by simp)) 21157694875119396596609342177034284900527378164388907156554119267765128759856851318940944084882962940570310416768981654307072 [] fun o2 =>
    finK 10639058098102893414777518163169935363 (pick [Nat.add o1.x 0,Nat.add o2.x 0,Nat.add t 0,Nat.add t 1]) [9,13]
theorem cm2_es (c2:Nat) (y2:List Nat):Spec (VV ⟨w,b1,b2,b3⟩) 450 (cmC ne2E fr it ac cl) (cmPre it ac cl ro u1 u2 k1 k2 tk1 tk2 (ov (some []) tv1) (ov (some (c2::y2)) tv2))
    (fun o=>⟨.ok .next,cmMod u1 u2 k1 k2 tk1 tk2 w.params (ov (some []) tv1) (ov (some (c2::y2)) tv2) [.ref (A (o.v 0)),.ref (A (o.v 1))] o (o.v 2) (o.v 3),[(A (o.v 0),tup [.str ⟨⟨k1⟩⟩ tk1,ov (nz (some [])) tv1]),(A (o.v 1),tup [.str ⟨⟨k2⟩⟩ tk2,ov (nz (some (c2::y2))) tv2])]⟩):=by
  refine spec_run [0,1,2,3,4,5] 3000 (pl_cm2_es w b1 b2 b3 tv1 tv2 c2 y2) rfl fun x t => ?_
  cases b2 <;> cases b1 <;> kernel_rfl
end
noncomputable def neIf1:Stmt:=nthS (forB neFor) 3
noncomputable def neIf2:Stmt:=nthS (ifE neIf1) 2
noncomputable def xR:Stmt:=nthS (ifB neIf2) 0
noncomputable def xD:Stmt:=nthS (ifE neIf2) 0
noncomputable def neEnv (fr:Nat):Env:={ scope:=fScope neFn,locals:=A fr,globals:=3,cells:=[],qual:=neQ,func:=some 301,code := .ref 300,frame:=some (A fr),builtins:=0 }
set_option genInjectivity false in
set_option genSizeOfSpec false in
structure NF where
  τ:Nat→Nat
  nu:Value
  te:Value
  re:Value
  kv:Value
  nv:Value
  ow:Value
  ro:Value
noncomputable def neFr (P:Params) (F:NF) (tb:Nat) (note name deed inner:Value):Obj:=frO [dEnt P [116,97,98,108,101] (F.τ 0) (.ref (A tb)),dEnt P [110,117,109,98,101,114,115] (F.τ 1) F.nu,dEnt P [116,101,120,116,115] (F.τ 2) F.te,dEnt P [114,101,97,100] (F.τ 3) F.re,
  dEnt P [107] (F.τ 4) F.kv,dEnt P [110] (F.τ 5) F.nv,dEnt P [110,111,116,101] (F.τ 6) note,dEnt P [110,97,109,101] (F.τ 7) name,dEnt P [111,119,110] (F.τ 8) F.ow,dEnt P [114,111,119,115] (F.τ 9) F.ro,dEnt P [100,101,101,100] (F.τ 10) deed,dEnt P [105,110,110,101,114] (F.τ 11) inner] 12
noncomputable def isLetter (c:Nat):Prop:=c=102∨c=118∨c=108∨c=111∨c=109
noncomputable def isDigit (d:Nat):Prop:=d=48∨d=49∨d=50∨d=51∨d=52∨d=53
noncomputable def deedsL:List (Nat × Nat):=[(102,48),(102,49),(102,50),(102,51),(102,52),(102,53),(118,48),(118,49),(118,50),(118,51),(118,52),(118,53),(108,48),(108,49),(108,50),(108,51),(108,52),(108,53),(111,48),(111,49),(111,50),(111,51),(111,52),(111,53),(109,48),(109,49),(109,50),(109,51),(109,52),(109,53)]
theorem deedsL_mem (c d:Nat) (hc:isLetter c) (hd:isDigit d):(c,d) ∈ deedsL:=by
  rcases hc with rfl | rfl | rfl | rfl | rfl <;> rcases hd with rfl | rfl | rfl | rfl | rfl | rfl <;> decide
noncomputable def mapC (L:List (Nat × Nat)) (G:Nat × Nat→Chk):List Chk := @List.rec (Nat × Nat) (fun _=>List Chk) [] (fun p _ ih=>G p::ih) L
theorem mapC_ok {G:Nat × Nat→Chk} : ∀ {L:List (Nat × Nat)},mapC L G=mapC L (fun p=>(G p).dup) → ∀ p ∈ L,(G p).Ok
  | [],_,_,hp=>nomatch hp
  | q::L,h,p,hp=>by
    have h:G q::mapC L G=(G q).dup::mapC L (fun p=>(G p).dup):=h
    injection h with h1 h2
    cases List.mem_cons.mp hp with
    | inl e=>rw [e]; exact Chk.ok_of_dup h1
    | inr e=>exact mapC_ok h2 p e
section
variable (w:World) (b1 b2 b3:Bool) (a d' hl th fr:Nat) (F:NF) (vs:List Value) (ep:Nat) (nm:List Nat) (tn:Nat)
noncomputable def plD (c d:Nat) (inner:List Nat) (t0:Nat) (note:Option (List Nat)) (tv x t:Nat):Plan :=
  .use 29500405061843689490686376861086899072209306531596615230657078926711385427309194896421503610615325942631133492609818803162933173672455777564206287997646023380850180353 600 (adC (Nat.add x 4)) [1,2,3,8,7] (adPre w.params a d' hl th vs ep (Nat.add x 4) (Nat.add x 3) (frO (adFr0 w.params (pick [Nat.add t 6,Nat.add t 7,Nat.add t 8,Nat.add t 9]) a (Nat.add x 3) (.str ⟨⟨nm⟩⟩ tn) .none) 4) [dEnt w.params [c,95,d] (Nat.add t 4) (.str ⟨⟨inner⟩⟩ t0),dEnt w.params [110,95,111] (Nat.add t 5) (ov note tv)] 2)
    (adPost w.params a d' hl th vs ep (Nat.add x 4) (Nat.add x 3) (pick [Nat.add t 6,Nat.add t 7,Nat.add t 8,Nat.add t 9]) nm tn .none [dEnt w.params [c,95,d] (Nat.add t 4) (.str ⟨⟨inner⟩⟩ t0),dEnt w.params [110,95,111] (Nat.add t 5) (ov note tv)] 2 (.str ⟨⟨[110,95,111]⟩⟩ (Nat.add t 5)) (ov note tv) (txD [c,45,d] inner note)) fun o1 => .fin 0 o1.v [9]
noncomputable def ckD (cd:Code) (inner:List Nat) (td t0:Nat) (note:Option (List Nat)) (tv x t:Nat) (p:Nat × Nat):Chk:=match p with
  | (c,d)=>startB (VV ⟨w,b1,b2,b3⟩) ⟨((A fr,neFr w.params F a (ov note tv) (.str ⟨⟨nm⟩⟩ tn) (.str ⟨⟨[c,95,d]⟩⟩ td) (.str ⟨⟨inner⟩⟩ t0))::hdPre w.params a d' hl th vs ep),[0,1,2,3],(fun o=>⟨.ok .next,neFr w.params F a (ov note tv) (.str ⟨⟨nm⟩⟩ tn) (.str ⟨⟨[c,95,d]⟩⟩ td) (.str ⟨⟨inner⟩⟩ t0)::(hdPre w.params a d' hl th (vs++[.ref (A (o.v 0))]) (ep+1)).map (·.2),[(A (o.v 0),tup [.str ⟨⟨nm⟩⟩ tn,.str ⟨⟨txD [c,45,d] inner note⟩⟩ (o.v 1)])]⟩)⟩ 3000 (plD w a d' hl th vs ep nm tn c d inner t0 note tv x t) [xD] (neEnv fr) cd 560 x t
theorem ckD_ok (cd:Code) (inner:List Nat) (td t0:Nat) (note:Option (List Nat)) (tv x t:Nat):mapC deedsL (ckD w b1 b2 b3 a d' hl th fr F vs ep nm tn cd inner td t0 note tv x t)=mapC deedsL (fun p=>(ckD w b1 b2 b3 a d' hl th fr F vs ep nm tn cd inner td t0 note tv x t p).dup):=by
  cases note <;> cases b1 <;> kernel_rfl
theorem sp_xD (hnm:okName nm) (hvs:vs.length < 2^20) (c d:Nat) (hc:isLetter c) (hd:isDigit d) (inner:List Nat) (td t0:Nat) (hx:okText inner) (hxl:inner.length≤2^17) (note:Option (List Nat)) (tv:Nat) (hn:okN note) :
    SpecB (VV ⟨w,b1,b2,b3⟩) 560 [xD] (neEnv fr) ((A fr,neFr w.params F a (ov note tv) (.str ⟨⟨nm⟩⟩ tn) (.str ⟨⟨[c,95,d]⟩⟩ td) (.str ⟨⟨inner⟩⟩ t0))::hdPre w.params a d' hl th vs ep) (fun o=>⟨.ok .next,neFr w.params F a (ov note tv) (.str ⟨⟨nm⟩⟩ tn) (.str ⟨⟨[c,95,d]⟩⟩ td) (.str ⟨⟨inner⟩⟩ t0)::(hdPre w.params a d' hl th (vs++[.ref (A (o.v 0))]) (ep+1)).map (·.2),[(A (o.v 0),tup [.str ⟨⟨nm⟩⟩ tn,.str ⟨⟨txD [c,45,d] inner note⟩⟩ (o.v 1)])]⟩):=by
  have hcc:96≤c∧c≤122:=by unfold isLetter at hc; lia
  have hdd:48≤d∧d≤57:=by unfold isDigit at hd; lia
  have key:=fun fr' pd ρ td' tk=>sp_adD w b1 b2 b3 a d' hl th fr' pd ρ vs ep nm tn hnm hvs c d hcc hdd inner td' t0 hx hxl note tk tv hn
  refine specB_of (kt_low _ _) [0,1,2,3] rfl 3000 (fun x t=>plD w a d' hl th vs ep nm tn c d inner t0 note tv x t) (fun x t=>⟨specC_of (key _ _ _ _ _) rfl,fun _=>trivial⟩) (fun o=>⟨_,rfl⟩) fun cd x t => ?_
  exact mapC_ok (ckD_ok w b1 b2 b3 a d' hl th fr F vs ep nm tn cd inner td t0 note tv x t) (c,d) (deedsL_mem c d hc hd)
noncomputable def plR (c d:Nat) (inner:List Nat) (t0:Nat) (note:Option (List Nat)) (tv x t:Nat):Plan :=
  .use 29500405061843689490686376861086899072209306531596615230657078926711385427309194896421503610615325942631133492609818803162933173672455777564206287997646023380850180353 600 (adC (Nat.add x 4)) [1,2,3,8,7] (adPre w.params a d' hl th vs ep (Nat.add x 4) (Nat.add x 3) (frO (adFr0 w.params (pick [Nat.add t 6,Nat.add t 7,Nat.add t 8,Nat.add t 9]) a (Nat.add x 3) (.str ⟨⟨nm⟩⟩ tn) .none) 4) [dEnt w.params [110,95,111] (Nat.add t 4) (ov note tv),dEnt w.params [c,95,d] (Nat.add t 5) (.str ⟨⟨inner⟩⟩ t0)] 2)
    (adPost w.params a d' hl th vs ep (Nat.add x 4) (Nat.add x 3) (pick [Nat.add t 6,Nat.add t 7,Nat.add t 8,Nat.add t 9]) nm tn .none [dEnt w.params [110,95,111] (Nat.add t 4) (ov note tv),dEnt w.params [c,95,d] (Nat.add t 5) (.str ⟨⟨inner⟩⟩ t0)] 2 (.str ⟨⟨[c,95,d]⟩⟩ (Nat.add t 5)) (.str ⟨⟨inner⟩⟩ t0) (txR [c,45,d] inner note)) fun o1 => .fin 0 o1.v [9]
noncomputable def ckR (cd:Code) (inner:List Nat) (td t0:Nat) (note:Option (List Nat)) (tv x t:Nat) (p:Nat × Nat):Chk:=match p with
  | (c,d)=>startB (VV ⟨w,b1,b2,b3⟩) ⟨((A fr,neFr w.params F a (ov note tv) (.str ⟨⟨nm⟩⟩ tn) (.str ⟨⟨[c,95,d]⟩⟩ td) (.str ⟨⟨inner⟩⟩ t0))::hdPre w.params a d' hl th vs ep),[0,1,2,3],(fun o=>⟨.ok .next,neFr w.params F a (ov note tv) (.str ⟨⟨nm⟩⟩ tn) (.str ⟨⟨[c,95,d]⟩⟩ td) (.str ⟨⟨inner⟩⟩ t0)::(hdPre w.params a d' hl th (vs++[.ref (A (o.v 0))]) (ep+1)).map (·.2),[(A (o.v 0),tup [.str ⟨⟨nm⟩⟩ tn,.str ⟨⟨txR [c,45,d] inner note⟩⟩ (o.v 1)])]⟩)⟩ 3000 (plR w a d' hl th vs ep nm tn c d inner t0 note tv x t) [xR] (neEnv fr) cd 560 x t
theorem ckR_ok (cd:Code) (inner:List Nat) (td t0:Nat) (note:Option (List Nat)) (tv x t:Nat):mapC deedsL (ckR w b1 b2 b3 a d' hl th fr F vs ep nm tn cd inner td t0 note tv x t)=mapC deedsL (fun p=>(ckR w b1 b2 b3 a d' hl th fr F vs ep nm tn cd inner td t0 note tv x t p).dup):=by
  cases note <;> cases b1 <;> kernel_rfl
theorem sp_xR (hnm:okName nm) (hvs:vs.length < 2^20) (c d:Nat) (hc:isLetter c) (hd:isDigit d) (inner:List Nat) (td t0:Nat) (hx:okText inner) (hxl:inner.length≤2^17) (note:Option (List Nat)) (tv:Nat) (hn:okN note) :
    SpecB (VV ⟨w,b1,b2,b3⟩) 560 [xR] (neEnv fr) ((A fr,neFr w.params F a (ov note tv) (.str ⟨⟨nm⟩⟩ tn) (.str ⟨⟨[c,95,d]⟩⟩ td) (.str ⟨⟨inner⟩⟩ t0))::hdPre w.params a d' hl th vs ep) (fun o=>⟨.ok .next,neFr w.params F a (ov note tv) (.str ⟨⟨nm⟩⟩ tn) (.str ⟨⟨[c,95,d]⟩⟩ td) (.str ⟨⟨inner⟩⟩ t0)::(hdPre w.params a d' hl th (vs++[.ref (A (o.v 0))]) (ep+1)).map (·.2),[(A (o.v 0),tup [.str ⟨⟨nm⟩⟩ tn,.str ⟨⟨txR [c,45,d] inner note⟩⟩ (o.v 1)])]⟩):=by
  have hcc:96≤c∧c≤122:=by unfold isLetter at hc; lia
  have hdd:48≤d∧d≤57:=by unfold isDigit at hd; lia
  have key:=fun fr' pd ρ td' tk=>sp_adR w b1 b2 b3 a d' hl th fr' pd ρ vs ep nm tn hnm hvs c d hcc hdd inner td' t0 hx hxl note tk tv hn
  refine specB_of (kt_low _ _) [0,1,2,3] rfl 3000 (fun x t=>plR w a d' hl th vs ep nm tn c d inner t0 note tv x t) (fun x t=>⟨specC_of (key _ _ _ _ _) rfl,fun _=>trivial⟩) (fun o=>⟨_,rfl⟩) fun cd x t => ?_
  exact mapC_ok (ckR_ok w b1 b2 b3 a d' hl th fr F vs ep nm tn cd inner td t0 note tv x t) (c,d) (deedsL_mem c d hc hd)
end
end Mine
namespace Mine
open PySem PySem.W PySem.W.X PyProof.Rows PySem.Calls
noncomputable def rgO (cur rem:Nat):Obj:=⟨.type "range_iterator",none,.fields ⟨[.int (Int.ofNat cur) 0,.int (Int.ofNat rem) 0,.int 1 0]⟩,⟨[]⟩⟩
theorem upd_twice (h:Heap) (a:Addr) (f g:Obj→Obj):(h.update a f).update a g=h.update a (fun o=>g (f o)):=by
  obtain ⟨objs,l⟩:=h
  show (⟨(objs.modify a f).modify a g,l⟩:Heap)=⟨objs.modify a (fun o=>g (f o)),l⟩
  congr 1
  apply Array.ext
  · simp
  · intro i h1 h2
    simp only [Array.getElem_modify]
    split <;> rfl
theorem r_range {w:Ws} {D:Nat} (a:Addr) (cur rem:Nat):Spec (VV w) D (.builtin "range_iterator.__next__" ⟨[.ref a],[]⟩) [(a,rgO cur (rem+1))] (fun o=>⟨.ok (.ret (.int (Int.ofNat cur) (o.v 0))),[rgO (cur+1) rem],[]⟩):=by
  have key:=spec_one (V:=VV w) (D:=D) (id := "range_iterator.__next__") (args:=⟨[.ref a],[]⟩) (a:=a) (o:=rgO cur (rem+1)) (fun o=>setF 1 (rawInt (Int.ofNat (rem+1)-1)) (setF 0 (rawInt (Int.ofNat cur+1)) o)) (fun τ => .int (Int.ofNat cur) τ) (by decide +kernel) (entryFor_of_tree (by kernel_rfl):entryFor table "range_iterator.__next__" = some Builtin.«range_iterator.__next__») rfl fun U s R _ _ _ ho h => ?_
  · have e:setF 1 (rawInt (Int.ofNat (rem+1)-1)) (setF 0 (rawInt (Int.ofNat cur+1)) (rgO cur (rem+1)))=rgO (cur+1) rem:=by
      have e1:Int.ofNat (rem+1)-1=Int.ofNat rem:=by show ((rem+1:Nat):Int)-1=(rem:Int); lia
      rw [e1]
      rfl
    rw [e] at key
    exact key
  · obtain ⟨hp,g,d,tk,os⟩:=s
    have hl:hp.get? a=some { cls := .type "range_iterator",dict:=none,data := .fields ⟨[.int (Int.ofNat cur) 0,.int (Int.ofNat (rem+1)) 0,.int 1 0]⟩,slots := #[] }:=ho
    have hn : ¬ (Int.ofNat (rem+1)≤0):=by show ¬ (((rem+1:Nat):Int)≤0); lia
    wp_walk
    rw [upd_twice]
    exact h _ _
noncomputable def k_r_range {w:Ws} {D:Nat}:=fun a1 a2 a3=>kOf (r_range (w:=w) (D:=D) a1 a2 a3)
theorem r_int_eqb {w:Ws} {D:Nat} (x y:Int) (t u:Tok) (b:Bool) (h:(x == y)=b):Spec (VV w) D (.builtin "int.__eq__" ⟨[.int x t,.int y u],[]⟩) [] (fun _=>⟨.ok (.ret (.bool b)),[],[]⟩) :=
  spec_gives (m := .val (.bool b)) (fun _ => .bool b) (by decide +kernel) F.entry_int_eq (by subst h; exact gives_int_eq x y t u) (fun Q s h=>h s.toks 0)
noncomputable def k_r_int_eqb {w:Ws} {D:Nat}:=fun a1 a2 a3 a4 a5 a6=>kOf (r_int_eqb (w:=w) (D:=D) a1 a2 a3 a4 a5 a6)
theorem r_sget {w:Ws} {D:Nat} (x:List Nat) (t:Tok) (i:Nat) (u:Tok) (c:Nat) (h:x[i]? = some c) (hi:i < 2^20):Spec (VV w) D (.builtin "str.__getitem__" ⟨[.str ⟨⟨x⟩⟩ t,.int (Int.ofNat i) u],[]⟩) [] (fun o=>⟨.ok (.ret (.str ⟨⟨[c]⟩⟩ (o.v 0))),[],[]⟩):=by
  have hx:i < x.length:=by
    rcases Nat.lt_or_ge i x.length with q | q
    · exact q
    · rw [List.getElem?_eq_none q] at h; cases h
  have hr:(decide ((Int.ofNat i) < -(2^63:Int)) || decide ((Int.ofNat i) ≥ 2^63))=false:=by
    have h1 : ¬ ((i:Int) < -(2^63:Int)):=by lia
    have h2 : ¬ ((i:Int) ≥ 2^63):=by lia
    show (decide ((i:Int) < -(2^63:Int)) || decide ((i:Int) ≥ 2^63))=false
    rw [decide_eq_false h1,decide_eq_false h2]; rfl
  have hs:(seqIndex? (Int.ofNat i) (⟨⟨x⟩⟩:Str).length).bind ((⟨⟨x⟩⟩:Str).cps[·]?)=some c:=by
    have e:seqIndex? (Int.ofNat i) (⟨⟨x⟩⟩:Str).length=some (Int.ofNat i).toNat:=seqIndex_of (by show (0:Int)≤(i:Int); lia) (by rw [str_len]; show (i:Int) < (x.length:Int); lia)
    rw [e]
    show (⟨x⟩:Array Nat)[i]? = some c
    simpa using h
  refine spec_gives (fun τ => .str ⟨⟨[c]⟩⟩ τ) (by decide +kernel) F.entry_str_getitem (gives_str_getitem ⟨⟨x⟩⟩ (Int.ofNat i) t u c hr hs) fun Q s h => ?_
  exact ⟨by show (1:Nat)≤sizeLine; rw [sizeLine_eq]; decide,h _ _⟩
noncomputable def k_r_sget {w:Ws} {D:Nat}:=fun a1 a2 a3 a4 a5 a6 a7=>kOf (r_sget (w:=w) (D:=D) a1 a2 a3 a4 a5 a6 a7)
theorem r_getlast {w:Ws} {D:Nat} (a:Addr) (vs:List Value) (v:Value) (ep:Nat) (u:Tok) (hz:vs.length < 2^20):Spec (VV w) D (.builtin "list.__getitem__" ⟨[.ref a,.int (Int.negSucc 0) u],[]⟩) [(a,lstO (vs++[v]) ep)] (fun _=>⟨.ok (.ret v),[lstO (vs++[v]) ep],[]⟩):=by
  refine spec_still (fun _=>v) (by decide +kernel) (entryFor_of_tree (by kernel_rfl):entryFor table "list.__getitem__" = some Builtin.«list.__getitem__») fun U s R _ _ _ hH h' => ?_
  have ho:s.heap.get? a=some (lstO (vs++[v]) ep):=hH _ (.head _)
  have hfit:(!Builtin.List.listFitsIndex (Int.negSucc 0))=false:=by decide
  obtain ⟨hp,g,d,tk,os⟩:=s
  generalize hI:Int.negSucc 0=I at hfit ⊢
  have f1:=PySem.AutoSeq1.idx_int
  wp_walk using wpAny_loadPart' ho
  subst hI
  refine wpAny_bind ?_
  wp_walk using wpAny_loadPart' ho
  have e:((seqIndex? (Int.negSucc 0) (⟨vs++[v]⟩:Array Value).size).bind fun j=>Option.map (fun x=>(j,x)) (⟨vs++[v]⟩:Array Value)[j]?)=some (vs.length,v):=by
    have:seqIndex? (Int.negSucc 0) (⟨vs++[v]⟩:Array Value).size=some vs.length:=by
      rw [MeetsSeq.seqIndex_neg (by decide) (by simp; lia)]
      congr 1
      simp
      lia
    rw [this]
    simp
  rw [e]
  exact wpAny_pure (h' _ 0)
noncomputable def k_r_getlast {w:Ws} {D:Nat}:=fun a1 a2 a3 a4 a5 a6=>kOf (r_getlast (w:=w) (D:=D) a1 a2 a3 a4 a5 a6)
noncomputable def dec (m:Nat):List Nat:=if m < 10 then [48+m] else [49,38+m]
end Mine
namespace Mine
open PySem PySem.W PySem.W.X
section
variable (w:World) (b1 b2 b3:Bool)
theorem ckS_ok (u x t:Nat) (L:List Nat) (hL:L=[0,1,2,3,4,5,6,7,8,9,10,11,12,13,14,15,16]) :
    mapC (L.map fun m=>(m,0)) (fun p=>start (VV ⟨w,b1,b2,b3⟩) ⟨[],[],fun o=>⟨.ok (.ret (.str ⟨⟨dec p.1⟩⟩ (o.v 0))),[],[]⟩⟩ 3000 (.fin 0 (fun _=>t) []) (.call (.type "str") ⟨[.int (Int.ofNat p.1) u],[]⟩) 800 x t)
     = mapC (L.map fun m=>(m,0)) (fun p=>(start (VV ⟨w,b1,b2,b3⟩) ⟨[],[],fun o=>⟨.ok (.ret (.str ⟨⟨dec p.1⟩⟩ (o.v 0))),[],[]⟩⟩ 3000 (.fin 0 (fun _=>t) []) (.call (.type "str") ⟨[.int (Int.ofNat p.1) u],[]⟩) 800 x t).dup):=by
  subst hL
  cases b1 <;> kernel_rfl
theorem sp_str (m:Nat) (hm:m≤16) (u:Nat):Spec (VV ⟨w,b1,b2,b3⟩) 800 (.call (.type "str") ⟨[.int (Int.ofNat m) u],[]⟩) [] (fun o=>⟨.ok (.ret (.str ⟨⟨dec m⟩⟩ (o.v 0))),[],[]⟩):=by
  refine spec_of (kt_low _ _) [] rfl 3000 (fun x t => .fin 0 (fun _=>t) []) (fun x t=>trivial) fun x t => ?_
  have hmem:m ∈ [0,1,2,3,4,5,6,7,8,9,10,11,12,13,14,15,16] :=
    (by decide : ∀ j,j < 17→j ∈ [0,1,2,3,4,5,6,7,8,9,10,11,12,13,14,15,16]) m (Nat.lt_succ_of_le hm)
  exact mapC_ok (ckS_ok w b1 b2 b3 u x t _ rfl) (m,0) (List.mem_map.mpr ⟨m,hmem,rfl⟩)
noncomputable def k_sp_str:=fun a1 a2 a3 a4 a5 a6 a7=>kOf (sp_str a1 a2 a3 a4 a5 a6 a7)
end
noncomputable def nmOf (b:Bool):List Nat:=match b with
  | true=>[110,69,83,84]
  | false=>[78,101,115,116]
theorem ok_nm : ∀ b,okName (nmOf b)
  | true=>fun c h=>by simp only [nmOf,List.mem_cons,List.not_mem_nil,or_false] at h; lia
  | false=>fun c h=>by simp only [nmOf,List.mem_cons,List.not_mem_nil,or_false] at h; lia
noncomputable def neC (fr it:Nat):Code := .forLoop (forT neFor) (.ref (A it)) (forB neFor) (forE neFor) (neEnv fr)
noncomputable def neF10 (P:Params) (F:NF) (tb:Nat) (note name:Value):Obj:=frO [dEnt P [116,97,98,108,101] (F.τ 0) (.ref (A tb)),dEnt P [110,117,109,98,101,114,115] (F.τ 1) F.nu,dEnt P [116,101,120,116,115] (F.τ 2) F.te,dEnt P [114,101,97,100] (F.τ 3) F.re,
    dEnt P [107] (F.τ 4) F.kv,dEnt P [110] (F.τ 5) F.nv,dEnt P [110,111,116,101] (F.τ 6) note,dEnt P [110,97,109,101] (F.τ 7) name,dEnt P [111,119,110] (F.τ 8) F.ow,dEnt P [114,111,119,115] (F.τ 9) F.ro] 10
noncomputable def neT (τ:Nat→Nat) (a b:Nat):Nat→Nat:=pick [τ 0,τ 1,τ 2,τ 3,τ 4,τ 5,τ 6,τ 7,τ 8,τ 9,a,b]
set_option genInjectivity false in
set_option genSizeOfSpec false in
structure NG where
  it:Nat
  fr:Nat
  tb:Nat
  td:Nat
  hl:Nat
  th:Nat
  nu:Nat
  te:Nat
  re:Nat
  ns:List Value
  en:Nat
noncomputable def nePre (P:Params) (G:NG) (cur rem:Nat) (fo:Obj) (hs:List Value) (eh:Nat) (ts:List Value) (et:Nat) (rs:List Value) (er:Nat):List En :=
  [(A G.it,rgO cur rem),(A G.fr,fo)]++hdPre P G.tb G.td G.hl G.th hs eh++[(A G.nu,lstO G.ns G.en),(A G.te,lstO ts et),(A G.re,lstO rs er)]
noncomputable def neNF (G:NG) (τ:Nat→Nat) (k n:Nat) (kt nt:Nat) (ow:Value) (ro:Nat):NF:=⟨τ,.ref (A G.nu),.ref (A G.te),.ref (A G.re),.int (Int.ofNat k) kt,.int (Int.ofNat n) nt,ow,.ref (A ro)⟩
noncomputable def neNew (v:Nat→Nat) (nm txt k1 k2:List Nat) (v1 v2:Value):List En:=[(A (v 0),tup [.str ⟨⟨nm⟩⟩ (v 4),.str ⟨⟨txt⟩⟩ (v 5)]),(A (v 1),lstO [.ref (A (v 2)),.ref (A (v 3))] 2),(A (v 2),tup [.str ⟨⟨k1⟩⟩ (v 6),v1]),(A (v 3),tup [.str ⟨⟨k2⟩⟩ (v 7),v2])]
noncomputable def letterOf (n:Nat):Nat:=match n % 5 with
  | 0=>102
  | 1=>118
  | 2=>108
  | 3=>111
  | _=>109
noncomputable def digitOf (n:Nat):Nat:=48+n / 5 % 6
theorem letter_get (n:Nat):([102,118,108,111,109]:List Nat)[n % 5]? = some (letterOf n):=by
  have h:n % 5 < 5:=Nat.mod_lt _ (by decide)
  unfold letterOf
  generalize n % 5=j at h ⊢
  match j,h with
  | 0,_ | 1,_ | 2,_ | 3,_ | 4,_=>rfl
theorem letter_is (n:Nat):isLetter (letterOf n):=by
  have h:n % 5 < 5:=Nat.mod_lt _ (by decide)
  unfold letterOf isLetter
  generalize n % 5=j at h ⊢
  match j,h with
  | 0,_ | 1,_ | 2,_ | 3,_ | 4,_=>simp
theorem digit_is (n:Nat):isDigit (digitOf n):=by
  have h:n / 5 % 6 < 6:=Nat.mod_lt _ (by decide)
  unfold digitOf isDigit
  lia
theorem digit_dec (n:Nat):dec (n / 5 % 6)=[digitOf n]:=by
  have h:n / 5 % 6 < 6:=Nat.mod_lt _ (by decide)
  unfold dec digitOf
  rw [if_pos (by lia)]
theorem okV_of {note:Option (List Nat)} (h:okN note):okV note:=by
  cases note with
  | none=>trivial
  | some v =>
    obtain ⟨h1,h2⟩:=h
    exact ⟨fun c hc=>by have:=h1 c hc; lia,by lia⟩
theorem lt_of_okN {note:Option (List Nat)} (h:okN note) : ∀ y,note=some y → ∀ c ∈ y,c < 128:=fun y e c hc=>by
  subst e
  have:=h.1 c hc
  lia
section
variable (w:World) (b1 b2 b3:Bool) (fr it ac cl ro u1 u2:Nat) (k1 k2:List Nat) (tk1 tk2 tv1 tv2:Nat)
theorem cm2_sx (c1:Nat) (y1:List Nat) (v2:Option (List Nat)):Spec (VV ⟨w,b1,b2,b3⟩) 450 (cmC ne2E fr it ac cl) (cmPre it ac cl ro u1 u2 k1 k2 tk1 tk2 (ov (some (c1::y1)) tv1) (ov v2 tv2))
    (fun o=>⟨.ok .next,cmMod u1 u2 k1 k2 tk1 tk2 w.params (ov (some (c1::y1)) tv1) (ov v2 tv2) [.ref (A (o.v 0)),.ref (A (o.v 1))] o (o.v 2) (o.v 3),[(A (o.v 0),tup [.str ⟨⟨k1⟩⟩ tk1,ov (nz (some (c1::y1))) tv1]),(A (o.v 1),tup [.str ⟨⟨k2⟩⟩ tk2,ov (nz v2) tv2])]⟩):=match v2 with
  | none=>cm2_sn w b1 b2 b3 fr it ac cl ro u1 u2 k1 k2 tk1 tk2 tv1 tv2 c1 y1
  | some []=>cm2_se w b1 b2 b3 fr it ac cl ro u1 u2 k1 k2 tk1 tk2 tv1 tv2 c1 y1
  | some (c2::y2)=>cm2_ss w b1 b2 b3 fr it ac cl ro u1 u2 k1 k2 tk1 tk2 tv1 tv2 c1 y1 c2 y2
noncomputable def k_cm2_sx:=fun a1 a2 a3 a4 a5 a6 a7 a8 a9 a10 a11 a12 a13 a14 a15 a16 a17 a18 a19 a20=>kOf (cm2_sx a1 a2 a3 a4 a5 a6 a7 a8 a9 a10 a11 a12 a13 a14 a15 a16 a17 a18 a19 a20)
theorem cm2_xs (v1:Option (List Nat)) (c2:Nat) (y2:List Nat):Spec (VV ⟨w,b1,b2,b3⟩) 450 (cmC ne2E fr it ac cl) (cmPre it ac cl ro u1 u2 k1 k2 tk1 tk2 (ov v1 tv1) (ov (some (c2::y2)) tv2))
    (fun o=>⟨.ok .next,cmMod u1 u2 k1 k2 tk1 tk2 w.params (ov v1 tv1) (ov (some (c2::y2)) tv2) [.ref (A (o.v 0)),.ref (A (o.v 1))] o (o.v 2) (o.v 3),[(A (o.v 0),tup [.str ⟨⟨k1⟩⟩ tk1,ov (nz v1) tv1]),(A (o.v 1),tup [.str ⟨⟨k2⟩⟩ tk2,ov (nz (some (c2::y2))) tv2])]⟩):=match v1 with
  | none=>cm2_ns w b1 b2 b3 fr it ac cl ro u1 u2 k1 k2 tk1 tk2 tv1 tv2 c2 y2
  | some []=>cm2_es w b1 b2 b3 fr it ac cl ro u1 u2 k1 k2 tk1 tk2 tv1 tv2 c2 y2
  | some (c1::y1)=>cm2_ss w b1 b2 b3 fr it ac cl ro u1 u2 k1 k2 tk1 tk2 tv1 tv2 c1 y1 c2 y2
noncomputable def k_cm2_xs:=fun a1 a2 a3 a4 a5 a6 a7 a8 a9 a10 a11 a12 a13 a14 a15 a16 a17 a18 a19 a20=>kOf (cm2_xs a1 a2 a3 a4 a5 a6 a7 a8 a9 a10 a11 a12 a13 a14 a15 a16 a17 a18 a19 a20)
end
section
variable (w:World) (b1 b2 b3:Bool) (G:NG)
noncomputable def pl_sp_turn1 (w:World) (b1 b2 b3:Bool) (G:NG) (k n rem:Nat) (pb:Bool) (hk:k≠0) (hpb:(Int.ofNat k % Int.ofNat 2 == 1)=pb) (hob:(Int.ofNat (n / 12000) % Int.ofNat 2 == 1)=false) (nt:Nat) (hns:G.ns[k]? = some (.int (Int.ofNat n) nt)) (hkk:k < 2^20) (c d:Nat) (hc:c=letterOf n) (hd:d=digitOf n) (τ:Nat→Nat) (k0 n0 kt0 nt0:Nat) (ow:Value) (ro0:Nat) (x0:Option (List Nat)) (xt:Nat) (nm0:List Nat) (nmt:Nat) (hs:List Value) (eh:Nat) (ts:List Value) (et:Nat) (rs:List Value) (er:Nat) (ci:Nat) (yi:List Nat) (ti:Nat) (note:Option (List Nat)) (hnote:noteV n=note) (hn:okN note) (hx:okText (ci::yi)) (hxl:(ci::yi).length≤2^17) (l1:hs.length < 2^19) (l2:ts.length < 2^19) (l3:rs.length < 2^19):Nat→Nat→PlanOk (VV ⟨w,b1,b2,b3⟩):=by
  have hnl:(note.getD []).length≤2^10:=by
    cases note with
    | none=>simp
    | some v=>exact hn.2
  have hk0:(Int.ofNat k == 0)=false:=by
    have : ¬ ((k:Int)=0):=by lia
    exact beq_eq_false_iff_ne.mpr this
  have hn5:n % 5 < 2^20:=by have:=Nat.mod_lt n (show 0 < 5 by decide); lia
  have hd6:n / 5 % 6≤16:=by have:=Nat.mod_lt (n / 5) (show 0 < 6 by decide); lia
  have hsum:sumL 2 [rowT [c,45,d] (some (ci::yi)),rowT [110,45,111] note]≤2^20∧sumL 2 [rowT [110,45,111] note,rowT [c,45,d] (some (ci::yi))]≤2^20:=by
    have f1:=rowT_len [110,45,111] note
    have f2:=rowT_len [c,45,d] (some (ci::yi))
    simp only [sumL,List.length_cons,List.length_nil,Option.getD_some] at *
    lia
  have hstr : ∀ u,Spec (VV ⟨w,b1,b2,b3⟩) 800 (.call (.type "str") ⟨[.int (Int.ofNat (n / 5 % 6)) u],[]⟩) [] (fun o=>⟨.ok (.ret (.str ⟨⟨[d]⟩⟩ (o.v 0))),[],[]⟩):=fun u=>spec_post (fun o=>by rw [digit_dec n,← hd]) (sp_str w b1 b2 b3 (n / 5 % 6) hd6 u)
  have hlet:=letter_get n
  have hl1:=letter_is n
  have hd1:=digit_is n
  have N:=fun t0=>sp_note w b1 b2 b3 n t0
  rw [← hc] at hlet hl1
  rw [← hd] at hd1
  rw [hnote] at N
  have hvn:=okV_of hn
  have hgn:=lt_of_okN hn
  have hvi:okV (some (ci::yi)):=⟨fun e he=>by have:=hx e he; lia,hxl⟩
  have hgi : ∀ y,(some (ci::yi))=some y → ∀ e ∈ y,e < 128:=fun y e q hq=>by
    cases e
    have:=hx q hq
    lia
  exact fun x t =>
    useQ (k_r_range (D:=900) (A G.it) k rem) 270532736 [0] fun o1 =>
    useQ (k_r_get (D:=900) (A G.nu) G.ns G.en k (o1.v 0) (fun _ => .int (Int.ofNat n) nt) ⟨0,hns⟩ hkk) 9655744197134680322 [5] fun o2 =>
    useK (N nt) 34363932930 [] fun o3 =>
    useQ (k_r_int_mod (D:=900) (Int.ofNat k) 2 (o1.v 0) (Nat.add o3.t 1) (by decide)) 268468482 [] fun o4 =>
    useQ (k_r_int_eqb (D:=900) (Int.ofNat k % Int.ofNat 2) 1 (o4.v 0) (Nat.add o4.t 0) pb hpb) 128 [] fun o5 =>
    useQ (k_r_int_eqb (D:=900) (Int.ofNat k) 0 (o1.v 0) (Nat.add o5.t 2) false hk0) 268468482 [] fun o6 =>
    useQ (k_r_int_mod (D:=900) (Int.ofNat n) 5 nt (Nat.add o6.t 1) (by decide)) 16386 [] fun o7 =>
    useQ (k_r_sget (D:=900) [102,118,108,111,109] (Nat.add o6.t 0) (n % 5) (o7.v 0) c hlet hn5) 128 [] fun o8 =>
    useQ (k_r_str_add (D:=900) [c] [95] (o8.v 0) (Nat.add o8.t 0) (by simp)) 128 [] fun o9 =>
    useQ (k_r_int_fdiv (D:=900) n 5 nt (Nat.add o9.t 0) (by decide) rfl) 268468224 [] fun o10 =>
    useQ (k_r_int_mod (D:=900) (Int.ofNat (n / 5)) 6 (o10.v 0) (Nat.add o10.t 0) (by decide)) 128 [] fun o11 =>
    useK (hstr (o11.v 0)) 1 [] fun o12 =>
    useQ (k_r_str_add (D:=900) [c,95] [d] (o9.v 0) (o12.v 0) (by simp)) 128 [] fun o13 =>
    useQ (k_r_getlast (D:=900) (A G.te) ts (.str ⟨⟨ci::yi⟩⟩ ti) et (Nat.add o13.t 2) (by lia)) 1245159196651912462594 [6] fun o14 =>
    useQ (k_r_int_fdiv (D:=900) n 12000 nt (Nat.add o14.t 1) (by decide) rfl) 268468482 [] fun o15 =>
    useQ (k_r_int_mod (D:=900) (Int.ofNat (n / 12000)) 2 (o15.v 0) (Nat.add o15.t 0) (by decide)) 128 [] fun o16 =>
    useQ (k_r_int_eqb (D:=900) (Int.ofNat (n / 12000) % Int.ofNat 2) 1 (o16.v 0) (Nat.add o16.t 0) false hob) 128 [] fun o17 =>
    useB (sp_xD w b1 b2 b3 G.tb G.td G.hl G.th G.fr (neNF G (neT τ (Nat.add o13.t 0) (Nat.add o14.t 0)) k n (o1.v 0) nt ow ro0) hs eh (nmOf pb) (Nat.add o5.t 0) (ok_nm pb) (by lia) c d hl1 hd1 (ci::yi) (o13.v 0) ti hx hxl note (o3.v 0) hn) 1 [1,2,3,4] fun o18 =>
    useQ (k_r_sget (D:=900) [c,95,d] (o13.v 0) 0 (Nat.add o18.t 0) c rfl (by decide)) 16386 [] fun o19 =>
    useQ (k_r_str_add (D:=900) [c] [45] (o19.v 0) (Nat.add o19.t 0) (by simp)) 128 [] fun o20 =>
    useQ (k_r_sget (D:=900) [c,95,d] (o13.v 0) 2 (Nat.add o20.t 0) d rfl (by decide)) 16386 [] fun o21 =>
    useQ (k_r_str_add (D:=900) [c,45] [d] (o20.v 0) (o21.v 0) (by simp)) 128 [] fun o22 =>
    useQ (k_cm1 w b1 b2 b3 G.fr (Nat.add o22.x 3) (Nat.add o22.x 4) (Nat.add o22.x 5) (Nat.add o22.x 2) (Nat.add o22.x 0) (Nat.add o22.x 1) [c,45,d] [110,45,111] (o22.v 0) (Nat.add o22.t 0) ti (o3.v 0) (some (ci::yi)) note (by simp) (by simp) hvi hvn hgi hgn) 5719669220618288692669184173179138 [12,13,14,11,9,10] fun o23 =>
    useQ (k_r_join (D:=900) [59,32] (Nat.add o22.t 2) (A (Nat.add o22.x 4)) [(rowT [c,45,d] (some (ci::yi)),o23.v 0),(rowT [110,45,111] note,o23.v 1)] _ 2 (txD [c,45,d] (ci::yi) note) rfl rfl hsum.1) 563469407733647 [13] fun o24 =>
    useQ (k_r_append (D:=900) (A G.te) (.str ⟨⟨txD [c,45,d] (ci::yi) note⟩⟩ (o24.v 0)) (ts++[.str ⟨⟨ci::yi⟩⟩ ti]) et (by simp only [List.length_append,List.length_cons,List.length_nil]; lia)) 17280 [6] fun o25 =>
    useQ (k_cm2_sx w b1 b2 b3 G.fr (Nat.add o25.x 0) (Nat.add o25.x 1) (Nat.add o25.x 2) (Nat.add o22.x 2) (Nat.add o22.x 0) (Nat.add o22.x 1) [c,45,d] [110,45,111] (o22.v 0) (Nat.add o22.t 0) ti (o3.v 0) ci yi note) 21760775440336014285079554 [15,16,17,11,9,10] fun o26 =>
    useQ (k_r_append (D:=900) (A G.re) (.ref (A (Nat.add o25.x 1))) rs er (by lia)) 76561817010473234 [7] fun o27 =>
    finK 127 (pick [o18.v 0,Nat.add o25.x 1,o26.v 0,o26.v 1,Nat.add o5.t 0,o18.v 1,(o22.v 0),(Nat.add o22.t 0),o3.v 0,o1.v 0,(Nat.add o22.x 2),o13.v 0,o24.v 0,Nat.add o13.t 0,Nat.add o14.t 0]) [8,16,18,19]
theorem sp_turn1 (k n rem:Nat) (pb:Bool) (hk:k≠0) (hpb:(Int.ofNat k % Int.ofNat 2 == 1)=pb) (hob:(Int.ofNat (n / 12000) % Int.ofNat 2 == 1)=false) (nt:Nat) (hns:G.ns[k]? = some (.int (Int.ofNat n) nt)) (hkk:k < 2^20) (c d:Nat) (hc:c=letterOf n) (hd:d=digitOf n)
    (τ:Nat→Nat) (k0 n0 kt0 nt0:Nat) (ow:Value) (ro0:Nat) (x0:Option (List Nat)) (xt:Nat) (nm0:List Nat) (nmt:Nat)
    (hs:List Value) (eh:Nat) (ts:List Value) (et:Nat) (rs:List Value) (er:Nat) (ci:Nat) (yi:List Nat) (ti:Nat) (note:Option (List Nat)) (hnote:noteV n=note) (hn:okN note) (hx:okText (ci::yi)) (hxl:(ci::yi).length≤2^17) (l1:hs.length < 2^19) (l2:ts.length < 2^19) (l3:rs.length < 2^19) :
    Spec (VV ⟨w,b1,b2,b3⟩) 400 (neC G.fr G.it) (nePre w.params G k (rem+1) (neF10 w.params (neNF G τ k0 n0 kt0 nt0 ow ro0) G.tb (ov x0 xt) (.str ⟨⟨nm0⟩⟩ nmt)) hs eh (ts++[.str ⟨⟨ci::yi⟩⟩ ti]) et rs er)
      (fun o=>⟨.go (neC G.fr G.it),(nePre w.params G (k+1) rem (neFr w.params (neNF G (neT τ (o.v 13) (o.v 14)) k n (o.v 9) nt ow (o.v 10)) G.tb (ov note (o.v 8)) (.str ⟨⟨nmOf pb⟩⟩ (o.v 4)) (.str ⟨⟨[c,95,d]⟩⟩ (o.v 11)) (.str ⟨⟨ci::yi⟩⟩ ti)) (hs++[.ref (A (o.v 0))]) (eh+1) (ts++[.str ⟨⟨ci::yi⟩⟩ ti]++[.str ⟨⟨txD [c,45,d] (ci::yi) note⟩⟩ (o.v 12)]) (et+1) (rs++[.ref (A (o.v 1))]) (er+1)).map (·.2),
        neNew o.v (nmOf pb) (txD [c,45,d] (ci::yi) note) [c,45,d] [110,45,111] (ov (some (ci::yi)) ti) (ov (nz note) (o.v 8))⟩):=by
  refine spec_run [0,1,2,3,4,5,6,7] 3000 (pl_sp_turn1 w b1 b2 b3 G k n rem pb hk hpb hob nt hns hkk c d hc hd τ k0 n0 kt0 nt0 ow ro0 x0 xt nm0 nmt hs eh ts et rs er ci yi ti note hnote hn hx hxl l1 l2 l3) rfl fun x t => ?_
  cases note <;> cases x0 <;> cases pb <;> cases b1 <;> kernel_rfl
noncomputable def pl_sp_turnD (w:World) (b1 b2 b3:Bool) (G:NG) (k n rem:Nat) (pb:Bool) (hk:k≠0) (hpb:(Int.ofNat k % Int.ofNat 2 == 1)=pb) (hob:(Int.ofNat (n / 12000) % Int.ofNat 2 == 1)=false) (nt:Nat) (hns:G.ns[k]? = some (.int (Int.ofNat n) nt)) (hkk:k < 2^20) (c d:Nat) (hc:c=letterOf n) (hd:d=digitOf n) (τ:Nat→Nat) (k0 n0 kt0 nt0:Nat) (ow:Value) (ro0:Nat) (x0:Option (List Nat)) (xt:Nat) (nm0:List Nat) (nmt:Nat) (di:List Nat) (dt:Nat) (ii:List Nat) (it0:Nat) (hs:List Value) (eh:Nat) (ts:List Value) (et:Nat) (rs:List Value) (er:Nat) (ci:Nat) (yi:List Nat) (ti:Nat) (note:Option (List Nat)) (hnote:noteV n=note) (hn:okN note) (hx:okText (ci::yi)) (hxl:(ci::yi).length≤2^17) (l1:hs.length < 2^19) (l2:ts.length < 2^19) (l3:rs.length < 2^19):Nat→Nat→PlanOk (VV ⟨w,b1,b2,b3⟩):=by
  have hnl:(note.getD []).length≤2^10:=by
    cases note with
    | none=>simp
    | some v=>exact hn.2
  have hk0:(Int.ofNat k == 0)=false:=by
    have : ¬ ((k:Int)=0):=by lia
    exact beq_eq_false_iff_ne.mpr this
  have hn5:n % 5 < 2^20:=by have:=Nat.mod_lt n (show 0 < 5 by decide); lia
  have hd6:n / 5 % 6≤16:=by have:=Nat.mod_lt (n / 5) (show 0 < 6 by decide); lia
  have hsum:sumL 2 [rowT [c,45,d] (some (ci::yi)),rowT [110,45,111] note]≤2^20∧sumL 2 [rowT [110,45,111] note,rowT [c,45,d] (some (ci::yi))]≤2^20:=by
    have f1:=rowT_len [110,45,111] note
    have f2:=rowT_len [c,45,d] (some (ci::yi))
    simp only [sumL,List.length_cons,List.length_nil,Option.getD_some] at *
    lia
  have hstr : ∀ u,Spec (VV ⟨w,b1,b2,b3⟩) 800 (.call (.type "str") ⟨[.int (Int.ofNat (n / 5 % 6)) u],[]⟩) [] (fun o=>⟨.ok (.ret (.str ⟨⟨[d]⟩⟩ (o.v 0))),[],[]⟩):=fun u=>spec_post (fun o=>by rw [digit_dec n,← hd]) (sp_str w b1 b2 b3 (n / 5 % 6) hd6 u)
  have hlet:=letter_get n
  have hl1:=letter_is n
  have hd1:=digit_is n
  have N:=fun t0=>sp_note w b1 b2 b3 n t0
  rw [← hc] at hlet hl1
  rw [← hd] at hd1
  rw [hnote] at N
  have hvn:=okV_of hn
  have hgn:=lt_of_okN hn
  have hvi:okV (some (ci::yi)):=⟨fun e he=>by have:=hx e he; lia,hxl⟩
  have hgi : ∀ y,(some (ci::yi))=some y → ∀ e ∈ y,e < 128:=fun y e q hq=>by
    cases e
    have:=hx q hq
    lia
  exact fun x t =>
    useQ (k_r_range (D:=900) (A G.it) k rem) 270532736 [0] fun o1 =>
    useQ (k_r_get (D:=900) (A G.nu) G.ns G.en k (o1.v 0) (fun _ => .int (Int.ofNat n) nt) ⟨0,hns⟩ hkk) 9655744197134680322 [5] fun o2 =>
    useK (N nt) 34363932930 [] fun o3 =>
    useQ (k_r_int_mod (D:=900) (Int.ofNat k) 2 (o1.v 0) (Nat.add o3.t 1) (by decide)) 268468482 [] fun o4 =>
    useQ (k_r_int_eqb (D:=900) (Int.ofNat k % Int.ofNat 2) 1 (o4.v 0) (Nat.add o4.t 0) pb hpb) 128 [] fun o5 =>
    useQ (k_r_int_eqb (D:=900) (Int.ofNat k) 0 (o1.v 0) (Nat.add o5.t 2) false hk0) 268468482 [] fun o6 =>
    useQ (k_r_int_mod (D:=900) (Int.ofNat n) 5 nt (Nat.add o6.t 1) (by decide)) 16386 [] fun o7 =>
    useQ (k_r_sget (D:=900) [102,118,108,111,109] (Nat.add o6.t 0) (n % 5) (o7.v 0) c hlet hn5) 128 [] fun o8 =>
    useQ (k_r_str_add (D:=900) [c] [95] (o8.v 0) (Nat.add o8.t 0) (by simp)) 128 [] fun o9 =>
    useQ (k_r_int_fdiv (D:=900) n 5 nt (Nat.add o9.t 0) (by decide) rfl) 268468224 [] fun o10 =>
    useQ (k_r_int_mod (D:=900) (Int.ofNat (n / 5)) 6 (o10.v 0) (Nat.add o10.t 0) (by decide)) 128 [] fun o11 =>
    useK (hstr (o11.v 0)) 1 [] fun o12 =>
    useQ (k_r_str_add (D:=900) [c,95] [d] (o9.v 0) (o12.v 0) (by simp)) 128 [] fun o13 =>
    useQ (k_r_getlast (D:=900) (A G.te) ts (.str ⟨⟨ci::yi⟩⟩ ti) et (Nat.add o13.t 2) (by lia)) 1245159196651912462594 [6] fun o14 =>
    useQ (k_r_int_fdiv (D:=900) n 12000 nt (Nat.add o14.t 1) (by decide) rfl) 268468482 [] fun o15 =>
    useQ (k_r_int_mod (D:=900) (Int.ofNat (n / 12000)) 2 (o15.v 0) (Nat.add o15.t 0) (by decide)) 128 [] fun o16 =>
    useQ (k_r_int_eqb (D:=900) (Int.ofNat (n / 12000) % Int.ofNat 2) 1 (o16.v 0) (Nat.add o16.t 0) false hob) 128 [] fun o17 =>
    useB (sp_xD w b1 b2 b3 G.tb G.td G.hl G.th G.fr (neNF G (neT τ (τ 10) (τ 11)) k n (o1.v 0) nt ow ro0) hs eh (nmOf pb) (Nat.add o5.t 0) (ok_nm pb) (by lia) c d hl1 hd1 (ci::yi) (o13.v 0) ti hx hxl note (o3.v 0) hn) 1 [1,2,3,4] fun o18 =>
    useQ (k_r_sget (D:=900) [c,95,d] (o13.v 0) 0 (Nat.add o18.t 0) c rfl (by decide)) 16386 [] fun o19 =>
    useQ (k_r_str_add (D:=900) [c] [45] (o19.v 0) (Nat.add o19.t 0) (by simp)) 128 [] fun o20 =>
    useQ (k_r_sget (D:=900) [c,95,d] (o13.v 0) 2 (Nat.add o20.t 0) d rfl (by decide)) 16386 [] fun o21 =>
    useQ (k_r_str_add (D:=900) [c,45] [d] (o20.v 0) (o21.v 0) (by simp)) 128 [] fun o22 =>
    useQ (k_cm1 w b1 b2 b3 G.fr (Nat.add o22.x 3) (Nat.add o22.x 4) (Nat.add o22.x 5) (Nat.add o22.x 2) (Nat.add o22.x 0) (Nat.add o22.x 1) [c,45,d] [110,45,111] (o22.v 0) (Nat.add o22.t 0) ti (o3.v 0) (some (ci::yi)) note (by simp) (by simp) hvi hvn hgi hgn) 5719669220618288692669184173179138 [12,13,14,11,9,10] fun o23 =>
    useQ (k_r_join (D:=900) [59,32] (Nat.add o22.t 2) (A (Nat.add o22.x 4)) [(rowT [c,45,d] (some (ci::yi)),o23.v 0),(rowT [110,45,111] note,o23.v 1)] _ 2 (txD [c,45,d] (ci::yi) note) rfl rfl hsum.1) 563469407733647 [13] fun o24 =>
    useQ (k_r_append (D:=900) (A G.te) (.str ⟨⟨txD [c,45,d] (ci::yi) note⟩⟩ (o24.v 0)) (ts++[.str ⟨⟨ci::yi⟩⟩ ti]) et (by simp only [List.length_append,List.length_cons,List.length_nil]; lia)) 17280 [6] fun o25 =>
    useQ (k_cm2_sx w b1 b2 b3 G.fr (Nat.add o25.x 0) (Nat.add o25.x 1) (Nat.add o25.x 2) (Nat.add o22.x 2) (Nat.add o22.x 0) (Nat.add o22.x 1) [c,45,d] [110,45,111] (o22.v 0) (Nat.add o22.t 0) ti (o3.v 0) ci yi note) 21760775440336014285079554 [15,16,17,11,9,10] fun o26 =>
    useQ (k_r_append (D:=900) (A G.re) (.ref (A (Nat.add o25.x 1))) rs er (by lia)) 76561817010473234 [7] fun o27 =>
    finK 127 (pick [o18.v 0,Nat.add o25.x 1,o26.v 0,o26.v 1,Nat.add o5.t 0,o18.v 1,(o22.v 0),(Nat.add o22.t 0),o3.v 0,o1.v 0,(Nat.add o22.x 2),o13.v 0,o24.v 0,τ 10,τ 11]) [8,16,18,19]
theorem sp_turnD (k n rem:Nat) (pb:Bool) (hk:k≠0) (hpb:(Int.ofNat k % Int.ofNat 2 == 1)=pb) (hob:(Int.ofNat (n / 12000) % Int.ofNat 2 == 1)=false) (nt:Nat) (hns:G.ns[k]? = some (.int (Int.ofNat n) nt)) (hkk:k < 2^20) (c d:Nat) (hc:c=letterOf n) (hd:d=digitOf n)
    (τ:Nat→Nat) (k0 n0 kt0 nt0:Nat) (ow:Value) (ro0:Nat) (x0:Option (List Nat)) (xt:Nat) (nm0:List Nat) (nmt:Nat) (di:List Nat) (dt:Nat) (ii:List Nat) (it0:Nat)
    (hs:List Value) (eh:Nat) (ts:List Value) (et:Nat) (rs:List Value) (er:Nat) (ci:Nat) (yi:List Nat) (ti:Nat) (note:Option (List Nat)) (hnote:noteV n=note) (hn:okN note) (hx:okText (ci::yi)) (hxl:(ci::yi).length≤2^17) (l1:hs.length < 2^19) (l2:ts.length < 2^19) (l3:rs.length < 2^19) :
    Spec (VV ⟨w,b1,b2,b3⟩) 400 (neC G.fr G.it) (nePre w.params G k (rem+1) (neFr w.params (neNF G τ k0 n0 kt0 nt0 ow ro0) G.tb (ov x0 xt) (.str ⟨⟨nm0⟩⟩ nmt) (.str ⟨⟨di⟩⟩ dt) (.str ⟨⟨ii⟩⟩ it0)) hs eh (ts++[.str ⟨⟨ci::yi⟩⟩ ti]) et rs er)
      (fun o=>⟨.go (neC G.fr G.it),(nePre w.params G (k+1) rem (neFr w.params (neNF G (neT τ (o.v 13) (o.v 14)) k n (o.v 9) nt ow (o.v 10)) G.tb (ov note (o.v 8)) (.str ⟨⟨nmOf pb⟩⟩ (o.v 4)) (.str ⟨⟨[c,95,d]⟩⟩ (o.v 11)) (.str ⟨⟨ci::yi⟩⟩ ti)) (hs++[.ref (A (o.v 0))]) (eh+1) (ts++[.str ⟨⟨ci::yi⟩⟩ ti]++[.str ⟨⟨txD [c,45,d] (ci::yi) note⟩⟩ (o.v 12)]) (et+1) (rs++[.ref (A (o.v 1))]) (er+1)).map (·.2),
        neNew o.v (nmOf pb) (txD [c,45,d] (ci::yi) note) [c,45,d] [110,45,111] (ov (some (ci::yi)) ti) (ov (nz note) (o.v 8))⟩):=by
  refine spec_run [0,1,2,3,4,5,6,7] 3000 (pl_sp_turnD w b1 b2 b3 G k n rem pb hk hpb hob nt hns hkk c d hc hd τ k0 n0 kt0 nt0 ow ro0 x0 xt nm0 nmt di dt ii it0 hs eh ts et rs er ci yi ti note hnote hn hx hxl l1 l2 l3) rfl fun x t => ?_
  cases note <;> cases x0 <;> cases pb <;> cases b1 <;> kernel_rfl
noncomputable def pl_sp_turnR (w:World) (b1 b2 b3:Bool) (G:NG) (k n rem:Nat) (pb:Bool) (hk:k≠0) (hpb:(Int.ofNat k % Int.ofNat 2 == 1)=pb) (hob:(Int.ofNat (n / 12000) % Int.ofNat 2 == 1)=true) (nt:Nat) (hns:G.ns[k]? = some (.int (Int.ofNat n) nt)) (hkk:k < 2^20) (c d:Nat) (hc:c=letterOf n) (hd:d=digitOf n) (τ:Nat→Nat) (k0 n0 kt0 nt0:Nat) (ow:Value) (ro0:Nat) (x0:Option (List Nat)) (xt:Nat) (nm0:List Nat) (nmt:Nat) (di:List Nat) (dt:Nat) (ii:List Nat) (it0:Nat) (hs:List Value) (eh:Nat) (ts:List Value) (et:Nat) (rs:List Value) (er:Nat) (ci:Nat) (yi:List Nat) (ti:Nat) (note:Option (List Nat)) (hnote:noteV n=note) (hn:okN note) (hx:okText (ci::yi)) (hxl:(ci::yi).length≤2^17) (l1:hs.length < 2^19) (l2:ts.length < 2^19) (l3:rs.length < 2^19):Nat→Nat→PlanOk (VV ⟨w,b1,b2,b3⟩):=by
  have hnl:(note.getD []).length≤2^10:=by
    cases note with
    | none=>simp
    | some v=>exact hn.2
  have hk0:(Int.ofNat k == 0)=false:=by
    have : ¬ ((k:Int)=0):=by lia
    exact beq_eq_false_iff_ne.mpr this
  have hn5:n % 5 < 2^20:=by have:=Nat.mod_lt n (show 0 < 5 by decide); lia
  have hd6:n / 5 % 6≤16:=by have:=Nat.mod_lt (n / 5) (show 0 < 6 by decide); lia
  have hsum:sumL 2 [rowT [c,45,d] (some (ci::yi)),rowT [110,45,111] note]≤2^20∧sumL 2 [rowT [110,45,111] note,rowT [c,45,d] (some (ci::yi))]≤2^20:=by
    have f1:=rowT_len [110,45,111] note
    have f2:=rowT_len [c,45,d] (some (ci::yi))
    simp only [sumL,List.length_cons,List.length_nil,Option.getD_some] at *
    lia
  have hstr : ∀ u,Spec (VV ⟨w,b1,b2,b3⟩) 800 (.call (.type "str") ⟨[.int (Int.ofNat (n / 5 % 6)) u],[]⟩) [] (fun o=>⟨.ok (.ret (.str ⟨⟨[d]⟩⟩ (o.v 0))),[],[]⟩):=fun u=>spec_post (fun o=>by rw [digit_dec n,← hd]) (sp_str w b1 b2 b3 (n / 5 % 6) hd6 u)
  have hlet:=letter_get n
  have hl1:=letter_is n
  have hd1:=digit_is n
  have N:=fun t0=>sp_note w b1 b2 b3 n t0
  rw [← hc] at hlet hl1
  rw [← hd] at hd1
  rw [hnote] at N
  have hvn:=okV_of hn
  have hgn:=lt_of_okN hn
  have hvi:okV (some (ci::yi)):=⟨fun e he=>by have:=hx e he; lia,hxl⟩
  have hgi : ∀ y,(some (ci::yi))=some y → ∀ e ∈ y,e < 128:=fun y e q hq=>by
    cases e
    have:=hx q hq
    lia
  exact fun x t =>
    useQ (k_r_range (D:=900) (A G.it) k rem) 270532736 [0] fun o1 =>
    useQ (k_r_get (D:=900) (A G.nu) G.ns G.en k (o1.v 0) (fun _ => .int (Int.ofNat n) nt) ⟨0,hns⟩ hkk) 9655744197134680322 [5] fun o2 =>
    useK (N nt) 34363932930 [] fun o3 =>
    useQ (k_r_int_mod (D:=900) (Int.ofNat k) 2 (o1.v 0) (Nat.add o3.t 1) (by decide)) 268468482 [] fun o4 =>
    useQ (k_r_int_eqb (D:=900) (Int.ofNat k % Int.ofNat 2) 1 (o4.v 0) (Nat.add o4.t 0) pb hpb) 128 [] fun o5 =>
    useQ (k_r_int_eqb (D:=900) (Int.ofNat k) 0 (o1.v 0) (Nat.add o5.t 2) false hk0) 268468482 [] fun o6 =>
    useQ (k_r_int_mod (D:=900) (Int.ofNat n) 5 nt (Nat.add o6.t 1) (by decide)) 16386 [] fun o7 =>
    useQ (k_r_sget (D:=900) [102,118,108,111,109] (Nat.add o6.t 0) (n % 5) (o7.v 0) c hlet hn5) 128 [] fun o8 =>
    useQ (k_r_str_add (D:=900) [c] [95] (o8.v 0) (Nat.add o8.t 0) (by simp)) 128 [] fun o9 =>
    useQ (k_r_int_fdiv (D:=900) n 5 nt (Nat.add o9.t 0) (by decide) rfl) 268468224 [] fun o10 =>
    useQ (k_r_int_mod (D:=900) (Int.ofNat (n / 5)) 6 (o10.v 0) (Nat.add o10.t 0) (by decide)) 128 [] fun o11 =>
    useK (hstr (o11.v 0)) 1 [] fun o12 =>
    useQ (k_r_str_add (D:=900) [c,95] [d] (o9.v 0) (o12.v 0) (by simp)) 128 [] fun o13 =>
    useQ (k_r_getlast (D:=900) (A G.te) ts (.str ⟨⟨ci::yi⟩⟩ ti) et (Nat.add o13.t 2) (by lia)) 1245159196651912462594 [6] fun o14 =>
    useQ (k_r_int_fdiv (D:=900) n 12000 nt (Nat.add o14.t 1) (by decide) rfl) 268468482 [] fun o15 =>
    useQ (k_r_int_mod (D:=900) (Int.ofNat (n / 12000)) 2 (o15.v 0) (Nat.add o15.t 0) (by decide)) 128 [] fun o16 =>
    useQ (k_r_int_eqb (D:=900) (Int.ofNat (n / 12000) % Int.ofNat 2) 1 (o16.v 0) (Nat.add o16.t 0) true hob) 128 [] fun o17 =>
    useB (sp_xR w b1 b2 b3 G.tb G.td G.hl G.th G.fr (neNF G (neT τ (τ 10) (τ 11)) k n (o1.v 0) nt ow ro0) hs eh (nmOf pb) (Nat.add o5.t 0) (ok_nm pb) (by lia) c d hl1 hd1 (ci::yi) (o13.v 0) ti hx hxl note (o3.v 0) hn) 1 [1,2,3,4] fun o18 =>
    useQ (k_r_sget (D:=900) [c,95,d] (o13.v 0) 0 (Nat.add o18.t 1) c rfl (by decide)) 2097410 [] fun o19 =>
    useQ (k_r_str_add (D:=900) [c] [45] (o19.v 0) (Nat.add o19.t 0) (by simp)) 128 [] fun o20 =>
    useQ (k_r_sget (D:=900) [c,95,d] (o13.v 0) 2 (Nat.add o20.t 0) d rfl (by decide)) 16386 [] fun o21 =>
    useQ (k_r_str_add (D:=900) [c,45] [d] (o20.v 0) (o21.v 0) (by simp)) 128 [] fun o22 =>
    useQ (k_cm1 w b1 b2 b3 G.fr (Nat.add o22.x 2) (Nat.add o22.x 3) (Nat.add o22.x 4) (Nat.add o22.x 1) (Nat.add o18.x 0) (Nat.add o22.x 0) [110,45,111] [c,45,d] (Nat.add o18.t 0) (o22.v 0) (o3.v 0) ti note (some (ci::yi)) (by simp) (by simp) hvn hvi hgn hgi) 44684915786080380411478001352962 [12,13,14,11,9,10] fun o23 =>
    useQ (k_r_join (D:=900) [59,32] (Nat.add o22.t 1) (A (Nat.add o22.x 3)) [(rowT [110,45,111] note,o23.v 0),(rowT [c,45,d] (some (ci::yi)),o23.v 1)] _ 2 (txR [c,45,d] (ci::yi) note) rfl rfl hsum.2) 563469407733647 [13] fun o24 =>
    useQ (k_r_append (D:=900) (A G.te) (.str ⟨⟨txR [c,45,d] (ci::yi) note⟩⟩ (o24.v 0)) (ts++[.str ⟨⟨ci::yi⟩⟩ ti]) et (by simp only [List.length_append,List.length_cons,List.length_nil]; lia)) 17280 [6] fun o25 =>
    useQ (k_cm2_xs w b1 b2 b3 G.fr (Nat.add o25.x 0) (Nat.add o25.x 1) (Nat.add o25.x 2) (Nat.add o22.x 1) (Nat.add o18.x 0) (Nat.add o22.x 0) [110,45,111] [c,45,d] (Nat.add o18.t 0) (o22.v 0) (o3.v 0) ti note ci yi) 21760775440336014285079554 [15,16,17,11,9,10] fun o26 =>
    useQ (k_r_append (D:=900) (A G.re) (.ref (A (Nat.add o25.x 1))) rs er (by lia)) 76561817010473234 [7] fun o27 =>
    finK 127 (pick [o18.v 0,Nat.add o25.x 1,o26.v 0,o26.v 1,Nat.add o5.t 0,o18.v 1,(Nat.add o18.t 0),(o22.v 0),o3.v 0,o1.v 0,(Nat.add o22.x 1),o13.v 0,o24.v 0,τ 10,τ 11]) [8,16,18,19]
theorem sp_turnR (k n rem:Nat) (pb:Bool) (hk:k≠0) (hpb:(Int.ofNat k % Int.ofNat 2 == 1)=pb) (hob:(Int.ofNat (n / 12000) % Int.ofNat 2 == 1)=true) (nt:Nat) (hns:G.ns[k]? = some (.int (Int.ofNat n) nt)) (hkk:k < 2^20) (c d:Nat) (hc:c=letterOf n) (hd:d=digitOf n)
    (τ:Nat→Nat) (k0 n0 kt0 nt0:Nat) (ow:Value) (ro0:Nat) (x0:Option (List Nat)) (xt:Nat) (nm0:List Nat) (nmt:Nat) (di:List Nat) (dt:Nat) (ii:List Nat) (it0:Nat)
    (hs:List Value) (eh:Nat) (ts:List Value) (et:Nat) (rs:List Value) (er:Nat) (ci:Nat) (yi:List Nat) (ti:Nat) (note:Option (List Nat)) (hnote:noteV n=note) (hn:okN note) (hx:okText (ci::yi)) (hxl:(ci::yi).length≤2^17) (l1:hs.length < 2^19) (l2:ts.length < 2^19) (l3:rs.length < 2^19) :
    Spec (VV ⟨w,b1,b2,b3⟩) 400 (neC G.fr G.it) (nePre w.params G k (rem+1) (neFr w.params (neNF G τ k0 n0 kt0 nt0 ow ro0) G.tb (ov x0 xt) (.str ⟨⟨nm0⟩⟩ nmt) (.str ⟨⟨di⟩⟩ dt) (.str ⟨⟨ii⟩⟩ it0)) hs eh (ts++[.str ⟨⟨ci::yi⟩⟩ ti]) et rs er)
      (fun o=>⟨.go (neC G.fr G.it),(nePre w.params G (k+1) rem (neFr w.params (neNF G (neT τ (o.v 13) (o.v 14)) k n (o.v 9) nt ow (o.v 10)) G.tb (ov note (o.v 8)) (.str ⟨⟨nmOf pb⟩⟩ (o.v 4)) (.str ⟨⟨[c,95,d]⟩⟩ (o.v 11)) (.str ⟨⟨ci::yi⟩⟩ ti)) (hs++[.ref (A (o.v 0))]) (eh+1) (ts++[.str ⟨⟨ci::yi⟩⟩ ti]++[.str ⟨⟨txR [c,45,d] (ci::yi) note⟩⟩ (o.v 12)]) (et+1) (rs++[.ref (A (o.v 1))]) (er+1)).map (·.2),
        neNew o.v (nmOf pb) (txR [c,45,d] (ci::yi) note) [110,45,111] [c,45,d] (ov (nz note) (o.v 8)) (ov (some (ci::yi)) ti)⟩):=by
  refine spec_run [0,1,2,3,4,5,6,7] 3000 (pl_sp_turnR w b1 b2 b3 G k n rem pb hk hpb hob nt hns hkk c d hc hd τ k0 n0 kt0 nt0 ow ro0 x0 xt nm0 nmt di dt ii it0 hs eh ts et rs er ci yi ti note hnote hn hx hxl l1 l2 l3) rfl fun x t => ?_
  cases note <;> cases x0 <;> cases pb <;> cases b1 <;> kernel_rfl
end
noncomputable def ownOf (n:Nat):List Nat:=joinL [44] [dec (n % 17),dec (n / 17 % 17),dec (n / 289 % 17)]
theorem dec_ok (m:Nat) (h:m≤16):(∀ c ∈ dec m,48≤c∧c≤57)∧(dec m).length≤2:=by
  unfold dec
  split
  · exact ⟨fun c hc=>by simp only [List.mem_cons,List.not_mem_nil,or_false] at hc; lia,by simp⟩
  · exact ⟨fun c hc=>by simp only [List.mem_cons,List.not_mem_nil,or_false] at hc; lia,by simp⟩
theorem own_ok (n:Nat):(∀ c ∈ ownOf n,(48≤c∧c≤57)∨c=44)∧(ownOf n).length≤8:=by
  have h1:=dec_ok (n % 17) (by have:=Nat.mod_lt n (show 0 < 17 by decide); lia)
  have h2:=dec_ok (n / 17 % 17) (by have:=Nat.mod_lt (n / 17) (show 0 < 17 by decide); lia)
  have h3:=dec_ok (n / 289 % 17) (by have:=Nat.mod_lt (n / 289) (show 0 < 17 by decide); lia)
  unfold ownOf
  simp only [joinL]
  refine ⟨fun c hc => ?_,by simp only [List.length_append,List.length_cons,List.length_nil]; lia⟩
  simp only [List.mem_append,List.mem_cons,List.not_mem_nil,or_false] at hc
  rcases hc with (hc | hc) | (hc | hc) | hc
  · exact .inl (h1.1 c hc)
  · exact .inr hc
  · exact .inl (h2.1 c hc)
  · exact .inr hc
  · exact .inl (h3.1 c hc)
noncomputable def neF4 (P:Params) (τ:Nat→Nat) (G:NG):Obj:=frO [dEnt P [116,97,98,108,101] (τ 0) (.ref (A G.tb)),dEnt P [110,117,109,98,101,114,115] (τ 1) (.ref (A G.nu)),dEnt P [116,101,120,116,115] (τ 2) (.ref (A G.te)),dEnt P [114,101,97,100] (τ 3) (.ref (A G.re))] 4
section
variable (w:World) (b1 b2 b3:Bool) (fr it ac cl ro u1 u2:Nat) (k1 k2:List Nat) (tk1 tk2 tv1 tv2:Nat)
theorem cm2_nx (v2:Option (List Nat)):Spec (VV ⟨w,b1,b2,b3⟩) 450 (cmC ne2E fr it ac cl) (cmPre it ac cl ro u1 u2 k1 k2 tk1 tk2 (ov none tv1) (ov v2 tv2))
    (fun o=>⟨.ok .next,cmMod u1 u2 k1 k2 tk1 tk2 w.params (ov none tv1) (ov v2 tv2) [.ref (A (o.v 0)),.ref (A (o.v 1))] o (o.v 2) (o.v 3),[(A (o.v 0),tup [.str ⟨⟨k1⟩⟩ tk1,ov (nz none) tv1]),(A (o.v 1),tup [.str ⟨⟨k2⟩⟩ tk2,ov (nz v2) tv2])]⟩):=match v2 with
  | none=>cm2_nn w b1 b2 b3 fr it ac cl ro u1 u2 k1 k2 tk1 tk2 tv1 tv2
  | some []=>cm2_ne w b1 b2 b3 fr it ac cl ro u1 u2 k1 k2 tk1 tk2 tv1 tv2
  | some (c2::y2)=>cm2_ns w b1 b2 b3 fr it ac cl ro u1 u2 k1 k2 tk1 tk2 tv1 tv2 c2 y2
noncomputable def k_cm2_nx:=fun a1 a2 a3 a4 a5 a6 a7 a8 a9 a10 a11 a12 a13 a14 a15 a16 a17 a18=>kOf (cm2_nx a1 a2 a3 a4 a5 a6 a7 a8 a9 a10 a11 a12 a13 a14 a15 a16 a17 a18)
end
section
variable (w:World) (b1 b2 b3:Bool) (G:NG)
noncomputable def pl_sp_turn0 (w:World) (b1 b2 b3:Bool) (G:NG) (n rem:Nat) (nt:Nat) (hns:G.ns[0]? = some (.int (Int.ofNat n) nt)) (own:List Nat) (hown:own=ownOf n) (τ:Nat→Nat) (hs:List Value) (eh:Nat) (ts:List Value) (et:Nat) (rs:List Value) (er:Nat) (note:Option (List Nat)) (hnote:noteV n=note) (hn:okN note) (l1:hs.length < 2^19) (l2:ts.length < 2^19) (l3:rs.length < 2^19):Nat→Nat→PlanOk (VV ⟨w,b1,b2,b3⟩):=by
  have ho:=own_ok n
  rw [← hown] at ho
  have hxo:okText own:=fun c hc=>by have:=ho.1 c hc; lia
  have d1:n % 17≤16:=by have:=Nat.mod_lt n (show 0 < 17 by decide); lia
  have d2:n / 17 % 17≤16:=by have:=Nat.mod_lt (n / 17) (show 0 < 17 by decide); lia
  have d3:n / 289 % 17≤16:=by have:=Nat.mod_lt (n / 289) (show 0 < 17 by decide); lia
  have e1:=(dec_ok _ d1).2
  have e2:=(dec_ok _ d2).2
  have e3:=(dec_ok _ d3).2
  have hs1:sumL 1 [dec (n % 17),dec (n / 17 % 17),dec (n / 289 % 17)]≤2^20:=by simp only [sumL]; lia
  have hnl:(note.getD []).length≤2^10:=by
    cases note with
    | none=>simp
    | some v=>exact hn.2
  have hs2:sumL 2 [own,rowT [110,45,111] note]≤2^20:=by
    have f1:=rowT_len [110,45,111] note
    simp only [sumL,List.length_cons,List.length_nil] at *
    lia
  have e0:rowT own none=own:=by simp [rowT,nz,tl]
  have N:=fun t0=>sp_note w b1 b2 b3 n t0
  rw [hnote] at N
  have hvn:=okV_of hn
  have hgn:=lt_of_okN hn
  have hq1:(Int.ofNat 0 % Int.ofNat 2 == 1)=false:=by decide
  have c1:=fun it ac cl ro u1 u2 tk1 tk2 tv1 tv2=>cm1 w b1 b2 b3 G.fr it ac cl ro u1 u2 own [110,45,111] tk1 tk2 tv1 tv2 none note (by lia) (by simp) trivial hvn (fun y e=>nomatch e) hgn
  rw [e0] at c1
  exact fun x t =>
    useQ (k_r_range (D:=900) (A G.it) 0 rem) 270532736 [0] fun o1 =>
    useQ (k_r_get (D:=900) (A G.nu) G.ns G.en 0 (o1.v 0) (fun _ => .int (Int.ofNat n) nt) ⟨0,hns⟩ (by decide)) 9655744197134680322 [5] fun o2 =>
    useK (N nt) 34363932930 [] fun o3 =>
    useQ (k_r_int_mod (D:=900) (Int.ofNat 0) 2 (o1.v 0) (Nat.add o3.t 1) (by decide)) 268468482 [] fun o4 =>
    useQ (k_r_int_eqb (D:=900) (Int.ofNat 0 % Int.ofNat 2) 1 (o4.v 0) (Nat.add o4.t 0) false hq1) 128 [] fun o5 =>
    useQ (k_r_int_eqb (D:=900) (Int.ofNat 0) 0 (o1.v 0) (Nat.add o5.t 2) true (by decide)) 268468482 [] fun o6 =>
    useQ (k_r_int_mod (D:=900) (Int.ofNat n) 17 nt (Nat.add o6.t 1) (by decide)) 268468224 [] fun o7 =>
    useQ (k_sp_str w b1 b2 b3 (n % 17) d1 (o7.v 0)) 1 [] fun o8 =>
    useQ (k_r_int_fdiv (D:=900) n 17 nt (Nat.add o8.t 0) (by decide) rfl) 268468224 [] fun o9 =>
    useQ (k_r_int_mod (D:=900) (Int.ofNat (n / 17)) 17 (o9.v 0) (Nat.add o9.t 0) (by decide)) 128 [] fun o10 =>
    useQ (k_sp_str w b1 b2 b3 (n / 17 % 17) d2 (o10.v 0)) 1 [] fun o11 =>
    useQ (k_r_int_fdiv (D:=900) n 289 nt (Nat.add o11.t 0) (by decide) rfl) 268468224 [] fun o12 =>
    useQ (k_r_int_mod (D:=900) (Int.ofNat (n / 289)) 17 (o12.v 0) (Nat.add o12.t 0) (by decide)) 128 [] fun o13 =>
    useQ (k_sp_str w b1 b2 b3 (n / 289 % 17) d3 (o13.v 0)) 1 [] fun o14 =>
    useQ (k_r_join (D:=900) [44] (Nat.add o6.t 0) (A o14.x) [(dec (n % 17),o8.v 0),(dec (n / 17 % 17),o11.v 0),(dec (n / 289 % 17),o14.v 0)] _ 0 own rfl hown hs1) 128 [8] fun o15 =>
    useQ (k_sp_adA w b1 b2 b3 G.tb G.td G.hl G.th (Nat.add o15.x 1) (Nat.add o15.x 0) (pick [Nat.add o15.t 2,Nat.add o15.t 3,Nat.add o15.t 4,Nat.add o15.t 5]) hs eh (nmOf false) (Nat.add o5.t 0) (ok_nm false) (by lia) own (o15.v 0) hxo (by lia) note (Nat.add o15.t 1) (o3.v 0) hn) 56577364572342476160053081837317324306662792025514550419384809376524042498 [2,3,4,10,9] fun o16 =>
    useK (c1 (Nat.add o16.x 3) (Nat.add o16.x 4) (Nat.add o16.x 5) (Nat.add o16.x 2) (Nat.add o16.x 0) (Nat.add o16.x 1) (o15.v 0) (Nat.add o16.t 0) 0 (o3.v 0)) 5841371106337323384712155250065666 [15,16,17,14,12,13] fun o17 =>
    useQ (k_r_join (D:=900) [59,32] (Nat.add o16.t 2) (A (Nat.add o16.x 4)) [(own,o17.v 0),(rowT [110,45,111] note,o17.v 1)] _ 2 (txA own note) rfl rfl hs2) 563573298596114 [16] fun o18 =>
    useQ (k_r_append (D:=900) (A G.te) (.str ⟨⟨txA own note⟩⟩ (o18.v 0)) ts et (by lia)) 17280 [6] fun o19 =>
    useQ (k_cm2_nx w b1 b2 b3 G.fr (Nat.add o19.x 0) (Nat.add o19.x 1) (Nat.add o19.x 2) (Nat.add o16.x 2) (Nat.add o16.x 0) (Nat.add o16.x 1) own [110,45,111] (o15.v 0) (Nat.add o16.t 0) 0 (o3.v 0) note) 22214150294509654789719042 [18,19,20,14,12,13] fun o20 =>
    useQ (k_r_append (D:=900) (A G.re) (.ref (A (Nat.add o19.x 1))) rs er (by lia)) 76561920901335701 [7] fun o21 =>
    finK 127 (pick [o16.v 0,Nat.add o19.x 1,o20.v 0,o20.v 1,Nat.add o5.t 0,o16.v 1,o15.v 0,Nat.add o16.t 0,o3.v 0,o1.v 0,Nat.add o16.x 2,0,o18.v 0,Nat.add o1.t 0,Nat.add o2.t 0,Nat.add o3.t 0,Nat.add o5.t 1,Nat.add o15.t 0,Nat.add o16.t 1]) [11,19,21,22]
theorem sp_turn0 (n rem:Nat) (nt:Nat) (hns:G.ns[0]? = some (.int (Int.ofNat n) nt)) (own:List Nat) (hown:own=ownOf n) (τ:Nat→Nat)
    (hs:List Value) (eh:Nat) (ts:List Value) (et:Nat) (rs:List Value) (er:Nat) (note:Option (List Nat)) (hnote:noteV n=note) (hn:okN note) (l1:hs.length < 2^19) (l2:ts.length < 2^19) (l3:rs.length < 2^19) :
    Spec (VV ⟨w,b1,b2,b3⟩) 400 (neC G.fr G.it) (nePre w.params G 0 (rem+1) (neF4 w.params τ G) hs eh ts et rs er)
      (fun o=>⟨.go (neC G.fr G.it),(nePre w.params G 1 rem (neF10 w.params (neNF G (pick [τ 0,τ 1,τ 2,τ 3,o.v 13,o.v 14,o.v 15,o.v 16,o.v 17,o.v 18]) 0 n (o.v 9) nt (.str ⟨⟨own⟩⟩ (o.v 6)) (o.v 10)) G.tb (ov note (o.v 8)) (.str ⟨⟨nmOf false⟩⟩ (o.v 4))) (hs++[.ref (A (o.v 0))]) (eh+1) (ts++[.str ⟨⟨txA own note⟩⟩ (o.v 12)]) (et+1) (rs++[.ref (A (o.v 1))]) (er+1)).map (·.2),
        neNew o.v (nmOf false) (txA own note) own [110,45,111] .none (ov (nz note) (o.v 8))⟩):=by
  refine spec_run [0,1,2,3,4,5,6,7] 3000 (pl_sp_turn0 w b1 b2 b3 G n rem nt hns own hown τ hs eh ts et rs er note hnote hn l1 l2 l3) rfl fun x t => ?_
  cases note <;> cases b1 <;> kernel_rfl
theorem sp_turn0T (n rem:Nat) (nt:Nat) (hns:G.ns[0]? = some (.int (Int.ofNat n) nt)) (own:List Nat) (hown:own=ownOf n) (τ:Nat→Nat)
    (hs:List Value) (eh:Nat) (ts:List Value) (et:Nat) (rs:List Value) (er:Nat) (note:Option (List Nat)) (hnote:noteV n=note) (hn:okN note) (l1:hs.length < 2^19) (l2:ts.length < 2^19) (l3:rs.length < 2^19) (tx:List Nat) (htx:tx=txA own note)
    :
    Spec (VV ⟨w,b1,b2,b3⟩) 400 (neC G.fr G.it) (nePre w.params G 0 (rem+1) (neF4 w.params τ G) hs eh ts et rs er)
      (fun o=>⟨.go (neC G.fr G.it),(nePre w.params G 1 rem (neF10 w.params (neNF G (pick [τ 0,τ 1,τ 2,τ 3,o.v 13,o.v 14,o.v 15,o.v 16,o.v 17,o.v 18]) 0 n (o.v 9) nt (.str ⟨⟨own⟩⟩ (o.v 6)) (o.v 10)) G.tb (ov note (o.v 8)) (.str ⟨⟨nmOf false⟩⟩ (o.v 4))) (hs++[.ref (A (o.v 0))]) (eh+1) (ts++[.str ⟨⟨tx⟩⟩ (o.v 12)]) (et+1) (rs++[.ref (A (o.v 1))]) (er+1)).map (·.2),
        neNew o.v (nmOf false) (tx) own [110,45,111] .none (ov (nz note) (o.v 8))⟩):=by
  subst htx
  exact sp_turn0 w b1 b2 b3 G n rem nt hns own hown τ hs eh ts et rs er note hnote hn l1 l2 l3
noncomputable def k_sp_turn0T:=fun a1 a2 a3 a4 a5 a6 a7 a8 a9 a10 a11 a12 a13 a14 a15 a16 a17 a18 a19 a20 a21 a22 a23 a24 a25 a26=>kOf (sp_turn0T a1 a2 a3 a4 a5 a6 a7 a8 a9 a10 a11 a12 a13 a14 a15 a16 a17 a18 a19 a20 a21 a22 a23 a24 a25 a26)
end
noncomputable def nK2:List Nat:=[110,45,111]
noncomputable def txX (ob:Bool) (K inner:List Nat) (note:Option (List Nat)):List Nat:=cond ob (txR K inner note) (txD K inner note)
noncomputable def dkey (n:Nat):List Nat:=[letterOf n,45,digitOf n]
noncomputable def newX (v:Nat→Nat) (b:Nat) (nm txt:List Nat) (ob:Bool) (K inner:List Nat) (ti:Nat) (note:Option (List Nat)):List En :=
  [(A (v b),tup [.str ⟨⟨nm⟩⟩ (v (Nat.add b 4)),.str ⟨⟨txt⟩⟩ (v (Nat.add b 5))]),(A (v (Nat.add b 1)),lstO [.ref (A (v (Nat.add b 2))),.ref (A (v (Nat.add b 3)))] 2),
   (A (v (Nat.add b 2)),tup [.str ⟨⟨cond ob nK2 K⟩⟩ (v (Nat.add b 6)),cond ob (ov (nz note) (v (Nat.add b 8))) (.str ⟨⟨inner⟩⟩ ti)]),(A (v (Nat.add b 3)),tup [.str ⟨⟨cond ob K nK2⟩⟩ (v (Nat.add b 7)),cond ob (.str ⟨⟨inner⟩⟩ ti) (ov (nz note) (v (Nat.add b 8)))])]
noncomputable def newA (v:Nat→Nat) (b:Nat) (nm txt:List Nat) (own:List Nat) (note:Option (List Nat)):List En :=
  [(A (v b),tup [.str ⟨⟨nm⟩⟩ (v (Nat.add b 4)),.str ⟨⟨txt⟩⟩ (v (Nat.add b 5))]),(A (v (Nat.add b 1)),lstO [.ref (A (v (Nat.add b 2))),.ref (A (v (Nat.add b 3)))] 2),
   (A (v (Nat.add b 2)),tup [.str ⟨⟨own⟩⟩ (v (Nat.add b 6)),.none]),(A (v (Nat.add b 3)),tup [.str ⟨⟨nK2⟩⟩ (v (Nat.add b 7)),ov (nz note) (v (Nat.add b 8))])]
section
variable (w:World) (b1 b2 b3:Bool) (G:NG)
theorem sp_turn1X (k n rem:Nat) (pb:Bool) (hk:k≠0) (hpb:(Int.ofNat k % Int.ofNat 2 == 1)=pb) (hob:(Int.ofNat (n / 12000) % Int.ofNat 2 == 1)=false) (nt:Nat) (hns:G.ns[k]? = some (.int (Int.ofNat n) nt)) (hkk:k < 2^20) (c d:Nat) (hc:c=letterOf n) (hd:d=digitOf n)
    (τ:Nat→Nat) (k0 n0 kt0 nt0:Nat) (ow:Value) (ro0:Nat) (x0:Option (List Nat)) (xt:Nat) (nm0:List Nat) (nmt:Nat)
    (hs:List Value) (eh:Nat) (ts:List Value) (et:Nat) (rs:List Value) (er:Nat) (inner:List Nat) (hin:inner≠[]) (ti:Nat) (note:Option (List Nat)) (hnote:noteV n=note) (hn:okN note) (hx:okText inner) (hxl:inner.length≤2^17) (l1:hs.length < 2^19) (l2:ts.length < 2^19) (l3:rs.length < 2^19) :
    Spec (VV ⟨w,b1,b2,b3⟩) 400 (neC G.fr G.it) (nePre w.params G k (rem+1) (neF10 w.params (neNF G τ k0 n0 kt0 nt0 ow ro0) G.tb (ov x0 xt) (.str ⟨⟨nm0⟩⟩ nmt)) hs eh (ts++[.str ⟨⟨inner⟩⟩ ti]) et rs er)
      (fun o=>⟨.go (neC G.fr G.it),(nePre w.params G (k+1) rem (neFr w.params (neNF G (neT τ (o.v 13) (o.v 14)) k n (o.v 9) nt ow (o.v 10)) G.tb (ov note (o.v 8)) (.str ⟨⟨nmOf pb⟩⟩ (o.v 4)) (.str ⟨⟨[c,95,d]⟩⟩ (o.v 11)) (.str ⟨⟨inner⟩⟩ ti)) (hs++[.ref (A (o.v 0))]) (eh+1) (ts++[.str ⟨⟨inner⟩⟩ ti]++[.str ⟨⟨txX false [c,45,d] inner note⟩⟩ (o.v 12)]) (et+1) (rs++[.ref (A (o.v 1))]) (er+1)).map (·.2),
        newX o.v 0 (nmOf pb) (txX false [c,45,d] inner note) false [c,45,d] inner ti note⟩):=by
  obtain ⟨ci,yi,rfl⟩ : ∃ ci yi,inner=ci::yi:=by
    cases inner with
    | nil=>exact absurd rfl hin
    | cons a l=>exact ⟨a,l,rfl⟩
  exact sp_turn1 w b1 b2 b3 G k n rem pb hk hpb hob nt hns hkk c d hc hd τ k0 n0 kt0 nt0 ow ro0 x0 xt nm0 nmt hs eh ts et rs er ci yi ti note hnote hn hx hxl l1 l2 l3
theorem sp_turnX (k n rem:Nat) (pb:Bool) (hk:k≠0) (hpb:(Int.ofNat k % Int.ofNat 2 == 1)=pb) (ob:Bool) (hob:(Int.ofNat (n / 12000) % Int.ofNat 2 == 1)=ob) (nt:Nat) (hns:G.ns[k]? = some (.int (Int.ofNat n) nt)) (hkk:k < 2^20) (c d:Nat) (hc:c=letterOf n) (hd:d=digitOf n)
    (τ:Nat→Nat) (k0 n0 kt0 nt0:Nat) (ow:Value) (ro0:Nat) (x0:Option (List Nat)) (xt:Nat) (nm0:List Nat) (nmt:Nat) (di:List Nat) (dt:Nat) (ii:List Nat) (it0:Nat)
    (hs:List Value) (eh:Nat) (ts:List Value) (et:Nat) (rs:List Value) (er:Nat) (inner:List Nat) (hin:inner≠[]) (ti:Nat) (note:Option (List Nat)) (hnote:noteV n=note) (hn:okN note) (hx:okText inner) (hxl:inner.length≤2^17) (l1:hs.length < 2^19) (l2:ts.length < 2^19) (l3:rs.length < 2^19) :
    Spec (VV ⟨w,b1,b2,b3⟩) 400 (neC G.fr G.it) (nePre w.params G k (rem+1) (neFr w.params (neNF G τ k0 n0 kt0 nt0 ow ro0) G.tb (ov x0 xt) (.str ⟨⟨nm0⟩⟩ nmt) (.str ⟨⟨di⟩⟩ dt) (.str ⟨⟨ii⟩⟩ it0)) hs eh (ts++[.str ⟨⟨inner⟩⟩ ti]) et rs er)
      (fun o=>⟨.go (neC G.fr G.it),(nePre w.params G (k+1) rem (neFr w.params (neNF G (neT τ (o.v 13) (o.v 14)) k n (o.v 9) nt ow (o.v 10)) G.tb (ov note (o.v 8)) (.str ⟨⟨nmOf pb⟩⟩ (o.v 4)) (.str ⟨⟨[c,95,d]⟩⟩ (o.v 11)) (.str ⟨⟨inner⟩⟩ ti)) (hs++[.ref (A (o.v 0))]) (eh+1) (ts++[.str ⟨⟨inner⟩⟩ ti]++[.str ⟨⟨txX ob [c,45,d] inner note⟩⟩ (o.v 12)]) (et+1) (rs++[.ref (A (o.v 1))]) (er+1)).map (·.2),
        newX o.v 0 (nmOf pb) (txX ob [c,45,d] inner note) ob [c,45,d] inner ti note⟩):=by
  obtain ⟨ci,yi,rfl⟩ : ∃ ci yi,inner=ci::yi:=by
    cases inner with
    | nil=>exact absurd rfl hin
    | cons a l=>exact ⟨a,l,rfl⟩
  cases ob with
  | false=>exact sp_turnD w b1 b2 b3 G k n rem pb hk hpb hob nt hns hkk c d hc hd τ k0 n0 kt0 nt0 ow ro0 x0 xt nm0 nmt di dt ii it0 hs eh ts et rs er ci yi ti note hnote hn hx hxl l1 l2 l3
  | true=>exact sp_turnR w b1 b2 b3 G k n rem pb hk hpb hob nt hns hkk c d hc hd τ k0 n0 kt0 nt0 ow ro0 x0 xt nm0 nmt di dt ii it0 hs eh ts et rs er ci yi ti note hnote hn hx hxl l1 l2 l3
theorem sp_turn1T (k n rem:Nat) (pb:Bool) (hk:k≠0) (hpb:(Int.ofNat k % Int.ofNat 2 == 1)=pb) (hob:(Int.ofNat (n / 12000) % Int.ofNat 2 == 1)=false) (nt:Nat) (hns:G.ns[k]? = some (.int (Int.ofNat n) nt)) (hkk:k < 2^20) (c d:Nat) (hc:c=letterOf n) (hd:d=digitOf n)
    (τ:Nat→Nat) (k0 n0 kt0 nt0:Nat) (ow:Value) (ro0:Nat) (x0:Option (List Nat)) (xt:Nat) (nm0:List Nat) (nmt:Nat)
    (hs:List Value) (eh:Nat) (ts:List Value) (et:Nat) (rs:List Value) (er:Nat) (inner:List Nat) (hin:inner≠[]) (ti:Nat) (note:Option (List Nat)) (hnote:noteV n=note) (hn:okN note) (hx:okText inner) (hxl:inner.length≤2^17) (l1:hs.length < 2^19) (l2:ts.length < 2^19) (l3:rs.length < 2^19) (Kx:List Nat) (hKx:Kx=[c,45,d]) (tx:List Nat) (htx:tx=txX false Kx inner note)
    :
    Spec (VV ⟨w,b1,b2,b3⟩) 400 (neC G.fr G.it) (nePre w.params G k (rem+1) (neF10 w.params (neNF G τ k0 n0 kt0 nt0 ow ro0) G.tb (ov x0 xt) (.str ⟨⟨nm0⟩⟩ nmt)) hs eh (ts++[.str ⟨⟨inner⟩⟩ ti]) et rs er)
      (fun o=>⟨.go (neC G.fr G.it),(nePre w.params G (k+1) rem (neFr w.params (neNF G (neT τ (o.v 13) (o.v 14)) k n (o.v 9) nt ow (o.v 10)) G.tb (ov note (o.v 8)) (.str ⟨⟨nmOf pb⟩⟩ (o.v 4)) (.str ⟨⟨[c,95,d]⟩⟩ (o.v 11)) (.str ⟨⟨inner⟩⟩ ti)) (hs++[.ref (A (o.v 0))]) (eh+1) (ts++[.str ⟨⟨inner⟩⟩ ti]++[.str ⟨⟨tx⟩⟩ (o.v 12)]) (et+1) (rs++[.ref (A (o.v 1))]) (er+1)).map (·.2),
        newX o.v 0 (nmOf pb) (tx) false Kx inner ti note⟩):=by
  subst hKx; subst htx
  exact sp_turn1X w b1 b2 b3 G k n rem pb hk hpb hob nt hns hkk c d hc hd τ k0 n0 kt0 nt0 ow ro0 x0 xt nm0 nmt hs eh ts et rs er inner hin ti note hnote hn hx hxl l1 l2 l3
noncomputable def k_sp_turn1T:=fun a1 a2 a3 a4 a5 a6 a7 a8 a9 a10 a11 a12 a13 a14 a15 a16 a17 a18 a19 a20 a21 a22 a23 a24 a25 a26 a27 a28 a29 a30 a31 a32 a33 a34 a35 a36 a37 a38 a39 a40 a41 a42 a43 a44 a45 a46 a47 a48 a49 a50 a51=>kOf (sp_turn1T a1 a2 a3 a4 a5 a6 a7 a8 a9 a10 a11 a12 a13 a14 a15 a16 a17 a18 a19 a20 a21 a22 a23 a24 a25 a26 a27 a28 a29 a30 a31 a32 a33 a34 a35 a36 a37 a38 a39 a40 a41 a42 a43 a44 a45 a46 a47 a48 a49 a50 a51)
theorem sp_turnT (k n rem:Nat) (pb:Bool) (hk:k≠0) (hpb:(Int.ofNat k % Int.ofNat 2 == 1)=pb) (ob:Bool) (hob:(Int.ofNat (n / 12000) % Int.ofNat 2 == 1)=ob) (nt:Nat) (hns:G.ns[k]? = some (.int (Int.ofNat n) nt)) (hkk:k < 2^20) (c d:Nat) (hc:c=letterOf n) (hd:d=digitOf n)
    (τ:Nat→Nat) (k0 n0 kt0 nt0:Nat) (ow:Value) (ro0:Nat) (x0:Option (List Nat)) (xt:Nat) (nm0:List Nat) (nmt:Nat) (di:List Nat) (dt:Nat) (ii:List Nat) (it0:Nat)
    (hs:List Value) (eh:Nat) (ts:List Value) (et:Nat) (rs:List Value) (er:Nat) (inner:List Nat) (hin:inner≠[]) (ti:Nat) (note:Option (List Nat)) (hnote:noteV n=note) (hn:okN note) (hx:okText inner) (hxl:inner.length≤2^17) (l1:hs.length < 2^19) (l2:ts.length < 2^19) (l3:rs.length < 2^19) (Kx:List Nat) (hKx:Kx=[c,45,d]) (tx:List Nat) (htx:tx=txX ob Kx inner note)
    :
    Spec (VV ⟨w,b1,b2,b3⟩) 400 (neC G.fr G.it) (nePre w.params G k (rem+1) (neFr w.params (neNF G τ k0 n0 kt0 nt0 ow ro0) G.tb (ov x0 xt) (.str ⟨⟨nm0⟩⟩ nmt) (.str ⟨⟨di⟩⟩ dt) (.str ⟨⟨ii⟩⟩ it0)) hs eh (ts++[.str ⟨⟨inner⟩⟩ ti]) et rs er)
      (fun o=>⟨.go (neC G.fr G.it),(nePre w.params G (k+1) rem (neFr w.params (neNF G (neT τ (o.v 13) (o.v 14)) k n (o.v 9) nt ow (o.v 10)) G.tb (ov note (o.v 8)) (.str ⟨⟨nmOf pb⟩⟩ (o.v 4)) (.str ⟨⟨[c,95,d]⟩⟩ (o.v 11)) (.str ⟨⟨inner⟩⟩ ti)) (hs++[.ref (A (o.v 0))]) (eh+1) (ts++[.str ⟨⟨inner⟩⟩ ti]++[.str ⟨⟨tx⟩⟩ (o.v 12)]) (et+1) (rs++[.ref (A (o.v 1))]) (er+1)).map (·.2),
        newX o.v 0 (nmOf pb) (tx) ob Kx inner ti note⟩):=by
  subst hKx; subst htx
  exact sp_turnX w b1 b2 b3 G k n rem pb hk hpb ob hob nt hns hkk c d hc hd τ k0 n0 kt0 nt0 ow ro0 x0 xt nm0 nmt di dt ii it0 hs eh ts et rs er inner hin ti note hnote hn hx hxl l1 l2 l3
noncomputable def k_sp_turnT:=fun a1 a2 a3 a4 a5 a6 a7 a8 a9 a10 a11 a12 a13 a14 a15 a16 a17 a18 a19 a20 a21 a22 a23 a24 a25 a26 a27 a28 a29 a30 a31 a32 a33 a34 a35 a36 a37 a38 a39 a40 a41 a42 a43 a44 a45 a46 a47 a48 a49 a50 a51 a52 a53 a54 a55 a56=>kOf (sp_turnT a1 a2 a3 a4 a5 a6 a7 a8 a9 a10 a11 a12 a13 a14 a15 a16 a17 a18 a19 a20 a21 a22 a23 a24 a25 a26 a27 a28 a29 a30 a31 a32 a33 a34 a35 a36 a37 a38 a39 a40 a41 a42 a43 a44 a45 a46 a47 a48 a49 a50 a51 a52 a53 a54 a55 a56)
end
set_option genInjectivity false in
set_option genSizeOfSpec false in
structure LV where
  n:Nat
  note:Option (List Nat)
  tx:List Nat
  hnote:noteV n=note
  hn:okN note
  hx:okText tx
  hxl:tx.length≤2^17
  hne:tx≠[]
section
variable (w:World) (b1 b2 b3:Bool)
noncomputable def nestPre (P:Params) (tb td hl th h0 nu:Nat) (ns:List Value) (en:Nat):List En:=hdPre P tb td hl th [.ref (A h0)] 0++[(A nu,lstO ns en)]
noncomputable def pl_sp_nest3 (w:World) (b1 b2 b3:Bool) (l0 l1 l2:LV) (hn1:l1.n=1290) (hn2:l2.n=12012) (q0 q1 q2:Nat) (own:List Nat) (hown:own=ownOf l0.n) (ht0:l0.tx=txA own l0.note) (K1:List Nat) (K2:List Nat) (c1 d1:Nat) (hc1:c1=letterOf l1.n) (hd1:d1=digitOf l1.n) (hK1:K1=[c1,45,d1]) (ht1:l1.tx=txX false K1 l0.tx l1.note) (c2 d2:Nat) (hc2:c2=letterOf l2.n) (hd2:d2=digitOf l2.n) (hK2:K2=[c2,45,d2]) (ht2:l2.tx=txX true K2 l1.tx l2.note) (tb td hl th h0 nu en:Nat):Nat→Nat→PlanOk (VV ⟨w,b1,b2,b3⟩):=by
  have e1:(Int.ofNat (1290 / 12000) % Int.ofNat 2 == 1)=false:=by decide
  have e2:(Int.ofNat (12012 / 12000) % Int.ofNat 2 == 1)=true:=by decide
  have hnote1:=l1.hnote
  have hnote2:=l2.hnote
  rw [hn1] at hnote1 hc1 hd1
  rw [hn2] at hnote2 hc2 hd2
  let T0:=fun it fr te re τ=>k_sp_turn0T w b1 b2 b3 ⟨it,fr,tb,td,hl,th,nu,te,re,[.int (Int.ofNat l0.n) q0,.int (Int.ofNat 1290) q1,.int (Int.ofNat 12012) q2],en⟩ l0.n 2 q0 rfl own hown τ [.ref (A h0)] 0 [] 0 [] 0 l0.note l0.hnote l0.hn (by simp) (by simp) (by simp) l0.tx ht0
  let T1:=fun it fr te re τ k0 n0 kt0 nt0 ow ro0 xt nm0 nmt tt0 hh0 rr0=>k_sp_turn1T w b1 b2 b3 ⟨it,fr,tb,td,hl,th,nu,te,re,[.int (Int.ofNat l0.n) q0,.int (Int.ofNat 1290) q1,.int (Int.ofNat 12012) q2],en⟩ 1 1290 1 true (by decide) (by decide) e1 q1 rfl (by decide) c1 d1 hc1 hd1 τ k0 n0 kt0 nt0 ow ro0 l0.note xt nm0 nmt [.ref (A h0),.ref (A hh0)] 1 [] 1 [.ref (A rr0)] 1 l0.tx l0.hne tt0 l1.note hnote1 l1.hn l0.hx l0.hxl (by simp) (by simp) (by simp) K1 hK1 l1.tx ht1
  let T2:=fun it fr te re τ k0 n0 kt0 nt0 ow ro0 xt nm0 nmt di dt ii it0 tt0 tt1 hh0 hh1 rr0 rr1=>k_sp_turnT w b1 b2 b3 ⟨it,fr,tb,td,hl,th,nu,te,re,[.int (Int.ofNat l0.n) q0,.int (Int.ofNat 1290) q1,.int (Int.ofNat 12012) q2],en⟩ 2 12012 0 false (by decide) (by decide) true e2 q2 rfl (by decide) c2 d2 hc2 hd2 τ k0 n0 kt0 nt0 ow ro0 l1.note xt nm0 nmt di dt ii it0 [.ref (A h0),.ref (A hh0),.ref (A hh1)] 2 [.str ⟨⟨l0.tx⟩⟩ tt0] 2 [.ref (A rr0),.ref (A rr1)] 2 l1.tx l1.hne tt1 l2.note hnote2 l2.hn l1.hx l1.hxl (by simp) (by simp) (by simp) K2 hK2 l2.tx ht2
  exact fun x t =>
    useQ (T0 (Nat.add x 4) x (Nat.add x 1) (Nat.add x 2) (pick [Nat.add t 0,Nat.add t 1,Nat.add t 2,Nat.add t 3])) 4362535092562003144512986988723278205433140132611834043010065948550018849719888536244666370 [8,4,0,1,2,3,5,6] fun o1 =>
    useQ (T1 (Nat.add x 4) x (Nat.add x 1) (Nat.add x 2) (pick [Nat.add t 0,Nat.add t 1,Nat.add t 2,Nat.add t 3,o1.v 13,o1.v 14,o1.v 15,o1.v 16,o1.v 17,o1.v 18]) 0 l0.n (o1.v 9) q0 (.str ⟨⟨own⟩⟩ (o1.v 6)) (o1.v 10) (o1.v 8) (nmOf false) (o1.v 4) (o1.v 12) (o1.v 0) (o1.v 1)) 1 [8,4,0,1,2,3,5,6] fun o2 =>
    useQ (T2 (Nat.add x 4) x (Nat.add x 1) (Nat.add x 2) (neT (pick [Nat.add t 0,Nat.add t 1,Nat.add t 2,Nat.add t 3,o1.v 13,o1.v 14,o1.v 15,o1.v 16,o1.v 17,o1.v 18]) (o2.v 13) (o2.v 14)) 1 1290 (o2.v 9) q1 (.str ⟨⟨own⟩⟩ (o1.v 6)) (o2.v 10) (o2.v 8) (nmOf true) (o2.v 4) [c1,95,d1] (o2.v 11) l0.tx (o1.v 12) (o1.v 12) (o2.v 12) (o1.v 0) (o2.v 0) (o1.v 1) (o2.v 1)) 1 [8,4,0,1,2,3,5,6] fun o3 =>
    finK 761483257793834418963584 (pick [Nat.add o3.x 2,Nat.add x 1,Nat.add x 2,0,0,0,0,0,0,0,o1.v 0,o1.v 1,o1.v 2,o1.v 3,o1.v 4,o1.v 5,o1.v 6,o1.v 7,o1.v 8,o1.v 12,o2.v 0,o2.v 1,o2.v 2,o2.v 3,o2.v 4,o2.v 5,o2.v 6,o2.v 7,o2.v 8,o2.v 12,o3.v 0,o3.v 1,o3.v 2,o3.v 3,o3.v 4,o3.v 5,o3.v 6,o3.v 7,o3.v 8,o3.v 12]) [23,5,6,9,10,11,12,13,14,15,16,17,18,19,20]
theorem sp_nest3 (l0 l1 l2:LV) (hn1:l1.n=1290) (hn2:l2.n=12012) (q0 q1 q2:Nat) (own:List Nat) (hown:own=ownOf l0.n) (ht0:l0.tx=txA own l0.note) (K1:List Nat) (K2:List Nat) (c1 d1:Nat) (hc1:c1=letterOf l1.n) (hd1:d1=digitOf l1.n) (hK1:K1=[c1,45,d1]) (ht1:l1.tx=txX false K1 l0.tx l1.note) (c2 d2:Nat) (hc2:c2=letterOf l2.n) (hd2:d2=digitOf l2.n) (hK2:K2=[c2,45,d2]) (ht2:l2.tx=txX true K2 l1.tx l2.note) (tb td hl th h0 nu en:Nat) :
    Spec (VV ⟨w,b1,b2,b3⟩) 360 (.call (.ref 301) ⟨[.ref (A tb),.ref (A nu)],[]⟩) (nestPre w.params tb td hl th h0 nu [.int (Int.ofNat l0.n) q0,.int (Int.ofNat 1290) q1,.int (Int.ofNat 12012) q2] en)
      (fun o=>⟨.ok (.ret (.ref (A (o.v 0)))),(hdPre w.params tb td hl th [.ref (A h0),.ref (A (o.v 10)),.ref (A (o.v 20)),.ref (A (o.v 30))] 3++[(A nu,lstO [.int (Int.ofNat l0.n) q0,.int (Int.ofNat 1290) q1,.int (Int.ofNat 12012) q2] en)]).map (·.2),
        [(A (o.v 0),tup [.ref (A (o.v 1)),.ref (A (o.v 2))]),(A (o.v 1),lstO [.str ⟨⟨l0.tx⟩⟩ (o.v 19),.str ⟨⟨l1.tx⟩⟩ (o.v 29),.str ⟨⟨l2.tx⟩⟩ (o.v 39)] 3),(A (o.v 2),lstO [.ref (A (o.v 11)),.ref (A (o.v 21)),.ref (A (o.v 31))] 3)]++(newA o.v 10 (nmOf false) l0.tx own l0.note++newX o.v 20 (nmOf true) l1.tx false K1 l0.tx (o.v 19) l1.note++newX o.v 30 (nmOf false) l2.tx true K2 l1.tx (o.v 29) l2.note)⟩):=by
  refine spec_run [0,1,2,3] 3000 (pl_sp_nest3 w b1 b2 b3 l0 l1 l2 hn1 hn2 q0 q1 q2 own hown ht0 K1 K2 c1 d1 hc1 hd1 hK1 ht1 c2 d2 hc2 hd2 hK2 ht2 tb td hl th h0 nu en) rfl fun x t => ?_
  cases b1 <;> kernel_rfl
noncomputable def pl_sp_nest4 (w:World) (b1 b2 b3:Bool) (l0 l1 l2 l3:LV) (hn1:l1.n=1290) (hn2:l2.n=12012) (q0 q1 q2 q3:Nat) (own:List Nat) (hown:own=ownOf l0.n) (ht0:l0.tx=txA own l0.note) (K1:List Nat) (K2:List Nat) (K3:List Nat) (ob3:Bool) (hob3:(Int.ofNat (l3.n / 12000) % Int.ofNat 2 == 1)=ob3) (c1 d1:Nat) (hc1:c1=letterOf l1.n) (hd1:d1=digitOf l1.n) (hK1:K1=[c1,45,d1]) (ht1:l1.tx=txX false K1 l0.tx l1.note) (c2 d2:Nat) (hc2:c2=letterOf l2.n) (hd2:d2=digitOf l2.n) (hK2:K2=[c2,45,d2]) (ht2:l2.tx=txX true K2 l1.tx l2.note) (c3 d3:Nat) (hc3:c3=letterOf l3.n) (hd3:d3=digitOf l3.n) (hK3:K3=[c3,45,d3]) (ht3:l3.tx=txX ob3 K3 l2.tx l3.note) (tb td hl th h0 nu en:Nat):Nat→Nat→PlanOk (VV ⟨w,b1,b2,b3⟩):=by
  have e1:(Int.ofNat (1290 / 12000) % Int.ofNat 2 == 1)=false:=by decide
  have e2:(Int.ofNat (12012 / 12000) % Int.ofNat 2 == 1)=true:=by decide
  have hnote1:=l1.hnote
  have hnote2:=l2.hnote
  rw [hn1] at hnote1 hc1 hd1
  rw [hn2] at hnote2 hc2 hd2
  let T0:=fun it fr te re τ=>k_sp_turn0T w b1 b2 b3 ⟨it,fr,tb,td,hl,th,nu,te,re,[.int (Int.ofNat l0.n) q0,.int (Int.ofNat 1290) q1,.int (Int.ofNat 12012) q2,.int (Int.ofNat l3.n) q3],en⟩ l0.n 3 q0 rfl own hown τ [.ref (A h0)] 0 [] 0 [] 0 l0.note l0.hnote l0.hn (by simp) (by simp) (by simp) l0.tx ht0
  let T1:=fun it fr te re τ k0 n0 kt0 nt0 ow ro0 xt nm0 nmt tt0 hh0 rr0=>k_sp_turn1T w b1 b2 b3 ⟨it,fr,tb,td,hl,th,nu,te,re,[.int (Int.ofNat l0.n) q0,.int (Int.ofNat 1290) q1,.int (Int.ofNat 12012) q2,.int (Int.ofNat l3.n) q3],en⟩ 1 1290 2 true (by decide) (by decide) e1 q1 rfl (by decide) c1 d1 hc1 hd1 τ k0 n0 kt0 nt0 ow ro0 l0.note xt nm0 nmt [.ref (A h0),.ref (A hh0)] 1 [] 1 [.ref (A rr0)] 1 l0.tx l0.hne tt0 l1.note hnote1 l1.hn l0.hx l0.hxl (by simp) (by simp) (by simp) K1 hK1 l1.tx ht1
  let T2:=fun it fr te re τ k0 n0 kt0 nt0 ow ro0 xt nm0 nmt di dt ii it0 tt0 tt1 hh0 hh1 rr0 rr1=>k_sp_turnT w b1 b2 b3 ⟨it,fr,tb,td,hl,th,nu,te,re,[.int (Int.ofNat l0.n) q0,.int (Int.ofNat 1290) q1,.int (Int.ofNat 12012) q2,.int (Int.ofNat l3.n) q3],en⟩ 2 12012 1 false (by decide) (by decide) true e2 q2 rfl (by decide) c2 d2 hc2 hd2 τ k0 n0 kt0 nt0 ow ro0 l1.note xt nm0 nmt di dt ii it0 [.ref (A h0),.ref (A hh0),.ref (A hh1)] 2 [.str ⟨⟨l0.tx⟩⟩ tt0] 2 [.ref (A rr0),.ref (A rr1)] 2 l1.tx l1.hne tt1 l2.note hnote2 l2.hn l1.hx l1.hxl (by simp) (by simp) (by simp) K2 hK2 l2.tx ht2
  let T3:=fun it fr te re τ k0 n0 kt0 nt0 ow ro0 xt nm0 nmt di dt ii it0 tt0 tt1 tt2 hh0 hh1 hh2 rr0 rr1 rr2=>k_sp_turnT w b1 b2 b3 ⟨it,fr,tb,td,hl,th,nu,te,re,[.int (Int.ofNat l0.n) q0,.int (Int.ofNat 1290) q1,.int (Int.ofNat 12012) q2,.int (Int.ofNat l3.n) q3],en⟩ 3 l3.n 0 true (by decide) (by decide) ob3 hob3 q3 rfl (by decide) c3 d3 hc3 hd3 τ k0 n0 kt0 nt0 ow ro0 l2.note xt nm0 nmt di dt ii it0 [.ref (A h0),.ref (A hh0),.ref (A hh1),.ref (A hh2)] 3 [.str ⟨⟨l0.tx⟩⟩ tt0,.str ⟨⟨l1.tx⟩⟩ tt1] 3 [.ref (A rr0),.ref (A rr1),.ref (A rr2)] 3 l2.tx l2.hne tt2 l3.note l3.hnote l3.hn l2.hx l2.hxl (by simp) (by simp) (by simp) K3 hK3 l3.tx ht3
  exact fun x t =>
    useQ (T0 (Nat.add x 4) x (Nat.add x 1) (Nat.add x 2) (pick [Nat.add t 0,Nat.add t 1,Nat.add t 2,Nat.add t 3])) 4362535092562003144512986988723278205433140132611834043010065948550018849719888536244666370 [8,4,0,1,2,3,5,6] fun o1 =>
    useQ (T1 (Nat.add x 4) x (Nat.add x 1) (Nat.add x 2) (pick [Nat.add t 0,Nat.add t 1,Nat.add t 2,Nat.add t 3,o1.v 13,o1.v 14,o1.v 15,o1.v 16,o1.v 17,o1.v 18]) 0 l0.n (o1.v 9) q0 (.str ⟨⟨own⟩⟩ (o1.v 6)) (o1.v 10) (o1.v 8) (nmOf false) (o1.v 4) (o1.v 12) (o1.v 0) (o1.v 1)) 1 [8,4,0,1,2,3,5,6] fun o2 =>
    useQ (T2 (Nat.add x 4) x (Nat.add x 1) (Nat.add x 2) (neT (pick [Nat.add t 0,Nat.add t 1,Nat.add t 2,Nat.add t 3,o1.v 13,o1.v 14,o1.v 15,o1.v 16,o1.v 17,o1.v 18]) (o2.v 13) (o2.v 14)) 1 1290 (o2.v 9) q1 (.str ⟨⟨own⟩⟩ (o1.v 6)) (o2.v 10) (o2.v 8) (nmOf true) (o2.v 4) [c1,95,d1] (o2.v 11) l0.tx (o1.v 12) (o1.v 12) (o2.v 12) (o1.v 0) (o2.v 0) (o1.v 1) (o2.v 1)) 1 [8,4,0,1,2,3,5,6] fun o3 =>
    useQ (T3 (Nat.add x 4) x (Nat.add x 1) (Nat.add x 2) (neT (neT (pick [Nat.add t 0,Nat.add t 1,Nat.add t 2,Nat.add t 3,o1.v 13,o1.v 14,o1.v 15,o1.v 16,o1.v 17,o1.v 18]) (o2.v 13) (o2.v 14)) (o3.v 13) (o3.v 14)) 2 12012 (o3.v 9) q2 (.str ⟨⟨own⟩⟩ (o1.v 6)) (o3.v 10) (o3.v 8) (nmOf false) (o3.v 4) [c2,95,d2] (o3.v 11) l1.tx (o2.v 12) (o1.v 12) (o2.v 12) (o3.v 12) (o1.v 0) (o2.v 0) (o3.v 0) (o1.v 1) (o2.v 1) (o3.v 1)) 1 [8,4,0,1,2,3,5,6] fun o4 =>
    finK 761483546024210570675328 (pick [Nat.add o4.x 2,Nat.add x 1,Nat.add x 2,0,0,0,0,0,0,0,o1.v 0,o1.v 1,o1.v 2,o1.v 3,o1.v 4,o1.v 5,o1.v 6,o1.v 7,o1.v 8,o1.v 12,o2.v 0,o2.v 1,o2.v 2,o2.v 3,o2.v 4,o2.v 5,o2.v 6,o2.v 7,o2.v 8,o2.v 12,o3.v 0,o3.v 1,o3.v 2,o3.v 3,o3.v 4,o3.v 5,o3.v 6,o3.v 7,o3.v 8,o3.v 12,o4.v 0,o4.v 1,o4.v 2,o4.v 3,o4.v 4,o4.v 5,o4.v 6,o4.v 7,o4.v 8,o4.v 12]) [27,5,6,9,10,11,12,13,14,15,16,17,18,19,20,21,22,23,24]
theorem sp_nest4 (l0 l1 l2 l3:LV) (hn1:l1.n=1290) (hn2:l2.n=12012) (q0 q1 q2 q3:Nat) (own:List Nat) (hown:own=ownOf l0.n) (ht0:l0.tx=txA own l0.note) (K1:List Nat) (K2:List Nat) (K3:List Nat) (ob3:Bool) (hob3:(Int.ofNat (l3.n / 12000) % Int.ofNat 2 == 1)=ob3) (c1 d1:Nat) (hc1:c1=letterOf l1.n) (hd1:d1=digitOf l1.n) (hK1:K1=[c1,45,d1]) (ht1:l1.tx=txX false K1 l0.tx l1.note) (c2 d2:Nat) (hc2:c2=letterOf l2.n) (hd2:d2=digitOf l2.n) (hK2:K2=[c2,45,d2]) (ht2:l2.tx=txX true K2 l1.tx l2.note) (c3 d3:Nat) (hc3:c3=letterOf l3.n) (hd3:d3=digitOf l3.n) (hK3:K3=[c3,45,d3]) (ht3:l3.tx=txX ob3 K3 l2.tx l3.note) (tb td hl th h0 nu en:Nat) :
    Spec (VV ⟨w,b1,b2,b3⟩) 360 (.call (.ref 301) ⟨[.ref (A tb),.ref (A nu)],[]⟩) (nestPre w.params tb td hl th h0 nu [.int (Int.ofNat l0.n) q0,.int (Int.ofNat 1290) q1,.int (Int.ofNat 12012) q2,.int (Int.ofNat l3.n) q3] en)
      (fun o=>⟨.ok (.ret (.ref (A (o.v 0)))),(hdPre w.params tb td hl th [.ref (A h0),.ref (A (o.v 10)),.ref (A (o.v 20)),.ref (A (o.v 30)),.ref (A (o.v 40))] 4++[(A nu,lstO [.int (Int.ofNat l0.n) q0,.int (Int.ofNat 1290) q1,.int (Int.ofNat 12012) q2,.int (Int.ofNat l3.n) q3] en)]).map (·.2),
        [(A (o.v 0),tup [.ref (A (o.v 1)),.ref (A (o.v 2))]),(A (o.v 1),lstO [.str ⟨⟨l0.tx⟩⟩ (o.v 19),.str ⟨⟨l1.tx⟩⟩ (o.v 29),.str ⟨⟨l2.tx⟩⟩ (o.v 39),.str ⟨⟨l3.tx⟩⟩ (o.v 49)] 4),(A (o.v 2),lstO [.ref (A (o.v 11)),.ref (A (o.v 21)),.ref (A (o.v 31)),.ref (A (o.v 41))] 4)]++(newA o.v 10 (nmOf false) l0.tx own l0.note++newX o.v 20 (nmOf true) l1.tx false K1 l0.tx (o.v 19) l1.note++newX o.v 30 (nmOf false) l2.tx true K2 l1.tx (o.v 29) l2.note++newX o.v 40 (nmOf true) l3.tx ob3 K3 l2.tx (o.v 39) l3.note)⟩):=by
  refine spec_run [0,1,2,3] 3000 (pl_sp_nest4 w b1 b2 b3 l0 l1 l2 l3 hn1 hn2 q0 q1 q2 q3 own hown ht0 K1 K2 K3 ob3 hob3 c1 d1 hc1 hd1 hK1 ht1 c2 d2 hc2 hd2 hK2 ht2 c3 d3 hc3 hd3 hK3 ht3 tb td hl th h0 nu en) rfl fun x t => ?_
  cases b1 <;> kernel_rfl
noncomputable def pl_sp_nest5 (w:World) (b1 b2 b3:Bool) (l0 l1 l2 l3 l4:LV) (hn1:l1.n=1290) (hn2:l2.n=12012) (q0 q1 q2 q3 q4:Nat) (own:List Nat) (hown:own=ownOf l0.n) (ht0:l0.tx=txA own l0.note) (K1:List Nat) (K2:List Nat) (K3:List Nat) (K4:List Nat) (ob3:Bool) (hob3:(Int.ofNat (l3.n / 12000) % Int.ofNat 2 == 1)=ob3) (ob4:Bool) (hob4:(Int.ofNat (l4.n / 12000) % Int.ofNat 2 == 1)=ob4) (c1 d1:Nat) (hc1:c1=letterOf l1.n) (hd1:d1=digitOf l1.n) (hK1:K1=[c1,45,d1]) (ht1:l1.tx=txX false K1 l0.tx l1.note) (c2 d2:Nat) (hc2:c2=letterOf l2.n) (hd2:d2=digitOf l2.n) (hK2:K2=[c2,45,d2]) (ht2:l2.tx=txX true K2 l1.tx l2.note) (c3 d3:Nat) (hc3:c3=letterOf l3.n) (hd3:d3=digitOf l3.n) (hK3:K3=[c3,45,d3]) (ht3:l3.tx=txX ob3 K3 l2.tx l3.note) (c4 d4:Nat) (hc4:c4=letterOf l4.n) (hd4:d4=digitOf l4.n) (hK4:K4=[c4,45,d4]) (ht4:l4.tx=txX ob4 K4 l3.tx l4.note) (tb td hl th h0 nu en:Nat):Nat→Nat→PlanOk (VV ⟨w,b1,b2,b3⟩):=by
  have e1:(Int.ofNat (1290 / 12000) % Int.ofNat 2 == 1)=false:=by decide
  have e2:(Int.ofNat (12012 / 12000) % Int.ofNat 2 == 1)=true:=by decide
  have hnote1:=l1.hnote
  have hnote2:=l2.hnote
  rw [hn1] at hnote1 hc1 hd1
  rw [hn2] at hnote2 hc2 hd2
  let T0:=fun it fr te re τ=>k_sp_turn0T w b1 b2 b3 ⟨it,fr,tb,td,hl,th,nu,te,re,[.int (Int.ofNat l0.n) q0,.int (Int.ofNat 1290) q1,.int (Int.ofNat 12012) q2,.int (Int.ofNat l3.n) q3,.int (Int.ofNat l4.n) q4],en⟩ l0.n 4 q0 rfl own hown τ [.ref (A h0)] 0 [] 0 [] 0 l0.note l0.hnote l0.hn (by simp) (by simp) (by simp) l0.tx ht0
  let T1:=fun it fr te re τ k0 n0 kt0 nt0 ow ro0 xt nm0 nmt tt0 hh0 rr0=>k_sp_turn1T w b1 b2 b3 ⟨it,fr,tb,td,hl,th,nu,te,re,[.int (Int.ofNat l0.n) q0,.int (Int.ofNat 1290) q1,.int (Int.ofNat 12012) q2,.int (Int.ofNat l3.n) q3,.int (Int.ofNat l4.n) q4],en⟩ 1 1290 3 true (by decide) (by decide) e1 q1 rfl (by decide) c1 d1 hc1 hd1 τ k0 n0 kt0 nt0 ow ro0 l0.note xt nm0 nmt [.ref (A h0),.ref (A hh0)] 1 [] 1 [.ref (A rr0)] 1 l0.tx l0.hne tt0 l1.note hnote1 l1.hn l0.hx l0.hxl (by simp) (by simp) (by simp) K1 hK1 l1.tx ht1
  let T2:=fun it fr te re τ k0 n0 kt0 nt0 ow ro0 xt nm0 nmt di dt ii it0 tt0 tt1 hh0 hh1 rr0 rr1=>k_sp_turnT w b1 b2 b3 ⟨it,fr,tb,td,hl,th,nu,te,re,[.int (Int.ofNat l0.n) q0,.int (Int.ofNat 1290) q1,.int (Int.ofNat 12012) q2,.int (Int.ofNat l3.n) q3,.int (Int.ofNat l4.n) q4],en⟩ 2 12012 2 false (by decide) (by decide) true e2 q2 rfl (by decide) c2 d2 hc2 hd2 τ k0 n0 kt0 nt0 ow ro0 l1.note xt nm0 nmt di dt ii it0 [.ref (A h0),.ref (A hh0),.ref (A hh1)] 2 [.str ⟨⟨l0.tx⟩⟩ tt0] 2 [.ref (A rr0),.ref (A rr1)] 2 l1.tx l1.hne tt1 l2.note hnote2 l2.hn l1.hx l1.hxl (by simp) (by simp) (by simp) K2 hK2 l2.tx ht2
  let T3:=fun it fr te re τ k0 n0 kt0 nt0 ow ro0 xt nm0 nmt di dt ii it0 tt0 tt1 tt2 hh0 hh1 hh2 rr0 rr1 rr2=>k_sp_turnT w b1 b2 b3 ⟨it,fr,tb,td,hl,th,nu,te,re,[.int (Int.ofNat l0.n) q0,.int (Int.ofNat 1290) q1,.int (Int.ofNat 12012) q2,.int (Int.ofNat l3.n) q3,.int (Int.ofNat l4.n) q4],en⟩ 3 l3.n 1 true (by decide) (by decide) ob3 hob3 q3 rfl (by decide) c3 d3 hc3 hd3 τ k0 n0 kt0 nt0 ow ro0 l2.note xt nm0 nmt di dt ii it0 [.ref (A h0),.ref (A hh0),.ref (A hh1),.ref (A hh2)] 3 [.str ⟨⟨l0.tx⟩⟩ tt0,.str ⟨⟨l1.tx⟩⟩ tt1] 3 [.ref (A rr0),.ref (A rr1),.ref (A rr2)] 3 l2.tx l2.hne tt2 l3.note l3.hnote l3.hn l2.hx l2.hxl (by simp) (by simp) (by simp) K3 hK3 l3.tx ht3
  let T4:=fun it fr te re τ k0 n0 kt0 nt0 ow ro0 xt nm0 nmt di dt ii it0 tt0 tt1 tt2 tt3 hh0 hh1 hh2 hh3 rr0 rr1 rr2 rr3=>k_sp_turnT w b1 b2 b3 ⟨it,fr,tb,td,hl,th,nu,te,re,[.int (Int.ofNat l0.n) q0,.int (Int.ofNat 1290) q1,.int (Int.ofNat 12012) q2,.int (Int.ofNat l3.n) q3,.int (Int.ofNat l4.n) q4],en⟩ 4 l4.n 0 false (by decide) (by decide) ob4 hob4 q4 rfl (by decide) c4 d4 hc4 hd4 τ k0 n0 kt0 nt0 ow ro0 l3.note xt nm0 nmt di dt ii it0 [.ref (A h0),.ref (A hh0),.ref (A hh1),.ref (A hh2),.ref (A hh3)] 4 [.str ⟨⟨l0.tx⟩⟩ tt0,.str ⟨⟨l1.tx⟩⟩ tt1,.str ⟨⟨l2.tx⟩⟩ tt2] 4 [.ref (A rr0),.ref (A rr1),.ref (A rr2),.ref (A rr3)] 4 l3.tx l3.hne tt3 l4.note l4.hnote l4.hn l3.hx l3.hxl (by simp) (by simp) (by simp) K4 hK4 l4.tx ht4
  exact fun x t =>
    useQ (T0 (Nat.add x 4) x (Nat.add x 1) (Nat.add x 2) (pick [Nat.add t 0,Nat.add t 1,Nat.add t 2,Nat.add t 3])) 4362535092562003144512986988723278205433140132611834043010065948550018849719888536244666370 [8,4,0,1,2,3,5,6] fun o1 =>
    useQ (T1 (Nat.add x 4) x (Nat.add x 1) (Nat.add x 2) (pick [Nat.add t 0,Nat.add t 1,Nat.add t 2,Nat.add t 3,o1.v 13,o1.v 14,o1.v 15,o1.v 16,o1.v 17,o1.v 18]) 0 l0.n (o1.v 9) q0 (.str ⟨⟨own⟩⟩ (o1.v 6)) (o1.v 10) (o1.v 8) (nmOf false) (o1.v 4) (o1.v 12) (o1.v 0) (o1.v 1)) 1 [8,4,0,1,2,3,5,6] fun o2 =>
    useQ (T2 (Nat.add x 4) x (Nat.add x 1) (Nat.add x 2) (neT (pick [Nat.add t 0,Nat.add t 1,Nat.add t 2,Nat.add t 3,o1.v 13,o1.v 14,o1.v 15,o1.v 16,o1.v 17,o1.v 18]) (o2.v 13) (o2.v 14)) 1 1290 (o2.v 9) q1 (.str ⟨⟨own⟩⟩ (o1.v 6)) (o2.v 10) (o2.v 8) (nmOf true) (o2.v 4) [c1,95,d1] (o2.v 11) l0.tx (o1.v 12) (o1.v 12) (o2.v 12) (o1.v 0) (o2.v 0) (o1.v 1) (o2.v 1)) 1 [8,4,0,1,2,3,5,6] fun o3 =>
    useQ (T3 (Nat.add x 4) x (Nat.add x 1) (Nat.add x 2) (neT (neT (pick [Nat.add t 0,Nat.add t 1,Nat.add t 2,Nat.add t 3,o1.v 13,o1.v 14,o1.v 15,o1.v 16,o1.v 17,o1.v 18]) (o2.v 13) (o2.v 14)) (o3.v 13) (o3.v 14)) 2 12012 (o3.v 9) q2 (.str ⟨⟨own⟩⟩ (o1.v 6)) (o3.v 10) (o3.v 8) (nmOf false) (o3.v 4) [c2,95,d2] (o3.v 11) l1.tx (o2.v 12) (o1.v 12) (o2.v 12) (o3.v 12) (o1.v 0) (o2.v 0) (o3.v 0) (o1.v 1) (o2.v 1) (o3.v 1)) 1 [8,4,0,1,2,3,5,6] fun o4 =>
    useQ (T4 (Nat.add x 4) x (Nat.add x 1) (Nat.add x 2) (neT (neT (neT (pick [Nat.add t 0,Nat.add t 1,Nat.add t 2,Nat.add t 3,o1.v 13,o1.v 14,o1.v 15,o1.v 16,o1.v 17,o1.v 18]) (o2.v 13) (o2.v 14)) (o3.v 13) (o3.v 14)) (o4.v 13) (o4.v 14)) 3 l3.n (o4.v 9) q3 (.str ⟨⟨own⟩⟩ (o1.v 6)) (o4.v 10) (o4.v 8) (nmOf true) (o4.v 4) [c3,95,d3] (o4.v 11) l2.tx (o3.v 12) (o1.v 12) (o2.v 12) (o3.v 12) (o4.v 12) (o1.v 0) (o2.v 0) (o3.v 0) (o4.v 0) (o1.v 1) (o2.v 1) (o3.v 1) (o4.v 1)) 1 [8,4,0,1,2,3,5,6] fun o5 =>
    finK 761483834254586722387072 (pick [Nat.add o5.x 2,Nat.add x 1,Nat.add x 2,0,0,0,0,0,0,0,o1.v 0,o1.v 1,o1.v 2,o1.v 3,o1.v 4,o1.v 5,o1.v 6,o1.v 7,o1.v 8,o1.v 12,o2.v 0,o2.v 1,o2.v 2,o2.v 3,o2.v 4,o2.v 5,o2.v 6,o2.v 7,o2.v 8,o2.v 12,o3.v 0,o3.v 1,o3.v 2,o3.v 3,o3.v 4,o3.v 5,o3.v 6,o3.v 7,o3.v 8,o3.v 12,o4.v 0,o4.v 1,o4.v 2,o4.v 3,o4.v 4,o4.v 5,o4.v 6,o4.v 7,o4.v 8,o4.v 12,o5.v 0,o5.v 1,o5.v 2,o5.v 3,o5.v 4,o5.v 5,o5.v 6,o5.v 7,o5.v 8,o5.v 12]) [31,5,6,9,10,11,12,13,14,15,16,17,18,19,20,21,22,23,24,25,26,27,28]
theorem sp_nest5 (l0 l1 l2 l3 l4:LV) (hn1:l1.n=1290) (hn2:l2.n=12012) (q0 q1 q2 q3 q4:Nat) (own:List Nat) (hown:own=ownOf l0.n) (ht0:l0.tx=txA own l0.note) (K1:List Nat) (K2:List Nat) (K3:List Nat) (K4:List Nat) (ob3:Bool) (hob3:(Int.ofNat (l3.n / 12000) % Int.ofNat 2 == 1)=ob3) (ob4:Bool) (hob4:(Int.ofNat (l4.n / 12000) % Int.ofNat 2 == 1)=ob4) (c1 d1:Nat) (hc1:c1=letterOf l1.n) (hd1:d1=digitOf l1.n) (hK1:K1=[c1,45,d1]) (ht1:l1.tx=txX false K1 l0.tx l1.note) (c2 d2:Nat) (hc2:c2=letterOf l2.n) (hd2:d2=digitOf l2.n) (hK2:K2=[c2,45,d2]) (ht2:l2.tx=txX true K2 l1.tx l2.note) (c3 d3:Nat) (hc3:c3=letterOf l3.n) (hd3:d3=digitOf l3.n) (hK3:K3=[c3,45,d3]) (ht3:l3.tx=txX ob3 K3 l2.tx l3.note) (c4 d4:Nat) (hc4:c4=letterOf l4.n) (hd4:d4=digitOf l4.n) (hK4:K4=[c4,45,d4]) (ht4:l4.tx=txX ob4 K4 l3.tx l4.note) (tb td hl th h0 nu en:Nat) :
    Spec (VV ⟨w,b1,b2,b3⟩) 360 (.call (.ref 301) ⟨[.ref (A tb),.ref (A nu)],[]⟩) (nestPre w.params tb td hl th h0 nu [.int (Int.ofNat l0.n) q0,.int (Int.ofNat 1290) q1,.int (Int.ofNat 12012) q2,.int (Int.ofNat l3.n) q3,.int (Int.ofNat l4.n) q4] en)
      (fun o=>⟨.ok (.ret (.ref (A (o.v 0)))),(hdPre w.params tb td hl th [.ref (A h0),.ref (A (o.v 10)),.ref (A (o.v 20)),.ref (A (o.v 30)),.ref (A (o.v 40)),.ref (A (o.v 50))] 5++[(A nu,lstO [.int (Int.ofNat l0.n) q0,.int (Int.ofNat 1290) q1,.int (Int.ofNat 12012) q2,.int (Int.ofNat l3.n) q3,.int (Int.ofNat l4.n) q4] en)]).map (·.2),
        [(A (o.v 0),tup [.ref (A (o.v 1)),.ref (A (o.v 2))]),(A (o.v 1),lstO [.str ⟨⟨l0.tx⟩⟩ (o.v 19),.str ⟨⟨l1.tx⟩⟩ (o.v 29),.str ⟨⟨l2.tx⟩⟩ (o.v 39),.str ⟨⟨l3.tx⟩⟩ (o.v 49),.str ⟨⟨l4.tx⟩⟩ (o.v 59)] 5),(A (o.v 2),lstO [.ref (A (o.v 11)),.ref (A (o.v 21)),.ref (A (o.v 31)),.ref (A (o.v 41)),.ref (A (o.v 51))] 5)]++(newA o.v 10 (nmOf false) l0.tx own l0.note++newX o.v 20 (nmOf true) l1.tx false K1 l0.tx (o.v 19) l1.note++newX o.v 30 (nmOf false) l2.tx true K2 l1.tx (o.v 29) l2.note++newX o.v 40 (nmOf true) l3.tx ob3 K3 l2.tx (o.v 39) l3.note++newX o.v 50 (nmOf false) l4.tx ob4 K4 l3.tx (o.v 49) l4.note)⟩):=by
  refine spec_run [0,1,2,3] 3000 (pl_sp_nest5 w b1 b2 b3 l0 l1 l2 l3 l4 hn1 hn2 q0 q1 q2 q3 q4 own hown ht0 K1 K2 K3 K4 ob3 hob3 ob4 hob4 c1 d1 hc1 hd1 hK1 ht1 c2 d2 hc2 hd2 hK2 ht2 c3 d3 hc3 hd3 hK3 ht3 c4 d4 hc4 hd4 hK4 ht4 tb td hl th h0 nu en) rfl fun x t => ?_
  cases b1 <;> kernel_rfl
end
end Mine
namespace Mine
open PySem PySem.W PySem.W.X PyProof.Rows PySem.Calls
theorem r_str_ne {w:Ws} {D:Nat} (x y:List Nat) (t u:Tok) (b:Bool) (h:(x != y)=b):Spec (VV w) D (.builtin "str.__ne__" ⟨[.str ⟨⟨x⟩⟩ t,.str ⟨⟨y⟩⟩ u],[]⟩) [] (fun _=>⟨.ok (.ret (.bool b)),[],[]⟩) :=
  spec_gives (m := .val (.bool b)) (fun _ => .bool b) (by decide +kernel) F.entry_str_ne (by subst h; exact gives_str_ne ⟨⟨x⟩⟩ ⟨⟨y⟩⟩ t u) (fun Q s h=>h s.toks 0)
noncomputable def k_r_str_ne {w:Ws} {D:Nat}:=fun a1 a2 a3 a4 a5 a6=>kOf (r_str_ne (w:=w) (D:=D) a1 a2 a3 a4 a5 a6)
theorem r_lnext {w:Ws} {D:Nat} (it l i:Nat) (vs:List Value) (ep:Nat) (v:Value) (hv:vs[i]? = some v) (hne:it≠l) :
    Spec (VV w) D (.builtin "list_iterator.__next__" ⟨[.ref (A it)],[]⟩) [(A it,liO l i),(A l,lstO vs ep)] (fun _=>⟨.ok (.ret v),[liO l (i+1),lstO vs ep],[]⟩):=by
  refine spec_builtin (by decide +kernel) (entryFor_of_tree (by kernel_rfl):entryFor table "list_iterator.__next__" = some Builtin.«list_iterator.__next__») fun U s R hA hg hT hL hH hK hG => ?_
  have h1:s.heap.get? (A it)=some (liO l i):=hH _ (.head _)
  have h2:s.heap.get? (A l)=some (lstO vs ep):=hH _ (.tail _ (.head _))
  obtain ⟨hp,g,d,tk,os⟩:=s
  have g1:hp.get? (A it)=some { cls := .type "list_iterator",dict:=none,data := .fields ⟨[.ref (A l),.int (Int.ofNat i) 0]⟩,slots := #[] }:=h1
  have g2:hp.get? (A l)=some { cls := .type "list",dict:=none,data := .seq ⟨vs⟩ ep,slots := #[] }:=h2
  have hv':(⟨vs⟩:Array Value)[(Int.ofNat i).toNat]? = some v:=by simpa using hv
  wp_walk using PySem.AutoSeq1.wpAny_loadPart' g2
  rw [hv']
  wp_walk
  have ne:A it≠A l:=fun z=>hne (Nat.add_right_cancel z)
  have fin:=hG tk (hp.objs.size-L) (fun _=>0) (hp.update (A it) (setF 1 (rawInt (Int.ofNat i+1)))) (by rw [Heap.size_after_update]; have hL:L≤hp.objs.size:=hL; omega) (by show hp.objs.size≤hp.objs.size-L+L; omega) (top_update hT (hK _ (.head _))) (fun b ob e hb => ?_) (fun p hp' => ?_) (fun p hp'=>(nomatch hp')) (fun p hp'=>(nomatch hp')) List.nodup_nil
  · exact fin
  · have:A it≠b:=fun z=>hb (by rw [← z]; exact .head _)
    rw [Heap.get?_update_other _ _ this]; exact e
  · have hp':p ∈ [(A it,liO l (i+1)),(A l,lstO vs ep)]:=hp'
    rcases List.mem_cons.mp hp' with rfl | hp'
    · exact Heap.get?_update_self (setF 1 (rawInt (Int.ofNat i+1))) h1 rfl
    · cases List.mem_singleton.mp hp'
      rw [Heap.get?_update_other _ _ ne]; exact h2
noncomputable def k_r_lnext {w:Ws} {D:Nat}:=fun a1 a2 a3 a4 a5 a6 a7 a8=>kOf (r_lnext (w:=w) (D:=D) a1 a2 a3 a4 a5 a6 a7 a8)
end Mine
namespace Mine
open PySem PySem.W PySem.W.X
noncomputable def subV:Expr→Expr
  | .Subscript v _ _=>v
  | e=>e
noncomputable def lawFn:Stmt:=stm pT 30
noncomputable def lawFor:Stmt:=nthS (fBody lawFn) 9
noncomputable def cfE:Expr:=subV (assignValue (nthS (forB lawFor) 2))
noncomputable def lawQ:Str:=⟨⟨[108,97,119]⟩⟩++locSuf
noncomputable def lawCEnv (e:Expr) (fr cl:Nat):Env:={ scope:=lcSc e,locals:=A cl,globals:=3,cells:=[],qual:=lawQ,func:=none,code := .ref 329,frame:=some (A fr),builtins:=0 }
noncomputable def lawEnv (fr c1 c2:Nat):Env:={ scope:=fScope lawFn,locals:=A fr,globals:=3,cells:=[(⟨⟨[110,97,109,101,115]⟩⟩,A c1),(⟨⟨[116,101,120,116,115]⟩⟩,A c2)],qual:=lawQ,func:=some 330,code := .ref 329,frame:=some (A fr),builtins:=0 }
noncomputable def rdC (fr c1 c2 it:Nat):Code := .forLoop (forT lawFor) (.ref (A it)) (forB lawFor) (forE lawFor) (lawEnv fr c1 c2)
section
variable (w:World) (b1 b2 b3:Bool) (fr it ac cl ro u1 u2:Nat) (k1 k2:List Nat) (tk1 tk2 er:Nat) (x1 x2:Value)
noncomputable def cfPre:List En:=[(A it,liO ro 0),(A ac,lstO [] 0),(A cl,dct [] 0),(A ro,lstO [.ref (A u1),.ref (A u2)] er),(A u1,tup [.str ⟨⟨k1⟩⟩ tk1,x1]),(A u2,tup [.str ⟨⟨k2⟩⟩ tk2,x2])]
noncomputable def pl_cfD (w:World) (b1 b2 b3:Bool) (k1 k2:List Nat) (tk1 tk2:Nat) (e1:(k1 != [110,45,111])=true) (e2:(k2 != [110,45,111])=false):Nat→Nat→PlanOk (VV ⟨w,b1,b2,b3⟩):=fun x t =>
    useQ (k_r_str_ne (D:=900) k1 [110,45,111] tk1 (Nat.add t 2) true e1) (cond b2 22842932491549023468275468904843957724250128384 100464279547841384629227143644538608034673548838273596539008) [] fun o1 =>
    useQ (k_r_str_ne (D:=900) k2 [110,45,111] tk2 (Nat.add o1.t 2) false e2) 100470409904172283104213182604036537654016241980744862302211 [] fun o2 =>
    finK 9454030651602405163136 (fun _=>Nat.add t 0) []
theorem cfD (h1:k1≠nK2) (h2:k2=nK2):Spec (VV ⟨w,b1,b2,b3⟩) 450 (.compStart cfE 0 (.ref (A it)) (.ref (A ac)) (lawCEnv cfE fr cl)) (cfPre it ac cl ro u1 u2 k1 k2 tk1 tk2 er x1 x2)
    (fun o=>⟨.ok .next,[o.ob 0,lstO [.ref (A u1)] 1,dct [dEnt w.params [114,111,119] (o.v 0) (.ref (A u2))] 1,lstO [.ref (A u1),.ref (A u2)] er,tup [.str ⟨⟨k1⟩⟩ tk1,x1],tup [.str ⟨⟨k2⟩⟩ tk2,x2]],[]⟩):=by
  have e1:(k1 != [110,45,111])=true:=by simpa [nK2] using h1
  have e2:(k2 != [110,45,111])=false:=by simpa [nK2] using h2
  refine spec_run [0,1,2,3,4,5] 3000 (pl_cfD w b1 b2 b3 k1 k2 tk1 tk2 e1 e2) rfl fun x t => ?_
  cases b2 <;> cases b1 <;> kernel_rfl
noncomputable def k_cfD:=fun a1 a2 a3 a4 a5 a6 a7 a8 a9 a10 a11 a12 a13 a14 a15 a16 a17 a18 a19 a20=>kOf (cfD a1 a2 a3 a4 a5 a6 a7 a8 a9 a10 a11 a12 a13 a14 a15 a16 a17 a18 a19 a20)
noncomputable def pl_cfR (w:World) (b1 b2 b3:Bool) (k1 k2:List Nat) (tk1 tk2:Nat) (e1:(k1 != [110,45,111])=false) (e2:(k2 != [110,45,111])=true):Nat→Nat→PlanOk (VV ⟨w,b1,b2,b3⟩):=fun x t =>
    useQ (k_r_str_ne (D:=900) k1 [110,45,111] tk1 (Nat.add t 2) false e1) (cond b2 22842932491549023468275468904843957724250128384 100464279547841384629227143644538608034673548838273596539008) [] fun o1 =>
    useQ (k_r_str_ne (D:=900) k2 [110,45,111] tk2 (Nat.add o1.t 2) true e2) 178471299790623097976928304227393584920264832 [] fun o2 =>
    finK 5322146114963229923162289922048557059 (fun _=>Nat.add t 0) []
theorem cfR (h1:k1=nK2) (h2:k2≠nK2):Spec (VV ⟨w,b1,b2,b3⟩) 450 (.compStart cfE 0 (.ref (A it)) (.ref (A ac)) (lawCEnv cfE fr cl)) (cfPre it ac cl ro u1 u2 k1 k2 tk1 tk2 er x1 x2)
    (fun o=>⟨.ok .next,[o.ob 0,lstO [.ref (A u2)] 1,dct [dEnt w.params [114,111,119] (o.v 0) (.ref (A u2))] 1,lstO [.ref (A u1),.ref (A u2)] er,tup [.str ⟨⟨k1⟩⟩ tk1,x1],tup [.str ⟨⟨k2⟩⟩ tk2,x2]],[]⟩):=by
  have e1:(k1 != [110,45,111])=false:=by simpa [nK2] using h1
  have e2:(k2 != [110,45,111])=true:=by simpa [nK2] using h2
  refine spec_run [0,1,2,3,4,5] 3000 (pl_cfR w b1 b2 b3 k1 k2 tk1 tk2 e1 e2) rfl fun x t => ?_
  cases b2 <;> cases b1 <;> kernel_rfl
noncomputable def k_cfR:=fun a1 a2 a3 a4 a5 a6 a7 a8 a9 a10 a11 a12 a13 a14 a15 a16 a17 a18 a19 a20=>kOf (cfR a1 a2 a3 a4 a5 a6 a7 a8 a9 a10 a11 a12 a13 a14 a15 a16 a17 a18 a19 a20)
end
section
variable (w:World) (b1 b2 b3:Bool)
theorem text_form {key1 key2:List Nat} {v1 v2:Option (List Nat)} {tx:List Nat} (htx:tx=wr key1 v1++59::32::wr key2 v2) (hk:okK key1) (hne:key1≠[]) : ∃ c k,key1=Nat.succ c::k∧tx=Nat.succ c::txt2 (wr k v1) (wr key2 v2):=by
  cases key1 with
  | nil=>exact absurd rfl hne
  | cons c k =>
    have h0:=(hk c (.head _)).2.1
    obtain ⟨c,rfl⟩:=Nat.exists_eq_succ_of_ne_zero h0
    exact ⟨c,k,rfl,by rw [htx]; simp [wr,txt2]⟩
theorem sp_paramsF (tx key1 key2:List Nat) (v1 v2:Option (List Nat)) (t0:Nat) (htx:tx=wr key1 v1++59::32::wr key2 v2) (hne:key1≠[]) (hv1:okV v1) (hv2:okV v2) (hk1:okK key1) (hk2:okK key2) (hz:tx.length < 2^17) :
    Spec (VV ⟨w,b1,b2,b3⟩) 380 (.call (.ref 308) ⟨[.str ⟨⟨tx⟩⟩ t0],[]⟩) [(279,tblO [])] (fun o=>⟨.ok (.ret (.ref (A (o.v 0)))),[tbl1 (o.v 1)],rowsNew o.v key1 key2 v1 v2++[(A (o.v 1),coO (fun j=>o.v (Nat.add j 20)) (o.v 8) (o.v 9) (o.v 10))]⟩):=by
  obtain ⟨c,k,rfl,rfl⟩:=text_form htx hk1 hne
  exact sp_params1 w b1 b2 b3 c k key2 v1 v2 t0 hv1 hv2 hk1 hk2 hz
noncomputable def k_sp_paramsF:=fun a1 a2 a3 a4 a5 a6 a7 a8 a9 a10 a11 a12 a13 a14 a15 a16 a17=>kOf (sp_paramsF a1 a2 a3 a4 a5 a6 a7 a8 a9 a10 a11 a12 a13 a14 a15 a16 a17)
theorem sp_paramsN (τ:Nat→Nat) (w1 w2 w3 co:Nat) (tx key1 key2:List Nat) (v1 v2:Option (List Nat)) (t0:Nat) (htx:tx=wr key1 v1++59::32::wr key2 v2) (hne:key1≠[]) (hv1:okV v1) (hv2:okV v2) (hk1:okK key1) (hk2:okK key2) (hz:tx.length < 2^17) :
    Spec (VV ⟨w,b1,b2,b3⟩) 380 (.call (.ref 308) ⟨[.str ⟨⟨tx⟩⟩ t0],[]⟩) [(279,tbl1 co),(A co,coO τ w1 w2 w3)] (fun o=>⟨.ok (.ret (.ref (A (o.v 0)))),[tbl1 co,coO τ w1 w2 w3],rowsNew o.v key1 key2 v1 v2⟩):=by
  obtain ⟨c,k,rfl,rfl⟩:=text_form htx hk1 hne
  exact sp_params2 w b1 b2 b3 τ w1 w2 w3 co c k key2 v1 v2 t0 hv1 hv2 hk1 hk2 hz
noncomputable def k_sp_paramsN:=fun a1 a2 a3 a4 a5 a6 a7 a8 a9 a10 a11 a12 a13 a14 a15 a16 a17 a18 a19 a20 a21 a22=>kOf (sp_paramsN a1 a2 a3 a4 a5 a6 a7 a8 a9 a10 a11 a12 a13 a14 a15 a16 a17 a18 a19 a20 a21 a22)
set_option genInjectivity false in
set_option genSizeOfSpec false in
structure LF where
  τ:Nat→Nat
  sc:Value
  nu:Value
  tb:Value
  re:Value
noncomputable def lf6 (P:Params) (F:LF) (text:Value) (dl:Nat):Obj:=frO [dEnt P [115,99,114,105,112,116] (F.τ 0) F.sc,dEnt P [110,117,109,98,101,114,115] (F.τ 1) F.nu,dEnt P [116,97,98,108,101] (F.τ 2) F.tb,dEnt P [114,101,97,100] (F.τ 3) F.re,dEnt P [116,101,120,116] (F.τ 4) text,dEnt P [100,101,101,100,115] (F.τ 5) (.ref (A dl))] 6
noncomputable def lf9 (P:Params) (F:LF) (text:Value) (dl:Nat) (ρ:Nat→Nat) (ro fo:Nat) (key:Value):Obj:=frO [dEnt P [115,99,114,105,112,116] (F.τ 0) F.sc,dEnt P [110,117,109,98,101,114,115] (F.τ 1) F.nu,dEnt P [116,97,98,108,101] (F.τ 2) F.tb,dEnt P [114,101,97,100] (F.τ 3) F.re,dEnt P [116,101,120,116] (F.τ 4) text,dEnt P [100,101,101,100,115] (F.τ 5) (.ref (A dl)),
  dEnt P [114,111,119,115] (ρ 0) (.ref (A ro)),dEnt P [102,111,117,110,100] (ρ 1) (.ref (A fo)),dEnt P [107,101,121] (ρ 2) key] 9
noncomputable def rdPre (it sl i:Nat) (vs:List Value) (es:Nat) (fr:Nat) (fo:Obj) (dl:Nat) (ds:List Value) (ed:Nat) (ro ua ub:Nat) (ka kb:List Nat) (ta tb:Nat) (va vb:Value):List En :=
  [(A it,liO sl i),(A sl,lstO vs es),(A fr,fo),(A dl,lstO ds ed),(A ro,lstO [.ref (A ua),.ref (A ub)] 2),(A ua,tup [.str ⟨⟨ka⟩⟩ ta,va]),(A ub,tup [.str ⟨⟨kb⟩⟩ tb,vb])]
theorem okK_n:okK nK2:=fun c h=>by
  simp only [nK2,List.mem_cons,List.not_mem_nil,or_false] at h
  omega
theorem EqB.ov (v:Option (List Nat)) (t u:Nat):EqB (Mine.ov v t) (Mine.ov v u):=by
  cases v with
  | none=>exact .same _
  | some v=>exact .str _ _ _
noncomputable def pl_sp_rdFD (w:World) (b1 b2 b3:Bool) (it sl i fr dl es ed ro ua ub ta tb:Nat) (vs ds:List Value) (hvs:vs[i]? = some (.ref (A ro))) (hil:it≠sl) (hds:ds.length < 2^20) (tx:List Nat) (tt:Nat) (K inner:List Nat) (nv:Option (List Nat)) (ti tn:Nat) (htx:tx=wr K (some inner)++59::32::wr nK2 nv) (hne:K≠[]) (hva:okV (some inner)) (hvb:okV nv) (hka:okK K) (hkb:okK nK2) (hz:tx.length < 2^17) (hKn:K≠nK2):Nat→Nat→PlanOk (VV ⟨w,b1,b2,b3⟩):=fun x t =>
    useQ (k_r_lnext (D:=900) it sl i vs es (.ref (A ro)) hvs hil) 270532736 [0,1] fun o1 =>
    useQ (k_sp_paramsF w b1 b2 b3 tx K nK2 (some inner) nv tt htx hne hva hvb hka hkb hz) 34366030211 [7] fun o2 =>
    useQ (k_r_list_ne (D:=900) (A (o2.v 0)) (A ro) [.ref (A (o2.v 2)),.ref (A (o2.v 3))] [.ref (A ua),.ref (A ub)] 2 2
        [(A (o2.v 0),lstO [.ref (A (o2.v 2)),.ref (A (o2.v 3))] 2),(A ro,lstO [.ref (A ua),.ref (A ub)] 2),(A (o2.v 2),tup [.str ⟨⟨K⟩⟩ (o2.v 4),ov (some inner) (o2.v 5)]),(A (o2.v 3),tup [.str ⟨⟨nK2⟩⟩ (o2.v 6),ov nv (o2.v 7)]),(A ua,tup [.str ⟨⟨K⟩⟩ ta,ov (some inner) ti]),(A ub,tup [.str ⟨⟨nK2⟩⟩ tb,ov nv tn])]
        (by decide) (.head _) (.tail _ (.head _)) (.cons (.tup (.tail _ (.tail _ (.head _))) (.tail _ (.tail _ (.tail _ (.tail _ (.head _))))) (.cons (.str _ _ _) (.cons (EqB.ov _ _ _) .nil))) (.cons (.tup (.tail _ (.tail _ (.tail _ (.head _)))) (.tail _ (.tail _ (.tail _ (.tail _ (.tail _ (.head _)))))) (.cons (.str _ _ _) (.cons (EqB.ov _ _ _) .nil))) .nil))) 9871930139835679107 [8,4,9,10,5,6] fun o3 =>
    useQ (k_cfD w b1 b2 b3 fr (Nat.add o3.x 0) (Nat.add o3.x 1) (Nat.add o3.x 2) (o2.v 0) (o2.v 2) (o2.v 3) K nK2 (o2.v 4) (o2.v 6) 2 (ov (some inner) (o2.v 5)) (ov nv (o2.v 7)) hKn rfl) 620126974133379 [12,13,14,8,9,10] fun o4 =>
    useQ (k_r_append (D:=900) (A dl) (.str ⟨⟨K⟩⟩ (o2.v 4)) ds ed hds) 170428730847789281328166025479422581630301278333252137641375066284435833189468292817504067429617279798383362335177582036879 [3] fun o5 =>
    finK 127 (pick [o2.v 0,o2.v 1,0,0,o2.v 4,o2.v 5,Nat.add o1.t 0,Nat.add o2.t 0,o2.v 8,o2.v 9,o2.v 10,Nat.add o4.t 1,0,0,0,0,0,0,0,0,0,0,0,0,0,0,0,0,o2.v 28,o2.v 29,o2.v 30,o2.v 31,o2.v 32]) [11]
theorem sp_rdFD (it sl i fr c1 c2 dl es ed ro ua ub ta tb:Nat) (vs ds:List Value) (hvs:vs[i]? = some (.ref (A ro))) (hil:it≠sl) (hds:ds.length < 2^20) (F:LF) (tx:List Nat) (tt:Nat) (K inner:List Nat) (nv:Option (List Nat)) (ti tn:Nat)
    (htx:tx=wr K (some inner)++59::32::wr nK2 nv) (hne:K≠[]) (hva:okV (some inner)) (hvb:okV nv) (hka:okK K) (hkb:okK nK2) (hz:tx.length < 2^17) (hKn:K≠nK2) :
    Spec (VV ⟨w,b1,b2,b3⟩) 340 (rdC fr c1 c2 it) (rdPre it sl i vs es fr (lf6 w.params F (.str ⟨⟨tx⟩⟩ tt) dl) dl ds ed ro ua ub K nK2 ta tb (ov (some inner) ti) (ov nv tn)++[(279,tblO [])])
      (fun o=>⟨.go (rdC fr c1 c2 it),(rdPre it sl (i+1) vs es fr (lf9 w.params F (.str ⟨⟨inner⟩⟩ (o.v 5)) dl (pick [o.v 6,o.v 7,o.v 11]) ro (o.v 0) (.str ⟨⟨K⟩⟩ (o.v 4))) dl (ds++[.str ⟨⟨K⟩⟩ (o.v 4)]) (ed+1) ro ua ub K nK2 ta tb (ov (some inner) ti) (ov nv tn)).map (·.2)++[tbl1 (o.v 1)],[(A (o.v 1),coO (fun j=>o.v (Nat.add j 20)) (o.v 8) (o.v 9) (o.v 10))]⟩):=by
  refine spec_run [0,1,2,3,4,5,6,7] 3000 (pl_sp_rdFD w b1 b2 b3 it sl i fr dl es ed ro ua ub ta tb vs ds hvs hil hds tx tt K inner nv ti tn htx hne hva hvb hka hkb hz hKn) rfl fun x t => ?_
  cases b1 <;> kernel_rfl
noncomputable def pl_sp_rdFR (w:World) (b1 b2 b3:Bool) (it sl i fr dl es ed ro ua ub ta tb:Nat) (vs ds:List Value) (hvs:vs[i]? = some (.ref (A ro))) (hil:it≠sl) (hds:ds.length < 2^20) (tx:List Nat) (tt:Nat) (K inner:List Nat) (nv:Option (List Nat)) (ti tn:Nat) (htx:tx=wr nK2 nv++59::32::wr K (some inner)) (hne:nK2≠[]) (hva:okV nv) (hvb:okV (some inner)) (hka:okK nK2) (hkb:okK K) (hz:tx.length < 2^17) (hKn:K≠nK2):Nat→Nat→PlanOk (VV ⟨w,b1,b2,b3⟩):=fun x t =>
    useQ (k_r_lnext (D:=900) it sl i vs es (.ref (A ro)) hvs hil) 270532736 [0,1] fun o1 =>
    useQ (k_sp_paramsF w b1 b2 b3 tx nK2 K nv (some inner) tt htx hne hva hvb hka hkb hz) 34366030211 [7] fun o2 =>
    useQ (k_r_list_ne (D:=900) (A (o2.v 0)) (A ro) [.ref (A (o2.v 2)),.ref (A (o2.v 3))] [.ref (A ua),.ref (A ub)] 2 2
        [(A (o2.v 0),lstO [.ref (A (o2.v 2)),.ref (A (o2.v 3))] 2),(A ro,lstO [.ref (A ua),.ref (A ub)] 2),(A (o2.v 2),tup [.str ⟨⟨nK2⟩⟩ (o2.v 4),ov nv (o2.v 5)]),(A (o2.v 3),tup [.str ⟨⟨K⟩⟩ (o2.v 6),ov (some inner) (o2.v 7)]),(A ua,tup [.str ⟨⟨nK2⟩⟩ ta,ov nv tn]),(A ub,tup [.str ⟨⟨K⟩⟩ tb,ov (some inner) ti])]
        (by decide) (.head _) (.tail _ (.head _)) (.cons (.tup (.tail _ (.tail _ (.head _))) (.tail _ (.tail _ (.tail _ (.tail _ (.head _))))) (.cons (.str _ _ _) (.cons (EqB.ov _ _ _) .nil))) (.cons (.tup (.tail _ (.tail _ (.tail _ (.head _)))) (.tail _ (.tail _ (.tail _ (.tail _ (.tail _ (.head _)))))) (.cons (.str _ _ _) (.cons (EqB.ov _ _ _) .nil))) .nil))) 9871930139835679107 [8,4,9,10,5,6] fun o3 =>
    useQ (k_cfR w b1 b2 b3 fr (Nat.add o3.x 0) (Nat.add o3.x 1) (Nat.add o3.x 2) (o2.v 0) (o2.v 2) (o2.v 3) nK2 K (o2.v 4) (o2.v 6) 2 (ov nv (o2.v 5)) (ov (some inner) (o2.v 7)) rfl hKn) 620126974133379 [12,13,14,8,9,10] fun o4 =>
    useQ (k_r_append (D:=900) (A dl) (.str ⟨⟨K⟩⟩ (o2.v 6)) ds ed hds) 170428730847789281328166025479422613458988408559597239036712121076251493710184294142981856945576918802463654644834202011535 [3] fun o5 =>
    finK 127 (pick [o2.v 0,o2.v 1,0,0,o2.v 6,o2.v 7,Nat.add o1.t 0,Nat.add o2.t 0,o2.v 8,o2.v 9,o2.v 10,Nat.add o4.t 1,0,0,0,0,0,0,0,0,0,0,0,0,0,0,0,0,o2.v 28,o2.v 29,o2.v 30,o2.v 31,o2.v 32]) [11]
theorem sp_rdFR (it sl i fr c1 c2 dl es ed ro ua ub ta tb:Nat) (vs ds:List Value) (hvs:vs[i]? = some (.ref (A ro))) (hil:it≠sl) (hds:ds.length < 2^20) (F:LF) (tx:List Nat) (tt:Nat) (K inner:List Nat) (nv:Option (List Nat)) (ti tn:Nat)
    (htx:tx=wr nK2 nv++59::32::wr K (some inner)) (hne:nK2≠[]) (hva:okV nv) (hvb:okV (some inner)) (hka:okK nK2) (hkb:okK K) (hz:tx.length < 2^17) (hKn:K≠nK2) :
    Spec (VV ⟨w,b1,b2,b3⟩) 340 (rdC fr c1 c2 it) (rdPre it sl i vs es fr (lf6 w.params F (.str ⟨⟨tx⟩⟩ tt) dl) dl ds ed ro ua ub nK2 K ta tb (ov nv tn) (ov (some inner) ti)++[(279,tblO [])])
      (fun o=>⟨.go (rdC fr c1 c2 it),(rdPre it sl (i+1) vs es fr (lf9 w.params F (.str ⟨⟨inner⟩⟩ (o.v 5)) dl (pick [o.v 6,o.v 7,o.v 11]) ro (o.v 0) (.str ⟨⟨K⟩⟩ (o.v 4))) dl (ds++[.str ⟨⟨K⟩⟩ (o.v 4)]) (ed+1) ro ua ub nK2 K ta tb (ov nv tn) (ov (some inner) ti)).map (·.2)++[tbl1 (o.v 1)],[(A (o.v 1),coO (fun j=>o.v (Nat.add j 20)) (o.v 8) (o.v 9) (o.v 10))]⟩):=by
  refine spec_run [0,1,2,3,4,5,6,7] 3000 (pl_sp_rdFR w b1 b2 b3 it sl i fr dl es ed ro ua ub ta tb vs ds hvs hil hds tx tt K inner nv ti tn htx hne hva hvb hka hkb hz hKn) rfl fun x t => ?_
  cases b1 <;> kernel_rfl
noncomputable def pl_sp_rdND (w:World) (b1 b2 b3:Bool) (it sl i fr dl es ed ro ua ub ta tb:Nat) (vs ds:List Value) (hvs:vs[i]? = some (.ref (A ro))) (hil:it≠sl) (hds:ds.length < 2^20) (tx:List Nat) (tt:Nat) (τ:Nat→Nat) (w1 w2 w3 co:Nat) (K inner:List Nat) (nv:Option (List Nat)) (ti tn:Nat) (htx:tx=wr K (some inner)++59::32::wr nK2 nv) (hne:K≠[]) (hva:okV (some inner)) (hvb:okV nv) (hka:okK K) (hkb:okK nK2) (hz:tx.length < 2^17) (hKn:K≠nK2):Nat→Nat→PlanOk (VV ⟨w,b1,b2,b3⟩):=fun x t =>
    useQ (k_r_lnext (D:=900) it sl i vs es (.ref (A ro)) hvs hil) 270532736 [0,1] fun o1 =>
    useQ (k_sp_paramsN w b1 b2 b3 τ w1 w2 w3 co tx K nK2 (some inner) nv tt htx hne hva hvb hka hkb hz) 34366030211 [7,8] fun o2 =>
    useQ (k_r_list_ne (D:=900) (A (o2.v 0)) (A ro) [.ref (A (o2.v 2)),.ref (A (o2.v 3))] [.ref (A ua),.ref (A ub)] 2 2
        [(A (o2.v 0),lstO [.ref (A (o2.v 2)),.ref (A (o2.v 3))] 2),(A ro,lstO [.ref (A ua),.ref (A ub)] 2),(A (o2.v 2),tup [.str ⟨⟨K⟩⟩ (o2.v 4),ov (some inner) (o2.v 5)]),(A (o2.v 3),tup [.str ⟨⟨nK2⟩⟩ (o2.v 6),ov nv (o2.v 7)]),(A ua,tup [.str ⟨⟨K⟩⟩ ta,ov (some inner) ti]),(A ub,tup [.str ⟨⟨nK2⟩⟩ tb,ov nv tn])]
        (by decide) (.head _) (.tail _ (.head _)) (.cons (.tup (.tail _ (.tail _ (.head _))) (.tail _ (.tail _ (.tail _ (.tail _ (.head _))))) (.cons (.str _ _ _) (.cons (EqB.ov _ _ _) .nil))) (.cons (.tup (.tail _ (.tail _ (.tail _ (.head _)))) (.tail _ (.tail _ (.tail _ (.tail _ (.tail _ (.head _)))))) (.cons (.str _ _ _) (.cons (EqB.ov _ _ _) .nil))) .nil))) 9943992132188553603 [9,4,10,11,5,6] fun o3 =>
    useQ (k_cfD w b1 b2 b3 fr (Nat.add o3.x 0) (Nat.add o3.x 1) (Nat.add o3.x 2) (o2.v 0) (o2.v 2) (o2.v 3) K nK2 (o2.v 4) (o2.v 6) 2 (ov (some inner) (o2.v 5)) (ov nv (o2.v 7)) hKn rfl) 620127242585347 [12,13,14,9,10,11] fun o4 =>
    useQ (k_r_append (D:=900) (A dl) (.str ⟨⟨K⟩⟩ (o2.v 4)) ds ed hds) 170428730847789281328166025479422613458988408559597239036712121076251493710184294142981856945576918802463654644834202011535 [3] fun o5 =>
    finK 127 (pick [o2.v 0,0,0,0,o2.v 4,o2.v 5]) []
theorem sp_rdND (it sl i fr c1 c2 dl es ed ro ua ub ta tb:Nat) (vs ds:List Value) (hvs:vs[i]? = some (.ref (A ro))) (hil:it≠sl) (hds:ds.length < 2^20) (F:LF) (tx:List Nat) (tt:Nat) (τ:Nat→Nat) (w1 w2 w3 co:Nat) (ρ:Nat→Nat) (ro0 fo0:Nat) (k0:List Nat) (kt0:Nat) (K inner:List Nat) (nv:Option (List Nat)) (ti tn:Nat)
    (htx:tx=wr K (some inner)++59::32::wr nK2 nv) (hne:K≠[]) (hva:okV (some inner)) (hvb:okV nv) (hka:okK K) (hkb:okK nK2) (hz:tx.length < 2^17) (hKn:K≠nK2) :
    Spec (VV ⟨w,b1,b2,b3⟩) 340 (rdC fr c1 c2 it) (rdPre it sl i vs es fr (lf9 w.params F (.str ⟨⟨tx⟩⟩ tt) dl ρ ro0 fo0 (.str ⟨⟨k0⟩⟩ kt0)) dl ds ed ro ua ub K nK2 ta tb (ov (some inner) ti) (ov nv tn)++[(279,tbl1 co),(A co,coO τ w1 w2 w3)])
      (fun o=>⟨.go (rdC fr c1 c2 it),(rdPre it sl (i+1) vs es fr (lf9 w.params F (.str ⟨⟨inner⟩⟩ (o.v 5)) dl (pick [ρ 0,ρ 1,ρ 2]) ro (o.v 0) (.str ⟨⟨K⟩⟩ (o.v 4))) dl (ds++[.str ⟨⟨K⟩⟩ (o.v 4)]) (ed+1) ro ua ub K nK2 ta tb (ov (some inner) ti) (ov nv tn)).map (·.2)++[tbl1 co,coO τ w1 w2 w3],[]⟩):=by
  refine spec_run [0,1,2,3,4,5,6,7,8] 3000 (pl_sp_rdND w b1 b2 b3 it sl i fr dl es ed ro ua ub ta tb vs ds hvs hil hds tx tt τ w1 w2 w3 co K inner nv ti tn htx hne hva hvb hka hkb hz hKn) rfl fun x t => ?_
  cases b1 <;> kernel_rfl
noncomputable def pl_sp_rdNR (w:World) (b1 b2 b3:Bool) (it sl i fr dl es ed ro ua ub ta tb:Nat) (vs ds:List Value) (hvs:vs[i]? = some (.ref (A ro))) (hil:it≠sl) (hds:ds.length < 2^20) (tx:List Nat) (tt:Nat) (τ:Nat→Nat) (w1 w2 w3 co:Nat) (K inner:List Nat) (nv:Option (List Nat)) (ti tn:Nat) (htx:tx=wr nK2 nv++59::32::wr K (some inner)) (hne:nK2≠[]) (hva:okV nv) (hvb:okV (some inner)) (hka:okK nK2) (hkb:okK K) (hz:tx.length < 2^17) (hKn:K≠nK2):Nat→Nat→PlanOk (VV ⟨w,b1,b2,b3⟩):=fun x t =>
    useQ (k_r_lnext (D:=900) it sl i vs es (.ref (A ro)) hvs hil) 270532736 [0,1] fun o1 =>
    useQ (k_sp_paramsN w b1 b2 b3 τ w1 w2 w3 co tx nK2 K nv (some inner) tt htx hne hva hvb hka hkb hz) 34366030211 [7,8] fun o2 =>
    useQ (k_r_list_ne (D:=900) (A (o2.v 0)) (A ro) [.ref (A (o2.v 2)),.ref (A (o2.v 3))] [.ref (A ua),.ref (A ub)] 2 2
        [(A (o2.v 0),lstO [.ref (A (o2.v 2)),.ref (A (o2.v 3))] 2),(A ro,lstO [.ref (A ua),.ref (A ub)] 2),(A (o2.v 2),tup [.str ⟨⟨nK2⟩⟩ (o2.v 4),ov nv (o2.v 5)]),(A (o2.v 3),tup [.str ⟨⟨K⟩⟩ (o2.v 6),ov (some inner) (o2.v 7)]),(A ua,tup [.str ⟨⟨nK2⟩⟩ ta,ov nv tn]),(A ub,tup [.str ⟨⟨K⟩⟩ tb,ov (some inner) ti])]
        (by decide) (.head _) (.tail _ (.head _)) (.cons (.tup (.tail _ (.tail _ (.head _))) (.tail _ (.tail _ (.tail _ (.tail _ (.head _))))) (.cons (.str _ _ _) (.cons (EqB.ov _ _ _) .nil))) (.cons (.tup (.tail _ (.tail _ (.tail _ (.head _)))) (.tail _ (.tail _ (.tail _ (.tail _ (.tail _ (.head _)))))) (.cons (.str _ _ _) (.cons (EqB.ov _ _ _) .nil))) .nil))) 9943992132188553603 [9,4,10,11,5,6] fun o3 =>
    useQ (k_cfR w b1 b2 b3 fr (Nat.add o3.x 0) (Nat.add o3.x 1) (Nat.add o3.x 2) (o2.v 0) (o2.v 2) (o2.v 3) nK2 K (o2.v 4) (o2.v 6) 2 (ov nv (o2.v 5)) (ov (some inner) (o2.v 7)) rfl hKn) 620127242585347 [12,13,14,9,10,11] fun o4 =>
    useQ (k_r_append (D:=900) (A dl) (.str ⟨⟨K⟩⟩ (o2.v 6)) ds ed hds) 170428730847789281328166025479422645287675538785942340432049175868067154230900295468459646461536557806543946954490821986191 [3] fun o5 =>
    finK 127 (pick [o2.v 0,0,0,0,o2.v 6,o2.v 7]) []
theorem sp_rdNR (it sl i fr c1 c2 dl es ed ro ua ub ta tb:Nat) (vs ds:List Value) (hvs:vs[i]? = some (.ref (A ro))) (hil:it≠sl) (hds:ds.length < 2^20) (F:LF) (tx:List Nat) (tt:Nat) (τ:Nat→Nat) (w1 w2 w3 co:Nat) (ρ:Nat→Nat) (ro0 fo0:Nat) (k0:List Nat) (kt0:Nat) (K inner:List Nat) (nv:Option (List Nat)) (ti tn:Nat)
    (htx:tx=wr nK2 nv++59::32::wr K (some inner)) (hne:nK2≠[]) (hva:okV nv) (hvb:okV (some inner)) (hka:okK nK2) (hkb:okK K) (hz:tx.length < 2^17) (hKn:K≠nK2) :
    Spec (VV ⟨w,b1,b2,b3⟩) 340 (rdC fr c1 c2 it) (rdPre it sl i vs es fr (lf9 w.params F (.str ⟨⟨tx⟩⟩ tt) dl ρ ro0 fo0 (.str ⟨⟨k0⟩⟩ kt0)) dl ds ed ro ua ub nK2 K ta tb (ov nv tn) (ov (some inner) ti)++[(279,tbl1 co),(A co,coO τ w1 w2 w3)])
      (fun o=>⟨.go (rdC fr c1 c2 it),(rdPre it sl (i+1) vs es fr (lf9 w.params F (.str ⟨⟨inner⟩⟩ (o.v 5)) dl (pick [ρ 0,ρ 1,ρ 2]) ro (o.v 0) (.str ⟨⟨K⟩⟩ (o.v 4))) dl (ds++[.str ⟨⟨K⟩⟩ (o.v 4)]) (ed+1) ro ua ub nK2 K ta tb (ov nv tn) (ov (some inner) ti)).map (·.2)++[tbl1 co,coO τ w1 w2 w3],[]⟩):=by
  refine spec_run [0,1,2,3,4,5,6,7,8] 3000 (pl_sp_rdNR w b1 b2 b3 it sl i fr dl es ed ro ua ub ta tb vs ds hvs hil hds tx tt τ w1 w2 w3 co K inner nv ti tn htx hne hva hvb hka hkb hz hKn) rfl fun x t => ?_
  cases b1 <;> kernel_rfl
end
theorem ok_nest:okName [110,101,115,116]:=fun c h=>by
  simp only [List.mem_cons,List.not_mem_nil,or_false] at h
  omega
noncomputable def hTup (h0 n0 x0:Nat):En:=(A h0,tup [.str ⟨⟨[110,101,115,116,115]⟩⟩ n0,.str ⟨⟨[120]⟩⟩ x0])
noncomputable def gaPre (P:Params) (tb td hl th:Nat) (hs:List Value) (eh:Nat) (l:List En):List En:=hdPre P tb td hl th hs eh++l
section
variable (w:World) (b1 b2 b3:Bool)
noncomputable def pl_sp_ga3 (w:World) (b1 b2 b3:Bool) (tb:Nat):Nat→Nat→PlanOk (VV ⟨w,b1,b2,b3⟩):=fun x t =>
    useQ (k_sp_conv_name w b1 b2 b3 tb [110,101,115,116] (Nat.add t 1) ok_nest) 100433631139355507144180525957524557480354910896679752433666 [] fun o1 =>
    finK (cond b2 14654200389939464286389788894009529420499064848749105628599151407506866474499095324822835420250272423698125357159515906788171512778978609456215630952121285215308550370942070806346864989538307229375737190114510476962274472474387841961811535412136136348745826837820758215557661613096574609052467858712722155607739488864518207632210048965239877200031902774786135349207303484212361 64449854897992137246519420117109697713554755096535649468500866650720625053094330779341388926940504263551082276360642841443308592153148624791554538356087052109044267409781619531546761586887077569914021608891143161448786211894423530338300954122926681208484021130157314504441318431216018673156439041292585285089140847780722561614725867215522651941438212383518152285914270550802901720912495753) (fun _=>Nat.add o1.x 1) [10]
theorem sp_ga3 (tb td hl th h0 h1 h2 h3 n0 n1 n2 n3 x0 x1 x2 x3 u:Nat) (t1 t2 t3:List Nat) :
    Spec (VV ⟨w,b1,b2,b3⟩) 340 (.call (.ref 121) ⟨[.ref (A tb),.str ⟨⟨[78,69,83,84]⟩⟩ u],[]⟩) (gaPre w.params tb td hl th [.ref (A h0),.ref (A h1),.ref (A h2),.ref (A h3)] 3 [hTup h0 n0 x0,(A h1,tup [.str ⟨⟨nmOf false⟩⟩ n1,.str ⟨⟨t1⟩⟩ x1]),(A h2,tup [.str ⟨⟨nmOf true⟩⟩ n2,.str ⟨⟨t2⟩⟩ x2]),(A h3,tup [.str ⟨⟨nmOf false⟩⟩ n3,.str ⟨⟨t3⟩⟩ x3])])
      (fun o=>⟨.ok (.ret (.ref (A (o.v 0)))),(gaPre w.params tb td hl th [.ref (A h0),.ref (A h1),.ref (A h2),.ref (A h3)] 3 [hTup h0 n0 x0,(A h1,tup [.str ⟨⟨nmOf false⟩⟩ n1,.str ⟨⟨t1⟩⟩ x1]),(A h2,tup [.str ⟨⟨nmOf true⟩⟩ n2,.str ⟨⟨t2⟩⟩ x2]),(A h3,tup [.str ⟨⟨nmOf false⟩⟩ n3,.str ⟨⟨t3⟩⟩ x3])]).map (·.2),[(A (o.v 0),lstO [.str ⟨⟨t1⟩⟩ x1,.str ⟨⟨t2⟩⟩ x2,.str ⟨⟨t3⟩⟩ x3] 3)]⟩):=by
  refine spec_run [0,1,2,3,4,5,6] 4000 (pl_sp_ga3 w b1 b2 b3 tb) rfl fun x t => ?_
  cases b2 <;> cases b1 <;> kernel_rfl
noncomputable def k_sp_ga3:=fun a1 a2 a3 a4 a5 a6 a7 a8 a9 a10 a11 a12 a13 a14 a15 a16 a17 a18 a19 a20 a21 a22 a23 a24=>kOf (sp_ga3 a1 a2 a3 a4 a5 a6 a7 a8 a9 a10 a11 a12 a13 a14 a15 a16 a17 a18 a19 a20 a21 a22 a23 a24)
noncomputable def pl_sp_ga4 (w:World) (b1 b2 b3:Bool) (tb:Nat):Nat→Nat→PlanOk (VV ⟨w,b1,b2,b3⟩):=fun x t =>
    useQ (k_sp_conv_name w b1 b2 b3 tb [110,101,115,116] (Nat.add t 1) ok_nest) 100433631513499926300891673017667874655723435986227151650818 [] fun o1 =>
    finK (cond b2 240942296788152648536277586951983347645392296063360631165506546706848805219101447312522994587193562240735289449791660240247138510149514104974971012783498317594766487570713450639018902218209940910406242621085028442046451894016684926594223661785395360370248761553243875607609916480761304201460295819975004094230114093261407533417715847172974101723388621067229890858822000574709401897612723497939333381496904502582690083418126698711083303034501054759412751811850 1059675427766519260896352773669442355684923921082863057622803436932927608455899986650678633471980923131595312312267791099294681967282511002786008472015998159401516487549956872071062002230306357117222172806964753606471006410382253914171751720834701356257641351429821039049704161290405083881041270773020821629116868944800193878996087470723950409683897718561063934517544801846958167914462195606671524111943983476560764884820803996103738023114271859732326983732289562464109834) (fun _=>Nat.add o1.x 1) [11]
theorem sp_ga4 (tb td hl th h0 h1 h2 h3 h4 n0 n1 n2 n3 n4 x0 x1 x2 x3 x4 u:Nat) (t1 t2 t3 t4:List Nat) :
    Spec (VV ⟨w,b1,b2,b3⟩) 340 (.call (.ref 121) ⟨[.ref (A tb),.str ⟨⟨[78,69,83,84]⟩⟩ u],[]⟩) (gaPre w.params tb td hl th [.ref (A h0),.ref (A h1),.ref (A h2),.ref (A h3),.ref (A h4)] 4 [hTup h0 n0 x0,(A h1,tup [.str ⟨⟨nmOf false⟩⟩ n1,.str ⟨⟨t1⟩⟩ x1]),(A h2,tup [.str ⟨⟨nmOf true⟩⟩ n2,.str ⟨⟨t2⟩⟩ x2]),(A h3,tup [.str ⟨⟨nmOf false⟩⟩ n3,.str ⟨⟨t3⟩⟩ x3]),(A h4,tup [.str ⟨⟨nmOf true⟩⟩ n4,.str ⟨⟨t4⟩⟩ x4])])
      (fun o=>⟨.ok (.ret (.ref (A (o.v 0)))),(gaPre w.params tb td hl th [.ref (A h0),.ref (A h1),.ref (A h2),.ref (A h3),.ref (A h4)] 4 [hTup h0 n0 x0,(A h1,tup [.str ⟨⟨nmOf false⟩⟩ n1,.str ⟨⟨t1⟩⟩ x1]),(A h2,tup [.str ⟨⟨nmOf true⟩⟩ n2,.str ⟨⟨t2⟩⟩ x2]),(A h3,tup [.str ⟨⟨nmOf false⟩⟩ n3,.str ⟨⟨t3⟩⟩ x3]),(A h4,tup [.str ⟨⟨nmOf true⟩⟩ n4,.str ⟨⟨t4⟩⟩ x4])]).map (·.2),[(A (o.v 0),lstO [.str ⟨⟨t1⟩⟩ x1,.str ⟨⟨t2⟩⟩ x2,.str ⟨⟨t3⟩⟩ x3,.str ⟨⟨t4⟩⟩ x4] 4)]⟩):=by
  refine spec_run [0,1,2,3,4,5,6,7] 4000 (pl_sp_ga4 w b1 b2 b3 tb) rfl fun x t => ?_
  cases b2 <;> cases b1 <;> kernel_rfl
noncomputable def k_sp_ga4:=fun a1 a2 a3 a4 a5 a6 a7 a8 a9 a10 a11 a12 a13 a14 a15 a16 a17 a18 a19 a20 a21 a22 a23 a24 a25 a26 a27 a28=>kOf (sp_ga4 a1 a2 a3 a4 a5 a6 a7 a8 a9 a10 a11 a12 a13 a14 a15 a16 a17 a18 a19 a20 a21 a22 a23 a24 a25 a26 a27 a28)
noncomputable def pl_sp_ga5 (w:World) (b1 b2 b3:Bool) (tb:Nat):Nat→Nat→PlanOk (VV ⟨w,b1,b2,b3⟩):=fun x t =>
    useQ (k_sp_conv_name w b1 b2 b3 tb [110,101,115,116] (Nat.add t 1) ok_nest) 100433631887644345457602820077811191831091961075774550867970 [] fun o1 =>
    finK (cond b2 3938098217117596370249037236738892355181742277502112493543067590963587490400093825804013782633244990293770939030169871826833326514813451919354637691485690195798098211527665238785510862839322405868622325502081590185656852828802550579163872235110952098255814543790170417323424006770188274175871939158341413726097400698655470191336866417146892504500680116603700927863538721674911703885318784077631501720006148068369260796211360622733031827596806502240048257475732771023216686892010241600443023262969427797568921460141558830611545232740806985099 17319939124178927407460272442654466413332479199408260844216818146003060119657591743651594344389672955563605622425384506184459174526989757987324516670320616491971244480007590297415475112496774590469909873261472982805576449206263850576788162841112537286073653357998020432558876634950903014756404562912438412857337689816404782738733776671504995261294544804424050767604484055473553522560082239639462732827437214589521456303536859728179779418578323661989025799495741199544496257968799612283864559643636463145334870428299165851626254456560572849909481074754955) (fun _=>Nat.add o1.x 1) [12]
theorem sp_ga5 (tb td hl th h0 h1 h2 h3 h4 h5 n0 n1 n2 n3 n4 n5 x0 x1 x2 x3 x4 x5 u:Nat) (t1 t2 t3 t4 t5:List Nat) :
    Spec (VV ⟨w,b1,b2,b3⟩) 340 (.call (.ref 121) ⟨[.ref (A tb),.str ⟨⟨[78,69,83,84]⟩⟩ u],[]⟩) (gaPre w.params tb td hl th [.ref (A h0),.ref (A h1),.ref (A h2),.ref (A h3),.ref (A h4),.ref (A h5)] 5 [hTup h0 n0 x0,(A h1,tup [.str ⟨⟨nmOf false⟩⟩ n1,.str ⟨⟨t1⟩⟩ x1]),(A h2,tup [.str ⟨⟨nmOf true⟩⟩ n2,.str ⟨⟨t2⟩⟩ x2]),(A h3,tup [.str ⟨⟨nmOf false⟩⟩ n3,.str ⟨⟨t3⟩⟩ x3]),(A h4,tup [.str ⟨⟨nmOf true⟩⟩ n4,.str ⟨⟨t4⟩⟩ x4]),(A h5,tup [.str ⟨⟨nmOf false⟩⟩ n5,.str ⟨⟨t5⟩⟩ x5])])
      (fun o=>⟨.ok (.ret (.ref (A (o.v 0)))),(gaPre w.params tb td hl th [.ref (A h0),.ref (A h1),.ref (A h2),.ref (A h3),.ref (A h4),.ref (A h5)] 5 [hTup h0 n0 x0,(A h1,tup [.str ⟨⟨nmOf false⟩⟩ n1,.str ⟨⟨t1⟩⟩ x1]),(A h2,tup [.str ⟨⟨nmOf true⟩⟩ n2,.str ⟨⟨t2⟩⟩ x2]),(A h3,tup [.str ⟨⟨nmOf false⟩⟩ n3,.str ⟨⟨t3⟩⟩ x3]),(A h4,tup [.str ⟨⟨nmOf true⟩⟩ n4,.str ⟨⟨t4⟩⟩ x4]),(A h5,tup [.str ⟨⟨nmOf false⟩⟩ n5,.str ⟨⟨t5⟩⟩ x5])]).map (·.2),[(A (o.v 0),lstO [.str ⟨⟨t1⟩⟩ x1,.str ⟨⟨t2⟩⟩ x2,.str ⟨⟨t3⟩⟩ x3,.str ⟨⟨t4⟩⟩ x4,.str ⟨⟨t5⟩⟩ x5] 5)]⟩):=by
  refine spec_run [0,1,2,3,4,5,6,7,8] 4000 (pl_sp_ga5 w b1 b2 b3 tb) rfl fun x t => ?_
  cases b2 <;> cases b1 <;> kernel_rfl
noncomputable def k_sp_ga5:=fun a1 a2 a3 a4 a5 a6 a7 a8 a9 a10 a11 a12 a13 a14 a15 a16 a17 a18 a19 a20 a21 a22 a23 a24 a25 a26 a27 a28 a29 a30 a31 a32=>kOf (sp_ga5 a1 a2 a3 a4 a5 a6 a7 a8 a9 a10 a11 a12 a13 a14 a15 a16 a17 a18 a19 a20 a21 a22 a23 a24 a25 a26 a27 a28 a29 a30 a31 a32)
end
end Mine
namespace Mine
open PySem PySem.W PySem.W.X PyProof.Rows PySem.Calls PySem.Builtin.Str
theorem r_int_modN {w:Ws} {D:Nat} (x:Int) (y n:Nat) (t u:Tok) (hy:y≠0) (h:x % Int.ofNat y=Int.ofNat n):Spec (VV w) D (.builtin "int.__mod__" ⟨[.int x t,.int (Int.ofNat y) u],[]⟩) [] (fun o=>⟨.ok (.ret (.int (Int.ofNat n) (o.v 0))),[],[]⟩):=by
  rw [← h]; exact r_int_mod x y t u hy
noncomputable def k_r_int_modN {w:Ws} {D:Nat}:=fun a1 a2 a3 a4 a5 a6 a7=>kOf (r_int_modN (w:=w) (D:=D) a1 a2 a3 a4 a5 a6 a7)
theorem r_int_mul {w:Ws} {D:Nat} (x y:Nat) (t u:Tok) (hb:decide (Builtin.Int.intBits (Int.ofNat x) > shortFactorBits)=false):Spec (VV w) D (.builtin "int.__mul__" ⟨[.int (Int.ofNat x) t,.int (Int.ofNat y) u],[]⟩) [] (fun o=>⟨.ok (.ret (.int (Int.ofNat (x*y)) (o.v 0))),[],[]⟩):=by
  refine spec_still (fun τ => .int (Int.ofNat (x*y)) τ) (by decide +kernel) (entryFor_of_tree (by kernel_rfl):entryFor table "int.__mul__" = some Builtin.«int.__mul__») fun A s R _ _ _ _ h' => ?_
  obtain ⟨hp,g,d,tk,os⟩:=s
  wp_walk
  rw [hb]
  wp_walk
  exact h' _ _
noncomputable def k_r_int_mul {w:Ws} {D:Nat}:=fun a1 a2 a3 a4 a5=>kOf (r_int_mul (w:=w) (D:=D) a1 a2 a3 a4 a5)
noncomputable def sliceO (u:Nat):Obj:=⟨.type "slice",none,.fields ⟨[.none,.int (Int.ofNat 3) u,.none]⟩,⟨[]⟩⟩
theorem r_slice3 {w:Ws} {D:Nat} (a sl:Nat) (u:Tok) (v0 v1 v2:Value) (vs:List Value) (ep:Nat) (hz:vs.length < 2^20) :
    Spec (VV w) D (.builtin "list.__getitem__" ⟨[.ref (A a),.ref (A sl)],[]⟩) [(A a,lstO (v0::v1::v2::vs) ep),(A sl,sliceO u)] (fun o=>⟨.ok (.ret (.ref (A (o.v 0)))),[lstO (v0::v1::v2::vs) ep,sliceO u],[(A (o.v 0),lstO [v0,v1,v2] 0)]⟩):=by
  refine spec_alloc (lstO [v0,v1,v2] 0) rfl (by decide +kernel) (entryFor_of_tree (by kernel_rfl):entryFor table "list.__getitem__" = some Builtin.«list.__getitem__») fun U s R hA hg hT hH hR => ?_
  have ho:s.heap.get? (A a)=some (lstO (v0::v1::v2::vs) ep):=hH _ (.head _)
  have hos:s.heap.get? (A sl)=some (sliceO u):=hH _ (.tail _ (.head _))
  have hTs:s.TypeIs (.ref (A sl)) "slice" := ⟨_,hos,rfl⟩
  have hd:(lstO (v0::v1::v2::vs) ep).data = .seq ⟨v0::v1::v2::vs⟩ ep:=rfl
  have hds:(sliceO u).data = .fields ⟨[.none,.int (Int.ofNat 3) u,.none]⟩:=rfl
  have hpick:slicePick (⟨v0::v1::v2::vs⟩:Array Value) none (some 3) none=⟨[v0,v1,v2]⟩:=by
    have e:slicePick (⟨v0::v1::v2::vs⟩:Array Value) none (some 3) none=slicePick (⟨v0::v1::v2::vs⟩:Array Value) (some ((0:Nat):Int)) (some ((3:Nat):Int)) none:=by
      have h0:max 0 (min 0 ((vs.length:Int)+1+1+1))=0:=by lia
      unfold slicePick sliceBounds
      simp [h0]
    rw [e,slicePick_run _ 0 3 (by simp) (by lia)]
    rfl
  show wpAny _ _ (Builtin.List.listSubscript? (.ref (A sl)) >>= _) _ _ s
  refine wpAny_bind ?_
  unfold Builtin.List.listSubscript?
  refine wpAny_bind (wpAny_specialOf hTs slice_no_index ?_)
  simp only [Option.isNone_none,if_true]
  refine wpAny_pure ?_
  show wpAny _ _ (typeOf (.ref (A sl)) >>= _) _ _ s
  refine wpAny_bind (wpAny_typeOf hTs ?_)
  rw [if_neg (by decide)]
  rw [listSliceParts_eq]
  refine wpAny_bind (wpAny_bind (wpAny_field hos hds (x := .none) rfl (wpAny_bind (wpAny_listPart (k:=none) .none ?_))))
  rw [if_neg (by decide)]
  refine wpAny_bind (wpAny_field hos hds (x := .none) rfl (wpAny_bind (wpAny_listPart (k:=none) .none ?_)))
  refine wpAny_bind (wpAny_field hos hds (x := .int (Int.ofNat 3) u) rfl (wpAny_bind (wpAny_listPart (k:=some 3) (.int _ _) (wpAny_pure ?_))))
  refine wpAny_bind (m:=Builtin.List.listItems (.ref (A a))) ?_
  unfold Builtin.List.listItems
  refine wpAny_bind (wpAny_seqItems ho hd (wpAny_pure ?_))
  refine wpAny_bind (wpAny_of_eq (sliceIndices_raw none (some 3) none _ (by simp)) ?_)
  refine wpAny_bind (wpAny_newObj_type (wpAny_pure ?_) ?_)
  · have:=hR s.toks
    show FinIs (VV w) U R (Fin.done (Flow.ret (Value.ref s.heap.objs.size))) { s with heap:=s.heap.push { cls := .type "list",data := .seq (slicePick (⟨v0::v1::v2::vs⟩:Array Value) none (some 3) none) } }
    rw [hpick]
    exact this
  · refine Nat.le_trans (slicePick_size_le _ none (some 3) none) ?_
    rw [sizeLine_eq]
    show (v0::v1::v2::vs).length≤_
    simp only [List.length_cons]; lia
noncomputable def k_r_slice3 {w:Ws} {D:Nat}:=fun a1 a2 a3 a4 a5 a6 a7 a8 a9=>kOf (r_slice3 (w:=w) (D:=D) a1 a2 a3 a4 a5 a6 a7 a8 a9)
noncomputable def ocOf (x:List Nat):List Nat:=(forIn (m:=Id) (List.range' 0 (x.length+1-0)) ((#[]:Array Nat),0) (StrLaws.occBody ⟨⟨x⟩⟩ ⟨⟨[44]⟩⟩ x.length (x.length+1))).run.fst.toList
noncomputable def okS (x y z:List Nat):Prop:=(ocOf (x++44::(y++44::z))).isEmpty=false∧partsBetween ⟨⟨x++44::(y++44::z)⟩⟩ (ocOf (x++44::(y++44::z))) 1=[⟨⟨x⟩⟩,⟨⟨y⟩⟩,⟨⟨z⟩⟩]
noncomputable def ownL (a b c:Nat):List Nat:=dec a++44::(dec b++44::dec c)
theorem sh0 (p q r:Nat):okS [Nat.add p 48] [Nat.add q 48] [Nat.add r 48]:=⟨by kernel_rfl,by kernel_rfl⟩
theorem sh1 (p q r:Nat):okS [Nat.add p 48] [Nat.add q 48] [49,Nat.add r 48]:=⟨by kernel_rfl,by kernel_rfl⟩
theorem sh2 (p q r:Nat):okS [Nat.add p 48] [49,Nat.add q 48] [Nat.add r 48]:=⟨by kernel_rfl,by kernel_rfl⟩
theorem sh3 (p q r:Nat):okS [Nat.add p 48] [49,Nat.add q 48] [49,Nat.add r 48]:=⟨by kernel_rfl,by kernel_rfl⟩
theorem sh4 (p q r:Nat):okS [49,Nat.add p 48] [Nat.add q 48] [Nat.add r 48]:=⟨by kernel_rfl,by kernel_rfl⟩
theorem sh5 (p q r:Nat):okS [49,Nat.add p 48] [Nat.add q 48] [49,Nat.add r 48]:=⟨by kernel_rfl,by kernel_rfl⟩
theorem sh6 (p q r:Nat):okS [49,Nat.add p 48] [49,Nat.add q 48] [Nat.add r 48]:=⟨by kernel_rfl,by kernel_rfl⟩
theorem sh7 (p q r:Nat):okS [49,Nat.add p 48] [49,Nat.add q 48] [49,Nat.add r 48]:=⟨by kernel_rfl,by kernel_rfl⟩
theorem dec_sh (m:Nat) (hm:m < 17):(∃ p,dec m=[Nat.add p 48]) ∨ ∃ p,dec m=[49,Nat.add p 48]:=by
  unfold dec
  by_cases h:m < 10
  · rw [if_pos h]; exact .inl ⟨m,by rw [show Nat.add m 48=m+48 from rfl,Nat.add_comm]⟩
  · rw [if_neg h]; exact .inr ⟨m-10,by rw [show Nat.add (m-10) 48=m-10+48 from rfl,show 38+m=m-10+48 by lia]⟩
theorem okS_all (a b c:Nat) (ha:a < 17) (hb:b < 17) (hc:c < 17):okS (dec a) (dec b) (dec c):=by
  rcases dec_sh a ha with ⟨p,e1⟩ | ⟨p,e1⟩ <;> rcases dec_sh b hb with ⟨q,e2⟩ | ⟨q,e2⟩ <;> rcases dec_sh c hc with ⟨r,e3⟩ | ⟨r,e3⟩ <;> rw [e1,e2,e3]
  · exact sh0 p q r
  · exact sh1 p q r
  · exact sh2 p q r
  · exact sh3 p q r
  · exact sh4 p q r
  · exact sh5 p q r
  · exact sh6 p q r
  · exact sh7 p q r
theorem mul_all:((List.range 17).all fun a=>decide (Builtin.Int.intBits (Int.ofNat a) > shortFactorBits) == false)=true:=by decide +kernel
theorem r_split {w:Ws} {D:Nat} (a b c:Nat) (ha:a < 17) (hb:b < 17) (hc:c < 17) (x:List Nat) (hx:x=ownL a b c) (t u:Tok) :
    Spec (VV w) D (.builtin "str.split" ⟨[.str ⟨⟨x⟩⟩ t,.str ⟨⟨[44]⟩⟩ u],[]⟩) [] (fun o=>⟨.ok (.ret (.ref (A (o.v 0)))),[],[(A (o.v 0),lstO [.str ⟨⟨dec a⟩⟩ (o.v 1),.str ⟨⟨dec b⟩⟩ (o.v 2),.str ⟨⟨dec c⟩⟩ (o.v 3)] 0)]⟩):=by
  have hlen:x.length≤16:=by
    rw [hx]; unfold ownL dec; split <;> split <;> split <;> simp
  have hl1:1≤x.length:=by
    rw [hx]; unfold ownL dec; split <;> simp
  have hk:okS (dec a) (dec b) (dec c):=okS_all a b c ha hb hc
  have e0:occurrences ⟨⟨x⟩⟩ ⟨⟨[44]⟩⟩ 0 (⟨⟨x⟩⟩:Str).length ((⟨⟨x⟩⟩:Str).length+1)=ocOf x:=StrLaws.occ_eq _ _ _ _ _
  have hf:(occurrences ⟨⟨x⟩⟩ ⟨⟨[44]⟩⟩ 0 (⟨⟨x⟩⟩:Str).length ((⟨⟨x⟩⟩:Str).length+1)).isEmpty=false:=by
    rw [e0,hx]; exact hk.1
  have hp:partsBetween ⟨⟨x⟩⟩ (occurrences ⟨⟨x⟩⟩ ⟨⟨[44]⟩⟩ 0 (⟨⟨x⟩⟩:Str).length ((⟨⟨x⟩⟩:Str).length+1)) (⟨⟨[44]⟩⟩:Str).length=[⟨⟨dec a⟩⟩,⟨⟨dec b⟩⟩,⟨⟨dec c⟩⟩]:=by
    rw [e0,hx]; exact hk.2
  have h1:(decide ((⟨⟨x⟩⟩:Str).length < (⟨⟨[44]⟩⟩:Str).length) || decide (Builtin.Str.strKind ⟨⟨x⟩⟩ < Builtin.Str.strKind ⟨⟨[44]⟩⟩))=false:=by
    have q1 : ¬ ((⟨⟨x⟩⟩:Str).length < (⟨⟨[44]⟩⟩:Str).length):=by show ¬ (x.length < 1); lia
    have q2 : ¬ (Builtin.Str.strKind ⟨⟨x⟩⟩ < Builtin.Str.strKind ⟨⟨[44]⟩⟩):=by
      have:Builtin.Str.strKind ⟨⟨[44]⟩⟩=1:=by kernel_rfl
      rw [this]; unfold Builtin.Str.strKind; repeat' split
      all_goals lia
    rw [decide_eq_false q1,decide_eq_false q2]; rfl
  refine spec_builtin (by decide +kernel) (entryFor_of_tree (by kernel_rfl):entryFor table "str.split" = some Builtin.«str.split») fun U s R hA hg hT hL hH hK hG => ?_
  have e:s.heap.objs.size-L+L=s.heap.objs.size:=Nat.sub_add_cancel hL
  refine meets_str_split_sep ⟨⟨x⟩⟩ ⟨⟨[44]⟩⟩ t u h1 (by decide) hf (by rw [sizeLine_eq]; show x.length≤_; lia) (by rw [hp,sizeLine_eq]; show 3≤16777216; decide) _ _ U _ s ?_
  have rv:(Value.ref (A (s.heap.objs.size-L))) = .ref s.heap.objs.size:=congrArg _ e
  rw [hp]
  dsimp only
  rw [← rv]
  refine hG (s.toks+3) (s.heap.objs.size-L+1) (pick [s.heap.objs.size-L,s.toks,s.toks+1,s.toks+2]) (s.heap.push (lstO [.str ⟨⟨dec a⟩⟩ s.toks,.str ⟨⟨dec b⟩⟩ (s.toks+1),.str ⟨⟨dec c⟩⟩ (s.toks+2)] 0)) (by rw [Heap.size_push]; lia) (by show _≤s.heap.objs.size-L+1+L; lia) (top_push hT) (fun b o' e' _=>Heap.get?_push_of_some _ e') (fun p hp=>(nomatch hp)) ?_ ?_ (List.nodup_cons.2 ⟨List.not_mem_nil,List.nodup_nil⟩)
  · intro p hp
    cases List.mem_singleton.mp hp
    show (s.heap.push _).get? (s.heap.objs.size-L+L)=_
    rw [e]
    exact Heap.get?_push_size _ rfl
  · intro p hp
    cases List.mem_singleton.mp hp
    show s.heap.objs.size≤s.heap.objs.size-L+L
    lia
noncomputable def k_r_split {w:Ws} {D:Nat}:=fun a1 a2 a3 a4 a5 a6 a7 a8 a9 a10=>kOf (r_split (w:=w) (D:=D) a1 a2 a3 a4 a5 a6 a7 a8 a9 a10)
end Mine
namespace Mine
open PySem PySem.W PySem.W.X
theorem sgn_ok : ∀ i,okText (sgn i)
  | 0 | 1 | 2 | 3 | 4 | 5 | 6 | 7 | 8=>by intro c hc; simp only [sgn,List.mem_cons,List.not_mem_nil,or_false] at hc; lia
  | n+9=>by intro c hc; have hc:c ∈ [47]:=hc; simp only [List.mem_cons,List.not_mem_nil,or_false] at hc; lia
theorem note_ok (n:Nat):okN (noteV n)∧((noteV n).getD []).length≤6:=by
  unfold noteV
  split
  · exact ⟨trivial,by simp⟩
  · exact ⟨⟨fun c hc=>(nomatch hc),by simp⟩,by simp⟩
  · have:=sgn_len (n / 120 % 10)
    exact ⟨⟨sgn_ok _,by lia⟩,by show (sgn _).length≤6; lia⟩
  · have h1:=sgn_len (n / 120 % 10)
    have h2:=sgn_len (n / 1200 % 10)
    refine ⟨⟨fun c hc => ?_,by simp only [List.length_append]; lia⟩,by show (sgn _++sgn _).length≤6; simp only [List.length_append]; lia⟩
    rcases List.mem_append.1 hc with h | h
    · exact sgn_ok _ c h
    · exact sgn_ok _ c h
theorem esc_ok : ∀ v:List Nat,okText v→okText (esc v)
  | [],_=>fun c hc=>(nomatch hc)
  | a::v,h=>by
    have ih:=esc_ok v fun c hc=>h c (.tail _ hc)
    have ha:=h a (.head _)
    intro c hc
    unfold esc at hc
    split at hc
    · rcases List.mem_cons.1 hc with rfl | hc
      · lia
      · rcases List.mem_cons.1 hc with rfl | hc
        · exact ha
        · exact ih c hc
    · rcases List.mem_cons.1 hc with rfl | hc
      · exact ha
      · exact ih c hc
theorem tl_ok (v:List Nat) (h:okText v):okText (tl (some v)):=by
  intro c hc
  have hc:c ∈ 61::34::(esc v++[34]):=hc
  rcases List.mem_cons.1 hc with rfl | hc
  · lia
  rcases List.mem_cons.1 hc with rfl | hc
  · lia
  rcases List.mem_append.1 hc with hc | hc
  · exact esc_ok v h c hc
  · cases List.mem_singleton.1 hc; lia
theorem row_ok (k:List Nat) (v:Option (List Nat)) (hk:okText k) (hv:okN v):okText (rowT k v):=by
  intro c hc
  rcases List.mem_append.1 hc with hc | hc
  · exact hk c hc
  · match v,hv with
    | none,_=>exact (nomatch hc)
    | some [],_=>exact (nomatch hc)
    | some (a::v),hv=>exact tl_ok _ hv.1 c hc
theorem join2 (a b:List Nat):joinL [59,32] [a,b]=a++59::32::b:=by simp [joinL]
theorem two_ok (a b:List Nat) (ha:okText a) (hb:okText b):okText (a++59::32::b):=by
  intro c hc
  rcases List.mem_append.1 hc with hc | hc
  · exact ha c hc
  rcases List.mem_cons.1 hc with rfl | hc
  · lia
  rcases List.mem_cons.1 hc with rfl | hc
  · lia
  · exact hb c hc
theorem nK_ok:okText [110,45,111]:=fun c hc=>by simp only [List.mem_cons,List.not_mem_nil,or_false] at hc; lia
theorem own_text (n:Nat):okText (ownOf n):=fun c hc=>by have:=(own_ok n).1 c hc; lia
theorem dkey_text (n:Nat):okText (dkey n):=fun c hc=>by
  have h1:=letter_is n
  have h2:=digit_is n
  unfold isLetter at h1
  unfold isDigit at h2
  simp only [dkey,List.mem_cons,List.not_mem_nil,or_false] at hc
  lia
theorem dkey_okK (n:Nat):okK (dkey n):=fun c hc=>by
  have h1:=letter_is n
  have h2:=digit_is n
  unfold isLetter at h1
  unfold isDigit at h2
  simp only [dkey,List.mem_cons,List.not_mem_nil,or_false] at hc
  rcases hc with rfl | rfl | rfl <;> lia
theorem dkey_ne (n:Nat):dkey n≠nK2:=fun h=>by
  have h2:=digit_is n
  unfold isDigit at h2
  unfold dkey nK2 at h
  simp only [List.cons.injEq,and_true] at h
  lia
theorem own_okK (n:Nat):okK (ownOf n):=fun c hc=>by have:=(own_ok n).1 c hc; lia
theorem dec_pos (m:Nat):1≤(dec m).length:=by unfold dec; split <;> simp
theorem own_ne (n:Nat):ownOf n≠[]:=fun h=>by
  have:=dec_pos (n % 17)
  have e:=congrArg List.length h
  simp only [ownOf,joinL,List.length_append,List.length_nil] at e
  lia
theorem ownL_is (n:Nat):ownOf n=ownL (n % 17) (n / 17 % 17) (n / 289 % 17):=by
  simp [ownOf,joinL,ownL]
theorem nz_ok {v:Option (List Nat)} (h:okN v):okV (nz v):=by
  match v,h with
  | none,_=>trivial
  | some [],_=>trivial
  | some (a::v),h=>exact okV_of h
theorem txA_is (own:List Nat) (note:Option (List Nat)):txA own note=wr own none++59::32::wr nK2 (nz note):=by
  unfold txA rowT wr
  rw [join2]
  simp [tl,nK2]
theorem rowT_wr (K inner:List Nat) (h:inner≠[]):rowT K (some inner)=wr K (some inner):=by
  cases inner with
  | nil=>exact absurd rfl h
  | cons a l=>rfl
theorem txD_is (K inner:List Nat) (note:Option (List Nat)) (h:inner≠[]):txD K inner note=wr K (some inner)++59::32::wr nK2 (nz note):=by
  unfold txD
  rw [join2,rowT_wr K inner h]
  rfl
theorem txR_is (K inner:List Nat) (note:Option (List Nat)) (h:inner≠[]):txR K inner note=wr nK2 (nz note)++59::32::wr K (some inner):=by
  unfold txR
  rw [join2,rowT_wr K inner h]
  rfl
theorem two_len (a b:List Nat):(a++59::32::b).length=a.length+b.length+2:=by simp only [List.length_append,List.length_cons]; lia
theorem tx_facts (ob:Bool) (n:Nat) (inner:List Nat) (hx:okText inner) (hne:inner≠[]) (hl:inner.length≤2^10):okText (txX ob (dkey n) inner (noteV n))∧(txX ob (dkey n) inner (noteV n)).length≤2*inner.length+26∧txX ob (dkey n) inner (noteV n)≠[]:=by
  obtain ⟨h1,h2⟩:=note_ok n
  have a1:=row_ok (dkey n) (some inner) (dkey_text n) ⟨hx,hl⟩
  have a2:=row_ok [110,45,111] (noteV n) nK_ok h1
  have b1:=rowT_len (dkey n) (some inner)
  have b2:=rowT_len [110,45,111] (noteV n)
  have e1:(dkey n).length=3:=rfl
  have e2:([110,45,111]:List Nat).length=3:=rfl
  have e3:(some inner).getD []=inner:=rfl
  rw [e3] at b1
  cases ob with
  | false =>
    show okText (txD _ _ _)∧(txD _ _ _).length≤_∧txD _ _ _≠[]
    unfold txD
    rw [join2]
    exact ⟨two_ok _ _ a1 a2,by rw [two_len]; lia,by simp⟩
  | true =>
    show okText (txR _ _ _)∧(txR _ _ _).length≤_∧txR _ _ _≠[]
    unfold txR
    rw [join2]
    exact ⟨two_ok _ _ a2 a1,by rw [two_len]; lia,by simp⟩
theorem tx0_facts (n:Nat):okText (txA (ownOf n) (noteV n))∧(txA (ownOf n) (noteV n)).length≤28∧txA (ownOf n) (noteV n)≠[]:=by
  obtain ⟨h1,h2⟩:=note_ok n
  have a2:=row_ok [110,45,111] (noteV n) nK_ok h1
  have b2:=rowT_len [110,45,111] (noteV n)
  have e2:([110,45,111]:List Nat).length=3:=rfl
  have o:=own_ok n
  unfold txA
  rw [join2]
  exact ⟨two_ok _ _ (own_text n) a2,by rw [two_len]; lia,by simp⟩
noncomputable def lv0 (n:Nat):LV:=⟨n,noteV n,txA (ownOf n) (noteV n),rfl,(note_ok n).1,(tx0_facts n).1,by have:=(tx0_facts n).2.1; lia,(tx0_facts n).2.2⟩
noncomputable def lvS (p:LV) (hp:p.tx.length≤2^10) (n:Nat) (ob:Bool):LV:=⟨n,noteV n,txX ob (dkey n) p.tx (noteV n),rfl,(note_ok n).1,(tx_facts ob n p.tx p.hx p.hne hp).1,by have:=(tx_facts ob n p.tx p.hx p.hne hp).2.1; lia,(tx_facts ob n p.tx p.hx p.hne hp).2.2⟩
theorem lv0_len (n:Nat):(lv0 n).tx.length≤28:=(tx0_facts n).2.1
theorem lvS_len (p:LV) (hp:p.tx.length≤2^10) (n:Nat) (ob:Bool):(lvS p hp n ob).tx.length≤2*p.tx.length+26:=(tx_facts ob n p.tx p.hx p.hne hp).2.1
section
variable (w:World) (b1 b2 b3:Bool)
theorem ckI_ok (u x t:Nat) (L:List Nat) (hL:L=[0,1,2,3,4,5,6,7,8,9,10,11,12,13,14,15,16]) :
    mapC (L.map fun m=>(m,0)) (fun p=>start (VV ⟨w,b1,b2,b3⟩) ⟨[],[],fun o=>⟨.ok (.ret (.int (Int.ofNat p.1) (o.v 0))),[],[]⟩⟩ 3000 (.fin 0 (fun _=>t) []) (.call (.type "int") ⟨[.str ⟨⟨dec p.1⟩⟩ u],[]⟩) 800 x t)
     = mapC (L.map fun m=>(m,0)) (fun p=>(start (VV ⟨w,b1,b2,b3⟩) ⟨[],[],fun o=>⟨.ok (.ret (.int (Int.ofNat p.1) (o.v 0))),[],[]⟩⟩ 3000 (.fin 0 (fun _=>t) []) (.call (.type "int") ⟨[.str ⟨⟨dec p.1⟩⟩ u],[]⟩) 800 x t).dup):=by
  subst hL
  cases b1 <;> kernel_rfl
theorem sp_int (m:Nat) (hm:m≤16) (u:Nat):Spec (VV ⟨w,b1,b2,b3⟩) 800 (.call (.type "int") ⟨[.str ⟨⟨dec m⟩⟩ u],[]⟩) [] (fun o=>⟨.ok (.ret (.int (Int.ofNat m) (o.v 0))),[],[]⟩):=by
  refine spec_of (kt_low _ _) [] rfl 3000 (fun x t => .fin 0 (fun _=>t) []) (fun x t=>trivial) fun x t => ?_
  have hmem:m ∈ [0,1,2,3,4,5,6,7,8,9,10,11,12,13,14,15,16]:=by
    simp only [List.mem_cons,List.not_mem_nil,or_false]
    lia
  exact mapC_ok (ckI_ok w b1 b2 b3 u x t _ rfl) (m,0) (List.mem_map.mpr ⟨m,hmem,rfl⟩)
noncomputable def k_sp_int:=fun a1 a2 a3 a4 a5 a6 a7=>kOf (sp_int a1 a2 a3 a4 a5 a6 a7)
variable (it sl i fr c1 c2 dl es ed ro ua ub ta tb:Nat) (vs ds:List Value) (hvs:vs[i]? = some (.ref (A ro))) (hil:it≠sl) (hds:ds.length < 2^20) (F:LF) (tx:List Nat) (tt:Nat) (ob:Bool) (K inner:List Nat) (note:Option (List Nat)) (ti tn:Nat)
    (htx:tx=txX ob K inner note) (hin:inner≠[]) (hx:okText inner) (hxl:inner.length≤2^17) (hn:okN note) (hk:okK K) (hK:K≠[]) (hKn:K≠nK2) (hz:tx.length < 2^17)
noncomputable def rdPreX (ob:Bool) (it sl i:Nat) (vs:List Value) (es:Nat) (fr:Nat) (fo:Obj) (dl:Nat) (ds:List Value) (ed:Nat) (ro ua ub:Nat) (K inner:List Nat) (note:Option (List Nat)) (ta tb ti tn:Nat):List En :=
  rdPre it sl i vs es fr fo dl ds ed ro ua ub (cond ob nK2 K) (cond ob K nK2) ta tb (cond ob (ov (nz note) tn) (.str ⟨⟨inner⟩⟩ ti)) (cond ob (.str ⟨⟨inner⟩⟩ ti) (ov (nz note) tn))
include hvs hil hds htx hin hx hxl hn hk hK hKn hz
theorem sp_rdFX:Spec (VV ⟨w,b1,b2,b3⟩) 340 (rdC fr c1 c2 it) (rdPreX ob it sl i vs es fr (lf6 w.params F (.str ⟨⟨tx⟩⟩ tt) dl) dl ds ed ro ua ub K inner note ta tb ti tn++[(279,tblO [])])
      (fun o=>⟨.go (rdC fr c1 c2 it),(rdPreX ob it sl (i+1) vs es fr (lf9 w.params F (.str ⟨⟨inner⟩⟩ (o.v 5)) dl (pick [o.v 6,o.v 7,o.v 11]) ro (o.v 0) (.str ⟨⟨K⟩⟩ (o.v 4))) dl (ds++[.str ⟨⟨K⟩⟩ (o.v 4)]) (ed+1) ro ua ub K inner note ta tb ti tn).map (·.2)++[tbl1 (o.v 1)],[(A (o.v 1),coO (fun j=>o.v (Nat.add j 20)) (o.v 8) (o.v 9) (o.v 10))]⟩):=by
  have hvi:okV (some inner):=⟨fun e he=>by have:=hx e he; lia,hxl⟩
  cases ob with
  | false=>exact sp_rdFD w b1 b2 b3 it sl i fr c1 c2 dl es ed ro ua ub ta tb vs ds hvs hil hds F tx tt K inner (nz note) ti tn (htx.trans (txD_is K inner note hin)) hK hvi (nz_ok hn) hk okK_n hz hKn
  | true=>exact sp_rdFR w b1 b2 b3 it sl i fr c1 c2 dl es ed ro ua ub ta tb vs ds hvs hil hds F tx tt K inner (nz note) ti tn (htx.trans (txR_is K inner note hin)) (by simp [nK2]) (nz_ok hn) hvi okK_n hk hz hKn
noncomputable def k_sp_rdFX:=fun a1 a2 a3 a4 a5 a6 a7 a8 a9 a10 a11 a12 a13 a14 a15 a16 a17 a18 a19 a20 a21 a22 a23 a24 a25 a26 a27 a28 a29 a30 a31 a32 a33 a34 a35 a36 a37 a38 a39 a40 a41=>kOf (sp_rdFX a1 a2 a3 a4 a5 a6 a7 a8 a9 a10 a11 a12 a13 a14 a15 a16 a17 a18 a19 a20 a21 a22 a23 a24 a25 a26 a27 a28 a29 a30 a31 a32 a33 a34 a35 a36 a37 a38 a39 a40 a41)
theorem sp_rdNX (τ:Nat→Nat) (w1 w2 w3 co:Nat) (ρ:Nat→Nat) (ro0 fo0:Nat) (k0:List Nat) (kt0:Nat):Spec (VV ⟨w,b1,b2,b3⟩) 340 (rdC fr c1 c2 it) (rdPreX ob it sl i vs es fr (lf9 w.params F (.str ⟨⟨tx⟩⟩ tt) dl ρ ro0 fo0 (.str ⟨⟨k0⟩⟩ kt0)) dl ds ed ro ua ub K inner note ta tb ti tn++[(279,tbl1 co),(A co,coO τ w1 w2 w3)])
      (fun o=>⟨.go (rdC fr c1 c2 it),(rdPreX ob it sl (i+1) vs es fr (lf9 w.params F (.str ⟨⟨inner⟩⟩ (o.v 5)) dl (pick [ρ 0,ρ 1,ρ 2]) ro (o.v 0) (.str ⟨⟨K⟩⟩ (o.v 4))) dl (ds++[.str ⟨⟨K⟩⟩ (o.v 4)]) (ed+1) ro ua ub K inner note ta tb ti tn).map (·.2)++[tbl1 co,coO τ w1 w2 w3],[]⟩):=by
  have hvi:okV (some inner):=⟨fun e he=>by have:=hx e he; lia,hxl⟩
  cases ob with
  | false=>exact sp_rdND w b1 b2 b3 it sl i fr c1 c2 dl es ed ro ua ub ta tb vs ds hvs hil hds F tx tt τ w1 w2 w3 co ρ ro0 fo0 k0 kt0 K inner (nz note) ti tn (htx.trans (txD_is K inner note hin)) hK hvi (nz_ok hn) hk okK_n hz hKn
  | true=>exact sp_rdNR w b1 b2 b3 it sl i fr c1 c2 dl es ed ro ua ub ta tb vs ds hvs hil hds F tx tt τ w1 w2 w3 co ρ ro0 fo0 k0 kt0 K inner (nz note) ti tn (htx.trans (txR_is K inner note hin)) (by simp [nK2]) (nz_ok hn) hvi okK_n hk hz hKn
noncomputable def k_sp_rdNX:=fun a1 a2 a3 a4 a5 a6 a7 a8 a9 a10 a11 a12 a13 a14 a15 a16 a17 a18 a19 a20 a21 a22 a23 a24 a25 a26 a27 a28 a29 a30 a31 a32 a33 a34 a35 a36 a37 a38 a39 a40 a41 a42 a43 a44 a45 a46 a47 a48 a49 a50 a51=>kOf (sp_rdNX a1 a2 a3 a4 a5 a6 a7 a8 a9 a10 a11 a12 a13 a14 a15 a16 a17 a18 a19 a20 a21 a22 a23 a24 a25 a26 a27 a28 a29 a30 a31 a32 a33 a34 a35 a36 a37 a38 a39 a40 a41 a42 a43 a44 a45 a46 a47 a48 a49 a50 a51)
end
noncomputable def ColSpec (w:World) (b1 b2 b3:Bool) (ks:List (List Nat)) (a b c:Nat):Prop := ∀ (l:List (List Nat × Nat)) (da pa ed ep ta tb tc:Nat),l.map (·.1)=ks →
  Spec (VV ⟨w,b1,b2,b3⟩) 330 (.call (.ref 325) ⟨[.ref (A da),.ref (A pa)],[]⟩) [(A da,lstO (strL l) ed),(A pa,lstO [.int (Int.ofNat (a*67108864)) ta,.int (Int.ofNat (b*67108864)) tb,.int (Int.ofNat (c*67108864)) tc] ep)] (fun o=>⟨.ok (.ret (.bool true)),[o.ob 0,o.ob 1],[]⟩)
section
variable (w:World) (b1 b2 b3:Bool)
noncomputable def pl_sp_law0 (w:World) (b1 b2 b3:Bool) (l0 l1 l2:LV) (hn1:l1.n=1290) (hn2:l2.n=12012) (hx0:l0.n=4797) (own:List Nat) (hown:own=ownOf l0.n) (ht0:l0.tx=txA own l0.note) (K1:List Nat) (K2:List Nat) (c1 d1:Nat) (hc1:c1=letterOf l1.n) (hd1:d1=digitOf l1.n) (hK1:K1=[c1,45,d1]) (ht1:l1.tx=txX false K1 l0.tx l1.note) (hk1:okK K1) (hKe1:K1≠[]) (hKn1:K1≠nK2) (hz1:l1.tx.length < 2^17) (c2 d2:Nat) (hc2:c2=letterOf l2.n) (hd2:d2=digitOf l2.n) (hK2:K2=[c2,45,d2]) (ht2:l2.tx=txX true K2 l1.tx l2.note) (hk2:okK K2) (hKe2:K2≠[]) (hKn2:K2≠nK2) (hz2:l2.tx.length < 2^17) (pa pb pc:Nat) (hpa:pa < 17) (hpb:pb < 17) (hpc:pc < 17) (how:own=ownL pa pb pc) (hok:okK own) (hoe:own≠[]) (hz0:l0.tx.length < 2^17) (hcol:ColSpec w b1 b2 b3 [K1,K2] pa pb pc) (sa ep:Nat):Nat→Nat→PlanOk (VV ⟨w,b1,b2,b3⟩):=by
  have hb0:=fun (m:Nat) (hm:m < 17)=>eq_of_beq (List.all_eq_true.1 mul_all m (List.mem_range.2 hm))
  have hw0:l0.tx=wr own none++59::32::wr nK2 (nz l0.note):=ht0.trans (txA_is own l0.note)
  have NE:=fun q0 q1 q2 tb td hl th h0 nu en=>sp_nest3 w b1 b2 b3 l0 l1 l2 hn1 hn2 q0 q1 q2 own hown ht0 K1 K2 c1 d1 hc1 hd1 hK1 ht1 c2 d2 hc2 hd2 hK2 ht2 tb td hl th h0 nu en
  rw [hx0] at NE
  exact fun x t =>
    useQ (k_sp_conv_name w b1 b2 b3 (Nat.add x 22) [110,101,115,116,115] (Nat.add t 9) (fun c h=>by simp only [List.mem_cons,List.not_mem_nil,or_false] at h; lia)) (cond b2 2183915871625819874761724711005108286974343076929623869611456665625736591589266304291361650928151586012439974048873612751907234039940436133870012835279905196522285804612420250183183555228191227437004558667565459145819174257888559316931826924781192187936844077453032284217898432944161607706987850530396780532222597578076263804803701624230469771440586043826408821132524866048428018374640439348253726106610921897419923894229621867352604251532053959751000916424535867115408131662589329338025696168644994155366173087936754198560530418320326658 9604963579748588248359345588553719174649227577852668532287666796322555941669281220163771131950058606237655795407872893344573574991218822126539144235650486092844718557158800312263589251962973326413857259192429550561809867332972986653468974800350691740753337370738754188030003924321098853622061433546127796520535583528966512266752436404031435607095205750075851353999470573142813789316267789066057019738148166600528732062233793571559306609418987164505957621052836660469432097979682074815515077691530539180706767981600635424204572642162575634826499506178) [] fun o1 =>
    useQ (k_sp_conv_text w b1 b2 b3 (Nat.add x 22) [120] (Nat.add t 10) (fun c h=>by simp only [List.mem_cons,List.not_mem_nil,or_false] at h; lia)) 85206572927033748321383855365321395354 [] fun o2 =>
    useK (NE (Nat.add t 3) (Nat.add t 5) (Nat.add t 6) (Nat.add x 22) (Nat.add x 21) (Nat.add x 20) (Nat.add t 15) (Nat.add x 19) (Nat.add x 18) 0) 85086290322753548963727101395436834176 [24,23,22,20] fun o3 =>
    useQ (k_r_list_ne (D:=900) (A (Nat.add o3.x 6)) (A (Nat.add o3.x 18)) [.ref (A (Nat.add x 19)),.ref (A (o3.v 10)),.ref (A (o3.v 20)),.ref (A (o3.v 30))] [.ref (A (Nat.add o3.x 7)),.ref (A (Nat.add o3.x 13)),.ref (A (Nat.add o3.x 14)),.ref (A (Nat.add o3.x 15))] 0 0 [(A (Nat.add o3.x 6),lstO [.ref (A (Nat.add x 19)),.ref (A (o3.v 10)),.ref (A (o3.v 20)),.ref (A (o3.v 30))] 0),(A (Nat.add o3.x 18),lstO [.ref (A (Nat.add o3.x 7)),.ref (A (Nat.add o3.x 13)),.ref (A (Nat.add o3.x 14)),.ref (A (Nat.add o3.x 15))] 0),((A (Nat.add x 19)),tup [.str ⟨⟨[110,101,115,116,115]⟩⟩ (Nat.add t 9),.str ⟨⟨[120]⟩⟩ (Nat.add t 10)]),((A (o3.v 10)),tup [.str ⟨⟨(nmOf false)⟩⟩ (o3.v 14),.str ⟨⟨l0.tx⟩⟩ (o3.v 15)]),((A (o3.v 20)),tup [.str ⟨⟨(nmOf true)⟩⟩ (o3.v 24),.str ⟨⟨l1.tx⟩⟩ (o3.v 25)]),((A (o3.v 30)),tup [.str ⟨⟨(nmOf false)⟩⟩ (o3.v 34),.str ⟨⟨l2.tx⟩⟩ (o3.v 35)]),((A (Nat.add o3.x 7)),tup [.str ⟨⟨[110,101,115,116,115]⟩⟩ (Nat.add o3.t 8),.str ⟨⟨[120]⟩⟩ (Nat.add o3.t 9)]),((A (Nat.add o3.x 13)),tup [.str ⟨⟨(nmOf false)⟩⟩ (Nat.add o3.t 1),.str ⟨⟨l0.tx⟩⟩ (o3.v 19)]),((A (Nat.add o3.x 14)),tup [.str ⟨⟨(nmOf true)⟩⟩ (Nat.add o3.t 2),.str ⟨⟨l1.tx⟩⟩ (o3.v 29)]),((A (Nat.add o3.x 15)),tup [.str ⟨⟨(nmOf false)⟩⟩ (Nat.add o3.t 3),.str ⟨⟨l2.tx⟩⟩ (o3.v 39)])] (by decide) (.head _) (.tail _ (.head _)) (.cons (.tup (.tail _ (.tail _ (.head _))) (.tail _ (.tail _ (.tail _ (.tail _ (.tail _ (.tail _ (.head _))))))) (.cons (.str _ _ _) (.cons (.str _ _ _) .nil))) (.cons (.tup (.tail _ (.tail _ (.tail _ (.head _)))) (.tail _ (.tail _ (.tail _ (.tail _ (.tail _ (.tail _ (.tail _ (.head _)))))))) (.cons (.str _ _ _) (.cons (.str _ _ _) .nil))) (.cons (.tup (.tail _ (.tail _ (.tail _ (.tail _ (.head _))))) (.tail _ (.tail _ (.tail _ (.tail _ (.tail _ (.tail _ (.tail _ (.tail _ (.head _))))))))) (.cons (.str _ _ _) (.cons (.str _ _ _) .nil))) (.cons (.tup (.tail _ (.tail _ (.tail _ (.tail _ (.tail _ (.head _)))))) (.tail _ (.tail _ (.tail _ (.tail _ (.tail _ (.tail _ (.tail _ (.tail _ (.tail _ (.head _)))))))))) (.cons (.str _ _ _) (.cons (.str _ _ _) .nil))) .nil))))) (cond b2 223404221823355064096629503050464958610083882306241651268044549434102470612125086668180796536026801199665039828600659272586438678864823153082142762518683630287982639233582137675286039799426087822556253457753209339860263911913946362704619828850800692776804780374847251320452023809564967476746478555966836255644701415782469103675042762896287578056741590581681897652143991824092694916851131888900914940232415269850907660386173613350511125673016502065851539722619334335145624803533330128919178021370198120497302504621596206576780961229521710872708487267766433 982542158356110837033991679416810736460087183689749451642151188163098028433283428660226175935964361658424230111618331668273053141845874531646878481019740959802819069259777829115005960585102793489513430754649038595831380696677810579573244183579961588623892438104505922986838280395873144115128080292589613430610668396090072313973427754440895801508151458391343882844393983768896413335445769794233682654449515074848184333038379602212276785659841059642549671661955160234895046884363206128058774590416515629064387769416609922775614003085002996283097220149450998516334219425) [53,65,21,35,39,43,54,60,61,62] fun o4 =>
    useQ (k_sp_ga3 w b1 b2 b3 (Nat.add x 22) (Nat.add x 21) (Nat.add x 20) (Nat.add t 15) (Nat.add x 19) (o3.v 10) (o3.v 20) (o3.v 30) (Nat.add t 9) (o3.v 14) (o3.v 24) (o3.v 34) (Nat.add t 10) (o3.v 15) (o3.v 25) (o3.v 35) (Nat.add o4.t 0) l0.tx l1.tx l2.tx) 665595476369684873650314132959792259 [24,23,22,21,35,39,43] fun o5 =>
    useQ (k_r_list_ne (D:=900) (A (o5.v 0)) (A (o3.v 1)) [.str ⟨⟨l0.tx⟩⟩ (o3.v 15),.str ⟨⟨l1.tx⟩⟩ (o3.v 25),.str ⟨⟨l2.tx⟩⟩ (o3.v 35)] [.str ⟨⟨l0.tx⟩⟩ (o3.v 19),.str ⟨⟨l1.tx⟩⟩ (o3.v 29),.str ⟨⟨l2.tx⟩⟩ (o3.v 39)] 3 3 [(A (o5.v 0),lstO [.str ⟨⟨l0.tx⟩⟩ (o3.v 15),.str ⟨⟨l1.tx⟩⟩ (o3.v 25),.str ⟨⟨l2.tx⟩⟩ (o3.v 35)] 3),(A (o3.v 1),lstO [.str ⟨⟨l0.tx⟩⟩ (o3.v 19),.str ⟨⟨l1.tx⟩⟩ (o3.v 29),.str ⟨⟨l2.tx⟩⟩ (o3.v 39)] 3)] (by decide) (.head _) (.tail _ (.head _)) (.cons (.base (.str _ _ _)) (.cons (.base (.str _ _ _)) (.cons (.base (.str _ _ _)) .nil)))) 6700290056580 [66,33] fun o6 =>
    useQ (k_sp_ga3 w b1 b2 b3 (Nat.add x 22) (Nat.add x 21) (Nat.add x 20) (Nat.add t 15) (Nat.add x 19) (o3.v 10) (o3.v 20) (o3.v 30) (Nat.add t 9) (o3.v 14) (o3.v 24) (o3.v 34) (Nat.add t 10) (o3.v 15) (o3.v 25) (o3.v 35) (Nat.add o6.t 0) l0.tx l1.tx l2.tx) 665595476369684873650314132959792259 [24,23,22,21,35,39,43] fun o7 =>
    useQ (k_sp_rdFX w b1 b2 b3 (Nat.add o7.x 3) (Nat.add o7.x 2) 0 (Nat.add x 0) (Nat.add x 2) (Nat.add x 1) (Nat.add o7.x 0) 0 0 (o3.v 31) (o3.v 32) (o3.v 33) (o3.v 36) (o3.v 37) [.ref (A (o3.v 31)),.ref (A (o3.v 21))] [] rfl (Ne.symm (tk_ne o7.x 2 3 (by decide))) (by simp) ⟨pick [(Nat.add t 0),(Nat.add t 2),(Nat.add o2.t 0),(Nat.add o3.t 0),(Nat.add o7.t 2),(Nat.add o7.t 3)],.ref (A sa),.ref (A (Nat.add x 18)),.ref (A (Nat.add x 22)),.ref (A (o3.v 2))⟩ l2.tx (o3.v 35) true K2 l1.tx l2.note (o3.v 29) (o3.v 38) ht2 l1.hne l1.hx l1.hxl l2.hn hk2 hKe2 hKn2 hz2) 88344267512879719087624513203319983317678676298753432001915807627272585216 [71,70,2,68,44,45,46,1] fun o8 =>
    useQ (k_sp_rdNX w b1 b2 b3 (Nat.add o7.x 3) (Nat.add o7.x 2) 1 (Nat.add x 0) (Nat.add x 2) (Nat.add x 1) (Nat.add o7.x 0) 0 1 (o3.v 21) (o3.v 22) (o3.v 23) (o3.v 26) (o3.v 27) [.ref (A (o3.v 31)),.ref (A (o3.v 21))] [.str ⟨⟨K2⟩⟩ (o8.v 4)] rfl (Ne.symm (tk_ne o7.x 2 3 (by decide))) (by simp) ⟨pick [(Nat.add t 0),(Nat.add t 2),(Nat.add o2.t 0),(Nat.add o3.t 0),(Nat.add o7.t 2),(Nat.add o7.t 3)],.ref (A sa),.ref (A (Nat.add x 18)),.ref (A (Nat.add x 22)),.ref (A (o3.v 2))⟩ l1.tx (o8.v 5) false K1 l0.tx l1.note (o3.v 19) (o3.v 28) ht1 l0.hne l0.hx l0.hxl l1.hn hk1 hKe1 hKn1 hz1 (fun j=>o8.v (Nat.add j 20)) (o8.v 8) (o8.v 9) (o8.v 10) (o8.v 1) (pick [o8.v 6,o8.v 7,o8.v 11]) (o3.v 31) (o8.v 0) K2 (o8.v 4)) 1 [71,70,2,68,40,41,42,1,72] fun o9 =>
    useQ (k_sp_paramsN w b1 b2 b3 (fun j=>o8.v (Nat.add j 20)) (o8.v 8) (o8.v 9) (o8.v 10) (o8.v 1) l0.tx own nK2 none (nz l0.note) (o9.v 5) hw0 hoe trivial (nz_ok l0.hn) hok okK_n hz0) 40572246936752735905354113623040 [1,72] fun o10 =>
    useQ (k_r_list_ne (D:=900) (A (o10.v 0)) (A (o3.v 11)) [.ref (A (o10.v 2)),.ref (A (o10.v 3))] [.ref (A (o3.v 12)),.ref (A (o3.v 13))] 2 2
        [(A (o10.v 0),lstO [.ref (A (o10.v 2)),.ref (A (o10.v 3))] 2),(A (o3.v 11),lstO [.ref (A (o3.v 12)),.ref (A (o3.v 13))] 2),(A (o10.v 2),tup [.str ⟨⟨own⟩⟩ (o10.v 4),.none]),(A (o10.v 3),tup [.str ⟨⟨nK2⟩⟩ (o10.v 6),ov (nz l0.note) (o10.v 7)]),(A (o3.v 12),tup [.str ⟨⟨own⟩⟩ (o3.v 16),.none]),(A (o3.v 13),tup [.str ⟨⟨nK2⟩⟩ (o3.v 17),ov (nz l0.note) (o3.v 18)])]
        (by decide) (.head _) (.tail _ (.head _)) (.cons (.tup (.tail _ (.tail _ (.head _))) (.tail _ (.tail _ (.tail _ (.tail _ (.head _))))) (.cons (.str _ _ _) (.cons (.same _) .nil))) (.cons (.tup (.tail _ (.tail _ (.tail _ (.head _)))) (.tail _ (.tail _ (.tail _ (.tail _ (.tail _ (.head _)))))) (.cons (.str _ _ _) (.cons (EqB.ov _ _ _) .nil))) .nil))) 8275412012386056637867756120752515 [75,36,76,77,37,38] fun o11 =>
    useQ (k_r_split (D:=900) pa pb pc hpa hpb hpc own how (o10.v 4) (Nat.add o11.t 4)) 3450999884980060689804278550752920891468201463492612001945332194738560 [] fun o12 =>
    useQ (k_sp_int w b1 b2 b3 pa (by lia) (o12.v 1)) (cond b2 37822071058894338542826660876931064986672834769 166343227663297816536056631156022417298604565252501544118481) [] fun o13 =>
    useQ (k_r_int_mul (D:=900) pa 67108864 (o13.v 0) (Nat.add o13.t 2) (hb0 pa hpa)) 2097152 [] fun o14 =>
    useQ (k_sp_int w b1 b2 b3 pb (by lia) (o12.v 2)) 295484930147612019865833288101026797507848576 [] fun o15 =>
    useQ (k_r_int_mul (D:=900) pb 67108864 (o15.v 0) (Nat.add o15.t 2) (hb0 pb hpb)) 2097152 [] fun o16 =>
    useQ (k_sp_int w b1 b2 b3 pc (by lia) (o12.v 3)) 295484930147612019865833288101026797507848576 [] fun o17 =>
    useQ (k_r_int_mul (D:=900) pc 67108864 (o17.v 0) (Nat.add o17.t 2) (hb0 pc hpc)) 2097152 [] fun o18 =>
    useK (hcol [(K1,o9.v 4),(K2,o8.v 4)] (Nat.add o11.x 1) (Nat.add o12.x 1) 0 3 (o14.v 0) (o16.v 0) (o18.v 0) rfl) 179327842797699664387362704238216552344725888 [79,82] fun o19 =>
    finK 0 (fun _=>o8.v 1) []
theorem sp_law0 (l0 l1 l2:LV) (hn1:l1.n=1290) (hn2:l2.n=12012) (hx0:l0.n=4797) (own:List Nat) (hown:own=ownOf l0.n) (ht0:l0.tx=txA own l0.note) (K1:List Nat) (K2:List Nat) (c1 d1:Nat) (hc1:c1=letterOf l1.n) (hd1:d1=digitOf l1.n) (hK1:K1=[c1,45,d1]) (ht1:l1.tx=txX false K1 l0.tx l1.note) (hk1:okK K1) (hKe1:K1≠[]) (hKn1:K1≠nK2) (hz1:l1.tx.length < 2^17) (c2 d2:Nat) (hc2:c2=letterOf l2.n) (hd2:d2=digitOf l2.n) (hK2:K2=[c2,45,d2]) (ht2:l2.tx=txX true K2 l1.tx l2.note) (hk2:okK K2) (hKe2:K2≠[]) (hKn2:K2≠nK2) (hz2:l2.tx.length < 2^17)
    (pa pb pc:Nat) (hpa:pa < 17) (hpb:pb < 17) (hpc:pc < 17) (how:own=ownL pa pb pc) (hok:okK own) (hoe:own≠[]) (hz0:l0.tx.length < 2^17) (hcol:ColSpec w b1 b2 b3 [K1,K2] pa pb pc) (sa ep:Nat) :
    Spec (VV ⟨w,b1,b2,b3⟩) 301 (.call (.ref 330) ⟨[.ref (A sa)],[]⟩) [(A sa,lstO [] ep),(279,tblO [])] (fun o=>⟨.ok (.ret (.bool true)),[lstO [] ep,tbl1 (o.v 0)],[]⟩):=by
  refine spec_run [0,1] 6000 (pl_sp_law0 w b1 b2 b3 l0 l1 l2 hn1 hn2 hx0 own hown ht0 K1 K2 c1 d1 hc1 hd1 hK1 ht1 hk1 hKe1 hKn1 hz1 c2 d2 hc2 hd2 hK2 ht2 hk2 hKe2 hKn2 hz2 pa pb pc hpa hpb hpc how hok hoe hz0 hcol sa ep) rfl fun x t => ?_
  cases b2 <;> cases b1 <;> kernel_rfl
noncomputable def pl_sp_law1 (w:World) (b1 b2 b3:Bool) (l0 l1 l2:LV) (hn1:l1.n=1290) (hn2:l2.n=12012) (x0:Int) (t0:Nat) (hx0:x0 % Int.ofNat 1000000=Int.ofNat l0.n) (own:List Nat) (hown:own=ownOf l0.n) (ht0:l0.tx=txA own l0.note) (K1:List Nat) (K2:List Nat) (c1 d1:Nat) (hc1:c1=letterOf l1.n) (hd1:d1=digitOf l1.n) (hK1:K1=[c1,45,d1]) (ht1:l1.tx=txX false K1 l0.tx l1.note) (hk1:okK K1) (hKe1:K1≠[]) (hKn1:K1≠nK2) (hz1:l1.tx.length < 2^17) (c2 d2:Nat) (hc2:c2=letterOf l2.n) (hd2:d2=digitOf l2.n) (hK2:K2=[c2,45,d2]) (ht2:l2.tx=txX true K2 l1.tx l2.note) (hk2:okK K2) (hKe2:K2≠[]) (hKn2:K2≠nK2) (hz2:l2.tx.length < 2^17) (pa pb pc:Nat) (hpa:pa < 17) (hpb:pb < 17) (hpc:pc < 17) (how:own=ownL pa pb pc) (hok:okK own) (hoe:own≠[]) (hz0:l0.tx.length < 2^17) (hcol:ColSpec w b1 b2 b3 [K1,K2] pa pb pc) (sa ep:Nat):Nat→Nat→PlanOk (VV ⟨w,b1,b2,b3⟩):=by
  have hb0:=fun (m:Nat) (hm:m < 17)=>eq_of_beq (List.all_eq_true.1 mul_all m (List.mem_range.2 hm))
  have hw0:l0.tx=wr own none++59::32::wr nK2 (nz l0.note):=ht0.trans (txA_is own l0.note)
  have NE:=fun q0 q1 q2 tb td hl th h0 nu en=>sp_nest3 w b1 b2 b3 l0 l1 l2 hn1 hn2 q0 q1 q2 own hown ht0 K1 K2 c1 d1 hc1 hd1 hK1 ht1 c2 d2 hc2 hd2 hK2 ht2 tb td hl th h0 nu en
  exact fun x t =>
    useQ (k_r_int_modN (D:=900) x0 1000000 l0.n t0 (Nat.add t 5) (by decide) hx0) (cond b2 31828688325273531953737112984567050639144252169548128060214496670737919188636981465759746 139984051641985873915608970496176575331378449067138963831539682932837760352149747685871895655980515330) [] fun o1 =>
    useQ (k_sp_conv_name w b1 b2 b3 (Nat.add o1.x 14) [110,101,115,116,115] (Nat.add o1.t 7) (fun c h=>by simp only [List.mem_cons,List.not_mem_nil,or_false] at h; lia)) 25671807697672833165926815547542576125600738678744011055979227546044414363316989341885641452892249940293124447914146119596957345601420639123023227765621359024970790797262346386468958573951197299300838173432806289026121932822045986052132522864088639115076153223389328157372432431006930296908688465273924079131284255204657228995588092454646275434357823843554697761151048271783527790312716760791766301258492618139070129511809546603096854382064524360113934277515038923013778377834293445189506971406959744 [] fun o2 =>
    useQ (k_sp_conv_text w b1 b2 b3 (Nat.add o1.x 14) [120] (Nat.add o1.t 8) (fun c h=>by simp only [List.mem_cons,List.not_mem_nil,or_false] at h; lia)) 85206572927033748321383855365321395354 [] fun o3 =>
    useK (NE (o1.v 0) (Nat.add o1.t 3) (Nat.add o1.t 4) (Nat.add o1.x 14) (Nat.add o1.x 13) (Nat.add o1.x 12) (Nat.add o1.t 13) (Nat.add o1.x 11) (Nat.add o1.x 10) 0) 85086290322753548963727101395436834176 [24,23,22,20] fun o4 =>
    useQ (k_r_list_ne (D:=900) (A (Nat.add o4.x 6)) (A (Nat.add o4.x 18)) [.ref (A (Nat.add o1.x 11)),.ref (A (o4.v 10)),.ref (A (o4.v 20)),.ref (A (o4.v 30))] [.ref (A (Nat.add o4.x 7)),.ref (A (Nat.add o4.x 13)),.ref (A (Nat.add o4.x 14)),.ref (A (Nat.add o4.x 15))] 0 0 [(A (Nat.add o4.x 6),lstO [.ref (A (Nat.add o1.x 11)),.ref (A (o4.v 10)),.ref (A (o4.v 20)),.ref (A (o4.v 30))] 0),(A (Nat.add o4.x 18),lstO [.ref (A (Nat.add o4.x 7)),.ref (A (Nat.add o4.x 13)),.ref (A (Nat.add o4.x 14)),.ref (A (Nat.add o4.x 15))] 0),((A (Nat.add o1.x 11)),tup [.str ⟨⟨[110,101,115,116,115]⟩⟩ (Nat.add o1.t 7),.str ⟨⟨[120]⟩⟩ (Nat.add o1.t 8)]),((A (o4.v 10)),tup [.str ⟨⟨(nmOf false)⟩⟩ (o4.v 14),.str ⟨⟨l0.tx⟩⟩ (o4.v 15)]),((A (o4.v 20)),tup [.str ⟨⟨(nmOf true)⟩⟩ (o4.v 24),.str ⟨⟨l1.tx⟩⟩ (o4.v 25)]),((A (o4.v 30)),tup [.str ⟨⟨(nmOf false)⟩⟩ (o4.v 34),.str ⟨⟨l2.tx⟩⟩ (o4.v 35)]),((A (Nat.add o4.x 7)),tup [.str ⟨⟨[110,101,115,116,115]⟩⟩ (Nat.add o4.t 8),.str ⟨⟨[120]⟩⟩ (Nat.add o4.t 9)]),((A (Nat.add o4.x 13)),tup [.str ⟨⟨(nmOf false)⟩⟩ (Nat.add o4.t 1),.str ⟨⟨l0.tx⟩⟩ (o4.v 19)]),((A (Nat.add o4.x 14)),tup [.str ⟨⟨(nmOf true)⟩⟩ (Nat.add o4.t 2),.str ⟨⟨l1.tx⟩⟩ (o4.v 29)]),((A (Nat.add o4.x 15)),tup [.str ⟨⟨(nmOf false)⟩⟩ (Nat.add o4.t 3),.str ⟨⟨l2.tx⟩⟩ (o4.v 39)])] (by decide) (.head _) (.tail _ (.head _)) (.cons (.tup (.tail _ (.tail _ (.head _))) (.tail _ (.tail _ (.tail _ (.tail _ (.tail _ (.tail _ (.head _))))))) (.cons (.str _ _ _) (.cons (.str _ _ _) .nil))) (.cons (.tup (.tail _ (.tail _ (.tail _ (.head _)))) (.tail _ (.tail _ (.tail _ (.tail _ (.tail _ (.tail _ (.tail _ (.head _)))))))) (.cons (.str _ _ _) (.cons (.str _ _ _) .nil))) (.cons (.tup (.tail _ (.tail _ (.tail _ (.tail _ (.head _))))) (.tail _ (.tail _ (.tail _ (.tail _ (.tail _ (.tail _ (.tail _ (.tail _ (.head _))))))))) (.cons (.str _ _ _) (.cons (.str _ _ _) .nil))) (.cons (.tup (.tail _ (.tail _ (.tail _ (.tail _ (.tail _ (.head _)))))) (.tail _ (.tail _ (.tail _ (.tail _ (.tail _ (.tail _ (.tail _ (.tail _ (.tail _ (.head _)))))))))) (.cons (.str _ _ _) (.cons (.str _ _ _) .nil))) .nil))))) (cond b2 223404221823355064096629503050464958610083882306241651268044549434102470612125086668180796536026801199665039828600659272586438678864823153082142762518683630287982639233582137675286039799426087822556253457753209339860263911913946362704619828850800692776804780374847251320452023809564967476746478555966836255644701415782469103675042762896287578056741590581681897652143991824092694916851131888900914940232415269850907660386173613350511125673016502065851539722619334335145624803533330128919178021370198120497302504621596206576780961229521710872708487267766433 982542158356110837033991679416810736460087183689749451642151188163098028433283428660226175935964361658424230111618331668273053141845874531646878481019740959802819069259777829115005960585102793489513430754649038595831380696677810579573244183579961588623892438104505922986838280395873144115128080292589613430610668396090072313973427754440895801508151458391343882844393983768896413335445769794233682654449515074848184333038379602212276785659841059642549671661955160234895046884363206128058774590416515629064387769416609922775614003085002996283097220149450998516334219425) [53,65,21,35,39,43,54,60,61,62] fun o5 =>
    useQ (k_sp_ga3 w b1 b2 b3 (Nat.add o1.x 14) (Nat.add o1.x 13) (Nat.add o1.x 12) (Nat.add o1.t 13) (Nat.add o1.x 11) (o4.v 10) (o4.v 20) (o4.v 30) (Nat.add o1.t 7) (o4.v 14) (o4.v 24) (o4.v 34) (Nat.add o1.t 8) (o4.v 15) (o4.v 25) (o4.v 35) (Nat.add o5.t 0) l0.tx l1.tx l2.tx) 665595476369684873650314132959792259 [24,23,22,21,35,39,43] fun o6 =>
    useQ (k_r_list_ne (D:=900) (A (o6.v 0)) (A (o4.v 1)) [.str ⟨⟨l0.tx⟩⟩ (o4.v 15),.str ⟨⟨l1.tx⟩⟩ (o4.v 25),.str ⟨⟨l2.tx⟩⟩ (o4.v 35)] [.str ⟨⟨l0.tx⟩⟩ (o4.v 19),.str ⟨⟨l1.tx⟩⟩ (o4.v 29),.str ⟨⟨l2.tx⟩⟩ (o4.v 39)] 3 3 [(A (o6.v 0),lstO [.str ⟨⟨l0.tx⟩⟩ (o4.v 15),.str ⟨⟨l1.tx⟩⟩ (o4.v 25),.str ⟨⟨l2.tx⟩⟩ (o4.v 35)] 3),(A (o4.v 1),lstO [.str ⟨⟨l0.tx⟩⟩ (o4.v 19),.str ⟨⟨l1.tx⟩⟩ (o4.v 29),.str ⟨⟨l2.tx⟩⟩ (o4.v 39)] 3)] (by decide) (.head _) (.tail _ (.head _)) (.cons (.base (.str _ _ _)) (.cons (.base (.str _ _ _)) (.cons (.base (.str _ _ _)) .nil)))) 6700290056580 [66,33] fun o7 =>
    useQ (k_sp_ga3 w b1 b2 b3 (Nat.add o1.x 14) (Nat.add o1.x 13) (Nat.add o1.x 12) (Nat.add o1.t 13) (Nat.add o1.x 11) (o4.v 10) (o4.v 20) (o4.v 30) (Nat.add o1.t 7) (o4.v 14) (o4.v 24) (o4.v 34) (Nat.add o1.t 8) (o4.v 15) (o4.v 25) (o4.v 35) (Nat.add o7.t 0) l0.tx l1.tx l2.tx) 665595476369684873650314132959792259 [24,23,22,21,35,39,43] fun o8 =>
    useQ (k_sp_rdFX w b1 b2 b3 (Nat.add o8.x 3) (Nat.add o8.x 2) 0 (Nat.add x 0) (Nat.add x 2) (Nat.add x 1) (Nat.add o8.x 0) 0 0 (o4.v 31) (o4.v 32) (o4.v 33) (o4.v 36) (o4.v 37) [.ref (A (o4.v 31)),.ref (A (o4.v 21))] [] rfl (Ne.symm (tk_ne o8.x 2 3 (by decide))) (by simp) ⟨pick [(Nat.add t 0),(Nat.add o1.t 0),(Nat.add o3.t 0),(Nat.add o4.t 0),(Nat.add o8.t 2),(Nat.add o8.t 3)],.ref (A sa),.ref (A (Nat.add o1.x 10)),.ref (A (Nat.add o1.x 14)),.ref (A (o4.v 2))⟩ l2.tx (o4.v 35) true K2 l1.tx l2.note (o4.v 29) (o4.v 38) ht2 l1.hne l1.hx l1.hxl l2.hn hk2 hKe2 hKn2 hz2) 88344267512879719087624513203319983317678676298753432001915807627272585216 [71,70,2,68,44,45,46,1] fun o9 =>
    useQ (k_sp_rdNX w b1 b2 b3 (Nat.add o8.x 3) (Nat.add o8.x 2) 1 (Nat.add x 0) (Nat.add x 2) (Nat.add x 1) (Nat.add o8.x 0) 0 1 (o4.v 21) (o4.v 22) (o4.v 23) (o4.v 26) (o4.v 27) [.ref (A (o4.v 31)),.ref (A (o4.v 21))] [.str ⟨⟨K2⟩⟩ (o9.v 4)] rfl (Ne.symm (tk_ne o8.x 2 3 (by decide))) (by simp) ⟨pick [(Nat.add t 0),(Nat.add o1.t 0),(Nat.add o3.t 0),(Nat.add o4.t 0),(Nat.add o8.t 2),(Nat.add o8.t 3)],.ref (A sa),.ref (A (Nat.add o1.x 10)),.ref (A (Nat.add o1.x 14)),.ref (A (o4.v 2))⟩ l1.tx (o9.v 5) false K1 l0.tx l1.note (o4.v 19) (o4.v 28) ht1 l0.hne l0.hx l0.hxl l1.hn hk1 hKe1 hKn1 hz1 (fun j=>o9.v (Nat.add j 20)) (o9.v 8) (o9.v 9) (o9.v 10) (o9.v 1) (pick [o9.v 6,o9.v 7,o9.v 11]) (o4.v 31) (o9.v 0) K2 (o9.v 4)) 1 [71,70,2,68,40,41,42,1,72] fun o10 =>
    useQ (k_sp_paramsN w b1 b2 b3 (fun j=>o9.v (Nat.add j 20)) (o9.v 8) (o9.v 9) (o9.v 10) (o9.v 1) l0.tx own nK2 none (nz l0.note) (o10.v 5) hw0 hoe trivial (nz_ok l0.hn) hok okK_n hz0) 40572246936752735905354113623040 [1,72] fun o11 =>
    useQ (k_r_list_ne (D:=900) (A (o11.v 0)) (A (o4.v 11)) [.ref (A (o11.v 2)),.ref (A (o11.v 3))] [.ref (A (o4.v 12)),.ref (A (o4.v 13))] 2 2
        [(A (o11.v 0),lstO [.ref (A (o11.v 2)),.ref (A (o11.v 3))] 2),(A (o4.v 11),lstO [.ref (A (o4.v 12)),.ref (A (o4.v 13))] 2),(A (o11.v 2),tup [.str ⟨⟨own⟩⟩ (o11.v 4),.none]),(A (o11.v 3),tup [.str ⟨⟨nK2⟩⟩ (o11.v 6),ov (nz l0.note) (o11.v 7)]),(A (o4.v 12),tup [.str ⟨⟨own⟩⟩ (o4.v 16),.none]),(A (o4.v 13),tup [.str ⟨⟨nK2⟩⟩ (o4.v 17),ov (nz l0.note) (o4.v 18)])]
        (by decide) (.head _) (.tail _ (.head _)) (.cons (.tup (.tail _ (.tail _ (.head _))) (.tail _ (.tail _ (.tail _ (.tail _ (.head _))))) (.cons (.str _ _ _) (.cons (.same _) .nil))) (.cons (.tup (.tail _ (.tail _ (.tail _ (.head _)))) (.tail _ (.tail _ (.tail _ (.tail _ (.tail _ (.head _)))))) (.cons (.str _ _ _) (.cons (EqB.ov _ _ _) .nil))) .nil))) 8275412012386056637867756120752515 [75,36,76,77,37,38] fun o12 =>
    useQ (k_r_split (D:=900) pa pb pc hpa hpb hpc own how (o11.v 4) (Nat.add o12.t 4)) 3450999884980060689804278550752920891468201463492612001945332194738560 [] fun o13 =>
    useQ (k_sp_int w b1 b2 b3 pa (by lia) (o13.v 1)) (cond b2 37822071058894338542826660876931064986672834769 166343227663297816536056631156022417298604565252501544118481) [] fun o14 =>
    useQ (k_r_int_mul (D:=900) pa 67108864 (o14.v 0) (Nat.add o14.t 2) (hb0 pa hpa)) 2097152 [] fun o15 =>
    useQ (k_sp_int w b1 b2 b3 pb (by lia) (o13.v 2)) 295484930147612019865833288101026797507848576 [] fun o16 =>
    useQ (k_r_int_mul (D:=900) pb 67108864 (o16.v 0) (Nat.add o16.t 2) (hb0 pb hpb)) 2097152 [] fun o17 =>
    useQ (k_sp_int w b1 b2 b3 pc (by lia) (o13.v 3)) 295484930147612019865833288101026797507848576 [] fun o18 =>
    useQ (k_r_int_mul (D:=900) pc 67108864 (o18.v 0) (Nat.add o18.t 2) (hb0 pc hpc)) 2097152 [] fun o19 =>
    useK (hcol [(K1,o10.v 4),(K2,o9.v 4)] (Nat.add o12.x 1) (Nat.add o13.x 1) 0 3 (o15.v 0) (o17.v 0) (o19.v 0) rfl) 179327842797699664387362704238216552344725888 [79,82] fun o20 =>
    finK 0 (fun _=>o9.v 1) []
theorem sp_law1 (l0 l1 l2:LV) (hn1:l1.n=1290) (hn2:l2.n=12012) (x0:Int) (t0:Nat) (hx0:x0 % Int.ofNat 1000000=Int.ofNat l0.n) (own:List Nat) (hown:own=ownOf l0.n) (ht0:l0.tx=txA own l0.note) (K1:List Nat) (K2:List Nat) (c1 d1:Nat) (hc1:c1=letterOf l1.n) (hd1:d1=digitOf l1.n) (hK1:K1=[c1,45,d1]) (ht1:l1.tx=txX false K1 l0.tx l1.note) (hk1:okK K1) (hKe1:K1≠[]) (hKn1:K1≠nK2) (hz1:l1.tx.length < 2^17) (c2 d2:Nat) (hc2:c2=letterOf l2.n) (hd2:d2=digitOf l2.n) (hK2:K2=[c2,45,d2]) (ht2:l2.tx=txX true K2 l1.tx l2.note) (hk2:okK K2) (hKe2:K2≠[]) (hKn2:K2≠nK2) (hz2:l2.tx.length < 2^17)
    (pa pb pc:Nat) (hpa:pa < 17) (hpb:pb < 17) (hpc:pc < 17) (how:own=ownL pa pb pc) (hok:okK own) (hoe:own≠[]) (hz0:l0.tx.length < 2^17) (hcol:ColSpec w b1 b2 b3 [K1,K2] pa pb pc) (sa ep:Nat) :
    Spec (VV ⟨w,b1,b2,b3⟩) 301 (.call (.ref 330) ⟨[.ref (A sa)],[]⟩) [(A sa,lstO [.int x0 t0] ep),(279,tblO [])] (fun o=>⟨.ok (.ret (.bool true)),[lstO [.int x0 t0] ep,tbl1 (o.v 0)],[]⟩):=by
  refine spec_run [0,1] 6000 (pl_sp_law1 w b1 b2 b3 l0 l1 l2 hn1 hn2 x0 t0 hx0 own hown ht0 K1 K2 c1 d1 hc1 hd1 hK1 ht1 hk1 hKe1 hKn1 hz1 c2 d2 hc2 hd2 hK2 ht2 hk2 hKe2 hKn2 hz2 pa pb pc hpa hpb hpc how hok hoe hz0 hcol sa ep) rfl fun x t => ?_
  cases b2 <;> cases b1 <;> kernel_rfl
noncomputable def pl_sp_law2 (w:World) (b1 b2 b3:Bool) (l0 l1 l2 l3:LV) (hn1:l1.n=1290) (hn2:l2.n=12012) (x0 x1:Int) (t0 t1:Nat) (hx0:x0 % Int.ofNat 1000000=Int.ofNat l0.n) (hx1:x1 % Int.ofNat 1000000=Int.ofNat l3.n) (own:List Nat) (hown:own=ownOf l0.n) (ht0:l0.tx=txA own l0.note) (K1:List Nat) (K2:List Nat) (K3:List Nat) (ob3:Bool) (hob3:(Int.ofNat (l3.n / 12000) % Int.ofNat 2 == 1)=ob3) (c1 d1:Nat) (hc1:c1=letterOf l1.n) (hd1:d1=digitOf l1.n) (hK1:K1=[c1,45,d1]) (ht1:l1.tx=txX false K1 l0.tx l1.note) (hk1:okK K1) (hKe1:K1≠[]) (hKn1:K1≠nK2) (hz1:l1.tx.length < 2^17) (c2 d2:Nat) (hc2:c2=letterOf l2.n) (hd2:d2=digitOf l2.n) (hK2:K2=[c2,45,d2]) (ht2:l2.tx=txX true K2 l1.tx l2.note) (hk2:okK K2) (hKe2:K2≠[]) (hKn2:K2≠nK2) (hz2:l2.tx.length < 2^17) (c3 d3:Nat) (hc3:c3=letterOf l3.n) (hd3:d3=digitOf l3.n) (hK3:K3=[c3,45,d3]) (ht3:l3.tx=txX ob3 K3 l2.tx l3.note) (hk3:okK K3) (hKe3:K3≠[]) (hKn3:K3≠nK2) (hz3:l3.tx.length < 2^17) (pa pb pc:Nat) (hpa:pa < 17) (hpb:pb < 17) (hpc:pc < 17) (how:own=ownL pa pb pc) (hok:okK own) (hoe:own≠[]) (hz0:l0.tx.length < 2^17) (hcol:ColSpec w b1 b2 b3 [K1,K2,K3] pa pb pc) (sa ep:Nat):Nat→Nat→PlanOk (VV ⟨w,b1,b2,b3⟩):=by
  have hb0:=fun (m:Nat) (hm:m < 17)=>eq_of_beq (List.all_eq_true.1 mul_all m (List.mem_range.2 hm))
  have hw0:l0.tx=wr own none++59::32::wr nK2 (nz l0.note):=ht0.trans (txA_is own l0.note)
  have NE:=fun q0 q1 q2 q3 tb td hl th h0 nu en=>sp_nest4 w b1 b2 b3 l0 l1 l2 l3 hn1 hn2 q0 q1 q2 q3 own hown ht0 K1 K2 K3 ob3 hob3 c1 d1 hc1 hd1 hK1 ht1 c2 d2 hc2 hd2 hK2 ht2 c3 d3 hc3 hd3 hK3 ht3 tb td hl th h0 nu en
  exact fun x t =>
    useQ (k_r_int_modN (D:=900) x0 1000000 l0.n t0 (Nat.add t 5) (by decide) hx0) (cond b2 31828688325273531953737112984567050639144252169548128060214496670737919188636981465759746 139984051641985873915608970496176575331378449067138963831539682932837760352149747685871895655980515330) [] fun o1 =>
    useQ (k_r_int_modN (D:=900) x1 1000000 l3.n t1 (Nat.add o1.t 3) (by decide) hx1) 22835963940699665418130632748135458393928238208 [] fun o2 =>
    useQ (k_sp_conv_name w b1 b2 b3 (Nat.add o2.x 14) [110,101,115,116,115] (Nat.add o2.t 7) (fun c h=>by simp only [List.mem_cons,List.not_mem_nil,or_false] at h; lia)) 25671807697672833165926815547542576125600738678744011055979227546044414363316989341885641452892249940293124447914146119596957345601420639123023227765621359024970790797262346386468958573951197299300838173432806289026121932822045986052132522864088639115076153223389328157372432431006930296908688465273924079131284255204657228995588092454646275434357823843554697761151048271783527790312716760791766301258492618139070129511809546603096854382064524360113934277515038923013778377834293445189506971406959744 [] fun o3 =>
    useQ (k_sp_conv_text w b1 b2 b3 (Nat.add o2.x 14) [120] (Nat.add o2.t 8) (fun c h=>by simp only [List.mem_cons,List.not_mem_nil,or_false] at h; lia)) 85206572927033748321383855365321395354 [] fun o4 =>
    useK (NE (o1.v 0) (Nat.add o2.t 3) (Nat.add o2.t 4) (o2.v 0) (Nat.add o2.x 14) (Nat.add o2.x 13) (Nat.add o2.x 12) (Nat.add o2.t 13) (Nat.add o2.x 11) (Nat.add o2.x 10) 0) 85086290322753548963727101395436834176 [24,23,22,20] fun o5 =>
    useQ (k_r_list_ne (D:=900) (A (Nat.add o5.x 6)) (A (Nat.add o5.x 19)) [.ref (A (Nat.add o2.x 11)),.ref (A (o5.v 10)),.ref (A (o5.v 20)),.ref (A (o5.v 30)),.ref (A (o5.v 40))] [.ref (A (Nat.add o5.x 7)),.ref (A (Nat.add o5.x 13)),.ref (A (Nat.add o5.x 14)),.ref (A (Nat.add o5.x 15)),.ref (A (Nat.add o5.x 16))] 0 0 [(A (Nat.add o5.x 6),lstO [.ref (A (Nat.add o2.x 11)),.ref (A (o5.v 10)),.ref (A (o5.v 20)),.ref (A (o5.v 30)),.ref (A (o5.v 40))] 0),(A (Nat.add o5.x 19),lstO [.ref (A (Nat.add o5.x 7)),.ref (A (Nat.add o5.x 13)),.ref (A (Nat.add o5.x 14)),.ref (A (Nat.add o5.x 15)),.ref (A (Nat.add o5.x 16))] 0),((A (Nat.add o2.x 11)),tup [.str ⟨⟨[110,101,115,116,115]⟩⟩ (Nat.add o2.t 7),.str ⟨⟨[120]⟩⟩ (Nat.add o2.t 8)]),((A (o5.v 10)),tup [.str ⟨⟨(nmOf false)⟩⟩ (o5.v 14),.str ⟨⟨l0.tx⟩⟩ (o5.v 15)]),((A (o5.v 20)),tup [.str ⟨⟨(nmOf true)⟩⟩ (o5.v 24),.str ⟨⟨l1.tx⟩⟩ (o5.v 25)]),((A (o5.v 30)),tup [.str ⟨⟨(nmOf false)⟩⟩ (o5.v 34),.str ⟨⟨l2.tx⟩⟩ (o5.v 35)]),((A (o5.v 40)),tup [.str ⟨⟨(nmOf true)⟩⟩ (o5.v 44),.str ⟨⟨l3.tx⟩⟩ (o5.v 45)]),((A (Nat.add o5.x 7)),tup [.str ⟨⟨[110,101,115,116,115]⟩⟩ (Nat.add o5.t 8),.str ⟨⟨[120]⟩⟩ (Nat.add o5.t 9)]),((A (Nat.add o5.x 13)),tup [.str ⟨⟨(nmOf false)⟩⟩ (Nat.add o5.t 1),.str ⟨⟨l0.tx⟩⟩ (o5.v 19)]),((A (Nat.add o5.x 14)),tup [.str ⟨⟨(nmOf true)⟩⟩ (Nat.add o5.t 2),.str ⟨⟨l1.tx⟩⟩ (o5.v 29)]),((A (Nat.add o5.x 15)),tup [.str ⟨⟨(nmOf false)⟩⟩ (Nat.add o5.t 3),.str ⟨⟨l2.tx⟩⟩ (o5.v 39)]),((A (Nat.add o5.x 16)),tup [.str ⟨⟨(nmOf true)⟩⟩ (Nat.add o5.t 4),.str ⟨⟨l3.tx⟩⟩ (o5.v 49)])] (by decide) (.head _) (.tail _ (.head _)) (.cons (.tup (.tail _ (.tail _ (.head _))) (.tail _ (.tail _ (.tail _ (.tail _ (.tail _ (.tail _ (.tail _ (.head _)))))))) (.cons (.str _ _ _) (.cons (.str _ _ _) .nil))) (.cons (.tup (.tail _ (.tail _ (.tail _ (.head _)))) (.tail _ (.tail _ (.tail _ (.tail _ (.tail _ (.tail _ (.tail _ (.tail _ (.head _))))))))) (.cons (.str _ _ _) (.cons (.str _ _ _) .nil))) (.cons (.tup (.tail _ (.tail _ (.tail _ (.tail _ (.head _))))) (.tail _ (.tail _ (.tail _ (.tail _ (.tail _ (.tail _ (.tail _ (.tail _ (.tail _ (.head _)))))))))) (.cons (.str _ _ _) (.cons (.str _ _ _) .nil))) (.cons (.tup (.tail _ (.tail _ (.tail _ (.tail _ (.tail _ (.head _)))))) (.tail _ (.tail _ (.tail _ (.tail _ (.tail _ (.tail _ (.tail _ (.tail _ (.tail _ (.tail _ (.head _))))))))))) (.cons (.str _ _ _) (.cons (.str _ _ _) .nil))) (.cons (.tup (.tail _ (.tail _ (.tail _ (.tail _ (.tail _ (.tail _ (.head _))))))) (.tail _ (.tail _ (.tail _ (.tail _ (.tail _ (.tail _ (.tail _ (.tail _ (.tail _ (.tail _ (.tail _ (.head _)))))))))))) (.cons (.str _ _ _) (.cons (.str _ _ _) .nil))) .nil)))))) (cond b2 27071491495620766901207163117273110954700160679750744926599238708076345181239090833757172480714016396164785329324830772515261109829399352130294904694556208101883242772921219641006290410534516985688034881276174154203313284431876521426153353932969874859728340919996190913180677922334549846197586185822204666030771107120859360273688828160325449178570070720243941775272931477682192582778028189464179398967265424356528189898937968179197864218436408675318263004234562272205484569999383771425574478142035588511316844297129358574469053822078656712080780019956201583665516719972166211592427626612438891926082361718554211457105295957970320380065 119061678722696520764543005193856434432631324268005968784774810367677638271620185997066678896740240537943585603902195638975961218680764781284561455614521121824111374049407992568376194911768744276671088510554532593974980087272709733822025660644166234803963711176419525034683788303908986429747673725181693861090062371579702959913958529258661528512991762214763412548531632302790658827581081402220417352952063109481448846172796604285072042216049163717574012046613000935692125417942107943512458749910326360584363278745758482338747032542054090302530859169389227843933018326602556176284967577578254716065093908752942685972655621917087944558546649499586721) [57,70,21,35,39,43,47,58,64,65,66,67] fun o6 =>
    useQ (k_sp_ga4 w b1 b2 b3 (Nat.add o2.x 14) (Nat.add o2.x 13) (Nat.add o2.x 12) (Nat.add o2.t 13) (Nat.add o2.x 11) (o5.v 10) (o5.v 20) (o5.v 30) (o5.v 40) (Nat.add o2.t 7) (o5.v 14) (o5.v 24) (o5.v 34) (o5.v 44) (Nat.add o2.t 8) (o5.v 15) (o5.v 25) (o5.v 35) (o5.v 45) (Nat.add o6.t 0) l0.tx l1.tx l2.tx l3.tx) 665595476369684873650314132959792259 [24,23,22,21,35,39,43,47] fun o7 =>
    useQ (k_r_list_ne (D:=900) (A (o7.v 0)) (A (o5.v 1)) [.str ⟨⟨l0.tx⟩⟩ (o5.v 15),.str ⟨⟨l1.tx⟩⟩ (o5.v 25),.str ⟨⟨l2.tx⟩⟩ (o5.v 35),.str ⟨⟨l3.tx⟩⟩ (o5.v 45)] [.str ⟨⟨l0.tx⟩⟩ (o5.v 19),.str ⟨⟨l1.tx⟩⟩ (o5.v 29),.str ⟨⟨l2.tx⟩⟩ (o5.v 39),.str ⟨⟨l3.tx⟩⟩ (o5.v 49)] 4 4 [(A (o7.v 0),lstO [.str ⟨⟨l0.tx⟩⟩ (o5.v 15),.str ⟨⟨l1.tx⟩⟩ (o5.v 25),.str ⟨⟨l2.tx⟩⟩ (o5.v 35),.str ⟨⟨l3.tx⟩⟩ (o5.v 45)] 4),(A (o5.v 1),lstO [.str ⟨⟨l0.tx⟩⟩ (o5.v 19),.str ⟨⟨l1.tx⟩⟩ (o5.v 29),.str ⟨⟨l2.tx⟩⟩ (o5.v 39),.str ⟨⟨l3.tx⟩⟩ (o5.v 49)] 4)] (by decide) (.head _) (.tail _ (.head _)) (.cons (.base (.str _ _ _)) (.cons (.base (.str _ _ _)) (.cons (.base (.str _ _ _)) (.cons (.base (.str _ _ _)) .nil))))) 6872099234820 [71,33] fun o8 =>
    useQ (k_sp_ga4 w b1 b2 b3 (Nat.add o2.x 14) (Nat.add o2.x 13) (Nat.add o2.x 12) (Nat.add o2.t 13) (Nat.add o2.x 11) (o5.v 10) (o5.v 20) (o5.v 30) (o5.v 40) (Nat.add o2.t 7) (o5.v 14) (o5.v 24) (o5.v 34) (o5.v 44) (Nat.add o2.t 8) (o5.v 15) (o5.v 25) (o5.v 35) (o5.v 45) (Nat.add o8.t 0) l0.tx l1.tx l2.tx l3.tx) 665595476369684873650314132959792259 [24,23,22,21,35,39,43,47] fun o9 =>
    useQ (k_sp_rdFX w b1 b2 b3 (Nat.add o9.x 3) (Nat.add o9.x 2) 0 (Nat.add x 0) (Nat.add x 2) (Nat.add x 1) (Nat.add o9.x 0) 0 0 (o5.v 41) (o5.v 42) (o5.v 43) (o5.v 46) (o5.v 47) [.ref (A (o5.v 41)),.ref (A (o5.v 31)),.ref (A (o5.v 21))] [] rfl (Ne.symm (tk_ne o9.x 2 3 (by decide))) (by simp) ⟨pick [(Nat.add t 0),(Nat.add o2.t 0),(Nat.add o4.t 0),(Nat.add o5.t 0),(Nat.add o9.t 2),(Nat.add o9.t 3)],.ref (A sa),.ref (A (Nat.add o2.x 10)),.ref (A (Nat.add o2.x 14)),.ref (A (o5.v 2))⟩ l3.tx (o5.v 45) ob3 K3 l2.tx l3.note (o5.v 39) (o5.v 48) ht3 l2.hne l2.hx l2.hxl l3.hn hk3 hKe3 hKn3 hz3) 90552961151877839515258831435486297520515102908808769402092461263384887296 [76,75,2,73,48,49,50,1] fun o10 =>
    useQ (k_sp_rdNX w b1 b2 b3 (Nat.add o9.x 3) (Nat.add o9.x 2) 1 (Nat.add x 0) (Nat.add x 2) (Nat.add x 1) (Nat.add o9.x 0) 0 1 (o5.v 31) (o5.v 32) (o5.v 33) (o5.v 36) (o5.v 37) [.ref (A (o5.v 41)),.ref (A (o5.v 31)),.ref (A (o5.v 21))] [.str ⟨⟨K3⟩⟩ (o10.v 4)] rfl (Ne.symm (tk_ne o9.x 2 3 (by decide))) (by simp) ⟨pick [(Nat.add t 0),(Nat.add o2.t 0),(Nat.add o4.t 0),(Nat.add o5.t 0),(Nat.add o9.t 2),(Nat.add o9.t 3)],.ref (A sa),.ref (A (Nat.add o2.x 10)),.ref (A (Nat.add o2.x 14)),.ref (A (o5.v 2))⟩ l2.tx (o10.v 5) true K2 l1.tx l2.note (o5.v 29) (o5.v 38) ht2 l1.hne l1.hx l1.hxl l2.hn hk2 hKe2 hKn2 hz2 (fun j=>o10.v (Nat.add j 20)) (o10.v 8) (o10.v 9) (o10.v 10) (o10.v 1) (pick [o10.v 6,o10.v 7,o10.v 11]) (o5.v 41) (o10.v 0) K3 (o10.v 4)) 1 [76,75,2,73,44,45,46,1,77] fun o11 =>
    useQ (k_sp_rdNX w b1 b2 b3 (Nat.add o9.x 3) (Nat.add o9.x 2) 2 (Nat.add x 0) (Nat.add x 2) (Nat.add x 1) (Nat.add o9.x 0) 0 2 (o5.v 21) (o5.v 22) (o5.v 23) (o5.v 26) (o5.v 27) [.ref (A (o5.v 41)),.ref (A (o5.v 31)),.ref (A (o5.v 21))] [.str ⟨⟨K3⟩⟩ (o10.v 4),.str ⟨⟨K2⟩⟩ (o11.v 4)] rfl (Ne.symm (tk_ne o9.x 2 3 (by decide))) (by simp) ⟨pick [(Nat.add t 0),(Nat.add o2.t 0),(Nat.add o4.t 0),(Nat.add o5.t 0),(Nat.add o9.t 2),(Nat.add o9.t 3)],.ref (A sa),.ref (A (Nat.add o2.x 10)),.ref (A (Nat.add o2.x 14)),.ref (A (o5.v 2))⟩ l1.tx (o11.v 5) false K1 l0.tx l1.note (o5.v 19) (o5.v 28) ht1 l0.hne l0.hx l0.hxl l1.hn hk1 hKe1 hKn1 hz1 (fun j=>o10.v (Nat.add j 20)) (o10.v 8) (o10.v 9) (o10.v 10) (o10.v 1) (pick [(pick [o10.v 6,o10.v 7,o10.v 11]) 0,(pick [o10.v 6,o10.v 7,o10.v 11]) 1,(pick [o10.v 6,o10.v 7,o10.v 11]) 2]) (o5.v 31) (o11.v 0) K2 (o11.v 4)) 1 [76,75,2,73,40,41,42,1,77] fun o12 =>
    useQ (k_sp_paramsN w b1 b2 b3 (fun j=>o10.v (Nat.add j 20)) (o10.v 8) (o10.v 9) (o10.v 10) (o10.v 1) l0.tx own nK2 none (nz l0.note) (o12.v 5) hw0 hoe trivial (nz_ok l0.hn) hok okK_n hz0) 40572246942702173994007442499200 [1,77] fun o13 =>
    useQ (k_r_list_ne (D:=900) (A (o13.v 0)) (A (o5.v 11)) [.ref (A (o13.v 2)),.ref (A (o13.v 3))] [.ref (A (o5.v 12)),.ref (A (o5.v 13))] 2 2
        [(A (o13.v 0),lstO [.ref (A (o13.v 2)),.ref (A (o13.v 3))] 2),(A (o5.v 11),lstO [.ref (A (o5.v 12)),.ref (A (o5.v 13))] 2),(A (o13.v 2),tup [.str ⟨⟨own⟩⟩ (o13.v 4),.none]),(A (o13.v 3),tup [.str ⟨⟨nK2⟩⟩ (o13.v 6),ov (nz l0.note) (o13.v 7)]),(A (o5.v 12),tup [.str ⟨⟨own⟩⟩ (o5.v 16),.none]),(A (o5.v 13),tup [.str ⟨⟨nK2⟩⟩ (o5.v 17),ov (nz l0.note) (o5.v 18)])]
        (by decide) (.head _) (.tail _ (.head _)) (.cons (.tup (.tail _ (.tail _ (.head _))) (.tail _ (.tail _ (.tail _ (.tail _ (.head _))))) (.cons (.str _ _ _) (.cons (.same _) .nil))) (.cons (.tup (.tail _ (.tail _ (.tail _ (.head _)))) (.tail _ (.tail _ (.tail _ (.tail _ (.tail _ (.head _)))))) (.cons (.str _ _ _) (.cons (EqB.ov _ _ _) .nil))) .nil))) 8478248488578544833169120859046275 [80,36,81,82,37,38] fun o14 =>
    useQ (k_r_split (D:=900) pa pb pc hpa hpb hpc own how (o13.v 4) (Nat.add o14.t 4)) 3451008113005046325914007369019544678157696710198240706506129970037120 [] fun o15 =>
    useQ (k_sp_int w b1 b2 b3 pa (by lia) (o15.v 1)) (cond b2 38714101295537758014551539921189785024384215894 170266418133366683039396614213580978926733933738966323833686) [] fun o16 =>
    useQ (k_r_int_mul (D:=900) pa 67108864 (o16.v 0) (Nat.add o16.t 2) (hb0 pa hpa)) 2097152 [] fun o17 =>
    useQ (k_sp_int w b1 b2 b3 pb (by lia) (o15.v 2)) 302453916371388734488683905634298219611565056 [] fun o18 =>
    useQ (k_r_int_mul (D:=900) pb 67108864 (o18.v 0) (Nat.add o18.t 2) (hb0 pb hpb)) 2097152 [] fun o19 =>
    useQ (k_sp_int w b1 b2 b3 pc (by lia) (o15.v 3)) 302453916371388734488683905634298219611565056 [] fun o20 =>
    useQ (k_r_int_mul (D:=900) pc 67108864 (o20.v 0) (Nat.add o20.t 2) (hb0 pc hpc)) 2097152 [] fun o21 =>
    useK (hcol [(K1,o12.v 4),(K2,o11.v 4),(K3,o10.v 4)] (Nat.add o14.x 1) (Nat.add o15.x 1) 0 3 (o17.v 0) (o19.v 0) (o21.v 0) rfl) 179382716678601560605716878966733734101920768 [84,87] fun o22 =>
    finK 0 (fun _=>o10.v 1) []
theorem sp_law2 (l0 l1 l2 l3:LV) (hn1:l1.n=1290) (hn2:l2.n=12012) (x0 x1:Int) (t0 t1:Nat) (hx0:x0 % Int.ofNat 1000000=Int.ofNat l0.n) (hx1:x1 % Int.ofNat 1000000=Int.ofNat l3.n) (own:List Nat) (hown:own=ownOf l0.n) (ht0:l0.tx=txA own l0.note) (K1:List Nat) (K2:List Nat) (K3:List Nat) (ob3:Bool) (hob3:(Int.ofNat (l3.n / 12000) % Int.ofNat 2 == 1)=ob3) (c1 d1:Nat) (hc1:c1=letterOf l1.n) (hd1:d1=digitOf l1.n) (hK1:K1=[c1,45,d1]) (ht1:l1.tx=txX false K1 l0.tx l1.note) (hk1:okK K1) (hKe1:K1≠[]) (hKn1:K1≠nK2) (hz1:l1.tx.length < 2^17) (c2 d2:Nat) (hc2:c2=letterOf l2.n) (hd2:d2=digitOf l2.n) (hK2:K2=[c2,45,d2]) (ht2:l2.tx=txX true K2 l1.tx l2.note) (hk2:okK K2) (hKe2:K2≠[]) (hKn2:K2≠nK2) (hz2:l2.tx.length < 2^17) (c3 d3:Nat) (hc3:c3=letterOf l3.n) (hd3:d3=digitOf l3.n) (hK3:K3=[c3,45,d3]) (ht3:l3.tx=txX ob3 K3 l2.tx l3.note) (hk3:okK K3) (hKe3:K3≠[]) (hKn3:K3≠nK2) (hz3:l3.tx.length < 2^17)
    (pa pb pc:Nat) (hpa:pa < 17) (hpb:pb < 17) (hpc:pc < 17) (how:own=ownL pa pb pc) (hok:okK own) (hoe:own≠[]) (hz0:l0.tx.length < 2^17) (hcol:ColSpec w b1 b2 b3 [K1,K2,K3] pa pb pc) (sa ep:Nat) :
    Spec (VV ⟨w,b1,b2,b3⟩) 301 (.call (.ref 330) ⟨[.ref (A sa)],[]⟩) [(A sa,lstO [.int x0 t0,.int x1 t1] ep),(279,tblO [])] (fun o=>⟨.ok (.ret (.bool true)),[lstO [.int x0 t0,.int x1 t1] ep,tbl1 (o.v 0)],[]⟩):=by
  refine spec_run [0,1] 6000 (pl_sp_law2 w b1 b2 b3 l0 l1 l2 l3 hn1 hn2 x0 x1 t0 t1 hx0 hx1 own hown ht0 K1 K2 K3 ob3 hob3 c1 d1 hc1 hd1 hK1 ht1 hk1 hKe1 hKn1 hz1 c2 d2 hc2 hd2 hK2 ht2 hk2 hKe2 hKn2 hz2 c3 d3 hc3 hd3 hK3 ht3 hk3 hKe3 hKn3 hz3 pa pb pc hpa hpb hpc how hok hoe hz0 hcol sa ep) rfl fun x t => ?_
  cases b2 <;> cases b1 <;> kernel_rfl
noncomputable def pl_sp_law3 (w:World) (b1 b2 b3:Bool) (l0 l1 l2 l3 l4:LV) (hn1:l1.n=1290) (hn2:l2.n=12012) (x0 x1 x2:Int) (t0 t1 t2:Nat) (vs:List Value) (hvl:vs.length < 2^20) (hx0:x0 % Int.ofNat 1000000=Int.ofNat l0.n) (hx1:x1 % Int.ofNat 1000000=Int.ofNat l3.n) (hx2:x2 % Int.ofNat 1000000=Int.ofNat l4.n) (own:List Nat) (hown:own=ownOf l0.n) (ht0:l0.tx=txA own l0.note) (K1:List Nat) (K2:List Nat) (K3:List Nat) (K4:List Nat) (ob3:Bool) (hob3:(Int.ofNat (l3.n / 12000) % Int.ofNat 2 == 1)=ob3) (ob4:Bool) (hob4:(Int.ofNat (l4.n / 12000) % Int.ofNat 2 == 1)=ob4) (c1 d1:Nat) (hc1:c1=letterOf l1.n) (hd1:d1=digitOf l1.n) (hK1:K1=[c1,45,d1]) (ht1:l1.tx=txX false K1 l0.tx l1.note) (hk1:okK K1) (hKe1:K1≠[]) (hKn1:K1≠nK2) (hz1:l1.tx.length < 2^17) (c2 d2:Nat) (hc2:c2=letterOf l2.n) (hd2:d2=digitOf l2.n) (hK2:K2=[c2,45,d2]) (ht2:l2.tx=txX true K2 l1.tx l2.note) (hk2:okK K2) (hKe2:K2≠[]) (hKn2:K2≠nK2) (hz2:l2.tx.length < 2^17) (c3 d3:Nat) (hc3:c3=letterOf l3.n) (hd3:d3=digitOf l3.n) (hK3:K3=[c3,45,d3]) (ht3:l3.tx=txX ob3 K3 l2.tx l3.note) (hk3:okK K3) (hKe3:K3≠[]) (hKn3:K3≠nK2) (hz3:l3.tx.length < 2^17) (c4 d4:Nat) (hc4:c4=letterOf l4.n) (hd4:d4=digitOf l4.n) (hK4:K4=[c4,45,d4]) (ht4:l4.tx=txX ob4 K4 l3.tx l4.note) (hk4:okK K4) (hKe4:K4≠[]) (hKn4:K4≠nK2) (hz4:l4.tx.length < 2^17) (pa pb pc:Nat) (hpa:pa < 17) (hpb:pb < 17) (hpc:pc < 17) (how:own=ownL pa pb pc) (hok:okK own) (hoe:own≠[]) (hz0:l0.tx.length < 2^17) (hcol:ColSpec w b1 b2 b3 [K1,K2,K3,K4] pa pb pc) (sa ep:Nat):Nat→Nat→PlanOk (VV ⟨w,b1,b2,b3⟩):=by
  have hb0:=fun (m:Nat) (hm:m < 17)=>eq_of_beq (List.all_eq_true.1 mul_all m (List.mem_range.2 hm))
  have hw0:l0.tx=wr own none++59::32::wr nK2 (nz l0.note):=ht0.trans (txA_is own l0.note)
  have NE:=fun q0 q1 q2 q3 q4 tb td hl th h0 nu en=>sp_nest5 w b1 b2 b3 l0 l1 l2 l3 l4 hn1 hn2 q0 q1 q2 q3 q4 own hown ht0 K1 K2 K3 K4 ob3 hob3 ob4 hob4 c1 d1 hc1 hd1 hK1 ht1 c2 d2 hc2 hd2 hK2 ht2 c3 d3 hc3 hd3 hK3 ht3 c4 d4 hc4 hd4 hK4 ht4 tb td hl th h0 nu en
  exact fun x t =>
    useQ (k_r_slice3 (D:=900) sa (Nat.add x 3) (Nat.add t 1) (.int x0 t0) (.int x1 t1) (.int x2 t2) vs ep hvl) 19493938137291670434136066 [0,5] fun o1 =>
    useQ (k_r_int_modN (D:=900) x0 1000000 l0.n t0 (Nat.add o1.t 3) (by decide) hx0) (cond b2 2923003384409557173520720991761338634803634766727 12855504836747637074036422490066570264173768111354136573772679) [] fun o2 =>
    useQ (k_r_int_modN (D:=900) x1 1000000 l3.n t1 (Nat.add o2.t 3) (by decide) hx1) 22835963940699665418130632748135458393928238208 [] fun o3 =>
    useQ (k_r_int_modN (D:=900) x2 1000000 l4.n t2 (Nat.add o3.t 3) (by decide) hx2) 22835963940699665418130632748135458393928238208 [] fun o4 =>
    useQ (k_sp_conv_name w b1 b2 b3 (Nat.add o4.x 14) [110,101,115,116,115] (Nat.add o4.t 7) (fun c h=>by simp only [List.mem_cons,List.not_mem_nil,or_false] at h; lia)) 25671807697672833165926815547542576125600738678744011055979227546044414363316989341885641452892249940293124447914146119596957345601420639123023227765621359024970790797262346386468958573951197299300838173432806289026121932822045986052132522864088639115076153223389328157372432431006930296908688465273924079131284255204657228995588092454646275434357823843554697761151048271783527790312716760791766301258492618139070129511809546603096854382064524360113934277515038923013778377834293445189506971406959744 [] fun o5 =>
    useQ (k_sp_conv_text w b1 b2 b3 (Nat.add o4.x 14) [120] (Nat.add o4.t 8) (fun c h=>by simp only [List.mem_cons,List.not_mem_nil,or_false] at h; lia)) 85206572927033748321383855365321395354 [] fun o6 =>
    useK (NE (o2.v 0) (Nat.add o4.t 3) (Nat.add o4.t 4) (o3.v 0) (o4.v 0) (Nat.add o4.x 14) (Nat.add o4.x 13) (Nat.add o4.x 12) (Nat.add o4.t 13) (Nat.add o4.x 11) (Nat.add o4.x 10) 0) 85086290322753548963727101395436834176 [24,23,22,20] fun o7 =>
    useQ (k_r_list_ne (D:=900) (A (Nat.add o7.x 6)) (A (Nat.add o7.x 20)) [.ref (A (Nat.add o4.x 11)),.ref (A (o7.v 10)),.ref (A (o7.v 20)),.ref (A (o7.v 30)),.ref (A (o7.v 40)),.ref (A (o7.v 50))] [.ref (A (Nat.add o7.x 7)),.ref (A (Nat.add o7.x 13)),.ref (A (Nat.add o7.x 14)),.ref (A (Nat.add o7.x 15)),.ref (A (Nat.add o7.x 16)),.ref (A (Nat.add o7.x 17))] 0 0 [(A (Nat.add o7.x 6),lstO [.ref (A (Nat.add o4.x 11)),.ref (A (o7.v 10)),.ref (A (o7.v 20)),.ref (A (o7.v 30)),.ref (A (o7.v 40)),.ref (A (o7.v 50))] 0),(A (Nat.add o7.x 20),lstO [.ref (A (Nat.add o7.x 7)),.ref (A (Nat.add o7.x 13)),.ref (A (Nat.add o7.x 14)),.ref (A (Nat.add o7.x 15)),.ref (A (Nat.add o7.x 16)),.ref (A (Nat.add o7.x 17))] 0),((A (Nat.add o4.x 11)),tup [.str ⟨⟨[110,101,115,116,115]⟩⟩ (Nat.add o4.t 7),.str ⟨⟨[120]⟩⟩ (Nat.add o4.t 8)]),((A (o7.v 10)),tup [.str ⟨⟨(nmOf false)⟩⟩ (o7.v 14),.str ⟨⟨l0.tx⟩⟩ (o7.v 15)]),((A (o7.v 20)),tup [.str ⟨⟨(nmOf true)⟩⟩ (o7.v 24),.str ⟨⟨l1.tx⟩⟩ (o7.v 25)]),((A (o7.v 30)),tup [.str ⟨⟨(nmOf false)⟩⟩ (o7.v 34),.str ⟨⟨l2.tx⟩⟩ (o7.v 35)]),((A (o7.v 40)),tup [.str ⟨⟨(nmOf true)⟩⟩ (o7.v 44),.str ⟨⟨l3.tx⟩⟩ (o7.v 45)]),((A (o7.v 50)),tup [.str ⟨⟨(nmOf false)⟩⟩ (o7.v 54),.str ⟨⟨l4.tx⟩⟩ (o7.v 55)]),((A (Nat.add o7.x 7)),tup [.str ⟨⟨[110,101,115,116,115]⟩⟩ (Nat.add o7.t 8),.str ⟨⟨[120]⟩⟩ (Nat.add o7.t 9)]),((A (Nat.add o7.x 13)),tup [.str ⟨⟨(nmOf false)⟩⟩ (Nat.add o7.t 1),.str ⟨⟨l0.tx⟩⟩ (o7.v 19)]),((A (Nat.add o7.x 14)),tup [.str ⟨⟨(nmOf true)⟩⟩ (Nat.add o7.t 2),.str ⟨⟨l1.tx⟩⟩ (o7.v 29)]),((A (Nat.add o7.x 15)),tup [.str ⟨⟨(nmOf false)⟩⟩ (Nat.add o7.t 3),.str ⟨⟨l2.tx⟩⟩ (o7.v 39)]),((A (Nat.add o7.x 16)),tup [.str ⟨⟨(nmOf true)⟩⟩ (Nat.add o7.t 4),.str ⟨⟨l3.tx⟩⟩ (o7.v 49)]),((A (Nat.add o7.x 17)),tup [.str ⟨⟨(nmOf false)⟩⟩ (Nat.add o7.t 5),.str ⟨⟨l4.tx⟩⟩ (o7.v 59)])] (by decide) (.head _) (.tail _ (.head _)) (.cons (.tup (.tail _ (.tail _ (.head _))) (.tail _ (.tail _ (.tail _ (.tail _ (.tail _ (.tail _ (.tail _ (.tail _ (.head _))))))))) (.cons (.str _ _ _) (.cons (.str _ _ _) .nil))) (.cons (.tup (.tail _ (.tail _ (.tail _ (.head _)))) (.tail _ (.tail _ (.tail _ (.tail _ (.tail _ (.tail _ (.tail _ (.tail _ (.tail _ (.head _)))))))))) (.cons (.str _ _ _) (.cons (.str _ _ _) .nil))) (.cons (.tup (.tail _ (.tail _ (.tail _ (.tail _ (.head _))))) (.tail _ (.tail _ (.tail _ (.tail _ (.tail _ (.tail _ (.tail _ (.tail _ (.tail _ (.tail _ (.head _))))))))))) (.cons (.str _ _ _) (.cons (.str _ _ _) .nil))) (.cons (.tup (.tail _ (.tail _ (.tail _ (.tail _ (.tail _ (.head _)))))) (.tail _ (.tail _ (.tail _ (.tail _ (.tail _ (.tail _ (.tail _ (.tail _ (.tail _ (.tail _ (.tail _ (.head _)))))))))))) (.cons (.str _ _ _) (.cons (.str _ _ _) .nil))) (.cons (.tup (.tail _ (.tail _ (.tail _ (.tail _ (.tail _ (.tail _ (.head _))))))) (.tail _ (.tail _ (.tail _ (.tail _ (.tail _ (.tail _ (.tail _ (.tail _ (.tail _ (.tail _ (.tail _ (.tail _ (.head _))))))))))))) (.cons (.str _ _ _) (.cons (.str _ _ _) .nil))) (.cons (.tup (.tail _ (.tail _ (.tail _ (.tail _ (.tail _ (.tail _ (.tail _ (.head _)))))))) (.tail _ (.tail _ (.tail _ (.tail _ (.tail _ (.tail _ (.tail _ (.tail _ (.tail _ (.tail _ (.tail _ (.tail _ (.tail _ (.head _)))))))))))))) (.cons (.str _ _ _) (.cons (.str _ _ _) .nil))) .nil))))))) (cond b2 3278929469054768698075787156986306733823021571548736545357447520130809409587463944453856533342584596426198900911705445376512344933621259758157651819040625490693476891278141951472694282114514731476746945215712917703290437837919834933963409135097949033243365934788591187147811173220066143951980611156236571319731125159185194784128893316984976778068437615921220328948583851830247599814996000504793203273997341215648920067354944010913459629644844293963986781582874025266374829918761723876000791250887730926530748792724471287049341762420761498439738965543061089554151556360099506578456943081444987037253430714973505374377556389114179196465274529765421756612265855563958655919775521704670967778811246548340539512813277345 14420884311532416605265924063962117469792721614545251873208583914494083129535719928840677777185110431502215943175085538792688566302898791947886575385532822095782334063177080136930141162176551422569318312109456022385020786793867919064157349781415256938961995262850527050458792455130700901612118957406339911943594743881710802539748737684606399063166350960842598630650398422143614141222813155879819570488216276697256954989575784192803201224233859417689634230997527842520595888504459504113891537390816082523783795305239476509020931951427090581315202255517149206454526607421009988845089888660231528027579936949874225554767712305980235955729293586167501450234163854119992644284597733836706730668039091008495267600990068739901206581409) [61,75,21,35,39,43,47,51,62,68,69,70,71,72] fun o8 =>
    useQ (k_sp_ga5 w b1 b2 b3 (Nat.add o4.x 14) (Nat.add o4.x 13) (Nat.add o4.x 12) (Nat.add o4.t 13) (Nat.add o4.x 11) (o7.v 10) (o7.v 20) (o7.v 30) (o7.v 40) (o7.v 50) (Nat.add o4.t 7) (o7.v 14) (o7.v 24) (o7.v 34) (o7.v 44) (o7.v 54) (Nat.add o4.t 8) (o7.v 15) (o7.v 25) (o7.v 35) (o7.v 45) (o7.v 55) (Nat.add o8.t 0) l0.tx l1.tx l2.tx l3.tx l4.tx) 665595476369684873650314132959792259 [24,23,22,21,35,39,43,47,51] fun o9 =>
    useQ (k_r_list_ne (D:=900) (A (o9.v 0)) (A (o7.v 1)) [.str ⟨⟨l0.tx⟩⟩ (o7.v 15),.str ⟨⟨l1.tx⟩⟩ (o7.v 25),.str ⟨⟨l2.tx⟩⟩ (o7.v 35),.str ⟨⟨l3.tx⟩⟩ (o7.v 45),.str ⟨⟨l4.tx⟩⟩ (o7.v 55)] [.str ⟨⟨l0.tx⟩⟩ (o7.v 19),.str ⟨⟨l1.tx⟩⟩ (o7.v 29),.str ⟨⟨l2.tx⟩⟩ (o7.v 39),.str ⟨⟨l3.tx⟩⟩ (o7.v 49),.str ⟨⟨l4.tx⟩⟩ (o7.v 59)] 5 5 [(A (o9.v 0),lstO [.str ⟨⟨l0.tx⟩⟩ (o7.v 15),.str ⟨⟨l1.tx⟩⟩ (o7.v 25),.str ⟨⟨l2.tx⟩⟩ (o7.v 35),.str ⟨⟨l3.tx⟩⟩ (o7.v 45),.str ⟨⟨l4.tx⟩⟩ (o7.v 55)] 5),(A (o7.v 1),lstO [.str ⟨⟨l0.tx⟩⟩ (o7.v 19),.str ⟨⟨l1.tx⟩⟩ (o7.v 29),.str ⟨⟨l2.tx⟩⟩ (o7.v 39),.str ⟨⟨l3.tx⟩⟩ (o7.v 49),.str ⟨⟨l4.tx⟩⟩ (o7.v 59)] 5)] (by decide) (.head _) (.tail _ (.head _)) (.cons (.base (.str _ _ _)) (.cons (.base (.str _ _ _)) (.cons (.base (.str _ _ _)) (.cons (.base (.str _ _ _)) (.cons (.base (.str _ _ _)) .nil)))))) 7043908413060 [76,33] fun o10 =>
    useQ (k_sp_ga5 w b1 b2 b3 (Nat.add o4.x 14) (Nat.add o4.x 13) (Nat.add o4.x 12) (Nat.add o4.t 13) (Nat.add o4.x 11) (o7.v 10) (o7.v 20) (o7.v 30) (o7.v 40) (o7.v 50) (Nat.add o4.t 7) (o7.v 14) (o7.v 24) (o7.v 34) (o7.v 44) (o7.v 54) (Nat.add o4.t 8) (o7.v 15) (o7.v 25) (o7.v 35) (o7.v 45) (o7.v 55) (Nat.add o10.t 0) l0.tx l1.tx l2.tx l3.tx l4.tx) 665595476369684873650314132959792259 [24,23,22,21,35,39,43,47,51] fun o11 =>
    useQ (k_sp_rdFX w b1 b2 b3 (Nat.add o11.x 3) (Nat.add o11.x 2) 0 (Nat.add x 0) (Nat.add x 2) (Nat.add x 1) (Nat.add o11.x 0) 0 0 (o7.v 51) (o7.v 52) (o7.v 53) (o7.v 56) (o7.v 57) [.ref (A (o7.v 51)),.ref (A (o7.v 41)),.ref (A (o7.v 31)),.ref (A (o7.v 21))] [] rfl (Ne.symm (tk_ne o11.x 2 3 (by decide))) (by simp) ⟨pick [(Nat.add t 0),(Nat.add o4.t 0),(Nat.add o6.t 0),(Nat.add o7.t 0),(Nat.add o11.t 2),(Nat.add o11.t 3)],.ref (A sa),.ref (A (Nat.add o4.x 10)),.ref (A (Nat.add o4.x 14)),.ref (A (o7.v 2))⟩ l4.tx (o7.v 55) ob4 K4 l3.tx l4.note (o7.v 49) (o7.v 58) ht4 l3.hne l3.hx l3.hxl l4.hn hk4 hKe4 hKn4 hz4) 92761654790875959942893149667652611723351529518864106802269114899497189376 [81,80,2,78,52,53,54,1] fun o12 =>
    useQ (k_sp_rdNX w b1 b2 b3 (Nat.add o11.x 3) (Nat.add o11.x 2) 1 (Nat.add x 0) (Nat.add x 2) (Nat.add x 1) (Nat.add o11.x 0) 0 1 (o7.v 41) (o7.v 42) (o7.v 43) (o7.v 46) (o7.v 47) [.ref (A (o7.v 51)),.ref (A (o7.v 41)),.ref (A (o7.v 31)),.ref (A (o7.v 21))] [.str ⟨⟨K4⟩⟩ (o12.v 4)] rfl (Ne.symm (tk_ne o11.x 2 3 (by decide))) (by simp) ⟨pick [(Nat.add t 0),(Nat.add o4.t 0),(Nat.add o6.t 0),(Nat.add o7.t 0),(Nat.add o11.t 2),(Nat.add o11.t 3)],.ref (A sa),.ref (A (Nat.add o4.x 10)),.ref (A (Nat.add o4.x 14)),.ref (A (o7.v 2))⟩ l3.tx (o12.v 5) ob3 K3 l2.tx l3.note (o7.v 39) (o7.v 48) ht3 l2.hne l2.hx l2.hxl l3.hn hk3 hKe3 hKn3 hz3 (fun j=>o12.v (Nat.add j 20)) (o12.v 8) (o12.v 9) (o12.v 10) (o12.v 1) (pick [o12.v 6,o12.v 7,o12.v 11]) (o7.v 51) (o12.v 0) K4 (o12.v 4)) 1 [81,80,2,78,48,49,50,1,82] fun o13 =>
    useQ (k_sp_rdNX w b1 b2 b3 (Nat.add o11.x 3) (Nat.add o11.x 2) 2 (Nat.add x 0) (Nat.add x 2) (Nat.add x 1) (Nat.add o11.x 0) 0 2 (o7.v 31) (o7.v 32) (o7.v 33) (o7.v 36) (o7.v 37) [.ref (A (o7.v 51)),.ref (A (o7.v 41)),.ref (A (o7.v 31)),.ref (A (o7.v 21))] [.str ⟨⟨K4⟩⟩ (o12.v 4),.str ⟨⟨K3⟩⟩ (o13.v 4)] rfl (Ne.symm (tk_ne o11.x 2 3 (by decide))) (by simp) ⟨pick [(Nat.add t 0),(Nat.add o4.t 0),(Nat.add o6.t 0),(Nat.add o7.t 0),(Nat.add o11.t 2),(Nat.add o11.t 3)],.ref (A sa),.ref (A (Nat.add o4.x 10)),.ref (A (Nat.add o4.x 14)),.ref (A (o7.v 2))⟩ l2.tx (o13.v 5) true K2 l1.tx l2.note (o7.v 29) (o7.v 38) ht2 l1.hne l1.hx l1.hxl l2.hn hk2 hKe2 hKn2 hz2 (fun j=>o12.v (Nat.add j 20)) (o12.v 8) (o12.v 9) (o12.v 10) (o12.v 1) (pick [(pick [o12.v 6,o12.v 7,o12.v 11]) 0,(pick [o12.v 6,o12.v 7,o12.v 11]) 1,(pick [o12.v 6,o12.v 7,o12.v 11]) 2]) (o7.v 41) (o13.v 0) K3 (o13.v 4)) 1 [81,80,2,78,44,45,46,1,82] fun o14 =>
    useQ (k_sp_rdNX w b1 b2 b3 (Nat.add o11.x 3) (Nat.add o11.x 2) 3 (Nat.add x 0) (Nat.add x 2) (Nat.add x 1) (Nat.add o11.x 0) 0 3 (o7.v 21) (o7.v 22) (o7.v 23) (o7.v 26) (o7.v 27) [.ref (A (o7.v 51)),.ref (A (o7.v 41)),.ref (A (o7.v 31)),.ref (A (o7.v 21))] [.str ⟨⟨K4⟩⟩ (o12.v 4),.str ⟨⟨K3⟩⟩ (o13.v 4),.str ⟨⟨K2⟩⟩ (o14.v 4)] rfl (Ne.symm (tk_ne o11.x 2 3 (by decide))) (by simp) ⟨pick [(Nat.add t 0),(Nat.add o4.t 0),(Nat.add o6.t 0),(Nat.add o7.t 0),(Nat.add o11.t 2),(Nat.add o11.t 3)],.ref (A sa),.ref (A (Nat.add o4.x 10)),.ref (A (Nat.add o4.x 14)),.ref (A (o7.v 2))⟩ l1.tx (o14.v 5) false K1 l0.tx l1.note (o7.v 19) (o7.v 28) ht1 l0.hne l0.hx l0.hxl l1.hn hk1 hKe1 hKn1 hz1 (fun j=>o12.v (Nat.add j 20)) (o12.v 8) (o12.v 9) (o12.v 10) (o12.v 1) (pick [(pick [(pick [o12.v 6,o12.v 7,o12.v 11]) 0,(pick [o12.v 6,o12.v 7,o12.v 11]) 1,(pick [o12.v 6,o12.v 7,o12.v 11]) 2]) 0,(pick [(pick [o12.v 6,o12.v 7,o12.v 11]) 0,(pick [o12.v 6,o12.v 7,o12.v 11]) 1,(pick [o12.v 6,o12.v 7,o12.v 11]) 2]) 1,(pick [(pick [o12.v 6,o12.v 7,o12.v 11]) 0,(pick [o12.v 6,o12.v 7,o12.v 11]) 1,(pick [o12.v 6,o12.v 7,o12.v 11]) 2]) 2]) (o7.v 31) (o14.v 0) K2 (o14.v 4)) 1 [81,80,2,78,40,41,42,1,82] fun o15 =>
    useQ (k_sp_paramsN w b1 b2 b3 (fun j=>o12.v (Nat.add j 20)) (o12.v 8) (o12.v 9) (o12.v 10) (o12.v 1) l0.tx own nK2 none (nz l0.note) (o15.v 5) hw0 hoe trivial (nz_ok l0.hn) hok okK_n hz0) 40572246948651612082660771375360 [1,82] fun o16 =>
    useQ (k_r_list_ne (D:=900) (A (o16.v 0)) (A (o7.v 11)) [.ref (A (o16.v 2)),.ref (A (o16.v 3))] [.ref (A (o7.v 12)),.ref (A (o7.v 13))] 2 2
        [(A (o16.v 0),lstO [.ref (A (o16.v 2)),.ref (A (o16.v 3))] 2),(A (o7.v 11),lstO [.ref (A (o7.v 12)),.ref (A (o7.v 13))] 2),(A (o16.v 2),tup [.str ⟨⟨own⟩⟩ (o16.v 4),.none]),(A (o16.v 3),tup [.str ⟨⟨nK2⟩⟩ (o16.v 6),ov (nz l0.note) (o16.v 7)]),(A (o7.v 12),tup [.str ⟨⟨own⟩⟩ (o7.v 16),.none]),(A (o7.v 13),tup [.str ⟨⟨nK2⟩⟩ (o7.v 17),ov (nz l0.note) (o7.v 18)])]
        (by decide) (.head _) (.tail _ (.head _)) (.cons (.tup (.tail _ (.tail _ (.head _))) (.tail _ (.tail _ (.tail _ (.tail _ (.head _))))) (.cons (.str _ _ _) (.cons (.same _) .nil))) (.cons (.tup (.tail _ (.tail _ (.tail _ (.head _)))) (.tail _ (.tail _ (.tail _ (.tail _ (.tail _ (.head _)))))) (.cons (.str _ _ _) (.cons (EqB.ov _ _ _) .nil))) .nil))) 8681084964771033028470485597340035 [85,36,86,87,37,38] fun o17 =>
    useQ (k_r_split (D:=900) pa pb pc hpa hpb hpc own how (o16.v 4) (Nat.add o17.t 4)) 3451016341030031962023736187286168464847191956903869411066927745335680 [] fun o18 =>
    useQ (k_sp_int w b1 b2 b3 pa (by lia) (o18.v 1)) (cond b2 39606131532181177486276418965448505062095597019 174189608603435549542736597271139540554863302225431103548891) [] fun o19 =>
    useQ (k_r_int_mul (D:=900) pa 67108864 (o19.v 0) (Nat.add o19.t 2) (hb0 pa hpa)) 2097152 [] fun o20 =>
    useQ (k_sp_int w b1 b2 b3 pb (by lia) (o18.v 2)) 309422902595165449111534523167569641715281536 [] fun o21 =>
    useQ (k_r_int_mul (D:=900) pb 67108864 (o21.v 0) (Nat.add o21.t 2) (hb0 pb hpb)) 2097152 [] fun o22 =>
    useQ (k_sp_int w b1 b2 b3 pc (by lia) (o18.v 3)) 309422902595165449111534523167569641715281536 [] fun o23 =>
    useQ (k_r_int_mul (D:=900) pc 67108864 (o23.v 0) (Nat.add o23.t 2) (hb0 pc hpc)) 2097152 [] fun o24 =>
    useK (hcol [(K1,o15.v 4),(K2,o14.v 4),(K3,o13.v 4),(K4,o12.v 4)] (Nat.add o17.x 1) (Nat.add o18.x 1) 0 3 (o20.v 0) (o22.v 0) (o24.v 0) rfl) 179437590559503456824071053695250915859115648 [89,92] fun o25 =>
    finK 0 (fun _=>o12.v 1) []
theorem sp_law3 (l0 l1 l2 l3 l4:LV) (hn1:l1.n=1290) (hn2:l2.n=12012) (x0 x1 x2:Int) (t0 t1 t2:Nat) (vs:List Value) (hvl:vs.length < 2^20) (hx0:x0 % Int.ofNat 1000000=Int.ofNat l0.n) (hx1:x1 % Int.ofNat 1000000=Int.ofNat l3.n) (hx2:x2 % Int.ofNat 1000000=Int.ofNat l4.n) (own:List Nat) (hown:own=ownOf l0.n) (ht0:l0.tx=txA own l0.note) (K1:List Nat) (K2:List Nat) (K3:List Nat) (K4:List Nat) (ob3:Bool) (hob3:(Int.ofNat (l3.n / 12000) % Int.ofNat 2 == 1)=ob3) (ob4:Bool) (hob4:(Int.ofNat (l4.n / 12000) % Int.ofNat 2 == 1)=ob4) (c1 d1:Nat) (hc1:c1=letterOf l1.n) (hd1:d1=digitOf l1.n) (hK1:K1=[c1,45,d1]) (ht1:l1.tx=txX false K1 l0.tx l1.note) (hk1:okK K1) (hKe1:K1≠[]) (hKn1:K1≠nK2) (hz1:l1.tx.length < 2^17) (c2 d2:Nat) (hc2:c2=letterOf l2.n) (hd2:d2=digitOf l2.n) (hK2:K2=[c2,45,d2]) (ht2:l2.tx=txX true K2 l1.tx l2.note) (hk2:okK K2) (hKe2:K2≠[]) (hKn2:K2≠nK2) (hz2:l2.tx.length < 2^17) (c3 d3:Nat) (hc3:c3=letterOf l3.n) (hd3:d3=digitOf l3.n) (hK3:K3=[c3,45,d3]) (ht3:l3.tx=txX ob3 K3 l2.tx l3.note) (hk3:okK K3) (hKe3:K3≠[]) (hKn3:K3≠nK2) (hz3:l3.tx.length < 2^17) (c4 d4:Nat) (hc4:c4=letterOf l4.n) (hd4:d4=digitOf l4.n) (hK4:K4=[c4,45,d4]) (ht4:l4.tx=txX ob4 K4 l3.tx l4.note) (hk4:okK K4) (hKe4:K4≠[]) (hKn4:K4≠nK2) (hz4:l4.tx.length < 2^17)
    (pa pb pc:Nat) (hpa:pa < 17) (hpb:pb < 17) (hpc:pc < 17) (how:own=ownL pa pb pc) (hok:okK own) (hoe:own≠[]) (hz0:l0.tx.length < 2^17) (hcol:ColSpec w b1 b2 b3 [K1,K2,K3,K4] pa pb pc) (sa ep:Nat) :
    Spec (VV ⟨w,b1,b2,b3⟩) 301 (.call (.ref 330) ⟨[.ref (A sa)],[]⟩) [(A sa,lstO (.int x0 t0 :: .int x1 t1 :: .int x2 t2::vs) ep),(279,tblO [])] (fun o=>⟨.ok (.ret (.bool true)),[lstO (.int x0 t0 :: .int x1 t1 :: .int x2 t2::vs) ep,tbl1 (o.v 0)],[]⟩):=by
  refine spec_run [0,1] 6000 (pl_sp_law3 w b1 b2 b3 l0 l1 l2 l3 l4 hn1 hn2 x0 x1 x2 t0 t1 t2 vs hvl hx0 hx1 hx2 own hown ht0 K1 K2 K3 K4 ob3 hob3 ob4 hob4 c1 d1 hc1 hd1 hK1 ht1 hk1 hKe1 hKn1 hz1 c2 d2 hc2 hd2 hK2 ht2 hk2 hKe2 hKn2 hz2 c3 d3 hc3 hd3 hK3 ht3 hk3 hKe3 hKn3 hz3 c4 d4 hc4 hd4 hK4 ht4 hk4 hKe4 hKn4 hz4 pa pb pc hpa hpb hpc how hok hoe hz0 hcol sa ep) rfl fun x t => ?_
  cases b2 <;> cases b1 <;> kernel_rfl
end
theorem mod_nat (x:Int):x % Int.ofNat 1000000=Int.ofNat (x % Int.ofNat 1000000).toNat:=by
  have:0≤x % Int.ofNat 1000000:=Int.emod_nonneg _ (by decide)
  exact (Int.toNat_of_nonneg this).symm
noncomputable def oddB (n:Nat):Bool:=Int.ofNat (n / 12000) % Int.ofNat 2 == 1
section
variable (w:World) (b1 b2 b3:Bool)
noncomputable def AllCol:Prop := ∀ (ns:List Nat) (a b c:Nat),ns.length≤2→a < 17→b < 17→c < 17→ColSpec w b1 b2 b3 (dkey 1290::dkey 12012::ns.map dkey) a b c
theorem law_any (hC:AllCol w b1 b2 b3) (xs:List (Int × Nat)) (hl:xs.length < 2^20) (sa ep:Nat) :
    Spec (VV ⟨w,b1,b2,b3⟩) 301 (.call (.ref 330) ⟨[.ref (A sa)],[]⟩) [(A sa,lstO (xs.map fun p => .int p.1 p.2) ep),(279,tblO [])] (fun o=>⟨.ok (.ret (.bool true)),[lstO (xs.map fun p => .int p.1 p.2) ep,tbl1 (o.v 0)],[]⟩):=by
  have P:=fun (n:Nat)=>(⟨Nat.mod_lt _ (by decide),Nat.mod_lt _ (by decide),Nat.mod_lt _ (by decide)⟩:n % 17 < 17∧n / 17 % 17 < 17∧n / 289 % 17 < 17)
  have q0:=fun n=>lv0_len n
  have z1:=fun n=>(show (lv0 n).tx.length≤2^10 by have:=q0 n; lia)
  let l1:=fun n=>lvS (lv0 n) (z1 n) 1290 false
  have q1:=fun n=>(show (l1 n).tx.length≤82 by have:=lvS_len (lv0 n) (z1 n) 1290 false; have:=q0 n; show (lvS _ _ _ _).tx.length≤82; lia)
  have z2:=fun n=>(show (l1 n).tx.length≤2^10 by have:=q1 n; lia)
  let l2:=fun n=>lvS (l1 n) (z2 n) 12012 true
  have q2:=fun n=>(show (l2 n).tx.length≤190 by have:=lvS_len (l1 n) (z2 n) 12012 true; have:=q1 n; show (lvS _ _ _ _).tx.length≤190; lia)
  have z3:=fun n=>(show (l2 n).tx.length≤2^10 by have:=q2 n; lia)
  let l3:=fun n m=>lvS (l2 n) (z3 n) m (oddB m)
  have q3:=fun n m=>(show (l3 n m).tx.length≤406 by have:=lvS_len (l2 n) (z3 n) m (oddB m); have:=q2 n; show (lvS _ _ _ _).tx.length≤406; lia)
  have z4:=fun n m=>(show (l3 n m).tx.length≤2^10 by have:=q3 n m; lia)
  let l4:=fun n m k=>lvS (l3 n m) (z4 n m) k (oddB k)
  have q4:=fun n m k=>(show (l4 n m k).tx.length≤838 by have:=lvS_len (l3 n m) (z4 n m) k (oddB k); have:=q3 n m; show (lvS _ _ _ _).tx.length≤838; lia)
  have B : ∀ {l:List Nat} {k:Nat},l.length≤k→k≤838→l.length < 2^17:=fun h h'=>by lia
  have E : ∀ n,dkey n≠[]:=fun n h=>by cases h
  match xs,hl with
  | [],_ =>
    exact sp_law0 w b1 b2 b3 (lv0 4797) (l1 4797) (l2 4797) rfl rfl rfl (ownOf 4797) rfl rfl (dkey 1290) (dkey 12012)
      _ _ rfl rfl rfl rfl (dkey_okK _) (E _) (dkey_ne _) (B (q1 _) (by decide))
      _ _ rfl rfl rfl rfl (dkey_okK _) (E _) (dkey_ne _) (B (q2 _) (by decide))
      _ _ _ (P 4797).1 (P 4797).2.1 (P 4797).2.2 (ownL_is _) (own_okK _) (own_ne _) (B (q0 _) (by decide)) (hC [] _ _ _ (by simp) (P 4797).1 (P 4797).2.1 (P 4797).2.2) sa ep
  | [x],_ =>
    have h:=mod_nat x.1
    generalize (x.1 % Int.ofNat 1000000).toNat=n at h
    exact sp_law1 w b1 b2 b3 (lv0 n) (l1 n) (l2 n) rfl rfl x.1 x.2 h (ownOf n) rfl rfl (dkey 1290) (dkey 12012)
      _ _ rfl rfl rfl rfl (dkey_okK _) (E _) (dkey_ne _) (B (q1 _) (by decide))
      _ _ rfl rfl rfl rfl (dkey_okK _) (E _) (dkey_ne _) (B (q2 _) (by decide))
      _ _ _ (P n).1 (P n).2.1 (P n).2.2 (ownL_is _) (own_okK _) (own_ne _) (B (q0 _) (by decide)) (hC [] _ _ _ (by simp) (P n).1 (P n).2.1 (P n).2.2) sa ep
  | [x,y],_ =>
    have h:=mod_nat x.1
    generalize (x.1 % Int.ofNat 1000000).toNat=n at h
    have g:=mod_nat y.1
    generalize (y.1 % Int.ofNat 1000000).toNat=m at g
    exact sp_law2 w b1 b2 b3 (lv0 n) (l1 n) (l2 n) (l3 n m) rfl rfl x.1 y.1 x.2 y.2 h g (ownOf n) rfl rfl (dkey 1290) (dkey 12012) (dkey m) (oddB m) rfl
      _ _ rfl rfl rfl rfl (dkey_okK _) (E _) (dkey_ne _) (B (q1 _) (by decide))
      _ _ rfl rfl rfl rfl (dkey_okK _) (E _) (dkey_ne _) (B (q2 _) (by decide))
      _ _ rfl rfl rfl rfl (dkey_okK _) (E _) (dkey_ne _) (B (q3 _ _) (by decide))
      _ _ _ (P n).1 (P n).2.1 (P n).2.2 (ownL_is _) (own_okK _) (own_ne _) (B (q0 _) (by decide)) (hC [m] _ _ _ (by simp) (P n).1 (P n).2.1 (P n).2.2) sa ep
  | x::y::z::r,hl =>
    have h:=mod_nat x.1
    generalize (x.1 % Int.ofNat 1000000).toNat=n at h
    have g:=mod_nat y.1
    generalize (y.1 % Int.ofNat 1000000).toNat=m at g
    have f:=mod_nat z.1
    generalize (z.1 % Int.ofNat 1000000).toNat=k at f
    exact sp_law3 w b1 b2 b3 (lv0 n) (l1 n) (l2 n) (l3 n m) (l4 n m k) rfl rfl x.1 y.1 z.1 x.2 y.2 z.2 (r.map fun p => .int p.1 p.2) (by simp only [List.length_map,List.length_cons] at hl ⊢; lia) h g f (ownOf n) rfl rfl (dkey 1290) (dkey 12012) (dkey m) (dkey k) (oddB m) rfl (oddB k) rfl
      _ _ rfl rfl rfl rfl (dkey_okK _) (E _) (dkey_ne _) (B (q1 _) (by decide))
      _ _ rfl rfl rfl rfl (dkey_okK _) (E _) (dkey_ne _) (B (q2 _) (by decide))
      _ _ rfl rfl rfl rfl (dkey_okK _) (E _) (dkey_ne _) (B (q3 _ _) (by decide))
      _ _ rfl rfl rfl rfl (dkey_okK _) (E _) (dkey_ne _) (B (q4 _ _ _) (by decide))
      _ _ _ (P n).1 (P n).2.1 (P n).2.2 (ownL_is _) (own_okK _) (own_ne _) (B (q0 _) (by decide)) (hC [m,k] _ _ _ (by simp) (P n).1 (P n).2.1 (P n).2.2) sa ep
end
end Mine
namespace Mine
open PySem PySem.W PySem.W.X PyProof.Rows
noncomputable def lkK (ks:List Nat):List Obj→Nat→Option Obj := @List.rec Nat (fun _=>List Obj→Nat→Option Obj) (fun _ _=>none) (fun a _ ih os b => @List.rec Obj (fun _=>Option Obj) none (fun o os _ => @Bool.rec (fun _=>Option Obj) (ih os b) (@Bool.rec (fun _=>Option Obj) (some o) none (Nat.beq b 279)) (Nat.beq a b)) os) ks
theorem lkK_sound {g:Nat→Option Obj} : ∀ (ks:List Nat) (os:List Obj),ks.map g=os.map some → ∀ a o,lkK ks os a=some o→g a=some o
  | [],_,_,a,o,e=>by cases e
  | k::ks,[],h,a,o,e=>by cases h
  | k::ks,x::os,h,a,o,e=>by
    simp only [List.map_cons,List.cons.injEq] at h
    have e : @Bool.rec (fun _=>Option Obj) (lkK ks os a) (@Bool.rec (fun _=>Option Obj) (some x) none (Nat.beq a 279)) (Nat.beq k a)=some o:=e
    cases q:Nat.beq k a with
    | false=>rw [q] at e; exact lkK_sound ks os h.2 a o e
    | true =>
      rw [q] at e
      obtain rfl:=Nat.eq_of_beq_eq_true q
      cases r:Nat.beq k 279 with
      | false=>rw [r] at e; rw [h.1]; exact e
      | true=>rw [r] at e; cases e
theorem kt_list (p:Program) (P:Params):(List.range 331).map (fun a=>(ktop p P).get a)=(List.range 331).map (fun a=>lkK katts (klist p P) a):=by kernel_rfl
theorem kt_lk (p:Program) (P:Params) (a:Nat) (o:Obj) (h:(ktop p P).get a=some o):lkK katts (klist p P) a=some o:=by
  have hl:a < 331:=kt_low p P a o h
  have e:=congrArg (·[a]?) (kt_list p P)
  simp only [List.getElem?_map,List.getElem?_range hl,Option.map_some,Option.some.injEq] at e
  rw [← e]; exact h
theorem ints_of : ∀ {xs:List WData},WShape.hasItems [] xs .int=true → ∃ is:List Int,xs=is.map .int
  | [],_=>⟨[],rfl⟩
  | x::xs,h=>by
    obtain ⟨h1,h2⟩:=Bool.and_eq_true_iff.1 (show (WShape.has [] x .int && WShape.hasItems [] xs .int)=true from by simpa [WShape.hasItems] using h)
    obtain ⟨i,rfl⟩:=hasW_int h1
    obtain ⟨is,rfl⟩:=ints_of h2
    exact ⟨i::is,rfl⟩
theorem lay_ints (R:WRecords) (cl:Str→Option Addr) (P:Params) (ord:List DictEntry→List DictEntry) : ∀ (is:List Int) (s:Shared) (vs:List Value) (s':Shared),layAllW R cl P ord (is.map .int) s=some (vs,s') → ∃ ps:List (Int × Nat),ps.length=is.length∧vs=ps.map (fun p => .int p.1 p.2)∧s'={ s with toks:=s.toks+is.length }
  | [],s,vs,s',h=>by
    simp only [List.map_nil,layAllW,Option.some.injEq,Prod.mk.injEq] at h
    obtain ⟨rfl,rfl⟩:=h
    exact ⟨[],rfl,rfl,rfl⟩
  | i::is,s,vs,s',h=>by
    simp only [List.map_cons,layAllW,layW] at h
    split at h
    · next r hr =>
      obtain ⟨vs',s''⟩:=r
      obtain ⟨ps,hl,hv,hs⟩:=lay_ints R cl P ord is _ _ _ hr
      simp only [Option.some.injEq,Prod.mk.injEq] at h
      obtain ⟨rfl,rfl⟩:=h
      exact ⟨(i,s.toks)::ps,by simp [hl],by simp [hv],by rw [hs]; simp only [List.length_cons]; congr 1; omega⟩
    · cases h
theorem kt279 (p:Program) (P:Params):(ktop p P).get 279=none:=by kernel_rfl
theorem law_run (hC : ∀ w b1 b2 b3,AllCol w b1 b2 b3) (w:World) (s₀ s₁:Shared) (hK:katts.map s₀.heap.get? = (klist pT w.params).map some) (hz:s₀.heap.objs.size=331) (ht:0 < s₁.toks) (hg:s₁.gens = #[])
    (xs:List (Int × Nat)) (hl:xs.length < 2^20) (hh:s₁.heap=s₀.heap.push (lstO (xs.map fun p => .int p.1 p.2) 0)) (Q:Value→Shared→Prop) (E:Value→Shared→Prop)
    (hQ : ∀ h' d t,OldK s₁.heap h'→Q (.bool true) ⟨h',s₁.gens,d,t,s₁.os⟩) :
    wpAny (model pT w) callerA (call (.ref 330) [.ref 331]) Q E s₁:=by
  have W:=wR_eq w
  have S:=law_any w (w.params.followText "special-get-raises") (w.params.followText "comprehension-iter-twice") (w.params.followText "fstring-hands-on-the-str") (hC _ _ _ _) xs hl 0 0
  have eV:VV ⟨w,w.params.followText "special-get-raises",w.params.followText "comprehension-iter-twice",w.params.followText "fstring-hands-on-the-str"⟩=⟨pT,w,ktop pT w.params⟩:=by
    unfold VV Ws.W
    rw [W]
  rw [eV] at S
  have old : ∀ b o,s₀.heap.get? b=some o→s₁.heap.get? b=some o:=fun b o e=>by rw [hh]; exact Heap.get?_push_of_some _ e
  have top0 : ∀ a o,lkK katts (klist pT w.params) a=some o→s₀.heap.get? a=some o:=lkK_sound (g:=s₀.heap.get?) _ _ hK
  have h279:s₁.heap.get? 279=some (tblO []):=by
    refine old _ _ ?_
    have e:=congrArg (·[46]?) hK
    have e2:(katts.map s₀.heap.get?)[46]? = some (s₀.heap.get? 279):=rfl
    have e3:((klist pT w.params).map some)[46]? = some (some (tblO [])):=by kernel_rfl
    simp only [e2,e3] at e
    exact Option.some.inj e
  have h283:s₁.heap.get? 283=some (o283 pT w.params):=old _ _ (top0 _ _ (by kernel_rfl))
  have ha:s₁.heap.get? 331=some (lstO (xs.map fun p => .int p.1 p.2) 0):=by
    rw [hh,← hz]; exact Heap.get?_push_size _ rfl
  refine wpAny_call (S callerA s₁ _ rfl (by constructor <;> decide) ⟨hg,ht⟩ (fun a o e=>old _ _ (top0 _ _ (kt_lk _ _ _ _ e))) (by rw [hh,Heap.size_push,hz]; decide) ?_ ?_ ?_ ?_)
  · intro p hp
    rcases List.mem_cons.1 hp with rfl | hp
    · exact ha
    · cases List.mem_singleton.1 hp; exact h279
  · show ([A 0,279]:List Nat).Nodup
    decide
  · intro p hp
    rcases List.mem_cons.1 hp with rfl | hp
    · show (ktop pT w.params).get 331=none
      kernel_rfl
    · cases List.mem_singleton.1 hp; exact kt279 _ _
  · intro o h' _ _ _ hold hmod _ _ _
    refine hQ h' _ _ ⟨fun b ob e => ?_,fun b ob e => ?_⟩
    · by_cases h1:b=331
      · subst h1
        rw [ha] at e; cases e
        exact .inl (hmod (331,lstO (xs.map fun p => .int p.1 p.2) 0) (.head _))
      · by_cases h2:b=279
        · subst h2
          rw [h279] at e; cases e
          have h9:h'.get? 279=some (tbl1 (o.v 0)):=hmod (279,tbl1 (o.v 0)) (.tail _ (.head _))
          refine .inr (.inl ⟨⟨283,_,_,h283,rfl,rfl,rfl⟩,rfl,⟨[]⟩,⟨[.int 255 0,.int 18 0,.ref (A (o.v 0))]⟩,rfl,?_⟩)
          rw [show ((⟨[]⟩:Array Value)++(⟨[.int 255 0,.int 18 0,.ref (A (o.v 0))]⟩:Array Value))=⟨[.int 255 0,.int 18 0,.ref (A (o.v 0))]⟩ from by simp]
          exact h9
        · refine .inl (hold b ob e fun hm => ?_)
          have hm:b ∈ [A 0,279]:=hm
          rcases List.mem_cons.1 hm with z | z
          · exact h1 z
          · exact h2 (List.mem_singleton.1 z)
    · by_cases h1:b=331
      · subst h1; exact ⟨_,hmod (331,lstO (xs.map fun p => .int p.1 p.2) 0) (.head _)⟩
      · by_cases h2:b=279
        · subst h2; exact ⟨_,hmod (279,tbl1 (o.v 0)) (.tail _ (.head _))⟩
        · refine ⟨_,hold b ob e fun hm => ?_⟩
          have hm:b ∈ [A 0,279]:=hm
          rcases List.mem_cons.1 hm with z | z
          · exact h1 z
          · exact h2 (List.mem_singleton.1 z)
end Mine
namespace Mine
open PySem PySem.W PyProof.Rows
theorem holds_len (is:List Int) (hp:WTm.holds [] PySem.Challenge.rw_pe0274_01.row.pre { args:=[WData.list (is.map .int)] }=true):is.length≤63:=by
  have hp:WTm.holds [] (.and (.not (.lt (.lit (.int 63)) (.len (.arg 0)))) (.lit (.bool true))) { args:=[WData.list (is.map .int)] }=true:=hp
  simp [WTm.holds,WTm.value] at hp
  have e:less? (WData.int 63) (WData.int (is.length:Int))=some (decide ((63:Int) < is.length)):=rfl
  rw [e] at hp
  rcases Nat.lt_or_ge 63 is.length with q | q
  · rw [decide_eq_true (by omega:(63:Int) < is.length)] at hp
    simp at hp
  · exact q
theorem fa_is {w:World} {h:Heap} {mg:Str→Option Value} {fa:Addr} (hn:h.Ns mainGlobals mg) (h3:h.get? 3=some (o3 pT w.params)) (hm:mg (Str.ofString "law")=some (.ref fa)):fa=330:=by
  obtain ⟨o,es,ep,ho,hd,_,hf⟩:=hn
  have ho:h.get? 3=some o:=ho
  rw [h3] at ho
  obtain rfl:=Option.some.inj ho
  have hl:nsFind es (Str.ofString "law")=some (.ref 330):=by
    have:(o3 pT w.params).data = .dict es ep:=hd
    obtain ⟨e1,_⟩:=Data.dict.inj this
    rw [← e1]
    kernel_rfl
  rw [hf,hm] at hl
  injection hl with hl
  injection hl
theorem post_val (args:List WData):WTm.value PySem.Challenge.rw_pe0274_01.row.records PySem.Challenge.rw_pe0274_01.row.post { args:=args,res:=some (WData.bool true),after:=args }=some (.bool true):=by
  show WTm.value [] (.eq .res (.lit (.bool true))) { args:=args,res:=some (WData.bool true),after:=args }=some (.bool true)
  simp [WTm.value]
  simp [PySem.W.same]
theorem lay_one {R:WRecords} {cl:Str→Option Addr} {P:Params} {ord:List DictEntry→List DictEntry} {is:List Int} {s s₁:Shared} {vals:List Value} (h:layAllW R cl P ord [WData.list (is.map .int)] s=some (vals,s₁)) :
    ∃ ps:List (Int × Nat),ps.length=is.length∧vals=[.ref s.heap.objs.size]∧s₁={ s with toks:=s.toks+is.length,heap:=s.heap.push (lstO (ps.map fun p => .int p.1 p.2) 0) }:=by
  simp only [layAllW,layW] at h
  cases hr:layAllW R cl P ord (is.map .int) s with
  | none=>rw [hr] at h; cases h
  | some r =>
    obtain ⟨vs,s'⟩:=r
    obtain ⟨ps,hl,hv,hs⟩:=lay_ints R cl P ord is s vs s' hr
    rw [hr] at h
    simp only [Option.some.injEq,Prod.mk.injEq] at h
    obtain ⟨rfl,rfl⟩:=h
    subst hs hv
    exact ⟨ps,hl,rfl,rfl⟩
end Mine
namespace Mine
open PySem PySem.Float64
noncomputable def uE:Nat:=2^1024
theorem uE_pos:0 < uE:=Nat.two_pow_pos _
theorem one_uE:(2:Nat)^1074=2^50*uE:=by unfold uE; rw [← Nat.pow_add]
theorem trunc_near (q:Nat) (h:q < 2^1077) : ∃ t,V t≤q∧q < V t+uE:=by
  by_cases hs:q < 2^52
  · refine ⟨q,?_,?_⟩ <;> have e:V q=q:=by unfold V; rw [if_pos (Nat.div_eq_of_lt hs)]
    · lia
    · have:=uE_pos; lia
  · have hq:q≠0:=by lia
    have l1:2^q.log2≤q:=Nat.log2_self_le hq
    have l2:q < 2^(q.log2+1):=Nat.lt_log2_self
    have l3:52≤q.log2:=(Nat.le_log2 hq).2 (by lia)
    have l4:q.log2 < 1077:=(Nat.log2_lt hq).2 h
    have hk:q.log2=(q.log2-52)+52:=by lia
    generalize hK:q.log2-52=k at hk
    rw [hk] at l1 l2
    have p0:=Nat.two_pow_pos k
    have d1:2^52≤q / 2^k:=by
      rw [Nat.le_div_iff_mul_le p0]
      rw [Nat.pow_add,Nat.mul_comm] at l1
      exact l1
    have d2:q / 2^k < 2^53:=by
      rw [Nat.div_lt_iff_lt_mul p0]
      rw [Nat.add_assoc,Nat.pow_add,Nat.mul_comm] at l2
      exact l2
    have hV:=V_at (k:=k) (q:=q / 2^k) (by lia) (.inl d1)
    refine ⟨_,by rw [hV]; exact Nat.div_mul_le_self q (2^k),?_⟩
    rw [hV]
    have m:=Nat.mod_lt q p0
    have dm:=Nat.div_add_mod q (2^k)
    have le:2^k≤uE:=Nat.pow_le_pow_right (by decide) (by lia)
    rw [Nat.mul_comm] at dm
    lia
theorem dist_sgn (neg:Bool) (a b:Nat):(Float64.sgn neg a-Float64.sgn neg b).natAbs=dist a b:=by
  unfold Float64.sgn dist
  cases neg <;> simp only [Bool.false_eq_true,if_false,if_true] <;> lia
theorem over_not {W D:Nat} (hD:0 < D) (hW:W < 2^1077*D) : ¬ (D*((2^54-1)*2^2045)≤2*W):=fun h=>by
  have h1:2^1078≤(2^54-1)*2^2045:=by decide +kernel
  have h2:D*2^1078≤D*((2^54-1)*2^2045):=Nat.mul_le_mul_left D h1
  have h3:2^1077*D*2=D*2^1078:=by
    rw [show (2:Nat)^1078=2^1077*2 from Nat.pow_succ ..]
    generalize (2:Nat)^1077=K
    ac_rfl
  lia
theorem right_near {r:UInt64} {neg:Bool} {W D:Nat} (hD:0 < D) (hW:W < 2^1077*D) (R:Right r neg W D):(∃ m e,decode r = .fin neg m e)∧(val r*D-Float64.sgn neg W).natAbs≤D*uE:=by
  obtain ⟨t,rfl,ht,hi,hn⟩:=R
  have hlt:t < infMag:=by
    rcases Nat.lt_or_ge t infMag with h | h
    · exact h
    · exact absurd (hi.1 (by lia)) (over_not hD hW)
  obtain ⟨m,e,hd,_⟩:=decode_pack neg hlt
  refine ⟨⟨m,e,hd⟩,?_⟩
  rw [val_pack neg hlt,← sgn_mul,dist_sgn]
  obtain ⟨t',v1,v2⟩:=trunc_near (W / D) ((Nat.div_lt_iff_lt_mul hD).2 hW)
  have:=(hn hlt t').1
  have e1:D*V t'≤W:=Nat.le_trans (Nat.mul_le_mul_left D v1) (Nat.mul_div_le W D)
  have e2:W < D*V t'+D*uE:=by
    have z:=Nat.lt_mul_div_succ W hD
    have z2:D*(W / D+1)≤D*(V t'+uE):=Nat.mul_le_mul_left D v2
    have z3:D*(V t'+uE)=D*V t'+D*uE:=Nat.mul_add ..
    omega
  have e3:dist (V t*D) W=dist W (D*V t):=by unfold dist; rw [Nat.mul_comm]; lia
  rw [e3]
  unfold dist at this ⊢
  omega
noncomputable abbrev eps:Rat:=1 / 1125899906842624
noncomputable def uK:Rat:=(((2^1074:Nat):Nat):Rat)
noncomputable def uR:Rat:=((uE:Nat):Rat)
theorem uR_pos:0 < uR:=by unfold uR; exact_mod_cast uE_pos
theorem uK_eq:uK=1125899906842624*uR:=by
  unfold uK uR
  rw [one_uE,Rat.natCast_mul]
  rfl
theorem uK_pos:0 < uK:=by rw [uK_eq]; have:=uR_pos; grind
noncomputable def isFin (x:UInt64):Prop := ∃ a m e,decode x = .fin a m e
noncomputable def fv (x:UInt64):Rat:=(val x:Rat) / uK
theorem fv_val (x:UInt64):(val x:Rat)=fv x*uK:=by
  have:=uK_pos
  unfold fv
  grind
theorem near_of {D:Nat} (v:Int) (S:Int) (h:(v*D-S).natAbs≤D*uE):(v:Rat)*D-S≤D*uR ∧ -(D*uR)≤(v:Rat)*D-S:=by
  have h1:v*D-S≤((D*uE:Nat):Int):=by omega
  have h2 : -((D*uE:Nat):Int)≤v*D-S:=by omega
  have h1':((v*D-S:Int):Rat)≤(((D*uE:Nat):Int):Rat):=by exact_mod_cast h1
  have h2':((-((D*uE:Nat):Int):Int):Rat)≤((v*D-S:Int):Rat):=by exact_mod_cast h2
  push_cast at h1' h2'
  unfold uR
  exact ⟨h1',h2'⟩
theorem sgn_self (v:Int):Float64.sgn (decide (v < 0)) v.natAbs=v:=by
  unfold Float64.sgn
  by_cases h:v < 0
  · rw [decide_eq_true h]; simp only [if_true]; omega
  · rw [decide_eq_false h]; simp only [Bool.false_eq_true,if_false]; omega
theorem lt_8 {v:Int} (h1:(v:Rat) < 8*uK) (h2 : -(8*uK) < (v:Rat)):v.natAbs < 2^1077*1:=by
  have e:(2:Nat)^1077*1=8*2^1074:=by
    rw [show (2:Nat)^1077=2^3*2^1074 from by rw [← Nat.pow_add]]
    rw [Nat.mul_one]
  rw [e]
  unfold uK at h1 h2
  generalize (2:Nat)^1074=K at h1 h2 ⊢
  have h1':(v:Rat) < ((8*K:Nat):Rat):=by push_cast; exact h1
  have h2':((-((8*K:Nat):Int):Int):Rat) < (v:Rat):=by push_cast; exact h2
  have h1:v < ((8*K:Nat):Int):=by exact_mod_cast h1'
  have h2:(-((8*K:Nat):Int)) < v:=by exact_mod_cast h2'
  omega
theorem zero_fin (b:Bool):decode (zero b) = .fin b 0 (-1074):=by cases b <;> kernel_rfl
theorem val_zero (b:Bool):val (zero b)=0:=by cases b <;> kernel_rfl
theorem add_near {x y:UInt64} (hx:isFin x) (hy:isFin y) (h1:fv x+fv y < 8) (h2 : -8 < fv x+fv y):isFin (add x y)∧fv (add x y)-(fv x+fv y)≤eps ∧ -eps≤fv (add x y)-(fv x+fv y):=by
  obtain ⟨a,m,e,hx⟩:=hx
  obtain ⟨b,k,f,hy⟩:=hy
  obtain ⟨z,n⟩:=add_right hx hy
  have p:=uK_pos
  have v1:=fv_val x
  have v2:=fv_val y
  by_cases h0:val x+val y=0
  · rw [z h0]
    have e0:fv x+fv y=0:=by
      have:((val x+val y:Int):Rat)=0:=by rw [h0]; rfl
      push_cast at this
      unfold fv; grind
    have e1:fv (zero (a && b))=0:=by unfold fv; rw [val_zero]; grind
    rw [e0,e1]
    exact ⟨⟨_,_,_,zero_fin _⟩,by grind,by grind⟩
  · have R:=n h0
    have g1:=Rat.mul_lt_mul_of_pos_right h1 p
    have g2:=Rat.mul_lt_mul_of_pos_right h2 p
    have hb:=lt_8 (v:=val x+val y) (by push_cast; grind) (by push_cast; grind)
    obtain ⟨⟨m',e',hf⟩,hd⟩:=right_near (by decide) hb R
    rw [sgn_self] at hd
    obtain ⟨g1,g2⟩:=near_of _ _ hd
    have v3:=fv_val (add x y)
    have ue:=uK_eq
    push_cast at g1 g2
    have w1:(fv (add x y)-(fv x+fv y))*uK≤eps*uK:=by grind
    have w2 : -eps*uK≤(fv (add x y)-(fv x+fv y))*uK:=by grind
    exact ⟨⟨_,_,_,hf⟩,Rat.le_of_mul_le_mul_right w1 p,Rat.le_of_mul_le_mul_right w2 p⟩
theorem neg_fin {x:UInt64} (h:isFin x):isFin (Float64.neg x)∧fv (Float64.neg x) = -fv x:=by
  obtain ⟨a,m,e,h⟩:=h
  have p:=uK_pos
  refine ⟨⟨_,_,_,neg_decode h⟩,?_⟩
  unfold fv
  rw [neg_val h]
  push_cast
  grind
theorem sub_near {x y:UInt64} (hx:isFin x) (hy:isFin y) (h1:fv x-fv y < 8) (h2 : -8 < fv x-fv y):isFin (sub x y)∧fv (sub x y)-(fv x-fv y)≤eps ∧ -eps≤fv (sub x y)-(fv x-fv y):=by
  obtain ⟨n1,n2⟩:=neg_fin hy
  have:=add_near hx n1 (by grind) (by grind)
  rw [n2] at this
  unfold sub
  exact ⟨this.1,by grind,by grind⟩
theorem val_sgn {x:UInt64} {a:Bool} {m:Nat} {e:Int} (h:decode x = .fin a m e):val x=Float64.sgn a (val x).natAbs:=by
  rw [val_natAbs h,val_eq h]
theorem sgn_mul2 (a b:Bool) (m k:Nat):Float64.sgn (a != b) (m*k)=Float64.sgn a m*Float64.sgn b k:=by
  unfold Float64.sgn
  cases a <;> cases b <;> simp [Int.mul_neg,Int.neg_mul]
theorem mul_near {x y:UInt64} (hx:isFin x) (hy:isFin y) (h1:fv x*fv y < 8) (h2 : -8 < fv x*fv y):isFin (mul x y)∧fv (mul x y)-fv x*fv y≤eps ∧ -eps≤fv (mul x y)-fv x*fv y:=by
  obtain ⟨a,m,e,hx⟩:=hx
  obtain ⟨b,k,f,hy⟩:=hy
  have R:=mul_right hx hy
  have p:=uK_pos
  have pp:=Rat.mul_pos p p
  have v1:=fv_val x
  have v2:=fv_val y
  have hS:Float64.sgn (a != b) ((val x).natAbs*(val y).natAbs)=val x*val y:=by
    rw [sgn_mul2,← val_sgn hx,← val_sgn hy]
  have hW:(val x).natAbs*(val y).natAbs < 2^1077*2^1074:=by
    rw [← Int.natAbs_mul]
    have g1:=Rat.mul_lt_mul_of_pos_right h1 pp
    have g2:=Rat.mul_lt_mul_of_pos_right h2 pp
    have e1:((val x*val y:Int):Rat)=fv x*fv y*(uK*uK):=by push_cast; rw [v1,v2]; grind
    have e:(2:Nat)^1077*2^1074=8*(2^1074*2^1074):=by
      rw [show (2:Nat)^1077=2^3*2^1074 from by rw [← Nat.pow_add],Nat.mul_assoc]
    rw [e]
    rw [← e1] at g1 g2
    have e2:uK*uK=((2^1074*2^1074:Nat):Rat):=by unfold uK; rw [Rat.natCast_mul]
    rw [e2] at g1 g2
    generalize (2:Nat)^1074*2^1074=K at g1 g2 ⊢
    generalize val x*val y=v at g1 g2 ⊢
    have h1':(v:Rat) < ((8*K:Nat):Rat):=by push_cast; exact g1
    have h2':((-((8*K:Nat):Int):Int):Rat) < (v:Rat):=by push_cast; grind
    have h1:v < ((8*K:Nat):Int):=by exact_mod_cast h1'
    have h2:(-((8*K:Nat):Int)) < v:=by exact_mod_cast h2'
    omega
  obtain ⟨⟨m',e',hf⟩,hd⟩:=right_near (Nat.two_pow_pos _) hW R
  rw [hS] at hd
  obtain ⟨g1,g2⟩:=near_of _ _ hd
  have v3:=fv_val (mul x y)
  have ue:=uK_eq
  have eD:(((2^1074:Nat):Nat):Rat)=uK:=rfl
  rw [eD] at g1 g2
  push_cast at g1 g2
  rw [v3,v1,v2] at g1 g2
  have w1:(fv (mul x y)-fv x*fv y)*(uK*uK)≤eps*(uK*uK):=by
    have z:eps*(uK*uK)=uK*uR:=by rw [ue]; decide +kernel
    rw [z]; grind
  have w2 : -eps*(uK*uK)≤(fv (mul x y)-fv x*fv y)*(uK*uK):=by
    have z : -eps*(uK*uK) = -(uK*uR):=by rw [ue]; decide +kernel
    rw [z]; grind
  exact ⟨⟨_,_,_,hf⟩,Rat.le_of_mul_le_mul_right w1 pp,Rat.le_of_mul_le_mul_right w2 pp⟩
theorem fv_pos {x:UInt64}:0 < fv x→0 < val x:=fun h=>by
  have p:=uK_pos
  have v:=fv_val x
  have g:=Rat.mul_pos h p
  rw [← v] at g
  exact_mod_cast g
theorem div_near {x y:UInt64} (hx:isFin x) (hy:isFin y) (h0:0 < fv y) (q:Rat) (hq:fv x=q*fv y) (h1:q < 8) (h2 : -8 < q):isFin (div x y)∧fv (div x y)-q≤eps ∧ -eps≤fv (div x y)-q:=by
  obtain ⟨a,m,e,hx⟩:=hx
  obtain ⟨b,k,f,hy⟩:=hy
  have p:=uK_pos
  have v1:=fv_val x
  have v2:=fv_val y
  have vy:=fv_pos h0
  have hb:b=false:=by
    cases b with
    | false=>rfl
    | true =>
      have z:=val_eq hy
      unfold Float64.sgn at z
      simp only [if_true] at z
      omega
  have hk:k≠0:=fun hk=>by
    have z:=val_natAbs hy
    rw [hk,Nat.zero_mul] at z
    omega
  have R:=div_right hx hy hk
  rw [hb] at R
  have hn:((val y).natAbs:Int)=val y:=by omega
  have hS:Float64.sgn (a != false) ((val x).natAbs*2^1074)=val x*((2^1074:Nat):Int):=by
    rw [Float64.sgn_mul,show (a != false)=a from by cases a <;> rfl,← val_sgn hx]
  have pp:=Rat.mul_pos h0 (Rat.mul_pos p p)
  have hW:(val x).natAbs*2^1074 < 2^1077*(val y).natAbs:=by
    have g1:=Rat.mul_lt_mul_of_pos_right h1 pp
    have g2:=Rat.mul_lt_mul_of_pos_right h2 pp
    have e:(2:Nat)^1077=8*2^1074:=by
      rw [show (2:Nat)^1077=2^3*2^1074 from by rw [← Nat.pow_add]]
    rw [e]
    have e1:q*(fv y*(uK*uK))=(val x:Rat)*uK:=by rw [v1,hq]; grind
    have e2:(8:Rat)*(fv y*(uK*uK))=8*uK*(val y:Rat):=by rw [v2]; grind
    have e3:(-8:Rat)*(fv y*(uK*uK)) = -(8*uK*(val y:Rat)):=by rw [v2]; grind
    rw [e1,e2] at g1
    rw [e1,e3] at g2
    unfold uK at g1 g2
    generalize (2:Nat)^1074=K at g1 g2 ⊢
    have g1:((val x*(K:Int):Int):Rat) < ((8*(K:Int)*val y:Int):Rat):=by push_cast; exact g1
    have g2:((-(8*(K:Int)*val y):Int):Rat) < ((val x*(K:Int):Int):Rat):=by push_cast; exact g2
    have g1:val x*(K:Int) < 8*(K:Int)*val y:=by exact_mod_cast g1
    have g2 : -(8*(K:Int)*val y) < val x*(K:Int):=by exact_mod_cast g2
    have t1:(((val x).natAbs*K:Nat):Int)=(val x*(K:Int)).natAbs:=by rw [Int.natAbs_mul]; rfl
    have t2:((8*K*(val y).natAbs:Nat):Int)=8*(K:Int)*val y:=by rw [Int.natCast_mul,hn,Int.natCast_mul]; rfl
    omega
  have hD:0 < (val y).natAbs:=by omega
  obtain ⟨⟨m',e',hf⟩,hd⟩:=right_near hD hW R
  rw [hS] at hd
  obtain ⟨g1,g2⟩:=near_of _ _ hd
  have v3:=fv_val (div x y)
  have ue:=uK_eq
  have eD:(((val y).natAbs:Nat):Rat)=fv y*uK:=by
    rw [← v2]
    exact_mod_cast congrArg (fun z:Int=>(z:Rat)) hn
  have eU:((val x*((2^1074:Nat):Int):Int):Rat)=fv x*uK*uK:=by
    rw [Rat.intCast_mul,v1]; rfl
  rw [eD,eU] at g1 g2
  rw [v3,hq] at g1 g2
  have w1:(fv (div x y)-q)*(fv y*(uK*uK))≤eps*(fv y*(uK*uK)):=by
    have z:eps*(fv y*(uK*uK))=fv y*uK*uR:=by rw [ue]; grind
    rw [z]; grind
  have w2 : -eps*(fv y*(uK*uK))≤(fv (div x y)-q)*(fv y*(uK*uK)):=by
    have z : -eps*(fv y*(uK*uK)) = -(fv y*uK*uR):=by rw [ue]; grind
    rw [z]; grind
  exact ⟨⟨_,_,_,hf⟩,Rat.le_of_mul_le_mul_right w1 pp,Rat.le_of_mul_le_mul_right w2 pp⟩
theorem fv_lt {x y:UInt64}:fv x < fv y↔val x < val y:=by
  have p:=uK_pos
  have v1:=fv_val x
  have v2:=fv_val y
  constructor
  · intro h
    have g:=Rat.mul_lt_mul_of_pos_right h p
    rw [← v1,← v2] at g
    exact_mod_cast g
  · intro h
    have g:(val x:Rat) < (val y:Rat):=by exact_mod_cast h
    rw [v1,v2] at g
    rcases Rat.le_total (a:=fv y) (b:=fv x) with z | z
    · have:=Rat.mul_le_mul_of_nonneg_right z (Rat.le_of_lt p)
      grind
    · rcases Rat.le_iff_lt_or_eq.1 z with z | z
      · exact z
      · rw [z] at g; grind
theorem fv_eq {x y:UInt64}:fv x=fv y↔val x=val y:=by
  have p:=uK_pos
  have v1:=fv_val x
  have v2:=fv_val y
  constructor
  · intro h
    rw [h,← v2] at v1
    exact_mod_cast v1
  · intro h
    unfold fv
    rw [h]
theorem cmp_is {x y:UInt64} (hx:isFin x) (hy:isFin y):cmp x y=some (compare (val x) (val y)):=by
  obtain ⟨a,m,e,hx⟩:=hx
  obtain ⟨b,k,f,hy⟩:=hy
  exact cmp_right hx hy
theorem lt_is {x y:UInt64} (hx:isFin x) (hy:isFin y) (b:Bool) (h:(cmp x y == some .lt)=b):if b then fv x < fv y else fv y≤fv x:=by
  rw [cmp_is hx hy] at h
  rcases Int.lt_trichotomy (val x) (val y) with q | q | q
  · rw [Int.compare_eq_lt.mpr q] at h; subst h; exact fv_lt.2 q
  · have:=fv_eq.2 q
    rw [q,Int.compare_eq_eq.mpr rfl] at h; subst h
    show fv y≤fv x
    grind
  · have:=fv_lt.2 q
    rw [Int.compare_eq_gt.mpr q] at h; subst h
    show fv y≤fv x
    grind
theorem eq_is {x y:UInt64} (hx:isFin x) (hy:isFin y) (b:Bool) (h:(cmp x y == some .eq)=b):if b then fv x=fv y else fv x≠fv y:=by
  rw [cmp_is hx hy] at h
  rcases Int.lt_trichotomy (val x) (val y) with q | q | q
  · have:=fv_lt.2 q
    rw [Int.compare_eq_lt.mpr q] at h; subst h
    show fv x≠fv y
    grind
  · rw [q,Int.compare_eq_eq.mpr rfl] at h; subst h; exact fv_eq.2 q
  · have:=fv_lt.2 q
    rw [Int.compare_eq_gt.mpr q] at h; subst h
    show fv x≠fv y
    grind
theorem near_pure {v n q d K R:Rat} (ue:K=1125899906842624*R) (dp:0 < d) (p:0 < K) (hq:n=q*d) (g1:v*K*d-n*K≤d*R) (g2 : -(d*R)≤v*K*d-n*K):v-q≤eps ∧ -eps≤v-q:=by
  have pp:=Rat.mul_pos dp p
  have e:(v-q)*(d*K)=v*K*d-n*K:=by rw [hq]; grind
  have w1:(v-q)*(d*K)≤eps*(d*K):=by
    have z:eps*(d*K)=d*R:=by rw [ue]; grind
    rw [z,e]; exact g1
  have w2 : -eps*(d*K)≤(v-q)*(d*K):=by
    have z : -eps*(d*K) = -(d*R):=by rw [ue]; grind
    rw [z,e]; exact g2
  exact ⟨Rat.le_of_mul_le_mul_right w1 pp,Rat.le_of_mul_le_mul_right w2 pp⟩
theorem frac_near (n d:Nat) (hd:0 < d) (h:n < 8*d):isFin (ofFrac false n d)∧fv (ofFrac false n d)-(n:Rat) / d≤eps ∧ -eps≤fv (ofFrac false n d)-(n:Rat) / d:=by
  have R:=ofFrac_right (neg:=false) (n:=n) (d:=d) (W:=n*2^1074) (D:=d) hd rfl hd
  have p:=uK_pos
  have hW:n*2^1074 < 2^1077*d:=by
    have e:(2:Nat)^1077=8*2^1074:=by
      rw [show (2:Nat)^1077=2^3*2^1074 from by rw [← Nat.pow_add]]
    rw [e]
    have:=Nat.mul_lt_mul_of_pos_right h (Nat.two_pow_pos 1074)
    rw [Nat.mul_right_comm] at this
    exact this
  obtain ⟨⟨m',e',hf⟩,hd'⟩:=right_near hd hW R
  obtain ⟨g1,g2⟩:=near_of _ _ hd'
  have hS:((Float64.sgn false (n*2^1074):Int):Rat)=(n:Rat)*uK:=by
    show (((n*2^1074:Nat):Int):Rat)=_
    rw [Rat.intCast_natCast,Rat.natCast_mul]; rfl
  have v3:=fv_val (ofFrac false n d)
  have ue:=uK_eq
  rw [hS,v3] at g1 g2
  have dp:(0:Rat) < (d:Rat):=by exact_mod_cast hd
  have hq:(n:Rat)=(n:Rat) / d*d:=by clear R hW hd' hS v3 g1 g2; grind
  have z:=near_pure ue dp p hq g1 g2
  exact ⟨⟨_,_,_,hf⟩,z.1,z.2⟩
theorem one_dec:decode one = .fin false (2^52) (-52):=by kernel_rfl
theorem one_fin:isFin one:=⟨_,_,_,one_dec⟩
theorem one_val:val one=((2^1074:Nat):Int):=by
  rw [val_eq one_dec]
  unfold Float64.sgn
  simp only [Bool.false_eq_true,if_false]
  rw [← Nat.pow_add]
  rfl
theorem fv_one:fv one=1:=by
  have p:=uK_pos
  unfold fv
  rw [one_val]
  have:((((2^1074:Nat):Int)):Rat)=uK:=rfl
  rw [this]
  grind
theorem fmod_right {x:UInt64} {a:Bool} {m:Nat} {e:Int} (hx:decode x = .fin a m e):Right (fmod x one) a ((val x).natAbs % 2^1074) 1:=by
  have he:=decode_ge hx
  have hf:fmod x one=ofBin a ((m*2^(e-min e (-52)).toNat) % (2^52*2^(-52-min e (-52)).toNat)) (min e (-52)):=by
    unfold fmod
    rw [hx,one_dec]
    rfl
  rw [hf]
  have R:=ofBin_right (neg:=a) (M:=(m*2^(e-min e (-52)).toNat) % (2^52*2^(-52-min e (-52)).toNat)) (g:=min e (-52)) (by lia)
  have e1:(m*2^(e-min e (-52)).toNat) % (2^52*2^(-52-min e (-52)).toNat)*2^(min e (-52)+1074).toNat=(val x).natAbs % 2^1074:=by
    rw [val_natAbs hx,← Nat.mul_mod_mul_right,Nat.mul_assoc,Nat.mul_assoc,← Nat.pow_add,← Nat.pow_add,← Nat.pow_add]
    rw [show (e-min e (-52)).toNat+(min e (-52)+1074).toNat=(e+1074).toNat by lia,show 52+((-52-min e (-52)).toNat+(min e (-52)+1074).toNat)=1074 by lia]
  rw [e1] at R
  exact R
theorem isZero_val {x:UInt64} (h:isZero x=true):val x=0:=by
  unfold isZero at h
  split at h
  · rename_i hd
    rw [val_eq hd]
    unfold Float64.sgn
    split <;> simp
  · cases h
theorem fmod_near {x:UInt64} (hx:isFin x):isFin (fmod x one) ∧ ∃ (j:Int) (T:Rat),T=fv x-j ∧ -1 < T∧T < 1∧fv (fmod x one)-T≤eps ∧ -eps≤fv (fmod x one)-T:=by
  obtain ⟨a,m,e,hx⟩:=hx
  have R:=fmod_right hx
  have p:=uK_pos
  have hm:(val x).natAbs % 2^1074 < 2^1074:=Nat.mod_lt _ (Nat.two_pow_pos _)
  have hW:(val x).natAbs % 2^1074 < 2^1077*1:=by
    have:(2:Nat)^1074≤2^1077:=Nat.pow_le_pow_right (by decide) (by decide)
    lia
  obtain ⟨⟨m',e',hf⟩,hd⟩:=right_near (by decide) hW R
  obtain ⟨g1,g2⟩:=near_of _ _ hd
  have dm:=Nat.div_add_mod (val x).natAbs (2^1074)
  have vs:=val_sgn hx
  have v1:=fv_val x
  have v3:=fv_val (fmod x one)
  have ue:=uK_eq
  have eK:(((2^1074:Nat):Nat):Rat)=uK:=rfl
  have split:Float64.sgn a ((val x).natAbs % 2^1074)=val x-Float64.sgn a ((val x).natAbs / 2^1074)*((2^1074:Nat):Int):=by
    rw [← Float64.sgn_mul]
    clear R hd g1 g2 hW hm v1 v3
    generalize (val x).natAbs=N at dm vs ⊢
    rw [vs]
    unfold Float64.sgn
    generalize N / 2^1074=q at dm ⊢
    generalize N % 2^1074=r at dm ⊢
    generalize (2:Nat)^1074=K at dm ⊢
    rw [Nat.mul_comm] at dm
    cases a <;> simp only [Bool.false_eq_true,if_false,if_true] <;> lia
  have rng : -((2^1074:Nat):Int) < Float64.sgn a ((val x).natAbs % 2^1074)∧Float64.sgn a ((val x).natAbs % 2^1074) < ((2^1074:Nat):Int):=by
    unfold Float64.sgn
    generalize (val x).natAbs % 2^1074=r at hm ⊢
    generalize (2:Nat)^1074=K at hm ⊢
    cases a <;> simp only [Bool.false_eq_true,if_false,if_true] <;> lia
  rw [split] at g1 g2 rng
  generalize Float64.sgn a ((val x).natAbs / 2^1074)=j at g1 g2 rng
  obtain ⟨r1,r2⟩:=rng
  have r1':((-((2^1074:Nat):Int):Int):Rat) < ((val x-j*((2^1074:Nat):Int):Int):Rat):=by exact_mod_cast r1
  have r2':((val x-j*((2^1074:Nat):Int):Int):Rat) < ((((2^1074:Nat):Int):Int):Rat):=by exact_mod_cast r2
  have c1:((val x-j*((2^1074:Nat):Int):Int):Rat)=(fv x-j)*uK:=by
    rw [Rat.intCast_sub,Rat.intCast_mul,v1,Rat.intCast_natCast,eK]; grind
  have c2:((-((2^1074:Nat):Int):Int):Rat) = -1*uK:=by
    rw [Rat.intCast_neg,Rat.intCast_natCast,eK]; grind
  have c3:((((2^1074:Nat):Int):Int):Rat)=1*uK:=by
    rw [Rat.intCast_natCast,eK]; grind
  rw [c1] at r1' r2' g1 g2
  rw [c2] at r1'
  rw [c3] at r2'
  rw [v3] at g1 g2
  have lt_of : ∀ {a b:Rat},a*uK < b*uK→a < b:=fun {a b} h=>by
    rcases Rat.le_total (a:=b) (b:=a) with z | z
    · have:=Rat.mul_le_mul_of_nonneg_right z (Rat.le_of_lt p)
      grind
    · rcases Rat.le_iff_lt_or_eq.1 z with z | z
      · exact z
      · rw [z] at h; grind
  refine ⟨⟨_,_,_,hf⟩,j,fv x-j,rfl,lt_of r1',lt_of r2',?_⟩
  have n:=near_pure (n:=fv x-j) (q:=fv x-j) (d:=1) ue (by decide) p (by grind) (v:=fv (fmod x one)) (R:=uR) (by push_cast at g1; grind) (by push_cast at g2; grind)
  exact n
theorem mod_is (x:UInt64):(divmod x one).2=if isZero (fmod x one)=true then zero false else if lt (fmod x one) (zero false)=true then add (fmod x one) one else fmod x one:=by
  have c:copysign (zero false) one=zero false:=by kernel_rfl
  have l:lt one (zero false)=false:=by kernel_rfl
  unfold divmod
  simp only [c,l]
  split
  · rfl
  · cases lt (fmod x one) (zero false) <;> rfl
theorem fv_zero (b:Bool):fv (zero b)=0:=by
  unfold fv; rw [val_zero]; grind
theorem mod_near {x:UInt64} (hx:isFin x):isFin (divmod x one).2 ∧ ∃ j:Int,fv (divmod x one).2-(fv x-j)≤2*eps ∧ -(2*eps)≤fv (divmod x one).2-(fv x-j) ∧ -(2*eps)≤fv (divmod x one).2∧fv (divmod x one).2≤1+2*eps:=by
  obtain ⟨hm,j,T,hT,t1,t2,n1,n2⟩:=fmod_near hx
  rw [mod_is]
  by_cases hz:isZero (fmod x one)=true
  · rw [if_pos hz]
    have z:=isZero_val hz
    have z2:fv (fmod x one)=0:=by unfold fv; rw [z]; grind
    rw [fv_zero]
    exact ⟨⟨_,_,_,zero_fin _⟩,j,by grind,by grind,by grind,by grind⟩
  · rw [if_neg hz]
    have hl:=lt_is hm (y:=zero false) ⟨_,_,_,zero_fin _⟩
    rw [fv_zero] at hl
    by_cases hs:lt (fmod x one) (zero false)=true
    · rw [if_pos hs]
      have h0:fv (fmod x one) < 0:=hl true hs
      obtain ⟨a0,a1,a2⟩:=add_near hm one_fin (by rw [fv_one]; grind) (by rw [fv_one]; grind)
      rw [fv_one] at a1 a2
      refine ⟨a0,j-1,?_,?_,?_,?_⟩ <;> push_cast <;> grind
    · rw [if_neg hs]
      have h0:0≤fv (fmod x one):=hl false (by simpa [lt] using hs)
      exact ⟨hm,j,by grind,by grind,by grind,by grind⟩
theorem trunc_is {x:UInt64} {a:Bool} {m:Nat} {e:Int} (hx:decode x = .fin a m e) (n:Nat) (h1:(n:Rat) < fv x) (h2:fv x < n+1):truncOf a m e=Int.ofNat n:=by
  have p:=uK_pos
  have v1:=fv_val x
  have he:=decode_ge hx
  have n0:(0:Rat)≤(n:Rat):=by exact_mod_cast Nat.zero_le n
  have hp:0 < val x:=fv_pos (by grind)
  have hv:=val_eq hx
  have ha:a=false:=by
    cases a with
    | false=>rfl
    | true =>
      unfold Float64.sgn at hv
      simp only [if_true] at hv
      lia
  subst ha
  have hv:val x=((m*2^(e+1074).toNat:Nat):Int):=hv
  have b1:n*2^1074 < m*2^(e+1074).toNat∧m*2^(e+1074).toNat < (n+1)*2^1074:=by
    have g1:=Rat.mul_lt_mul_of_pos_right h1 p
    have g2:=Rat.mul_lt_mul_of_pos_right h2 p
    rw [← v1,hv] at g1 g2
    unfold uK at g1 g2
    rw [Rat.intCast_natCast] at g1 g2
    generalize m*2^(e+1074).toNat=M at g1 g2 ⊢
    generalize (2:Nat)^1074=K at g1 g2 ⊢
    have g1:((n*K:Nat):Rat) < (M:Rat):=by push_cast; exact g1
    have g2:(M:Rat) < (((n+1)*K:Nat):Rat):=by push_cast; exact g2
    exact ⟨by exact_mod_cast g1,by exact_mod_cast g2⟩
  unfold truncOf floorOf Float64.sgn
  simp only [Bool.false_eq_true,if_false]
  obtain ⟨b1,b2⟩:=b1
  split
  · rename_i h
    have ee:(e+1074).toNat=e.toNat+1074:=by lia
    rw [ee,Nat.pow_add,← Nat.mul_assoc] at b1 b2
    have c1:=Nat.lt_of_mul_lt_mul_right b1
    have c2:=Nat.lt_of_mul_lt_mul_right b2
    lia
  · rename_i h
    have ee:1074=(e+1074).toNat+(-e).toNat:=by lia
    have e2:(2:Nat)^1074=2^(e+1074).toNat*2^(-e).toNat:=by rw [← Nat.pow_add,← ee]
    rw [e2] at b1 b2
    have c1:n*2^(-e).toNat < m:=by
      refine Nat.lt_of_mul_lt_mul_right (a:=2^(e+1074).toNat) ?_
      rw [Nat.mul_assoc,Nat.mul_comm (2^(-e).toNat)]
      exact b1
    have c2:m < (n+1)*2^(-e).toNat:=by
      refine Nat.lt_of_mul_lt_mul_right (a:=2^(e+1074).toNat) ?_
      rw [Nat.mul_assoc,Nat.mul_comm (2^(-e).toNat)]
      exact b2
    have pe:(2:Int)^(-e).toNat=((2^(-e).toNat:Nat):Int):=by push_cast; rfl
    rw [pe,Int.fdiv_eq_ediv_of_nonneg _ (Int.natCast_nonneg _)]
    exact congrArg Int.ofNat (Nat.div_eq_of_lt_le (Nat.le_of_lt c1) c2)
theorem trunc_nearS (q:Nat) (h:q < 2^1107) : ∃ t,V t≤q∧q < V t+2^30*uE:=by
  by_cases hs:q < 2^52
  · refine ⟨q,?_,?_⟩ <;> have e:V q=q:=by unfold V; rw [if_pos (Nat.div_eq_of_lt hs)]
    · lia
    · have:=uE_pos; lia
  · have hq:q≠0:=by lia
    have l1:2^q.log2≤q:=Nat.log2_self_le hq
    have l2:q < 2^(q.log2+1):=Nat.lt_log2_self
    have l3:52≤q.log2:=(Nat.le_log2 hq).2 (by lia)
    have l4:q.log2 < 1107:=(Nat.log2_lt hq).2 h
    have hk:q.log2=(q.log2-52)+52:=by lia
    generalize hK:q.log2-52=k at hk
    rw [hk] at l1 l2
    have p0:=Nat.two_pow_pos k
    have d1:2^52≤q / 2^k:=by
      rw [Nat.le_div_iff_mul_le p0]
      rw [Nat.pow_add,Nat.mul_comm] at l1
      exact l1
    have d2:q / 2^k < 2^53:=by
      rw [Nat.div_lt_iff_lt_mul p0]
      rw [Nat.add_assoc,Nat.pow_add,Nat.mul_comm] at l2
      exact l2
    have hV:=V_at (k:=k) (q:=q / 2^k) (by lia) (.inl d1)
    refine ⟨_,by rw [hV]; exact Nat.div_mul_le_self q (2^k),?_⟩
    rw [hV]
    have m:=Nat.mod_lt q p0
    have dm:=Nat.div_add_mod q (2^k)
    have le:2^k≤2^30*uE:=by
      have:2^k≤2^(30+1024):=Nat.pow_le_pow_right (by decide) (by lia)
      rw [Nat.pow_add] at this
      exact this
    rw [Nat.mul_comm] at dm
    lia
theorem over_notS {W D:Nat} (hW:W < 2^1107*D) : ¬ (D*((2^54-1)*2^2045)≤2*W):=fun h=>by
  have h1:2^1108≤(2^54-1)*2^2045:=by decide +kernel
  have h2:D*2^1108≤D*((2^54-1)*2^2045):=Nat.mul_le_mul_left D h1
  have h3:2^1107*D*2=D*2^1108:=by
    rw [show (2:Nat)^1108=2^1107*2 from Nat.pow_succ ..]
    generalize (2:Nat)^1107=K
    ac_rfl
  lia
theorem right_nearS {r:UInt64} {neg:Bool} {W D:Nat} (hD:0 < D) (hW:W < 2^1107*D) (R:Right r neg W D):(∃ m e,decode r = .fin neg m e)∧(val r*D-Float64.sgn neg W).natAbs≤D*(2^30*uE):=by
  obtain ⟨t,rfl,ht,hi,hn⟩:=R
  have hlt:t < infMag:=by
    rcases Nat.lt_or_ge t infMag with h | h
    · exact h
    · exact absurd (hi.1 (by lia)) (over_notS hW)
  obtain ⟨m,e,hd,_⟩:=decode_pack neg hlt
  refine ⟨⟨m,e,hd⟩,?_⟩
  rw [val_pack neg hlt,← Float64.sgn_mul,dist_sgn]
  obtain ⟨t',v1,v2⟩:=trunc_nearS (W / D) ((Nat.div_lt_iff_lt_mul hD).2 hW)
  have:=(hn hlt t').1
  have e1:D*V t'≤W:=Nat.le_trans (Nat.mul_le_mul_left D v1) (Nat.mul_div_le W D)
  have e2:W < D*V t'+D*(2^30*uE):=by
    have z:=Nat.lt_mul_div_succ W hD
    have z2:D*(W / D+1)≤D*(V t'+2^30*uE):=Nat.mul_le_mul_left D v2
    have z3:D*(V t'+2^30*uE)=D*V t'+D*(2^30*uE):=Nat.mul_add ..
    omega
  have e3:dist (V t*D) W=dist W (D*V t):=by unfold dist; rw [Nat.mul_comm]; lia
  rw [e3]
  unfold dist at this ⊢
  generalize 2^30*uE=E at *
  lia
theorem near_ofS {D:Nat} (v:Int) (S:Int) (h:(v*D-S).natAbs≤D*(2^30*uE)):(v:Rat)*D-S≤D*(1073741824*uR) ∧ -(D*(1073741824*uR))≤(v:Rat)*D-S:=by
  have eE:(((2^30*uE:Nat):Nat):Rat)=1073741824*uR:=by rw [Rat.natCast_mul]; rfl
  rw [← eE]
  generalize 2^30*uE=E at *
  have h1:v*D-S≤((D*E:Nat):Int):=by lia
  have h2 : -((D*E:Nat):Int)≤v*D-S:=by lia
  have h1':((v*D-S:Int):Rat)≤(((D*E:Nat):Int):Rat):=by exact_mod_cast h1
  have h2':((-((D*E:Nat):Int):Int):Rat)≤((v*D-S:Int):Rat):=by exact_mod_cast h2
  push_cast at h1' h2'
  exact ⟨h1',h2'⟩
noncomputable abbrev epsS:Rat:=1 / 1048576
theorem pow1107:(2:Nat)^1107=8589934592*2^1074:=by
  rw [show (2:Nat)^1107=2^33*2^1074 from by rw [← Nat.pow_add]]
theorem near_pureS {v n q d K R:Rat} (ue:K=1125899906842624*R) (dp:0 < d) (p:0 < K) (hq:n=q*d) (g1:v*K*d-n*K≤d*(1073741824*R)) (g2 : -(d*(1073741824*R))≤v*K*d-n*K):v-q≤epsS ∧ -epsS≤v-q:=by
  have pp:=Rat.mul_pos dp p
  have e:(v-q)*(d*K)=v*K*d-n*K:=by rw [hq]; grind
  have w1:(v-q)*(d*K)≤epsS*(d*K):=by
    have z:epsS*(d*K)=d*(1073741824*R):=by rw [ue]; grind
    rw [z,e]; exact g1
  have w2 : -epsS*(d*K)≤(v-q)*(d*K):=by
    have z : -epsS*(d*K) = -(d*(1073741824*R)):=by rw [ue]; grind
    rw [z,e]; exact g2
  exact ⟨Rat.le_of_mul_le_mul_right w1 pp,Rat.le_of_mul_le_mul_right w2 pp⟩
theorem lt_8S {v:Int} (h1:(v:Rat) < 8589934592*uK) (h2 : -(8589934592*uK) < (v:Rat)):v.natAbs < 2^1107*1:=by
  rw [pow1107,Nat.mul_one]
  unfold uK at h1 h2
  generalize (2:Nat)^1074=K at h1 h2 ⊢
  have h1':(v:Rat) < ((8589934592*K:Nat):Rat):=by rw [Rat.natCast_mul]; exact h1
  have h2':((-((8589934592*K:Nat):Int):Int):Rat) < (v:Rat):=by rw [Rat.intCast_neg,Rat.intCast_natCast,Rat.natCast_mul]; exact h2
  generalize 8589934592*K=Z at h1' h2' ⊢
  have h1:v < (Z:Int):=by exact_mod_cast h1'
  have h2:(-(Z:Int)) < v:=by exact_mod_cast h2'
  lia
theorem add_nearS {x y:UInt64} (hx:isFin x) (hy:isFin y) (h1:fv x+fv y < 8589934592) (h2 : -8589934592 < fv x+fv y):isFin (add x y)∧fv (add x y)-(fv x+fv y)≤epsS ∧ -epsS≤fv (add x y)-(fv x+fv y):=by
  obtain ⟨a,m,e,hx⟩:=hx
  obtain ⟨b,k,f,hy⟩:=hy
  obtain ⟨z,n⟩:=add_right hx hy
  have p:=uK_pos
  have v1:=fv_val x
  have v2:=fv_val y
  by_cases h0:val x+val y=0
  · rw [z h0]
    have e0:fv x+fv y=0:=by
      have:((val x+val y:Int):Rat)=0:=by rw [h0]; rfl
      push_cast at this
      unfold fv; grind
    have e1:fv (zero (a && b))=0:=by unfold fv; rw [val_zero]; decide +kernel
    rw [e0,e1]
    exact ⟨⟨_,_,_,zero_fin _⟩,by decide +kernel,by decide +kernel⟩
  · have R:=n h0
    have g1:=Rat.mul_lt_mul_of_pos_right h1 p
    have g2:=Rat.mul_lt_mul_of_pos_right h2 p
    have hb:=lt_8S (v:=val x+val y) (by rw [Rat.intCast_add]; grind) (by rw [Rat.intCast_add]; grind)
    obtain ⟨⟨m',e',hf⟩,hd⟩:=right_nearS (by decide) hb R
    rw [sgn_self] at hd
    obtain ⟨g1,g2⟩:=near_ofS _ _ hd
    have v3:=fv_val (add x y)
    have ue:=uK_eq
    rw [Rat.intCast_add,v1,v2,v3] at g1 g2
    have e1:(((1:Nat):Nat):Rat)=1:=rfl
    rw [e1] at g1 g2
    have e2:fv x*uK+fv y*uK=(fv x+fv y)*uK:=by grind
    rw [e2] at g1 g2
    exact ⟨⟨_,_,_,hf⟩,near_pureS ue (by decide) p (by grind) g1 g2⟩
theorem mul_nearS {x y:UInt64} (hx:isFin x) (hy:isFin y) (h1:fv x*fv y < 8589934592) (h2 : -8589934592 < fv x*fv y):isFin (mul x y)∧fv (mul x y)-fv x*fv y≤epsS ∧ -epsS≤fv (mul x y)-fv x*fv y:=by
  obtain ⟨a,m,e,hx⟩:=hx
  obtain ⟨b,k,f,hy⟩:=hy
  have R:=mul_right hx hy
  have p:=uK_pos
  have pp:=Rat.mul_pos p p
  have v1:=fv_val x
  have v2:=fv_val y
  have hS:Float64.sgn (a != b) ((val x).natAbs*(val y).natAbs)=val x*val y:=by
    rw [sgn_mul2,← val_sgn hx,← val_sgn hy]
  have hW:(val x).natAbs*(val y).natAbs < 2^1107*2^1074:=by
    rw [← Int.natAbs_mul]
    have g1:=Rat.mul_lt_mul_of_pos_right h1 pp
    have g2:=Rat.mul_lt_mul_of_pos_right h2 pp
    have e1:((val x*val y:Int):Rat)=fv x*fv y*(uK*uK):=by push_cast; rw [v1,v2]; grind
    rw [pow1107,Nat.mul_assoc]
    rw [← e1] at g1 g2
    have e2:uK*uK=((2^1074*2^1074:Nat):Rat):=by unfold uK; rw [Rat.natCast_mul]
    rw [e2] at g1 g2
    generalize (2:Nat)^1074*2^1074=K at g1 g2 ⊢
    generalize val x*val y=v at g1 g2 ⊢
    have h1':(v:Rat) < ((8589934592*K:Nat):Rat):=by rw [Rat.natCast_mul]; exact g1
    have h2':((-((8589934592*K:Nat):Int):Int):Rat) < (v:Rat):=by
      rw [Rat.intCast_neg,Rat.intCast_natCast,Rat.natCast_mul]
      have : -((8589934592:Rat)*(K:Rat)) = -8589934592*(K:Rat):=by grind
      exact this▸g2
    generalize 8589934592*K=Z at h1' h2' ⊢
    have h1:v < (Z:Int):=by exact_mod_cast h1'
    have h2:(-(Z:Int)) < v:=by exact_mod_cast h2'
    lia
  obtain ⟨⟨m',e',hf⟩,hd⟩:=right_nearS (Nat.two_pow_pos _) hW R
  rw [hS] at hd
  obtain ⟨g1,g2⟩:=near_ofS _ _ hd
  have v3:=fv_val (mul x y)
  have ue:=uK_eq
  have eD:(((2^1074:Nat):Nat):Rat)=uK:=rfl
  rw [eD] at g1 g2
  rw [Rat.intCast_mul,v3,v1,v2] at g1 g2
  have e2:fv x*uK*(fv y*uK)=(fv x*fv y*uK)*uK:=by grind
  rw [e2] at g1 g2
  exact ⟨⟨_,_,_,hf⟩,near_pureS ue p p rfl g1 g2⟩
theorem fv_dec {x:UInt64} {a:Bool} {m:Nat} (c:Nat) (h:decode x = .fin a m (-(c:Int))) (hc:c≤1074):fv x*((2^c:Nat):Rat)=((Float64.sgn a m:Int):Rat):=by
  have p:=uK_pos
  have v:=val_eq h
  have e1:(-(c:Int)+1074).toNat=1074-c:=by lia
  rw [e1,Float64.sgn_mul] at v
  have e2:val x*((2^c:Nat):Int)=Float64.sgn a m*((2^1074:Nat):Int):=by
    rw [v,Int.mul_assoc,← Int.natCast_mul,← Nat.pow_add,show 1074-c+c=1074 by lia]
  have e3:((val x*((2^c:Nat):Int):Int):Rat)=((Float64.sgn a m*((2^1074:Nat):Int):Int):Rat):=by rw [e2]
  rw [Rat.intCast_mul,Rat.intCast_mul,Rat.intCast_natCast,Rat.intCast_natCast,fv_val x] at e3
  have eK:(((2^1074:Nat):Nat):Rat)=uK:=rfl
  rw [eK] at e3
  generalize ((2^c:Nat):Rat)=C at e3 ⊢
  generalize ((Float64.sgn a m:Int):Rat)=M at e3 ⊢
  grind
noncomputable def c30:UInt64:=ofInt 1073741824
theorem c30_dec:decode c30 = .fin false 4503599627370496 (-(22:Nat)):=by kernel_rfl
theorem half_dec:decode half = .fin false 4503599627370496 (-(53:Nat)):=by kernel_rfl
theorem c30_fin:isFin c30:=⟨_,_,_,c30_dec⟩
theorem half_fin:isFin half:=⟨_,_,_,half_dec⟩
theorem fv_c30:fv c30=1073741824:=by
  have h:=fv_dec 22 c30_dec (by decide)
  have e1:((2^22:Nat):Rat)=4194304:=rfl
  have e2:((Float64.sgn false 4503599627370496:Int):Rat)=4503599627370496:=rfl
  rw [e1,e2] at h
  decide +kernel
theorem fv_half:fv half=1 / 2:=by
  have h:=fv_dec 53 half_dec (by decide)
  have e1:((2^53:Nat):Rat)=9007199254740992:=rfl
  have e2:((Float64.sgn false 4503599627370496:Int):Rat)=4503599627370496:=rfl
  rw [e1,e2] at h
  decide +kernel
theorem told_int {x:UInt64} (hx:isFin x) (N:Nat) (hN:N≤1073741824) (h1:fv x*1073741824-N≤1 / 4) (h2 : -(1 / 4)≤fv x*1073741824-N) : ∃ a m e,decode (add (mul x c30) half) = .fin a m e∧truncOf a m e=Int.ofNat N:=by
  have n1:(N:Rat)≤1073741824:=by
    have:((N:Nat):Rat)≤((1073741824:Nat):Rat):=Rat.natCast_le_natCast.2 hN
    exact this
  have n0:(0:Rat)≤(N:Rat):=Rat.natCast_nonneg
  obtain ⟨f1,a1,a2⟩:=mul_nearS hx c30_fin (by rw [fv_c30]; grind) (by rw [fv_c30]; grind)
  rw [fv_c30] at a1 a2
  obtain ⟨f2,b1,b2⟩:=add_nearS f1 half_fin (by rw [fv_half]; grind) (by rw [fv_half]; grind)
  rw [fv_half] at b1 b2
  obtain ⟨a,m,e,hd⟩:=f2
  exact ⟨a,m,e,hd,trunc_is hd N (by grind) (by grind)⟩
theorem err_mul {a A u d:Rat} (h1:a-A≤d) (h2 : -d≤a-A) (u1 : -2≤u) (u2:u≤2):a*u-A*u≤2*d ∧ -(2*d)≤a*u-A*u:=by
  have p1:=Rat.mul_nonneg (show 0≤d-(a-A) by grind) (show 0≤2+u by grind)
  have p2:=Rat.mul_nonneg (show 0≤d+(a-A) by grind) (show 0≤2-u by grind)
  have p3:=Rat.mul_nonneg (show 0≤d-(a-A) by grind) (show 0≤2-u by grind)
  have p4:=Rat.mul_nonneg (show 0≤d+(a-A) by grind) (show 0≤2+u by grind)
  constructor <;> grind
noncomputable def c16:UInt64:=4595172819793696085
noncomputable def c13:UInt64:=4599676419421066581
noncomputable def c23:UInt64:=4604180019048437077
noncomputable def c6:UInt64:=4618441417868443648
theorem c16_dec:decode c16 = .fin false 6004799503160661 (-(55:Nat)):=by kernel_rfl
theorem c13_dec:decode c13 = .fin false 6004799503160661 (-(54:Nat)):=by kernel_rfl
theorem c23_dec:decode c23 = .fin false 6004799503160661 (-(53:Nat)):=by kernel_rfl
theorem c6_dec:decode c6 = .fin false 6755399441055744 (-(50:Nat)):=by kernel_rfl
theorem c16_fin:isFin c16:=⟨_,_,_,c16_dec⟩
theorem c13_fin:isFin c13:=⟨_,_,_,c13_dec⟩
theorem c23_fin:isFin c23:=⟨_,_,_,c23_dec⟩
theorem c6_fin:isFin c6:=⟨_,_,_,c6_dec⟩
theorem fv_c6:fv c6=6:=by
  have h:=fv_dec 50 c6_dec (by decide)
  have e1:((2^50:Nat):Rat)=1125899906842624:=rfl
  have e2:((Float64.sgn false 6755399441055744:Int):Rat)=6755399441055744:=rfl
  rw [e1,e2] at h
  decide +kernel
theorem fv_c16:6*fv c16-1≤eps ∧ -eps≤6*fv c16-1:=by
  have h:=fv_dec 55 c16_dec (by decide)
  have e1:((2^55:Nat):Rat)=36028797018963968:=rfl
  have e2:((Float64.sgn false 6004799503160661:Int):Rat)=6004799503160661:=rfl
  rw [e1,e2] at h
  constructor <;> decide +kernel
theorem fv_c13:3*fv c13-1≤eps ∧ -eps≤3*fv c13-1:=by
  have h:=fv_dec 54 c13_dec (by decide)
  have e1:((2^54:Nat):Rat)=18014398509481984:=rfl
  have e2:((Float64.sgn false 6004799503160661:Int):Rat)=6004799503160661:=rfl
  rw [e1,e2] at h
  constructor <;> decide +kernel
theorem fv_c23:3*fv c23-2≤eps ∧ -eps≤3*fv c23-2:=by
  have h:=fv_dec 53 c23_dec (by decide)
  have e1:((2^53:Nat):Rat)=9007199254740992:=rfl
  have e2:((Float64.sgn false 6004799503160661:Int):Rat)=6004799503160661:=rfl
  rw [e1,e2] at h
  constructor <;> decide +kernel
noncomputable def mod1 (x:UInt64):UInt64:=(divmod x one).2
noncomputable def vF (m1 m2 hue:UInt64):UInt64:=if (cmp (mod1 hue) c16 == some .lt)=true then add m1 (mul (mul (sub m2 m1) (mod1 hue)) c6) else if (cmp (mod1 hue) half == some .lt)=true then m2 else if (cmp (mod1 hue) c23 == some .lt)=true then add m1 (mul (mul (sub m2 m1) (sub c23 (mod1 hue))) c6) else m1
noncomputable def isW (n H W:Int):Prop := ∃ k:Int,(0≤H+6*n*k∧H+6*n*k≤n∧W=H+6*n*k)∨(n≤H+6*n*k∧H+6*n*k≤3*n∧W=n)∨(3*n≤H+6*n*k∧H+6*n*k≤4*n∧W=4*n-(H+6*n*k))∨(4*n≤H+6*n*k∧H+6*n*k≤6*n∧W=0)
theorem int_le {a b:Int} (h:(a:Rat) < (b:Rat)+1):a≤b:=by
  have:(a:Rat) < ((b+1:Int):Rat):=by rw [Rat.intCast_add]; exact h
  have:a < b+1:=by exact_mod_cast this
  lia
theorem ramp_near {m1 m2 u:UInt64} (f1:isFin m1) (f2:isFin m2) (f3:isFin u) (n mn G:Rat) (hn0:0≤n) (hm0:0≤mn) (hmn:mn+n≤1073741824)
    (a1:fv m1*1073741824-mn≤1 / 1000) (a2 : -(1 / 1000)≤fv m1*1073741824-mn) (b1:fv m2*1073741824-(mn+n)≤1 / 1000) (b2 : -(1 / 1000)≤fv m2*1073741824-(mn+n))
    (u1 : -(1 / 100)≤fv u) (u2:fv u≤1) (g1:6*(n*fv u)-G≤1 / 100) (g2 : -(1 / 100)≤6*(n*fv u)-G) :
    isFin (add m1 (mul (mul (sub m2 m1) u) c6))∧fv (add m1 (mul (mul (sub m2 m1) u) c6))*1073741824-(mn+G)≤1 / 10 ∧ -(1 / 10)≤fv (add m1 (mul (mul (sub m2 m1) u) c6))*1073741824-(mn+G):=by
  obtain ⟨s0,s1,s2⟩:=sub_near f2 f1 (by grind) (by grind)
  have e1:=err_mul (a:=fv (sub m2 m1)) (A:=n / 1073741824) (u:=fv u) (d:=3 / 1073741824000) (by grind) (by grind) (by grind) (by grind)
  have nu1:n*fv u≤n:=by
    have:=Rat.mul_nonneg hn0 (show 0≤1-fv u by grind)
    grind
  have nu2 : -(1 / 100)*n≤n*fv u:=by
    have:=Rat.mul_nonneg hn0 (show 0≤fv u+1 / 100 by grind)
    grind
  have e3:n / 1073741824*fv u=n*fv u / 1073741824:=by grind
  rw [e3] at e1
  obtain ⟨e1,e2⟩:=e1
  obtain ⟨t0,t1,t2⟩:=mul_near s0 f3 (by grind) (by grind)
  obtain ⟨v0,v1,v2⟩:=mul_near t0 c6_fin (by rw [fv_c6]; grind) (by rw [fv_c6]; grind)
  rw [fv_c6] at v1 v2
  obtain ⟨w0,w1,w2⟩:=add_near f1 v0 (by grind) (by grind)
  exact ⟨w0,by grind,by grind⟩
theorem vF_near {m1 m2 hue:UInt64} (f1:isFin m1) (f2:isFin m2) (f3:isFin hue) (n mn H:Int) (hn0:1≤n) (hm0:0≤mn) (hmn:mn+n≤1073741824)
    (a1:fv m1*1073741824-mn≤1 / 1000) (a2 : -(1 / 1000)≤fv m1*1073741824-mn) (b1:fv m2*1073741824-(mn+n)≤1 / 1000) (b2 : -(1 / 1000)≤fv m2*1073741824-(mn+n))
    (h1:6*((n:Rat)*fv hue)-H≤1 / 1000) (h2 : -(1 / 1000)≤6*((n:Rat)*fv hue)-H) :
    isFin (vF m1 m2 hue) ∧ ∃ W:Int,isW n H W∧fv (vF m1 m2 hue)*1073741824-(mn+W)≤1 / 10 ∧ -(1 / 10)≤fv (vF m1 m2 hue)*1073741824-(mn+W):=by
  have hn1:(1:Rat)≤(n:Rat):=by exact_mod_cast hn0
  have hm1:(0:Rat)≤(mn:Rat):=by exact_mod_cast hm0
  have hmn1:(mn:Rat)+(n:Rat)≤1073741824:=by
    have:((mn+n:Int):Rat)≤((1073741824:Int):Rat):=Rat.intCast_le_intCast.2 hmn
    rw [Rat.intCast_add] at this
    exact this
  have hnn:(0:Rat)≤(n:Rat):=by grind
  obtain ⟨mf,j,c1,c2,r1,r2⟩:=mod_near f3
  have mf:isFin (mod1 hue):=mf
  have c1:fv (mod1 hue)-(fv hue-j)≤2*eps:=c1
  have c2 : -(2*eps)≤fv (mod1 hue)-(fv hue-j):=c2
  have r1 : -(2*eps)≤fv (mod1 hue):=r1
  have r2:fv (mod1 hue)≤1+2*eps:=r2
  unfold vF
  generalize mod1 hue=u at mf c1 c2 r1 r2 ⊢
  have k1:=Rat.mul_nonneg hnn (show 0≤2*eps-(fv u-(fv hue-j)) by grind)
  have k2:=Rat.mul_nonneg hnn (show 0≤2*eps+(fv u-(fv hue-j)) by grind)
  have hG:((H+6*n*(-j):Int):Rat)=(H:Rat)-6*((n:Rat)*(j:Rat)):=by push_cast; grind
  have q1:6*((n:Rat)*fv u)-((H+6*n*(-j):Int):Rat)≤1 / 500:=by rw [hG]; grind
  have q2 : -(1 / 500)≤6*((n:Rat)*fv u)-((H+6*n*(-j):Int):Rat):=by rw [hG]; grind
  clear k1 k2 hG c1 c2 h1 h2
  generalize hZ:H+6*n*(-j)=Z at q1 q2
  have k3:=Rat.mul_nonneg hnn (show 0≤fv u+2*eps by grind)
  have k4:=Rat.mul_nonneg hnn (show 0≤1+2*eps-fv u by grind)
  have Z0:0≤Z:=int_le (a:=0) (b:=Z) (by show (0:Rat) < (Z:Rat)+1; grind)
  have Z6:Z≤6*n:=int_le (by push_cast; grind)
  obtain ⟨s1,s2⟩:=fv_c16
  obtain ⟨s3,s4⟩:=fv_c23
  split
  · rename_i hc
    have l:=lt_is mf c16_fin true hc
    have l:fv u < fv c16:=l
    have k5:=Rat.mul_nonneg hnn (show 0≤1 / 6+eps-fv u by grind)
    have Zn:Z≤n:=int_le (by grind)
    obtain ⟨z0,z1,z2⟩:=ramp_near f1 f2 mf n mn Z hnn hm1 hmn1 a1 a2 b1 b2 (by grind) (by grind) (by grind) (by grind)
    exact ⟨z0,Z,⟨-j,.inl (by rw [hZ]; exact ⟨Z0,Zn,rfl⟩)⟩,z1,z2⟩
  · rename_i hc
    have l:fv c16≤fv u:=lt_is mf c16_fin false (by simpa using hc)
    have k5:=Rat.mul_nonneg hnn (show 0≤fv u-(1 / 6-eps) by grind)
    have Zn:n≤Z:=int_le (by grind)
    split
    · rename_i hc
      have l:fv u < fv half:=lt_is mf half_fin true hc
      rw [fv_half] at l
      have k6:=Rat.mul_nonneg hnn (show 0≤1 / 2-fv u by grind)
      have Z3:Z≤3*n:=int_le (by push_cast; grind)
      exact ⟨f2,n,⟨-j,.inr (.inl (by rw [hZ]; exact ⟨Zn,Z3,rfl⟩))⟩,by grind,by grind⟩
    · rename_i hc
      have l:fv half≤fv u:=lt_is mf half_fin false (by simpa using hc)
      rw [fv_half] at l
      have k6:=Rat.mul_nonneg hnn (show 0≤fv u-1 / 2 by grind)
      have Z3:3*n≤Z:=int_le (by push_cast; grind)
      split
      · rename_i hc
        have l':fv u < fv c23:=lt_is mf c23_fin true hc
        have k7:=Rat.mul_nonneg hnn (show 0≤2 / 3+eps-fv u by grind)
        have Z4:Z≤4*n:=int_le (by push_cast; grind)
        obtain ⟨d0,d1,d2⟩:=sub_near c23_fin mf (by grind) (by grind)
        have k8:=Rat.mul_nonneg hnn (show 0≤2*eps+(fv (sub c23 u)-(2 / 3-fv u)) by grind)
        have k9:=Rat.mul_nonneg hnn (show 0≤2*eps-(fv (sub c23 u)-(2 / 3-fv u)) by grind)
        obtain ⟨z0,z1,z2⟩:=ramp_near f1 f2 d0 n mn ((4*n-Z:Int):Rat) hnn hm1 hmn1 a1 a2 b1 b2 (by grind) (by grind) (by push_cast; grind) (by push_cast; grind)
        exact ⟨z0,4*n-Z,⟨-j,.inr (.inr (.inl (by rw [hZ]; exact ⟨Z3,Z4,rfl⟩)))⟩,z1,z2⟩
      · rename_i hc
        have l':fv c23≤fv u:=lt_is mf c23_fin false (by simpa using hc)
        have k7:=Rat.mul_nonneg hnn (show 0≤fv u-(2 / 3-eps) by grind)
        have Z4:4*n≤Z:=int_le (by push_cast; grind)
        exact ⟨f1,0,⟨-j,.inr (.inr (.inr (by rw [hZ]; exact ⟨Z4,Z6,rfl⟩)))⟩,by grind,by grind⟩
noncomputable def c2:UInt64:=4611686018427387904
theorem c2_dec:decode c2 = .fin false 4503599627370496 (-(51:Nat)):=by kernel_rfl
theorem c2_fin:isFin c2:=⟨_,_,_,c2_dec⟩
theorem fv_c2:fv c2=2:=by
  have h:=fv_dec 51 c2_dec (by decide)
  have e1:((2^51:Nat):Rat)=2251799813685248:=rfl
  have e2:((Float64.sgn false 4503599627370496:Int):Rat)=4503599627370496:=rfl
  rw [e1,e2] at h
  decide +kernel
noncomputable def leB (x y:UInt64):Bool:=cmp x y == some .lt || cmp x y == some .eq
theorem le_is {x y:UInt64} (hx:isFin x) (hy:isFin y) (b:Bool) (h:leB x y=b):if b then fv x≤fv y else fv y < fv x:=by
  unfold leB at h
  have h1:=lt_is hx hy _ rfl
  have h2:=eq_is hx hy _ rfl
  cases q1:(cmp x y == some .lt) <;> cases q2:(cmp x y == some .eq) <;> rw [q1,q2] at h <;> subst h <;> rw [q1] at h1 <;> rw [q2] at h2 <;> simp at h1 h2 ⊢ <;> grind
noncomputable def m2F (l s:UInt64):UInt64:=if leB l half=true then mul l (add one s) else sub (add l s) (mul l s)
noncomputable def m1F (l s:UInt64):UInt64:=sub (mul c2 l) (m2F l s)
theorem back_near {l s:UInt64} (fl:isFin l) (fs:isFin s) (S:Int) (ρ:Rat) (hS0:0≤S) (hS1:S≤2147483648)
    (l1:fv l*2147483648-S≤1 / 10000) (l2 : -(1 / 10000)≤fv l*2147483648-S) (s1 : -(1 / 100)≤fv s) (s2:fv s≤101 / 100)
    (hlo:S≤1073741824→(S:Rat)*fv s-ρ≤1 / 10000 ∧ -(1 / 10000)≤(S:Rat)*fv s-ρ)
    (hhi:1073741824≤S→(2147483648-(S:Rat))*fv s-ρ≤1 / 10000 ∧ -(1 / 10000)≤(2147483648-(S:Rat))*fv s-ρ) :
    (isFin (m2F l s)∧fv (m2F l s)*1073741824-(S+ρ) / 2≤1 / 2000 ∧ -(1 / 2000)≤fv (m2F l s)*1073741824-(S+ρ) / 2) ∧
    (isFin (m1F l s)∧fv (m1F l s)*1073741824-(S-ρ) / 2≤1 / 1000 ∧ -(1 / 1000)≤fv (m1F l s)*1073741824-(S-ρ) / 2):=by
  have r0:(0:Rat)≤(S:Rat):=by exact_mod_cast hS0
  have r1:(S:Rat)≤2147483648:=Rat.intCast_le_intCast.2 hS1
  have e1:=err_mul (a:=fv l) (A:=(S:Rat) / 2147483648) (u:=fv s) (d:=1 / 21474836480000) (by grind) (by grind) (by grind) (by grind)
  have e3:(S:Rat) / 2147483648*fv s=(S:Rat)*fv s / 2147483648:=by grind
  rw [e3] at e1
  obtain ⟨e1,e2⟩:=e1
  have ss1:(S:Rat)*fv s≤2200000000:=by
    have:=Rat.mul_nonneg r0 (show 0≤101 / 100-fv s by grind)
    grind
  have ss2 : -22000000≤(S:Rat)*fv s:=by
    have:=Rat.mul_nonneg r0 (show 0≤fv s+1 / 100 by grind)
    grind
  have H2:isFin (m2F l s)∧fv (m2F l s)*1073741824-(S+ρ) / 2≤1 / 2000 ∧ -(1 / 2000)≤fv (m2F l s)*1073741824-(S+ρ) / 2:=by
    unfold m2F
    split
    · rename_i hc
      have le:fv l≤fv half:=le_is fl half_fin true hc
      rw [fv_half] at le
      have hS:S≤1073741824:=int_le (by show (S:Rat) < 1073741824+1; grind)
      obtain ⟨g1,g2⟩:=hlo hS
      obtain ⟨p0,p1,p2⟩:=add_near one_fin fs (by rw [fv_one]; grind) (by rw [fv_one]; grind)
      rw [fv_one] at p1 p2
      have e4:=err_mul (a:=fv (add one s)) (A:=1+fv s) (u:=fv l) (d:=eps) p1 p2 (by grind) (by grind)
      obtain ⟨e4,e5⟩:=e4
      obtain ⟨q0,q1,q2⟩:=mul_near fl p0 (by grind) (by grind)
      exact ⟨q0,by grind,by grind⟩
    · rename_i hc
      have le:fv half < fv l:=le_is fl half_fin false (by simpa using hc)
      rw [fv_half] at le
      have hS:1073741824≤S:=int_le (a:=1073741824) (by show (1073741824:Rat) < (S:Rat)+1; grind)
      obtain ⟨g1,g2⟩:=hhi hS
      obtain ⟨p0,p1,p2⟩:=add_near fl fs (by grind) (by grind)
      obtain ⟨q0,q1,q2⟩:=mul_near fl fs (by grind) (by grind)
      obtain ⟨t0,t1,t2⟩:=sub_near p0 q0 (by grind) (by grind)
      exact ⟨t0,by grind,by grind⟩
  refine ⟨H2,?_⟩
  obtain ⟨h0,h1,h2⟩:=H2
  have rr : -2300000000≤ρ∧ρ≤2300000000:=by
    rcases Int.le_total S 1073741824 with q | q
    · have:=hlo q; constructor <;> grind
    · have:=hhi q; constructor <;> grind
  unfold m1F
  obtain ⟨q0,q1,q2⟩:=mul_near c2_fin fl (by rw [fv_c2]; grind) (by rw [fv_c2]; grind)
  rw [fv_c2] at q1 q2
  obtain ⟨t0,t1,t2⟩:=sub_near q0 h0 (by grind) (by grind)
  exact ⟨t0,by grind,by grind⟩
theorem quot_near {x y:UInt64} (fx:isFin x) (fy:isFin y) (a b:Int) (ha:0≤a) (hab:a≤b) (hb:1≤b) (hb2:b≤2147483648)
    (x1:fv x*1073741824-a≤1 / 100000) (x2 : -(1 / 100000)≤fv x*1073741824-a) (y1:fv y*1073741824-b≤1 / 100000) (y2 : -(1 / 100000)≤fv y*1073741824-b) :
    isFin (div x y)∧((b:Rat)*fv (div x y)-a≤1 / 20000 ∧ -(1 / 20000)≤(b:Rat)*fv (div x y)-a) ∧ -(1 / 1000)≤fv (div x y)∧fv (div x y)≤1001 / 1000:=by
  have ra:(0:Rat)≤(a:Rat):=by exact_mod_cast ha
  have rab:(a:Rat)≤(b:Rat):=Rat.intCast_le_intCast.2 hab
  have rb:(1:Rat)≤(b:Rat):=by exact_mod_cast hb
  have rb2:(b:Rat)≤2147483648:=Rat.intCast_le_intCast.2 hb2
  have y0:0 < fv y:=by grind
  have hq:fv x=fv x / fv y*fv y:=by grind
  generalize fv x / fv y=q at hq
  have q1:q≤10001 / 10000:=by
    refine Rat.le_of_mul_le_mul_right (c:=fv y) ?_ y0
    rw [← hq]; grind
  have q2 : -(1 / 10000)≤q:=by
    refine Rat.le_of_mul_le_mul_right (c:=fv y) ?_ y0
    rw [← hq]; grind
  obtain ⟨f,d1,d2⟩:=div_near fx fy y0 q hq (by grind) (by grind)
  have e:=err_mul (a:=fv y*1073741824) (A:=(b:Rat)) (u:=q) (d:=1 / 100000) y1 y2 (by grind) (by grind)
  have e2:fv y*1073741824*q=fv x*1073741824:=by rw [hq]; grind
  rw [e2] at e
  obtain ⟨e1,e2⟩:=e
  have k1:=Rat.mul_nonneg (show (0:Rat)≤(b:Rat) by grind) (show 0≤eps-(fv (div x y)-q) by grind)
  have k2:=Rat.mul_nonneg (show (0:Rat)≤(b:Rat) by grind) (show 0≤eps+(fv (div x y)-q) by grind)
  exact ⟨f,⟨by grind,by grind⟩,by grind,by grind⟩
noncomputable def fl (p:Nat):UInt64:=ofFrac false p 1073741824
theorem fl_near {p:Nat} (h:p≤1073741824):isFin (fl p)∧fv (fl p)*1073741824-(p:Rat)≤1 / 1000000 ∧ -(1 / 1000000)≤fv (fl p)*1073741824-(p:Rat):=by
  obtain ⟨f,a,b⟩:=frac_near p 1073741824 (by decide) (by lia)
  have e:(((1073741824:Nat):Nat):Rat)=1073741824:=rfl
  rw [e] at a b
  unfold fl
  exact ⟨f,by grind,by grind⟩
theorem gt_is {x y:UInt64} (hx:isFin x) (hy:isFin y) (b:Bool) (h:(cmp x y == some .gt)=b):if b then fv y < fv x else fv x≤fv y:=by
  rw [cmp_is hx hy] at h
  rcases Int.lt_trichotomy (val x) (val y) with q | q | q
  · have:=fv_lt.2 q
    rw [Int.compare_eq_lt.mpr q] at h; subst h
    show fv x≤fv y
    grind
  · have:=fv_eq.2 q
    rw [q,Int.compare_eq_eq.mpr rfl] at h; subst h
    show fv x≤fv y
    grind
  · rw [Int.compare_eq_gt.mpr q] at h; subst h; exact fv_lt.2 q
theorem fl_le {p q:Nat} (hp:p≤1073741824) (hq:q≤1073741824) (h:fv (fl p)≤fv (fl q)):p≤q:=by
  obtain ⟨_,a1,a2⟩:=fl_near hp
  obtain ⟨_,b1,b2⟩:=fl_near hq
  have:((p:Int):Rat) < ((q:Int):Rat)+1:=by rw [Rat.intCast_natCast,Rat.intCast_natCast]; grind
  have:=int_le this
  lia
noncomputable def maxF (x y z:UInt64):UInt64:=cond (cmp z (cond (cmp y x == some .gt) y x) == some .gt) z (cond (cmp y x == some .gt) y x)
noncomputable def minF (x y z:UInt64):UInt64:=cond (cmp z (cond (cmp y x == some .lt) y x) == some .lt) z (cond (cmp y x == some .lt) y x)
theorem max2 {p q:Nat} (hp:p≤1073741824) (hq:q≤1073741824):cond (cmp (fl q) (fl p) == some .gt) (fl q) (fl p)=fl (max p q):=by
  have h:=gt_is (fl_near hq).1 (fl_near hp).1 _ rfl
  cases c:(cmp (fl q) (fl p) == some .gt) with
  | true =>
    rw [c] at h
    have h:fv (fl p) < fv (fl q):=h
    have:=fl_le hp hq (by grind)
    rw [Nat.max_eq_right this]; rfl
  | false =>
    rw [c] at h
    have h:fv (fl q)≤fv (fl p):=h
    have:=fl_le hq hp h
    rw [Nat.max_eq_left this]; rfl
theorem min2 {p q:Nat} (hp:p≤1073741824) (hq:q≤1073741824):cond (cmp (fl q) (fl p) == some .lt) (fl q) (fl p)=fl (min p q):=by
  have h:=lt_is (fl_near hq).1 (fl_near hp).1 _ rfl
  cases c:(cmp (fl q) (fl p) == some .lt) with
  | true =>
    rw [c] at h
    have h:fv (fl q) < fv (fl p):=h
    have:=fl_le hq hp (by grind)
    rw [Nat.min_eq_right this]; rfl
  | false =>
    rw [c] at h
    have h:fv (fl p)≤fv (fl q):=h
    have:=fl_le hp hq h
    rw [Nat.min_eq_left this]; rfl
theorem maxF_fl {r g b:Nat} (hr:r≤1073741824) (hg:g≤1073741824) (hb:b≤1073741824):maxF (fl r) (fl g) (fl b)=fl (max (max r g) b):=by
  unfold maxF
  rw [max2 hr hg,max2 (by lia) hb]
theorem minF_fl {r g b:Nat} (hr:r≤1073741824) (hg:g≤1073741824) (hb:b≤1073741824):minF (fl r) (fl g) (fl b)=fl (min (min r g) b):=by
  unfold minF
  rw [min2 hr hg,min2 (by lia) hb]
theorem eq_fl {p q:Nat} (hp:p≤1073741824) (hq:q≤1073741824):(cmp (fl p) (fl q) == some .eq)=decide (p=q):=by
  have h:=eq_is (fl_near hp).1 (fl_near hq).1 _ rfl
  cases c:(cmp (fl p) (fl q) == some .eq) with
  | true =>
    rw [c] at h
    have h:fv (fl p)=fv (fl q):=h
    have h1:=fl_le hp hq (by grind)
    have h2:=fl_le hq hp (by grind)
    exact (decide_eq_true (Nat.le_antisymm h1 h2)).symm
  | false =>
    rw [c] at h
    have h:fv (fl p)≠fv (fl q):=h
    exact (decide_eq_false fun e=>h (by rw [e])).symm
noncomputable def c4:UInt64:=4616189618054758400
theorem c4_dec:decode c4 = .fin false 4503599627370496 (-(50:Nat)):=by kernel_rfl
theorem c4_fin:isFin c4:=⟨_,_,_,c4_dec⟩
theorem fv_c4:fv c4=4:=by
  have h:=fv_dec 50 c4_dec (by decide)
  have e1:((2^50:Nat):Rat)=1125899906842624:=rfl
  have e2:((Float64.sgn false 4503599627370496:Int):Rat)=4503599627370496:=rfl
  rw [e1,e2] at h
  decide +kernel
theorem sixth_near {h0:UInt64} (f:isFin h0) (n:Int) (hn:1≤n) (hn2:n≤1073741824) (B:Int) (b1 : -2≤fv h0) (b2:fv h0≤6)
    (h1:(n:Rat)*fv h0-B≤1 / 4000) (h2 : -(1 / 4000)≤(n:Rat)*fv h0-B) :
    isFin (mod1 (div h0 c6))∧(-(1 / 1000000000000)≤fv (mod1 (div h0 c6))∧fv (mod1 (div h0 c6))≤1001 / 1000) ∧ ∃ k:Int,6*((n:Rat)*fv (mod1 (div h0 c6)))-((B+6*n*k:Int):Rat)≤1 / 2000 ∧ -(1 / 2000)≤6*((n:Rat)*fv (mod1 (div h0 c6)))-((B+6*n*k:Int):Rat):=by
  have hn1:(1:Rat)≤(n:Rat):=by exact_mod_cast hn
  have hn3:(n:Rat)≤1073741824:=Rat.intCast_le_intCast.2 hn2
  have hnn:(0:Rat)≤(n:Rat):=by grind
  obtain ⟨d0,d1,d2⟩:=div_near f c6_fin (by rw [fv_c6]; decide) (fv h0 / 6) (by rw [fv_c6]; grind) (by grind) (by grind)
  obtain ⟨m0,j,c1,c2,r1,r2⟩:=mod_near d0
  have m0:isFin (mod1 (div h0 c6)):=m0
  have c1:fv (mod1 (div h0 c6))-(fv (div h0 c6)-j)≤2*eps:=c1
  have c2 : -(2*eps)≤fv (mod1 (div h0 c6))-(fv (div h0 c6)-j):=c2
  have r1 : -(2*eps)≤fv (mod1 (div h0 c6)):=r1
  have r2:fv (mod1 (div h0 c6))≤1+2*eps:=r2
  generalize mod1 (div h0 c6)=u at m0 c1 c2 r1 r2 ⊢
  refine ⟨m0,⟨by grind,by grind⟩,-j,?_⟩
  have k1:=Rat.mul_nonneg hnn (show 0≤3*eps-(fv u-(fv h0 / 6-j)) by grind)
  have k2:=Rat.mul_nonneg hnn (show 0≤3*eps+(fv u-(fv h0 / 6-j)) by grind)
  have hG:((B+6*n*(-j):Int):Rat)=(B:Rat)-6*((n:Rat)*(j:Rat)):=by push_cast; grind
  rw [hG]
  constructor <;> grind
noncomputable def hueF (M m r g b:UInt64):UInt64 :=
  let rc:=div (sub M r) (sub M m)
  let gc:=div (sub M g) (sub M m)
  let bc:=div (sub M b) (sub M m)
  mod1 (div (if (cmp r M == some .eq)=true then sub bc gc else if (cmp g M == some .eq)=true then sub (add c2 rc) bc else sub (add c4 gc) rc) c6)
noncomputable def hueZ (r g b mx n:Nat):Int:=if r=mx then (g:Int)-b else if g=mx then 2*n+b-r else 4*n+r-g
theorem hue_near {r g b mx mn n:Nat} (hmx:mx≤1073741824) (hr:mn≤r∧r≤mx) (hg:mn≤g∧g≤mx) (hb:mn≤b∧b≤mx) (hn:mx=mn+n) (hn0:1≤n) :
    isFin (hueF (fl mx) (fl mn) (fl r) (fl g) (fl b))∧(-(1 / 1000000000000)≤fv (hueF (fl mx) (fl mn) (fl r) (fl g) (fl b))∧fv (hueF (fl mx) (fl mn) (fl r) (fl g) (fl b))≤1001 / 1000) ∧
    ∃ k:Int,6*(((n:Int):Rat)*fv (hueF (fl mx) (fl mn) (fl r) (fl g) (fl b)))-((hueZ r g b mx n+6*n*k:Int):Rat)≤1 / 2000 ∧ -(1 / 2000)≤6*(((n:Int):Rat)*fv (hueF (fl mx) (fl mn) (fl r) (fl g) (fl b)))-((hueZ r g b mx n+6*n*k:Int):Rat):=by
  have part : ∀ p:Nat,mn≤p→p≤mx→isFin (div (sub (fl mx) (fl p)) (sub (fl mx) (fl mn)))∧(((n:Int):Rat)*fv (div (sub (fl mx) (fl p)) (sub (fl mx) (fl mn)))-((mx:Rat)-(p:Rat))≤1 / 20000 ∧ -(1 / 20000)≤((n:Int):Rat)*fv (div (sub (fl mx) (fl p)) (sub (fl mx) (fl mn)))-((mx:Rat)-(p:Rat))) ∧ -(1 / 1000)≤fv (div (sub (fl mx) (fl p)) (sub (fl mx) (fl mn)))∧fv (div (sub (fl mx) (fl p)) (sub (fl mx) (fl mn)))≤1001 / 1000:=by
    intro p p1 p2
    obtain ⟨a0,a1,a2⟩:=fl_near hmx
    obtain ⟨b0,b1,b2⟩:=fl_near (show p≤1073741824 by lia)
    obtain ⟨e0,e1,e2⟩:=fl_near (show mn≤1073741824 by lia)
    have x1:(mx:Rat)≤1073741824:=Rat.natCast_le_natCast.2 hmx
    have x2:(0:Rat)≤(p:Rat):=Rat.natCast_nonneg
    have x3:(p:Rat)≤(mx:Rat):=Rat.natCast_le_natCast.2 p2
    have x4:(0:Rat)≤(mn:Rat):=Rat.natCast_nonneg
    have x5:(mn:Rat)≤(mx:Rat):=Rat.natCast_le_natCast.2 (by lia)
    obtain ⟨s0,s1,s2⟩:=sub_near a0 b0 (by grind) (by grind)
    obtain ⟨t0,t1,t2⟩:=sub_near a0 e0 (by grind) (by grind)
    have cA:(((mx-p:Nat):Int):Rat)=(mx:Rat)-(p:Rat):=by
      have:((mx-p:Nat):Int)=(mx:Int)-(p:Int):=by lia
      rw [this,Rat.intCast_sub,Rat.intCast_natCast,Rat.intCast_natCast]
    have cB:(((n:Nat):Int):Rat)=(mx:Rat)-(mn:Rat):=by
      have:((n:Nat):Int)=(mx:Int)-(mn:Int):=by lia
      rw [this,Rat.intCast_sub,Rat.intCast_natCast,Rat.intCast_natCast]
    obtain ⟨q0,⟨q1,q2⟩,q3,q4⟩:=quot_near s0 t0 ((mx-p:Nat):Int) (n:Int) (by lia) (by lia) (by lia) (by lia) (by rw [cA]; grind) (by rw [cA]; grind) (by rw [cB]; grind) (by rw [cB]; grind)
    rw [cA] at q1 q2
    exact ⟨q0,⟨q1,q2⟩,q3,q4⟩
  obtain ⟨r0,⟨r1,r2⟩,r3,r4⟩:=part r hr.1 hr.2
  obtain ⟨g0,⟨g1,g2⟩,g3,g4⟩:=part g hg.1 hg.2
  obtain ⟨b0,⟨b1,b2⟩,b3,b4⟩:=part b hb.1 hb.2
  have hn2:(n:Int)≤1073741824:=by lia
  have hN0:(1:Rat)≤(((n:Nat):Int):Rat):=by
    have:(1:Int)≤(n:Int):=by lia
    exact_mod_cast this
  have hN2:(((n:Nat):Int):Rat)≤1073741824:=Rat.intCast_le_intCast.2 hn2
  have hNN:(0:Rat)≤(((n:Nat):Int):Rat):=by grind
  unfold hueF hueZ
  rw [eq_fl (by lia) hmx,eq_fl (by lia) hmx]
  dsimp only
  generalize div (sub (fl mx) (fl r)) (sub (fl mx) (fl mn))=rc at *
  generalize div (sub (fl mx) (fl g)) (sub (fl mx) (fl mn))=gc at *
  generalize div (sub (fl mx) (fl b)) (sub (fl mx) (fl mn))=bc at *
  clear part
  by_cases c:r=mx
  · simp only [c,decide_true,if_true]
    obtain ⟨s0,s1,s2⟩:=sub_near b0 g0 (by grind) (by grind)
    have k1:=Rat.mul_nonneg hNN (show 0≤eps-(fv (sub bc gc)-(fv bc-fv gc)) by grind)
    have k2:=Rat.mul_nonneg hNN (show 0≤eps+(fv (sub bc gc)-(fv bc-fv gc)) by grind)
    have cB:(((g:Int)-b:Int):Rat)=(g:Rat)-(b:Rat):=by rw [Rat.intCast_sub,Rat.intCast_natCast,Rat.intCast_natCast]
    exact sixth_near s0 n (by lia) hn2 _ (by grind) (by grind) (by rw [cB]; grind) (by rw [cB]; grind)
  · by_cases d:g=mx
    · simp only [c,d,decide_true,decide_false,if_true,Bool.false_eq_true,if_false]
      obtain ⟨t0,t1,t2⟩:=add_near c2_fin r0 (by rw [fv_c2]; grind) (by rw [fv_c2]; grind)
      rw [fv_c2] at t1 t2
      obtain ⟨s0,s1,s2⟩:=sub_near t0 b0 (by grind) (by grind)
      have k1:=Rat.mul_nonneg hNN (show 0≤2*eps-(fv (sub (add c2 rc) bc)-(2+fv rc-fv bc)) by grind)
      have k2:=Rat.mul_nonneg hNN (show 0≤2*eps+(fv (sub (add c2 rc) bc)-(2+fv rc-fv bc)) by grind)
      have cB:((2*(n:Int)+b-r:Int):Rat)=2*(((n:Nat):Int):Rat)+(b:Rat)-(r:Rat):=by push_cast; rfl
      exact sixth_near s0 n (by lia) hn2 _ (by grind) (by grind) (by rw [cB]; grind) (by rw [cB]; grind)
    · simp only [c,d,decide_false,Bool.false_eq_true,if_false]
      obtain ⟨t0,t1,t2⟩:=add_near c4_fin g0 (by rw [fv_c4]; grind) (by rw [fv_c4]; grind)
      rw [fv_c4] at t1 t2
      obtain ⟨s0,s1,s2⟩:=sub_near t0 r0 (by grind) (by grind)
      have k1:=Rat.mul_nonneg hNN (show 0≤2*eps-(fv (sub (add c4 gc) rc)-(4+fv gc-fv rc)) by grind)
      have k2:=Rat.mul_nonneg hNN (show 0≤2*eps+(fv (sub (add c4 gc) rc)-(4+fv gc-fv rc)) by grind)
      have cB:((4*(n:Int)+r-g:Int):Rat)=4*(((n:Nat):Int):Rat)+(r:Rat)-(g:Rat):=by push_cast; rfl
      exact sixth_near s0 n (by lia) hn2 _ (by grind) (by grind) (by rw [cB]; grind) (by rw [cB]; grind)
noncomputable def lF (M m:UInt64):UInt64:=div (add M m) c2
noncomputable def sF (M m:UInt64):UInt64:=if leB (lF M m) half=true then div (sub M m) (add M m) else div (sub M m) (sub (sub c2 M) m)
theorem half_lit:(2147483648-((1073741824:Int):Rat))=((1073741824:Int):Rat):=by
  have:((1073741824:Int):Rat)=1073741824:=rfl
  rw [this]; decide +kernel
theorem ls_near {mx mn n:Nat} (hmx:mx≤1073741824) (hn:mx=mn+n) (hn0:1≤n) :
    (isFin (lF (fl mx) (fl mn))∧fv (lF (fl mx) (fl mn))*2147483648-(((mx+mn:Nat):Int):Rat)≤1 / 100000 ∧ -(1 / 100000)≤fv (lF (fl mx) (fl mn))*2147483648-(((mx+mn:Nat):Int):Rat)) ∧
    (isFin (sF (fl mx) (fl mn)) ∧ -(1 / 1000)≤fv (sF (fl mx) (fl mn))∧fv (sF (fl mx) (fl mn))≤1001 / 1000) ∧
    (((mx+mn:Nat):Int)≤1073741824→(((mx+mn:Nat):Int):Rat)*fv (sF (fl mx) (fl mn))-(n:Rat)≤1 / 20000 ∧ -(1 / 20000)≤(((mx+mn:Nat):Int):Rat)*fv (sF (fl mx) (fl mn))-(n:Rat)) ∧
    (1073741824≤((mx+mn:Nat):Int)→(2147483648-(((mx+mn:Nat):Int):Rat))*fv (sF (fl mx) (fl mn))-(n:Rat)≤1 / 20000 ∧ -(1 / 20000)≤(2147483648-(((mx+mn:Nat):Int):Rat))*fv (sF (fl mx) (fl mn))-(n:Rat)):=by
  obtain ⟨a0,a1,a2⟩:=fl_near hmx
  obtain ⟨e0,e1,e2⟩:=fl_near (show mn≤1073741824 by lia)
  have x1:(mx:Rat)≤1073741824:=Rat.natCast_le_natCast.2 hmx
  have x4:(0:Rat)≤(mn:Rat):=Rat.natCast_nonneg
  have x5:(mn:Rat)≤(mx:Rat):=Rat.natCast_le_natCast.2 (by lia)
  obtain ⟨s0,s1,s2⟩:=add_near a0 e0 (by grind) (by grind)
  obtain ⟨t0,t1,t2⟩:=sub_near a0 e0 (by grind) (by grind)
  obtain ⟨p0,p1,p2⟩:=sub_near c2_fin a0 (by rw [fv_c2]; grind) (by rw [fv_c2]; grind)
  rw [fv_c2] at p1 p2
  obtain ⟨q0,q1,q2⟩:=sub_near p0 e0 (by grind) (by grind)
  obtain ⟨d0,d1,d2⟩:=div_near s0 c2_fin (by rw [fv_c2]; decide) (fv (add (fl mx) (fl mn)) / 2) (by rw [fv_c2]; grind) (by grind) (by grind)
  have cS:(((mx+mn:Nat):Int):Rat)=(mx:Rat)+(mn:Rat):=by rw [Rat.intCast_natCast,Rat.natCast_add]
  have cN:(((n:Nat):Int):Rat)=(mx:Rat)-(mn:Rat):=by
    have:((n:Nat):Int)=(mx:Int)-(mn:Int):=by lia
    rw [this,Rat.intCast_sub,Rat.intCast_natCast,Rat.intCast_natCast]
  have cN2:((n:Nat):Rat)=(mx:Rat)-(mn:Rat):=by rw [← cN,Rat.intCast_natCast]
  have cT:(((2147483648-(mx+mn):Nat):Int):Rat)=2147483648-((mx:Rat)+(mn:Rat)):=by
    have:((2147483648-(mx+mn):Nat):Int)=2147483648-((mx+mn:Nat):Int):=by lia
    rw [this,Rat.intCast_sub,cS]; rfl
  have L1:fv (lF (fl mx) (fl mn))*2147483648-(((mx+mn:Nat):Int):Rat)≤1 / 100000:=by rw [cS]; unfold lF; grind
  have L2 : -(1 / 100000)≤fv (lF (fl mx) (fl mn))*2147483648-(((mx+mn:Nat):Int):Rat):=by rw [cS]; unfold lF; grind
  refine ⟨⟨d0,L1,L2⟩,?_⟩
  unfold sF
  have hlf:isFin (lF (fl mx) (fl mn)):=d0
  generalize lF (fl mx) (fl mn)=l at L1 L2 hlf ⊢
  split
  · rename_i hc
    have le:fv l≤fv half:=le_is hlf half_fin true hc
    rw [fv_half] at le
    have hS:((mx+mn:Nat):Int)≤1073741824:=int_le (by show _ < (1073741824:Rat)+1; grind)
    obtain ⟨z0,⟨z1,z2⟩,z3,z4⟩:=quot_near t0 s0 (n:Int) ((mx+mn:Nat):Int) (by lia) (by lia) (by lia) (by lia) (by rw [cN]; grind) (by rw [cN]; grind) (by rw [cS]; grind) (by rw [cS]; grind)
    rw [cN,← cN2] at z1 z2
    refine ⟨⟨z0,z3,z4⟩,fun _=>⟨z1,z2⟩,fun h => ?_⟩
    have e:((mx+mn:Nat):Int)=1073741824:=by lia
    rw [e] at z1 z2 ⊢
    have e1:(2147483648-((1073741824:Int):Rat))=((1073741824:Int):Rat):=half_lit
    rw [e1]
    exact ⟨z1,z2⟩
  · rename_i hc
    have le:fv half < fv l:=le_is hlf half_fin false (by simpa using hc)
    rw [fv_half] at le
    have hS:1073741824≤((mx+mn:Nat):Int):=int_le (a:=1073741824) (by show (1073741824:Rat) < _+1; grind)
    obtain ⟨z0,⟨z1,z2⟩,z3,z4⟩:=quot_near t0 q0 (n:Int) ((2147483648-(mx+mn):Nat):Int) (by lia) (by lia) (by lia) (by lia) (by rw [cN]; grind) (by rw [cN]; grind) (by rw [cT]; grind) (by rw [cT]; grind)
    rw [cN,← cN2,cT,← cS] at z1 z2
    refine ⟨⟨z0,z3,z4⟩,fun h => ?_,fun _=>⟨z1,z2⟩⟩
    have e:((mx+mn:Nat):Int)=1073741824:=by lia
    rw [e] at z1 z2 ⊢
    have e1:(2147483648-((1073741824:Int):Rat))=((1073741824:Int):Rat):=half_lit
    rw [e1] at z1 z2
    exact ⟨z1,z2⟩
theorem turn_near {h c:UInt64} (fh:isFin h) (fc:isFin c) (n:Int) (hn:1≤n) (hn2:n≤1073741824) (Z:Int) (j:Int) (e:Rat) (he:e≤1 / 100)
    (b1 : -2≤fv h) (b2:fv h≤3) (hj : -6≤j∧j≤6) (c1:6*fv c-j≤6*eps) (c2 : -(6*eps)≤6*fv c-j)
    (h1:6*((n:Rat)*fv h)-Z≤e) (h2 : -e≤6*((n:Rat)*fv h)-Z) :
    isFin (add h c)∧6*((n:Rat)*fv (add h c))-((Z+j*n:Int):Rat)≤e+1 / 10000 ∧ -(e+1 / 10000)≤6*((n:Rat)*fv (add h c))-((Z+j*n:Int):Rat):=by
  have hn1:(1:Rat)≤(n:Rat):=by exact_mod_cast hn
  have hn3:(n:Rat)≤1073741824:=Rat.intCast_le_intCast.2 hn2
  have hnn:(0:Rat)≤(n:Rat):=by grind
  have j1:((-6:Int):Rat)≤(j:Rat):=Rat.intCast_le_intCast.2 hj.1
  have j2:(j:Rat)≤((6:Int):Rat):=Rat.intCast_le_intCast.2 hj.2
  have j3:((-6:Int):Rat) = -6:=rfl
  have j4:((6:Int):Rat)=6:=rfl
  rw [j3] at j1
  rw [j4] at j2
  obtain ⟨s0,s1,s2⟩:=add_near fh fc (by grind) (by grind)
  have k1:=Rat.mul_nonneg hnn (show 0≤2*eps-(fv (add h c)-(fv h+(j:Rat) / 6)) by grind)
  have k2:=Rat.mul_nonneg hnn (show 0≤2*eps+(fv (add h c)-(fv h+(j:Rat) / 6)) by grind)
  have hG:((Z+j*n:Int):Rat)=(Z:Rat)+(n:Rat)*(j:Rat):=by push_cast; grind
  rw [hG]
  refine ⟨s0,?_,?_⟩ <;> grind
noncomputable def tells (x:UInt64) (N:Int):Prop:=isFin x∧fv x*1073741824-N≤1 / 10 ∧ -(1 / 10)≤fv x*1073741824-N
theorem back3_near {h m1 m2:UInt64} (fh:isFin h) (f1:isFin m1) (f2:isFin m2) (n mn H:Int) (hn0:1≤n) (hm0:0≤mn) (hmn:mn+n≤1073741824)
    (a1:fv m1*1073741824-mn≤1 / 1000) (a2 : -(1 / 1000)≤fv m1*1073741824-mn) (b1:fv m2*1073741824-(mn+n)≤1 / 1000) (b2 : -(1 / 1000)≤fv m2*1073741824-(mn+n))
    (u1 : -2≤fv h) (u2:fv h≤3) (h1:6*((n:Rat)*fv h)-H≤8 / 10000) (h2 : -(8 / 10000)≤6*((n:Rat)*fv h)-H) :
    (∃ W:Int,isW n (H+2*n) W∧tells (vF m1 m2 (add h c13)) (mn+W))∧(∃ W:Int,isW n H W∧tells (vF m1 m2 h) (mn+W))∧(∃ W:Int,isW n (H-2*n) W∧tells (vF m1 m2 (sub h c13)) (mn+W)):=by
  have pk : ∀ {x:UInt64} {G:Int},(isFin x ∧ ∃ W:Int,isW n G W∧fv x*1073741824-(mn+W)≤1 / 10 ∧ -(1 / 10)≤fv x*1073741824-(mn+W)) → ∃ W:Int,isW n G W∧tells x (mn+W):=fun {x G} ⟨f,W,i,a,b⟩ =>
    ⟨W,i,f,by rw [Rat.intCast_add]; exact a,by rw [Rat.intCast_add]; exact b⟩
  obtain ⟨q1,q2⟩:=fv_c13
  obtain ⟨n1,n2⟩:=neg_fin c13_fin
  have e2:((2:Int):Rat)=2:=rfl
  have e3:((-2:Int):Rat) = -2:=rfl
  obtain ⟨s0,s1,s2⟩:=turn_near fh c13_fin n hn0 (by lia) H 2 (8 / 10000) (by decide +kernel) u1 u2 (by lia) (by rw [e2]; decide +kernel) (by rw [e2]; decide +kernel) h1 h2
  obtain ⟨t0,t1,t2⟩:=turn_near fh n1 n hn0 (by lia) H (-2) (8 / 10000) (by decide +kernel) u1 u2 (by lia) (by rw [e3,n2]; decide +kernel) (by rw [e3,n2]; decide +kernel) h1 h2
  refine ⟨pk (vF_near f1 f2 s0 n mn (H+2*n) hn0 hm0 hmn a1 a2 b1 b2 (by grind) (by grind)),pk (vF_near f1 f2 fh n mn H hn0 hm0 hmn a1 a2 b1 b2 (by grind) (by grind)),pk ?_⟩
  have e:H-2*n=H + -2*n:=by lia
  have es:sub h c13=add h (Float64.neg c13):=by unfold Float64.sub; rfl
  rw [e,es]
  exact vF_near f1 f2 t0 n mn (H + -2*n) hn0 hm0 hmn a1 a2 b1 b2 (by grind) (by grind)
end Mine
namespace Mine
theorem isW_shift {n H W:Int} (k0:Int) (h:isW n (H+6*n*k0) W):isW n H W:=by
  obtain ⟨k,h⟩:=h
  refine ⟨k0+k,?_⟩
  have e:H+6*n*(k0+k)=H+6*n*k0+6*n*k:=by rw [Int.mul_add,Int.add_assoc]
  rw [e]; exact h
theorem isW_flip {n H W:Int} (h:isW n H W):isW n (H+3*n) (n-W):=by
  obtain ⟨k,h⟩:=h
  have e:6*n*(k-1)=6*n*k-6*n:=by rw [Int.mul_sub,Int.mul_one]
  rcases h with h | h | h | h
  · exact ⟨k,.inr (.inr (.inl ⟨by lia,by lia,by lia⟩))⟩
  · exact ⟨k,.inr (.inr (.inr ⟨by lia,by lia,by lia⟩))⟩
  · refine ⟨k-1,.inl ?_⟩
    rw [e]; exact ⟨by lia,by lia,by lia⟩
  · refine ⟨k-1,.inr (.inl ?_)⟩
    rw [e]; exact ⟨by lia,by lia,by lia⟩
theorem w_le {n H k W:Int} (hn:1≤n) (h:(0≤H+6*n*k∧H+6*n*k≤n∧W=H+6*n*k)∨(n≤H+6*n*k∧H+6*n*k≤3*n∧W=n)∨(3*n≤H+6*n*k∧H+6*n*k≤4*n∧W=4*n-(H+6*n*k))∨(4*n≤H+6*n*k∧H+6*n*k≤6*n∧W=0)) :
    0≤H+6*n*k∧H+6*n*k≤6*n∧(H+6*n*k=0→W=0)∧(H+6*n*k=6*n→W=0):=by
  generalize H+6*n*k=X at h
  rcases h with ⟨a,b,c⟩ | ⟨a,b,c⟩ | ⟨a,b,c⟩ | ⟨a,b,c⟩ <;> exact ⟨by lia,by lia,by lia,by lia⟩
theorem w_one {n H V W:Int} (h:(0≤H∧H≤n∧V=H)∨(n≤H∧H≤3*n∧V=n)∨(3*n≤H∧H≤4*n∧V=4*n-H)∨(4*n≤H∧H≤6*n∧V=0)) (hn:1≤n)
    (h':(0≤H∧H≤n∧W=H)∨(n≤H∧H≤3*n∧W=n)∨(3*n≤H∧H≤4*n∧W=4*n-H)∨(4*n≤H∧H≤6*n∧W=0)):V=W:=by
  rcases h with ⟨a,b,c⟩ | ⟨a,b,c⟩ | ⟨a,b,c⟩ | ⟨a,b,c⟩ <;> rcases h' with ⟨d,e,f⟩ | ⟨d,e,f⟩ | ⟨d,e,f⟩ | ⟨d,e,f⟩ <;> lia
theorem isW_one {n H V W:Int} (hn:1≤n) (h:isW n H V) (h':isW n H W):V=W:=by
  obtain ⟨k,h⟩:=h
  obtain ⟨j,h'⟩:=h'
  obtain ⟨a,b,c,d⟩:=w_le hn h
  obtain ⟨a',b',c',d'⟩:=w_le hn h'
  have key : ∀ i j:Int,i+1≤j→6*n*i+6*n≤6*n*j:=fun i j q=>by
    have:=Int.mul_le_mul_of_nonneg_left q (show 0≤6*n by lia)
    rwa [Int.mul_add,Int.mul_one] at this
  rcases Int.lt_trichotomy k j with q | q | q
  · have:=key k j q
    rw [c (by lia),d' (by lia)]
  · subst q; exact w_one h hn h'
  · have:=key j k q
    rw [d (by lia),c' (by lia)]
noncomputable def due1 (both:Int) (p:Int × Int × Int):Int × Int × Int:=(both-p.2.1,both-p.2.2,both-p.1)
noncomputable def dueK (both:Int):Nat→Int × Int × Int→Int × Int × Int
  | 0,p=>p
  | k+1,p=>dueK both k (due1 both p)
noncomputable def isT (n mn T:Int) (p:Int × Int × Int):Prop:=isW n (T+2*n) (p.1-mn)∧isW n T (p.2.1-mn)∧isW n (T-2*n) (p.2.2-mn)
theorem isT_turn {n mn both T:Int} {p:Int × Int × Int} (hb:both=2*mn+n) (h:isT n mn T p):isT n mn (T+n) (due1 both p):=by
  obtain ⟨a,b,c⟩:=h
  have ew : ∀ x:Int,both-x-mn=n-(x-mn):=fun x=>by lia
  have a:=isW_flip a
  have b:=isW_flip b
  have c:=isW_flip c
  refine ⟨?_,?_,?_⟩
  · show isW n (T+n+2*n) (both-p.2.1-mn)
    rw [ew,show T+n+2*n=T+3*n by lia]; exact b
  · show isW n (T+n) (both-p.2.2-mn)
    rw [ew,show T+n=T-2*n+3*n by lia]; exact c
  · show isW n (T+n-2*n) (both-p.1-mn)
    rw [ew]
    refine isW_shift 1 ?_
    rw [show T+n-2*n+6*n*1=T+2*n+3*n by lia]; exact a
theorem isT_k {n mn both:Int} (hb:both=2*mn+n) : ∀ (k:Nat) (T:Int) (p:Int × Int × Int),isT n mn T p→isT n mn (T+k*n) (dueK both k p)
  | 0,T,p,h=>by
    rw [show T+((0:Nat):Int)*n=T by lia]; exact h
  | k+1,T,p,h=>by
    have:=isT_k hb k (T+n) (due1 both p) (isT_turn hb h)
    rw [show T+((k+1:Nat):Int)*n=T+n+k*n by rw [Int.natCast_add,Int.add_mul]; lia]; exact this
theorem dueK2 (B:Int) (k:Nat) (x y z:Int):dueK B (k+2) (x,y,z)=dueK B k (z,x,y):=by
  show dueK B k (B-(B-z),B-(B-x),B-(B-y))=_
  rw [Int.sub_sub_self,Int.sub_sub_self,Int.sub_sub_self]
theorem trip {a b c x y z:Int} (h1:a=x) (h2:b=y) (h3:c=z):(a,b,c)=(x,y,z):=by rw [h1,h2,h3]
theorem isT_s {n mn both:Int} (hb:both=2*mn+n) (k:Nat) (f k0:Int) (h0:0≤f) (h1:f≤n) {T:Int} {p:Int × Int × Int} (e:dueK both k (mn+n,mn+f,mn)=p) (hT:T+6*n*k0=f+k*n):isT n mn T p:=by
  have h:isT n mn f (mn+n,mn+f,mn):=by
    have e1 : ∀ x:Int,mn+x-mn=x:=fun x=>by rw [Int.add_comm,Int.add_sub_cancel]
    unfold isT
    rw [e1,e1,Int.sub_self]
    clear e hT hb e1
    exact ⟨⟨0,.inr (.inl ⟨by lia,by lia,rfl⟩)⟩,⟨0,.inl ⟨by lia,by lia,by lia⟩⟩,⟨1,.inr (.inr (.inr ⟨by lia,by lia,rfl⟩))⟩⟩
  obtain ⟨a,b,c⟩:=isT_k hb k f _ h
  rw [e] at a b c
  rw [← hT] at a b c
  exact ⟨isW_shift k0 (by rwa [show T+2*n+6*n*k0=T+6*n*k0+2*n by lia]),isW_shift k0 b,isW_shift k0 (by rwa [show T-2*n+6*n*k0=T+6*n*k0-2*n by lia])⟩
theorem isT_i {r g b mx mn n:Int} (hn:mx=mn+n) (hr:mn≤r) (hr':r≤mx) (hg:mn≤g) (hg':g≤mx) (hb:mn≤b) (hb':b≤mx) (hx:r=mx∨g=mx∨b=mx) (hm:r=mn∨g=mn∨b=mn) :
    isT n mn (if r=mx then g-b else if g=mx then 2*n+b-r else 4*n+r-g) (r,g,b):=by
  obtain ⟨B,hB'⟩ : ∃ B,B=mx+mn:=⟨_,rfl⟩
  have hB:B=2*mn+n:=by lia
  clear hB'
  split
  · rename_i q
    rcases (by lia:b=mn∨g=mn) with h | h <;> clear hx hm hr hr'
    · exact isT_s hB 0 (g-mn) 0 (by lia) (by lia) (by exact trip (by lia) (by lia) (by lia)) (by lia)
    · exact isT_s hB 5 (n-(b-mn)) 1 (by lia) (by lia) (by rw [dueK2,dueK2]; exact trip (by lia) (by lia) (by lia)) (by lia)
  · rename_i q
    split
    · rename_i q
      rcases (by lia:b=mn∨r=mn) with h | h <;> clear hx hm hg hg'
      · exact isT_s hB 1 (mx-r) 0 (by lia) (by lia) (by exact trip (by lia) (by lia) (by lia)) (by lia)
      · exact isT_s hB 2 (b-mn) 0 (by lia) (by lia) (by rw [dueK2]; exact trip (by lia) (by lia) (by lia)) (by lia)
    · rename_i q'
      have q:b=mx:=by lia
      rcases (by lia:r=mn∨g=mn) with h | h <;> clear hx hm hb hb'
      · exact isT_s hB 3 (mx-g) 0 (by lia) (by lia) (by rw [dueK2]; exact trip (by lia) (by lia) (by lia)) (by lia)
      · exact isT_s hB 4 (r-mn) 0 (by lia) (by lia) (by rw [dueK2,dueK2]; exact trip (by lia) (by lia) (by lia)) (by lia)
theorem isT_0 (r g b mx mn n:Nat) (hr:mn≤r∧r≤mx) (hg:mn≤g∧g≤mx) (hb:mn≤b∧b≤mx) (hn:mx=mn+n) (hx:r=mx∨g=mx∨b=mx) (hm:r=mn∨g=mn∨b=mn) :
    isT n mn (hueZ r g b mx n) ((r:Int),(g:Int),(b:Int)):=by
  have h:=isT_i (r:=r) (g:=g) (b:=b) (mx:=mx) (mn:=mn) (n:=n) (by lia) (by lia) (by lia) (by lia) (by lia) (by lia) (by lia) (by lia) (by lia)
  have e : ∀ x y:Nat,((x:Int)=(y:Int))=(x=y):=fun x y=>propext ⟨Int.ofNat.inj,congrArg _⟩
  simp only [e] at h
  exact h
theorem due_turns (r g b mx mn n:Nat) (hr:mn≤r∧r≤mx) (hg:mn≤g∧g≤mx) (hb:mn≤b∧b≤mx) (hn:mx=mn+n) (hn0:1≤n) (hx:r=mx∨g=mx∨b=mx) (hm:r=mn∨g=mn∨b=mn) (k:Nat) (k0:Int) {Z:Int} (hZ:Z=hueZ r g b mx n+6*n*k0+k*n)
    {d:Int × Int × Int} (hd:d=dueK ((mx:Int)+mn) k ((r:Int),(g:Int),(b:Int))) :
    (∀ W,isW n (Z+2*n) W→(mn:Int)+W=d.1)∧(∀ W,isW n Z W→(mn:Int)+W=d.2.1)∧(∀ W,isW n (Z-2*n) W→(mn:Int)+W=d.2.2):=by
  have h:=isT_k (both:=(mx:Int)+mn) (by lia) k _ _ (isT_0 r g b mx mn n hr hg hb hn hx hm)
  rw [← hd] at h
  have hn':(1:Int)≤n:=by lia
  obtain ⟨a,b,c⟩:=h
  have fin : ∀ {X Y x W:Int},isW n X (x-mn)→Y=X+6*n*k0→isW n Y W→(mn:Int)+W=x:=fun {X Y x W} h e h'=>by
    have:=isW_one hn' h (isW_shift k0 (e▸h'))
    rw [← this]; lia
  exact ⟨fun W h=>fin a (by rw [hZ]; lia) h,fun W h=>fin b (by rw [hZ]; lia) h,fun W h=>fin c (by rw [hZ]; lia) h⟩
end Mine
namespace Mine
open PySem PySem.Float64
noncomputable def kF (k:Nat):UInt64:=ofFrac false k 6
theorem kF_near {k:Nat} (hk:k < 6):isFin (kF k)∧6*fv (kF k)-((k:Int):Rat)≤6*eps ∧ -(6*eps)≤6*fv (kF k)-((k:Int):Rat):=by
  obtain ⟨f,a,b⟩:=frac_near k 6 (by decide) (by lia)
  have e:(((6:Nat):Nat):Rat)=6:=rfl
  rw [e] at a b
  rw [Rat.intCast_natCast]
  unfold kF
  exact ⟨f,by grind,by grind⟩
theorem hls_turn (r g b mx mn n:Nat) (hmx:mx≤1073741824) (hr:mn≤r∧r≤mx) (hg:mn≤g∧g≤mx) (hb:mn≤b∧b≤mx) (hn:mx=mn+n) (hn0:1≤n) (hx:r=mx∨g=mx∨b=mx) (hm:r=mn∨g=mn∨b=mn) (k:Nat) (hk:k < 6) :
    let h:=add (hueF (fl mx) (fl mn) (fl r) (fl g) (fl b)) (kF k)
    let l:=lF (fl mx) (fl mn)
    let s:=sF (fl mx) (fl mn)
    let d:=dueK ((mx:Int)+mn) k ((r:Int),(g:Int),(b:Int))
    tells (vF (m1F l s) (m2F l s) (add h c13)) d.1∧tells (vF (m1F l s) (m2F l s) h) d.2.1∧tells (vF (m1F l s) (m2F l s) (sub h c13)) d.2.2:=by
  intro h l s d
  obtain ⟨h0,⟨u1,u2⟩,k0,g1,g2⟩:=hue_near hmx hr hg hb hn hn0
  obtain ⟨c0,c1,c2⟩:=kF_near hk
  obtain ⟨t0,t1,t2⟩:=turn_near h0 c0 (n:Int) (by lia) (by lia) (hueZ r g b mx n+6*n*k0) (k:Int) (1 / 2000) (by decide +kernel) (by grind) (by grind) (by lia) c1 c2 g1 g2
  obtain ⟨⟨l0,l1,l2⟩,⟨s0,s1,s2⟩,lo,hi⟩:=ls_near hmx hn hn0
  obtain ⟨⟨p0,p1,p2⟩,q0,q1,q2⟩:=back_near l0 s0 ((mx+mn:Nat):Int) (n:Rat) (by lia) (by lia) (by grind) (by grind) (by grind) (by grind) (fun z=>by have:=lo z; constructor <;> grind) (fun z=>by have:=hi z; constructor <;> grind)
  have cS:(((mx+mn:Nat):Int):Rat)=(mx:Rat)+(mn:Rat):=by rw [Rat.intCast_natCast,Rat.natCast_add]
  have cX:(mx:Rat)=(mn:Rat)+(n:Rat):=by rw [hn,Rat.natCast_add]
  have cn:((n:Int):Rat)=(n:Rat):=Rat.intCast_natCast n
  have cm:((mn:Int):Rat)=(mn:Rat):=Rat.intCast_natCast mn
  rw [cS,cX] at p1 p2 q1 q2
  have k1:((k:Int):Rat)≤((6:Int):Rat):=Rat.intCast_le_intCast.2 (by lia)
  have k2:((0:Int):Rat)≤((k:Int):Rat):=Rat.intCast_le_intCast.2 (by lia)
  have k3:((6:Int):Rat)=6:=rfl
  have k4:((0:Int):Rat)=0:=rfl
  rw [k3] at k1
  rw [k4] at k2
  obtain ⟨_,z1,z2⟩:=add_near h0 c0 (by grind) (by grind)
  have hb1 : -2≤fv (add (hueF (fl mx) (fl mn) (fl r) (fl g) (fl b)) (kF k)):=by grind
  have hb2:fv (add (hueF (fl mx) (fl mn) (fl r) (fl g) (fl b)) (kF k))≤3:=by grind
  obtain ⟨⟨W1,i1,v1⟩,⟨W2,i2,v2⟩,⟨W3,i3,v3⟩⟩:=back3_near (h:=h) t0 q0 p0 (n:Int) (mn:Int) (hueZ r g b mx n+6*n*k0+k*n) (by lia) (by lia) (by lia)
    (by rw [cm]; grind) (by rw [cm]; grind) (by rw [cm,cn]; grind) (by rw [cm,cn]; grind) hb1 hb2 (by grind) (by grind)
  obtain ⟨D1,D2,D3⟩:=due_turns r g b mx mn n hr hg hb hn hn0 hx hm k k0 rfl rfl
  exact ⟨D1 W1 i1▸v1,D2 W2 i2▸v2,D3 W3 i3▸v3⟩
theorem hls_f (r g b mx mn n:Nat) (hmx:mx≤1073741824) (hr:mn≤r∧r≤mx) (hg:mn≤g∧g≤mx) (hb:mn≤b∧b≤mx) (hn:mx=mn+n) (hn0:1≤n) (hx:r=mx∨g=mx∨b=mx) (hm:r=mn∨g=mn∨b=mn) :
    let h:=hueF (fl mx) (fl mn) (fl r) (fl g) (fl b)
    let l:=sub one (lF (fl mx) (fl mn))
    let s:=sF (fl mx) (fl mn)
    tells (vF (m1F l s) (m2F l s) (add h c13)) (r+1073741824-(mx+mn))∧tells (vF (m1F l s) (m2F l s) h) (g+1073741824-(mx+mn))∧tells (vF (m1F l s) (m2F l s) (sub h c13)) (b+1073741824-(mx+mn)):=by
  intro h l s
  obtain ⟨h0,⟨u1,u2⟩,k0,g1,g2⟩:=hue_near hmx hr hg hb hn hn0
  obtain ⟨⟨l0,l1,l2⟩,⟨s0,s1,s2⟩,lo,hi⟩:=ls_near hmx hn hn0
  have cS:(((mx+mn:Nat):Int):Rat)=(mx:Rat)+(mn:Rat):=by rw [Rat.intCast_natCast,Rat.natCast_add]
  have cT:(((2147483648-(mx+mn):Nat):Int):Rat)=2147483648-(((mx+mn:Nat):Int):Rat):=by
    have:((2147483648-(mx+mn):Nat):Int)=2147483648-((mx+mn:Nat):Int):=by lia
    rw [this,Rat.intCast_sub]; rfl
  have cX:(mx:Rat)=(mn:Rat)+(n:Rat):=by rw [hn,Rat.natCast_add]
  have x4:(0:Rat)≤(mn:Rat):=Rat.natCast_nonneg
  have x6:(0:Rat)≤(n:Rat):=Rat.natCast_nonneg
  have x1:(mx:Rat)≤1073741824:=Rat.natCast_le_natCast.2 hmx
  obtain ⟨f0,f1,f2⟩:=sub_near one_fin l0 (by rw [fv_one]; grind) (by rw [fv_one]; grind)
  rw [fv_one] at f1 f2
  obtain ⟨⟨p0,p1,p2⟩,q0,q1,q2⟩:=back_near f0 s0 ((2147483648-(mx+mn):Nat):Int) (n:Rat) (by lia) (by lia) (by rw [cT]; grind) (by rw [cT]; grind) (by grind) (by grind)
    (fun z=>by have:=hi (by lia); rw [cT]; constructor <;> grind) (fun z=>by have:=lo (by lia); rw [cT]; constructor <;> grind)
  have cn:((n:Int):Rat)=(n:Rat):=Rat.intCast_natCast n
  have cm:(((1073741824-mx:Nat):Int):Rat)=1073741824-(mx:Rat):=by
    have:((1073741824-mx:Nat):Int)=1073741824-(mx:Int):=by lia
    rw [this,Rat.intCast_sub,Rat.intCast_natCast]; rfl
  rw [cT,cS] at p1 p2 q1 q2
  obtain ⟨⟨W1,i1,v1⟩,⟨W2,i2,v2⟩,⟨W3,i3,v3⟩⟩:=back3_near (h:=h) h0 q0 p0 (n:Int) ((1073741824-mx:Nat):Int) (hueZ r g b mx n+6*n*k0) (by lia) (by lia) (by lia)
    (by rw [cm]; grind) (by rw [cm]; grind) (by rw [cm,cn]; grind) (by rw [cm,cn]; grind) (by grind) (by grind) (by grind) (by grind)
  obtain ⟨D1,D2,D3⟩:=due_turns r g b mx mn n hr hg hb hn hn0 hx hm 0 k0 (Z:=hueZ r g b mx n+6*n*k0) (by lia) rfl
  have d1:(mn:Int)+W1=r:=D1 W1 i1
  have d2:(mn:Int)+W2=g:=D2 W2 i2
  have d3:(mn:Int)+W3=b:=D3 W3 i3
  have t1:(r:Int)+1073741824-(mx+mn)=((1073741824-mx:Nat):Int)+W1:=by lia
  have t2:(g:Int)+1073741824-(mx+mn)=((1073741824-mx:Nat):Int)+W2:=by lia
  have t3:(b:Int)+1073741824-(mx+mn)=((1073741824-mx:Nat):Int)+W3:=by lia
  rw [t1,t2,t3]
  exact ⟨v1,v2,v3⟩
end Mine
namespace Mine
open PySem PySem.W PySem.W.X PyProof.Rows PySem.Calls
noncomputable abbrev FF (w:Ws) (D:Nat) (id:String) (vs:List Value) (x:UInt64):Prop:=Spec (VV w) D (.builtin id ⟨vs,[]⟩) [] (fun o=>⟨.ok (.ret (.float x (o.v 0))),[],[]⟩)
noncomputable abbrev FB (w:Ws) (D:Nat) (id:String) (vs:List Value) (b:Bool):Prop:=Spec (VV w) D (.builtin id ⟨vs,[]⟩) [] (fun _=>⟨.ok (.ret (.bool b)),[],[]⟩)
theorem ff_of {w:Ws} {D:Nat} {id:String} {vs:List Value} {x:UInt64} {b:Builtin} (hq:plainId id=true) (hb:entryFor table id=some b) (g:PySem.Gives (b ⟨vs,[]⟩) (.float x)):FF w D id vs x :=
  spec_gives (m := .float x) (fun τ => .float x τ) hq hb g (fun Q s h=>h _ _)
theorem fb_of {w:Ws} {D:Nat} {id:String} {vs:List Value} {x:Bool} {b:Builtin} (hq:plainId id=true) (hb:entryFor table id=some b) (g:PySem.Gives (b ⟨vs,[]⟩) (.val (.bool x))):FB w D id vs x :=
  spec_gives (m := .val (.bool x)) (fun _ => .bool x) hq hb g (fun Q s h=>h s.toks 0)
section
variable {w:Ws} {D:Nat} (a:UInt64) (t:Tok) (b:UInt64) (u:Tok)
theorem r_fadd:FF w D "float.__add__" [.float a t,.float b u] (Float64.add a b):=ff_of (by decide +kernel) F.entry_float_add (AutoFloatG4.float___add___float_float_0 a t b u)
noncomputable def k_r_fadd {w:Ws} {D:Nat}:=fun a1 a2 a3 a4=>kOf (r_fadd (w:=w) (D:=D) a1 a2 a3 a4)
theorem r_fsub:FF w D "float.__sub__" [.float a t,.float b u] (Float64.sub a b):=ff_of (by decide +kernel) F.entry_float_sub (AutoFloatG0.float___sub___float_float_0 a t b u)
noncomputable def k_r_fsub {w:Ws} {D:Nat}:=fun a1 a2 a3 a4=>kOf (r_fsub (w:=w) (D:=D) a1 a2 a3 a4)
theorem r_fmul:FF w D "float.__mul__" [.float a t,.float b u] (Float64.mul a b):=ff_of (by decide +kernel) F.entry_float_mul (AutoFloatG1.float___mul___float_float_0 a t b u)
noncomputable def k_r_fmul {w:Ws} {D:Nat}:=fun a1 a2 a3 a4=>kOf (r_fmul (w:=w) (D:=D) a1 a2 a3 a4)
theorem r_fdiv (h:Float64.isZero b=false):FF w D "float.__truediv__" [.float a t,.float b u] (Float64.div a b):=ff_of (by decide +kernel) F.entry_float_truediv (AutoFloatG1.float___truediv___float_float_1 a t b u (by rw [h]; decide))
noncomputable def k_r_fdiv {w:Ws} {D:Nat}:=fun a1 a2 a3 a4 a5=>kOf (r_fdiv (w:=w) (D:=D) a1 a2 a3 a4 a5)
theorem r_fmod (h:Float64.isZero b=false):FF w D "float.__mod__" [.float a t,.float b u] (Float64.divmod a b).2:=ff_of (by decide +kernel) F.entry_float_mod (AutoFloatG2.float___mod___float_float_1 a t b u (by rw [h]; decide))
noncomputable def k_r_fmod {w:Ws} {D:Nat}:=fun a1 a2 a3 a4 a5=>kOf (r_fmod (w:=w) (D:=D) a1 a2 a3 a4 a5)
theorem r_fneg:FF w D "float.__neg__" [.float a t] (Float64.neg a):=ff_of (by decide +kernel) F.entry_float_neg (AutoFloatG0.float___neg___float_0 a t)
noncomputable def k_r_fneg {w:Ws} {D:Nat}:=fun a1 a2=>kOf (r_fneg (w:=w) (D:=D) a1 a2)
theorem r_flt (x:Bool) (h:(Float64.cmp a b == some .lt)=x):FB w D "float.__lt__" [.float a t,.float b u] x:=fb_of (by decide +kernel) F.entry_float_lt (by subst h; exact AutoFloatG5.float___lt___float_float_0 a t b u)
noncomputable def k_r_flt {w:Ws} {D:Nat}:=fun a1 a2 a3 a4 a5 a6=>kOf (r_flt (w:=w) (D:=D) a1 a2 a3 a4 a5 a6)
theorem r_fgt (x:Bool) (h:(Float64.cmp a b == some .gt)=x):FB w D "float.__gt__" [.float a t,.float b u] x:=fb_of (by decide +kernel) F.entry_float_gt (by subst h; exact AutoFloatG4.float___gt___float_float_0 a t b u)
noncomputable def k_r_fgt {w:Ws} {D:Nat}:=fun a1 a2 a3 a4 a5 a6=>kOf (r_fgt (w:=w) (D:=D) a1 a2 a3 a4 a5 a6)
theorem r_feq (x:Bool) (h:(Float64.cmp a b == some .eq)=x):FB w D "float.__eq__" [.float a t,.float b u] x:=fb_of (by decide +kernel) F.entry_float_eq (by subst h; exact AutoFloatG5.float___eq___float_float_0 a t b u)
noncomputable def k_r_feq {w:Ws} {D:Nat}:=fun a1 a2 a3 a4 a5 a6=>kOf (r_feq (w:=w) (D:=D) a1 a2 a3 a4 a5 a6)
theorem r_fle (x:Bool) (h:(Float64.cmp a b == some .lt || Float64.cmp a b == some .eq)=x):FB w D "float.__le__" [.float a t,.float b u] x:=fb_of (by decide +kernel) F.entry_float_le (by subst h; exact AutoFloatG3.float___le___float_float_0 a t b u)
noncomputable def k_r_fle {w:Ws} {D:Nat}:=fun a1 a2 a3 a4 a5 a6=>kOf (r_fle (w:=w) (D:=D) a1 a2 a3 a4 a5 a6)
theorem r_fmuli (i:Int) (h:Float64.isInf (Float64.ofInt i)=false):FF w D "float.__mul__" [.float a t,.int i u] (Float64.mul a (Float64.ofInt i)):=ff_of (by decide +kernel) F.entry_float_mul (AutoFloatG3.float___mul___float_int_1 a t i u (by rw [h]; decide))
noncomputable def k_r_fmuli {w:Ws} {D:Nat}:=fun a1 a2 a3 a4 a5=>kOf (r_fmuli (w:=w) (D:=D) a1 a2 a3 a4 a5)
theorem r_fsubi (i:Int) (h:Float64.isInf (Float64.ofInt i)=false):FF w D "float.__sub__" [.float a t,.int i u] (Float64.sub a (Float64.ofInt i)):=ff_of (by decide +kernel) F.entry_float_sub (AutoFloatG3.float___sub___float_int_1 a t i u (by rw [h]; decide))
noncomputable def k_r_fsubi {w:Ws} {D:Nat}:=fun a1 a2 a3 a4 a5=>kOf (r_fsubi (w:=w) (D:=D) a1 a2 a3 a4 a5)
theorem r_idiv (p d:Nat) (hd:d≠0) (h:Float64.isInf (Float64.ofFrac false p d)=false):FF w D "int.__truediv__" [.int (Int.ofNat p) t,.int (Int.ofNat d) u] (Float64.ofFrac false p d):=by
  have e1:decide (Int.ofNat p < 0)=false:=decide_eq_false (by have:=Int.natCast_nonneg p; show ¬ ((p:Int) < 0); omega)
  have e2:decide (Int.ofNat d < 0)=false:=decide_eq_false (by have:=Int.natCast_nonneg d; show ¬ ((d:Int) < 0); omega)
  have g:=AutoIntG4.int___truediv___int_int_2 (Int.ofNat p) t (Int.ofNat d) u (by
    have : ¬ (Int.ofNat d=0):=by show ¬ ((d:Int)=0); omega
    simpa using this) (by rw [e1,e2]; show ¬ Float64.isInf (Float64.ofFrac false p d)=true; rw [h]; decide)
  rw [e1,e2] at g
  exact ff_of (by decide +kernel) F.entry_int_truediv g
noncomputable def k_r_idiv {w:Ws} {D:Nat}:=fun a1 a2 a3 a4 a5 a6=>kOf (r_idiv (w:=w) (D:=D) a1 a2 a3 a4 a5 a6)
theorem r_fint {s:Bool} {m:Nat} {e:Int} (h:Float64.decode a = .fin s m e) (z:Int) (hz:Float64.truncOf s m e=z):Spec (VV w) D (.builtin "float.__int__" ⟨[.float a t],[]⟩) [] (fun o=>⟨.ok (.ret (.int z (o.v 0))),[],[]⟩):=by
  refine spec_still (fun τ => .int z τ) (by decide +kernel) F.entry_float_int fun A s' R _ _ _ _ h' => ?_
  obtain ⟨hp,g,d,tk,os⟩:=s'
  subst hz
  wp_walk
  rw [h]
  wp_walk
  exact h' _ _
noncomputable def k_r_fint {w:Ws} {D:Nat} {s:Bool} {m:Nat} {e:Int}:=fun a1 a2 a3 a4 a5=>kOf (r_fint (w:=w) (D:=D) (s:=s) (m:=m) (e:=e) a1 a2 a3 a4 a5)
end
theorem r_int_sub {w:Ws} {D:Nat} (x y z:Int) (t u:Tok) (h:x-y=z):Spec (VV w) D (.builtin "int.__sub__" ⟨[.int x t,.int y u],[]⟩) [] (fun o=>⟨.ok (.ret (.int z (o.v 0))),[],[]⟩):=by
  subst h
  exact spec_gives (m := .int (x-y)) (fun τ => .int (x-y) τ) (by decide +kernel) F.entry_int_sub (AutoIntG9.int___sub___int_int_0 x t y u) (fun Q s h=>h _ _)
noncomputable def k_r_int_sub {w:Ws} {D:Nat}:=fun a1 a2 a3 a4 a5 a6=>kOf (r_int_sub (w:=w) (D:=D) a1 a2 a3 a4 a5 a6)
theorem r_int_add {w:Ws} {D:Nat} (x y z:Int) (t u:Tok) (h:x+y=z):Spec (VV w) D (.builtin "int.__add__" ⟨[.int x t,.int y u],[]⟩) [] (fun o=>⟨.ok (.ret (.int z (o.v 0))),[],[]⟩):=by
  subst h
  exact spec_gives (m := .int (x+y)) (fun τ => .int (x+y) τ) (by decide +kernel) F.entry_int_add (AutoIntG4.int___add___int_int_0 x t y u) (fun Q s h=>h _ _)
noncomputable def k_r_int_add {w:Ws} {D:Nat}:=fun a1 a2 a3 a4 a5 a6=>kOf (r_int_add (w:=w) (D:=D) a1 a2 a3 a4 a5 a6)
end Mine
namespace Mine
open PySem PySem.Float64
noncomputable def kY1:UInt64:=4599075939470750515
noncomputable def kY2:UInt64:=4603489467105573601
noncomputable def kY3:UInt64:=4592590756007337001
noncomputable def kI1:UInt64:=4604840546993784750
noncomputable def kI2:UInt64:=4598535507515466056
noncomputable def kQ1:UInt64:=4602318531202457272
noncomputable def kQ2:UInt64:=4601057523306793533
noncomputable def kR1:UInt64:=4606703976345377586
noncomputable def kR2:UInt64:=4603791717925830846
noncomputable def kG1:UInt64:=4598621754083818298
noncomputable def kG2:UInt64:=4603901015759978483
noncomputable def kB1:UInt64:=4607671262177584182
noncomputable def kB2:UInt64:=4610375502138591871
noncomputable def yF (r g b:UInt64):UInt64:=add (add (mul kY1 r) (mul kY2 g)) (mul kY3 b)
noncomputable def iF (r g b:UInt64):UInt64:=sub (mul kI1 (sub r (yF r g b))) (mul kI2 (sub b (yF r g b)))
noncomputable def qF (r g b:UInt64):UInt64:=add (mul kQ1 (sub r (yF r g b))) (mul kQ2 (sub b (yF r g b)))
noncomputable def rF (y i q:UInt64):UInt64:=add (add y (mul kR1 i)) (mul kR2 q)
noncomputable def gF (y i q:UInt64):UInt64:=sub (sub y (mul kG1 i)) (mul kG2 q)
noncomputable def bF (y i q:UInt64):UInt64:=add (sub y (mul kB1 i)) (mul kB2 q)
noncomputable def clampF (x:UInt64):UInt64:=cond (cmp (cond (cmp x (zero false) == some .lt) (zero false) x) one == some .gt) one (cond (cmp x (zero false) == some .lt) (zero false) x)
noncomputable def fracF (h:UInt64) (i:Nat):UInt64:=sub (mul h c6) (ofInt (Int.ofNat i))
noncomputable def pF (s v:UInt64):UInt64:=mul v (sub one s)
noncomputable def q5F (f s v:UInt64):UInt64:=mul v (sub one (mul s f))
noncomputable def tF (f s v:UInt64):UInt64:=mul v (sub one (mul s (sub one f)))
noncomputable def hsvT (f s v:UInt64):Nat→UInt64 × UInt64 × UInt64
  | 0=>(v,tF f s v,pF s v)
  | 1=>(q5F f s v,v,pF s v)
  | 2=>(pF s v,v,tF f s v)
  | 3=>(pF s v,q5F f s v,v)
  | 4=>(tF f s v,pF s v,v)
  | _=>(v,pF s v,q5F f s v)
noncomputable def hlsF (r g b:UInt64):UInt64 × UInt64 × UInt64:=if (cmp (minF r g b) (maxF r g b) == some .eq)=true then (zero false,lF (maxF r g b) (minF r g b),zero false) else (hueF (maxF r g b) (minF r g b) r g b,lF (maxF r g b) (minF r g b),sF (maxF r g b) (minF r g b))
noncomputable def hsvF (r g b:UInt64):UInt64 × UInt64 × UInt64:=if (cmp (minF r g b) (maxF r g b) == some .eq)=true then (zero false,zero false,maxF r g b) else (hueF (maxF r g b) (minF r g b) r g b,div (sub (maxF r g b) (minF r g b)) (maxF r g b),maxF r g b)
theorem isW_double {n H W:Int} (h:isW n H W):isW (2*n) (2*H) (2*W):=by
  obtain ⟨k,h⟩:=h
  refine ⟨k,?_⟩
  have e:2*H+6*(2*n)*k=2*(H+6*n*k):=by grind
  rw [e]
  generalize H+6*n*k=z at h
  clear e
  rcases h with ⟨a,b,c⟩ | ⟨a,b,c⟩ | ⟨a,b,c⟩ | ⟨a,b,c⟩
  · exact .inl ⟨by lia,by lia,by lia⟩
  · exact .inr (.inl ⟨by lia,by lia,by lia⟩)
  · exact .inr (.inr (.inl ⟨by lia,by lia,by lia⟩))
  · exact .inr (.inr (.inr ⟨by lia,by lia,by lia⟩))
theorem s_low {mx mn n:Nat} (hmx:mx≤1073741824) (hn:mx=mn+n) (hn0:1≤n):1 / 4294967296≤fv (sF (fl mx) (fl mn)):=by
  obtain ⟨_,⟨s0,s1,s2⟩,lo,hi⟩:=ls_near hmx hn hn0
  have cn:(1:Rat)≤(n:Rat):=by
    have:((1:Nat):Rat)≤((n:Nat):Rat):=Rat.natCast_le_natCast.2 hn0
    exact this
  have key : ∀ T:Rat,0≤T→T≤2147483648 → -(1 / 20000)≤T*fv (sF (fl mx) (fl mn))-(n:Rat)→1 / 4294967296≤fv (sF (fl mx) (fl mn)):=fun T h0 h1 h=>by
    refine Rat.not_lt.1 fun hc => ?_
    have a1:0≤T*(1 / 4294967296-fv (sF (fl mx) (fl mn))):=Rat.mul_nonneg h0 (by grind)
    grind
  have c0:(0:Rat)≤(((mx+mn:Nat):Int):Rat):=by
    have:((0:Int):Rat)≤(((mx+mn:Nat):Int):Rat):=Rat.intCast_le_intCast.2 (by lia)
    exact this
  have c1:(((mx+mn:Nat):Int):Rat)≤2147483648:=by
    have:(((mx+mn:Nat):Int):Rat)≤((2147483648:Int):Rat):=Rat.intCast_le_intCast.2 (by lia)
    exact this
  by_cases h:((mx+mn:Nat):Int)≤1073741824
  · exact key _ c0 c1 (lo h).2
  · exact key _ (by grind) (by grind) (hi (by lia)).2
theorem hls_m (r g b mx mn n:Nat) (hmx:mx≤1073741824) (hr:mn≤r∧r≤mx) (hg:mn≤g∧g≤mx) (hb:mn≤b∧b≤mx) (hn:mx=mn+n) (hn0:1≤n) (hx:r=mx∨g=mx∨b=mx) (hm:r=mn∨g=mn∨b=mn)
    (dr:r % 4=0) (dg:g % 4=0) (db:b % 4=0) :
    let h:=hueF (fl mx) (fl mn) (fl r) (fl g) (fl b)
    let l:=lF (fl mx) (fl mn)
    let s:=div (sF (fl mx) (fl mn)) c2
    tells (vF (m1F l s) (m2F l s) (add h c13)) (((2*r+(mx+mn)) / 4:Nat):Int)∧tells (vF (m1F l s) (m2F l s) h) (((2*g+(mx+mn)) / 4:Nat):Int)∧tells (vF (m1F l s) (m2F l s) (sub h c13)) (((2*b+(mx+mn)) / 4:Nat):Int):=by
  intro h l s
  obtain ⟨h0,⟨u1,u2⟩,k0,g1,g2⟩:=hue_near hmx hr hg hb hn hn0
  obtain ⟨⟨l0,l1,l2⟩,⟨s0,s1,s2⟩,lo,hi⟩:=ls_near hmx hn hn0
  have dmx:mx % 4=0:=by rcases hx with h | h | h <;> rw [← h] <;> assumption
  have dmn:mn % 4=0:=by rcases hm with h | h | h <;> rw [← h] <;> assumption
  obtain ⟨n2,e2⟩ : ∃ n2,n=2*n2:=⟨n / 2,by lia⟩
  obtain ⟨M1,eM⟩ : ∃ M1:Nat,2*M1+n2=mx+mn:=⟨(mx+mn-n2) / 2,by lia⟩
  obtain ⟨Z2,eZ⟩ : ∃ Z2:Int,hueZ r g b mx n=2*Z2:=⟨hueZ r g b mx n / 2,by
    unfold hueZ
    split
    · lia
    · split <;> lia⟩
  obtain ⟨v0,v1,v2⟩:=div_near s0 c2_fin (by rw [fv_c2]; decide) (fv (sF (fl mx) (fl mn)) / 2) (by rw [fv_c2]; grind) (by grind) (by grind)
  have cS:(((mx+mn:Nat):Int):Rat)=(mx:Rat)+(mn:Rat):=by rw [Rat.intCast_natCast,Rat.natCast_add]
  have cn:(n:Rat)=2*((n2:Int):Rat):=by
    rw [Rat.intCast_natCast,e2,Rat.natCast_mul]; rfl
  have cM:(((M1:Nat):Int):Rat)=((((mx+mn:Nat):Int):Rat)-((n2:Int):Rat)) / 2:=by
    have:((mx+mn:Nat):Int)=2*(M1:Int)+(n2:Int):=by lia
    rw [this,Rat.intCast_add,Rat.intCast_mul]
    have:((2:Int):Rat)=2:=rfl
    grind
  have c0:(0:Rat)≤(((mx+mn:Nat):Int):Rat):=by
    have:((0:Int):Rat)≤(((mx+mn:Nat):Int):Rat):=Rat.intCast_le_intCast.2 (by lia)
    exact this
  have c1:(((mx+mn:Nat):Int):Rat)≤2147483648:=by
    have:(((mx+mn:Nat):Int):Rat)≤((2147483648:Int):Rat):=Rat.intCast_le_intCast.2 (by lia)
    exact this
  have half : ∀ T:Rat,0≤T→T≤2147483648→(T*fv (sF (fl mx) (fl mn))-(n:Rat)≤1 / 20000 ∧ -(1 / 20000)≤T*fv (sF (fl mx) (fl mn))-(n:Rat))→T*fv (div (sF (fl mx) (fl mn)) c2)-((n2:Int):Rat)≤1 / 10000 ∧ -(1 / 10000)≤T*fv (div (sF (fl mx) (fl mn)) c2)-((n2:Int):Rat):=fun T t0 t1 ⟨a,b⟩=>by
    have y1:0≤T*(eps-(fv (div (sF (fl mx) (fl mn)) c2)-fv (sF (fl mx) (fl mn)) / 2)):=Rat.mul_nonneg t0 (by grind)
    have y2:0≤T*(eps+(fv (div (sF (fl mx) (fl mn)) c2)-fv (sF (fl mx) (fl mn)) / 2)):=Rat.mul_nonneg t0 (by grind)
    constructor <;> grind
  obtain ⟨⟨p0,p1,p2⟩,q0,q1,q2⟩:=back_near l0 v0 ((mx+mn:Nat):Int) ((n2:Int):Rat) (by lia) (by lia) (by grind) (by grind) (by grind) (by grind)
    (fun z=>half _ c0 c1 (lo z)) (fun z=>half _ (by grind) (by grind) (hi z))
  have eH:hueZ r g b mx n+6*n*k0=2*(Z2+6*n2*k0):=by rw [eZ,e2]; push_cast; grind
  have cZ:((hueZ r g b mx n+6*n*k0:Int):Rat)=2*((Z2+6*n2*k0:Int):Rat):=by
    rw [eH,Rat.intCast_mul]; rfl
  rw [cZ] at g1 g2
  have ci:((n:Int):Rat)=(n:Rat):=Rat.intCast_natCast n
  rw [ci,cn] at g1 g2
  obtain ⟨⟨W1,i1,v1⟩,⟨W2,i2,v2⟩,⟨W3,i3,v3⟩⟩:=back3_near (h:=h) h0 q0 p0 (n2:Int) (M1:Int) (Z2+6*n2*k0) (by lia) (by lia) (by lia)
    (by rw [cM]; grind) (by rw [cM]; grind) (by rw [cM]; grind) (by rw [cM]; grind) (by grind) (by grind) (by grind) (by grind)
  have e0:2*((n2:Nat):Int)=(n:Int):=by lia
  have f1:=isW_double i1
  have f2:=isW_double i2
  have f3:=isW_double i3
  obtain ⟨D1,D2,D3⟩:=due_turns r g b mx mn n hr hg hb hn hn0 hx hm 0 k0 (Z:=2*(Z2+6*n2*k0)) (by rw [eH]; lia) rfl
  rw [Int.mul_add,e0] at f1
  rw [e0] at f2
  rw [Int.mul_sub,e0] at f3
  have d1:(mn:Int)+2*W1=r:=D1 _ f1
  have d2:(mn:Int)+2*W2=g:=D2 _ f2
  have d3:(mn:Int)+2*W3=b:=D3 _ f3
  have t1:(((2*r+(mx+mn)) / 4:Nat):Int)=((M1:Nat):Int)+W1:=by lia
  have t2:(((2*g+(mx+mn)) / 4:Nat):Int)=((M1:Nat):Int)+W2:=by lia
  have t3:(((2*b+(mx+mn)) / 4:Nat):Int)=((M1:Nat):Int)+W3:=by lia
  rw [t1,t2,t3]
  exact ⟨v1,v2,v3⟩
theorem trunc_nearD (q:Nat) (h:q < 2^1078) : ∃ t,V t≤q∧q < V t+2*uE:=by
  by_cases hs:q < 2^52
  · refine ⟨q,?_,?_⟩ <;> have e:V q=q:=by unfold V; rw [if_pos (Nat.div_eq_of_lt hs)]
    · lia
    · have:=uE_pos; lia
  · have hq:q≠0:=by lia
    have l1:2^q.log2≤q:=Nat.log2_self_le hq
    have l2:q < 2^(q.log2+1):=Nat.lt_log2_self
    have l3:52≤q.log2:=(Nat.le_log2 hq).2 (by lia)
    have l4:q.log2 < 1078:=(Nat.log2_lt hq).2 h
    have hk:q.log2=(q.log2-52)+52:=by lia
    generalize hK:q.log2-52=k at hk
    rw [hk] at l1 l2
    have p0:=Nat.two_pow_pos k
    have d1:2^52≤q / 2^k:=by
      rw [Nat.le_div_iff_mul_le p0]
      rw [Nat.pow_add,Nat.mul_comm] at l1
      exact l1
    have d2:q / 2^k < 2^53:=by
      rw [Nat.div_lt_iff_lt_mul p0]
      rw [Nat.add_assoc,Nat.pow_add,Nat.mul_comm] at l2
      exact l2
    have hV:=V_at (k:=k) (q:=q / 2^k) (by lia) (.inl d1)
    refine ⟨_,by rw [hV]; exact Nat.div_mul_le_self q (2^k),?_⟩
    rw [hV]
    have m:=Nat.mod_lt q p0
    have dm:=Nat.div_add_mod q (2^k)
    have le:2^k≤2*uE:=by
      have:2^k≤2^(1+1024):=Nat.pow_le_pow_right (by decide) (by lia)
      rw [Nat.pow_add] at this
      exact this
    rw [Nat.mul_comm] at dm
    lia
theorem over_notD {W D:Nat} (hW:W < 2^1078*D) : ¬ (D*((2^54-1)*2^2045)≤2*W):=fun h=>by
  have h1:2^1079≤(2^54-1)*2^2045:=by decide +kernel
  have h2:D*2^1079≤D*((2^54-1)*2^2045):=Nat.mul_le_mul_left D h1
  have h3:2^1078*D*2=D*2^1079:=by
    rw [show (2:Nat)^1079=2^1078*2 from Nat.pow_succ ..]
    generalize (2:Nat)^1078=K
    ac_rfl
  lia
theorem right_nearD {r:UInt64} {neg:Bool} {W D:Nat} (hD:0 < D) (hW:W < 2^1078*D) (R:Right r neg W D):(∃ m e,decode r = .fin neg m e)∧(val r*D-Float64.sgn neg W).natAbs≤D*(2*uE):=by
  obtain ⟨t,rfl,ht,hi,hn⟩:=R
  have hlt:t < infMag:=by
    rcases Nat.lt_or_ge t infMag with h | h
    · exact h
    · exact absurd (hi.1 (by lia)) (over_notD hW)
  obtain ⟨m,e,hd,_⟩:=decode_pack neg hlt
  refine ⟨⟨m,e,hd⟩,?_⟩
  rw [val_pack neg hlt,← Float64.sgn_mul,dist_sgn]
  obtain ⟨t',v1,v2⟩:=trunc_nearD (W / D) ((Nat.div_lt_iff_lt_mul hD).2 hW)
  have:=(hn hlt t').1
  have e1:D*V t'≤W:=Nat.le_trans (Nat.mul_le_mul_left D v1) (Nat.mul_div_le W D)
  have e2:W < D*V t'+D*(2*uE):=by
    have z:=Nat.lt_mul_div_succ W hD
    have z2:D*(W / D+1)≤D*(V t'+2*uE):=Nat.mul_le_mul_left D v2
    have z3:D*(V t'+2*uE)=D*V t'+D*(2*uE):=Nat.mul_add ..
    omega
  have e3:dist (V t*D) W=dist W (D*V t):=by unfold dist; rw [Nat.mul_comm]; lia
  rw [e3]
  unfold dist at this ⊢
  generalize 2*uE=E at *
  lia
theorem near_ofD {D:Nat} (v:Int) (S:Int) (h:(v*D-S).natAbs≤D*(2*uE)):(v:Rat)*D-S≤D*(2*uR) ∧ -(D*(2*uR))≤(v:Rat)*D-S:=by
  have eE:(((2*uE:Nat):Nat):Rat)=2*uR:=by rw [Rat.natCast_mul]; rfl
  rw [← eE]
  generalize 2*uE=E at *
  have h1:v*D-S≤((D*E:Nat):Int):=by lia
  have h2 : -((D*E:Nat):Int)≤v*D-S:=by lia
  have h1':((v*D-S:Int):Rat)≤(((D*E:Nat):Int):Rat):=by exact_mod_cast h1
  have h2':((-((D*E:Nat):Int):Int):Rat)≤((v*D-S:Int):Rat):=by exact_mod_cast h2
  push_cast at h1' h2'
  exact ⟨h1',h2'⟩
noncomputable abbrev eps2:Rat:=1 / 562949953421312
theorem pow1078:(2:Nat)^1078=16*2^1074:=by
  rw [show (2:Nat)^1078=2^4*2^1074 from by rw [← Nat.pow_add]]
theorem near_pureD {v n q d K R:Rat} (ue:K=1125899906842624*R) (dp:0 < d) (p:0 < K) (hq:n=q*d) (g1:v*K*d-n*K≤d*(2*R)) (g2 : -(d*(2*R))≤v*K*d-n*K):v-q≤eps2 ∧ -eps2≤v-q:=by
  have pp:=Rat.mul_pos dp p
  have e:(v-q)*(d*K)=v*K*d-n*K:=by rw [hq]; grind
  have w1:(v-q)*(d*K)≤eps2*(d*K):=by
    have z:eps2*(d*K)=d*(2*R):=by rw [ue]; grind
    rw [z,e]; exact g1
  have w2 : -eps2*(d*K)≤(v-q)*(d*K):=by
    have z : -eps2*(d*K) = -(d*(2*R)):=by rw [ue]; grind
    rw [z,e]; exact g2
  exact ⟨Rat.le_of_mul_le_mul_right w1 pp,Rat.le_of_mul_le_mul_right w2 pp⟩
theorem mul_nearD {x y:UInt64} (hx:isFin x) (hy:isFin y) (h1:fv x*fv y < 16) (h2 : -16 < fv x*fv y):isFin (mul x y)∧fv (mul x y)-fv x*fv y≤eps2 ∧ -eps2≤fv (mul x y)-fv x*fv y:=by
  obtain ⟨a,m,e,hx⟩:=hx
  obtain ⟨b,k,f,hy⟩:=hy
  have R:=mul_right hx hy
  have p:=uK_pos
  have pp:=Rat.mul_pos p p
  have v1:=fv_val x
  have v2:=fv_val y
  have hS:Float64.sgn (a != b) ((val x).natAbs*(val y).natAbs)=val x*val y:=by
    rw [sgn_mul2,← val_sgn hx,← val_sgn hy]
  have hW:(val x).natAbs*(val y).natAbs < 2^1078*2^1074:=by
    rw [← Int.natAbs_mul]
    have g1:=Rat.mul_lt_mul_of_pos_right h1 pp
    have g2:=Rat.mul_lt_mul_of_pos_right h2 pp
    have e1:((val x*val y:Int):Rat)=fv x*fv y*(uK*uK):=by push_cast; rw [v1,v2]; grind
    rw [pow1078,Nat.mul_assoc]
    rw [← e1] at g1 g2
    have e2:uK*uK=((2^1074*2^1074:Nat):Rat):=by unfold uK; rw [Rat.natCast_mul]
    rw [e2] at g1 g2
    generalize (2:Nat)^1074*2^1074=K at g1 g2 ⊢
    generalize val x*val y=v at g1 g2 ⊢
    have h1':(v:Rat) < ((16*K:Nat):Rat):=by rw [Rat.natCast_mul]; exact g1
    have h2':((-((16*K:Nat):Int):Int):Rat) < (v:Rat):=by
      rw [Rat.intCast_neg,Rat.intCast_natCast,Rat.natCast_mul]
      have : -((16:Rat)*(K:Rat)) = -16*(K:Rat):=by grind
      exact this▸g2
    generalize 16*K=Z at h1' h2' ⊢
    have h1:v < (Z:Int):=by exact_mod_cast h1'
    have h2:(-(Z:Int)) < v:=by exact_mod_cast h2'
    lia
  obtain ⟨⟨m',e',hf⟩,hd⟩:=right_nearD (Nat.two_pow_pos _) hW R
  rw [hS] at hd
  obtain ⟨g1,g2⟩:=near_ofD _ _ hd
  have v3:=fv_val (mul x y)
  have ue:=uK_eq
  have eD:(((2^1074:Nat):Nat):Rat)=uK:=rfl
  rw [eD] at g1 g2
  rw [Rat.intCast_mul,v3,v1,v2] at g1 g2
  have e2:fv x*uK*(fv y*uK)=(fv x*fv y*uK)*uK:=by grind
  rw [e2] at g1 g2
  exact ⟨⟨_,_,_,hf⟩,near_pureD ue p p rfl g1 g2⟩
theorem floor_is {m n:Nat} {e:Int} (he : -1074≤e) (b1:n*2^1074≤m*2^(e+1074).toNat) (b2:m*2^(e+1074).toNat < (n+1)*2^1074):floorOf false m e=Int.ofNat n:=by
  unfold floorOf Float64.sgn
  simp only [Bool.false_eq_true,if_false]
  split
  · rename_i h
    have ee:(e+1074).toNat=e.toNat+1074:=by lia
    rw [ee,Nat.pow_add,← Nat.mul_assoc] at b1 b2
    have c1:=Nat.le_of_mul_le_mul_right b1 (Nat.two_pow_pos _)
    have c2:=Nat.lt_of_mul_lt_mul_right b2
    have:m*2^e.toNat=n:=by lia
    rw [← this]
    show ((m:Nat):Int)*2^e.toNat=((m*2^e.toNat:Nat):Int)
    push_cast; rfl
  · rename_i h
    have ee:1074=(e+1074).toNat+(-e).toNat:=by lia
    have e2:(2:Nat)^1074=2^(e+1074).toNat*2^(-e).toNat:=by rw [← Nat.pow_add,← ee]
    rw [e2] at b1 b2
    have c1:n*2^(-e).toNat≤m:=by
      refine Nat.le_of_mul_le_mul_right (c:=2^(e+1074).toNat) ?_ (Nat.two_pow_pos _)
      rw [Nat.mul_assoc,Nat.mul_comm (2^(-e).toNat)]
      exact b1
    have c2:m < (n+1)*2^(-e).toNat:=by
      refine Nat.lt_of_mul_lt_mul_right (a:=2^(e+1074).toNat) ?_
      rw [Nat.mul_assoc,Nat.mul_comm (2^(-e).toNat)]
      exact b2
    have pe:(2:Int)^(-e).toNat=((2^(-e).toNat:Nat):Int):=by push_cast; rfl
    rw [pe,Int.fdiv_eq_ediv_of_nonneg _ (Int.natCast_nonneg _)]
    exact congrArg Int.ofNat (Nat.div_eq_of_lt_le c1 c2)
theorem trunc_all {x:UInt64} {a:Bool} {m:Nat} {e:Int} (hx:decode x = .fin a m e) (h0 : -1 < fv x) (h1:fv x < 12) : ∃ i:Nat,i < 12∧truncOf a m e=Int.ofNat i∧((i:Rat)≤fv x∨i=0)∧fv x < i+1:=by
  have p:=uK_pos
  have v1:=fv_val x
  have he:=decode_ge hx
  have hv:=val_eq hx
  cases a with
  | false =>
    have hv:val x=((m*2^(e+1074).toNat:Nat):Int):=hv
    have d1:=Nat.div_mul_le_self (m*2^(e+1074).toNat) (2^1074)
    have d2:=Nat.lt_div_mul_add (a:=m*2^(e+1074).toNat) (Nat.two_pow_pos 1074)
    have d2:m*2^(e+1074).toNat < (m*2^(e+1074).toNat / 2^1074+1)*2^1074:=by rw [Nat.add_mul,Nat.one_mul]; exact d2
    have hf:=floor_is (by lia) d1 d2
    rw [hv,Rat.intCast_natCast] at v1
    generalize m*2^(e+1074).toNat / 2^1074=n at d1 d2 hf
    have r1:((n:Nat):Rat)*uK≤fv x*uK:=by
      rw [← v1]; unfold uK
      have:=Rat.natCast_le_natCast.2 d1
      rwa [Rat.natCast_mul] at this
    have r2:fv x*uK < (((n+1:Nat):Nat):Rat)*uK:=by
      rw [← v1]; unfold uK
      have:=Rat.natCast_lt_natCast.2 d2
      rwa [Rat.natCast_mul (n+1)] at this
    have s1:=Rat.le_of_mul_le_mul_right r1 p
    have s2:fv x < ((n+1:Nat):Rat):=Rat.lt_of_mul_lt_mul_right r2 (Rat.le_of_lt p)
    have e1:((n+1:Nat):Rat)=(n:Rat)+1:=by rw [Rat.natCast_add]; rfl
    rw [e1] at s2
    refine ⟨n,?_,hf,.inl s1,s2⟩
    have:((n:Nat):Rat) < ((12:Nat):Rat):=by
      have:((12:Nat):Rat)=12:=rfl
      rw [this]; grind
    exact Rat.natCast_lt_natCast.1 this
  | true =>
    have hv:val x = -((m*2^(e+1074).toNat:Nat):Int):=hv
    rw [hv,Rat.intCast_neg,Rat.intCast_natCast] at v1
    have r2:((m*2^(e+1074).toNat:Nat):Rat) < ((2^1074:Nat):Rat):=by
      have g:=Rat.mul_lt_mul_of_pos_right h0 p
      rw [← v1] at g
      have g : -1*uK < -((m*2^(e+1074).toNat:Nat):Rat):=g
      unfold uK at g
      generalize ((m*2^(e+1074).toNat:Nat):Rat)=X at g ⊢
      generalize ((2^1074:Nat):Rat)=Y at g ⊢
      grind
    have d2:=Rat.natCast_lt_natCast.1 r2
    have hf:=floor_is (n:=0) (m:=m) (e:=e) (by lia) (by rw [Nat.zero_mul]; exact Nat.zero_le _) (by rw [Nat.zero_add,Nat.one_mul]; exact d2)
    refine ⟨0,by decide,?_,.inr rfl,?_⟩
    · show -floorOf false m e=0
      rw [hf]; rfl
    · have x0:(0:Rat)≤((m*2^(e+1074).toNat:Nat):Rat):=Rat.natCast_nonneg
      have:fv x≤0:=by
        refine Rat.not_lt.1 fun hc => ?_
        have:=Rat.mul_pos hc p
        rw [← v1] at this
        grind
      have e1:((0:Nat):Rat)=0:=rfl
      rw [e1]; grind
theorem ofInt_dec : ∀ i:Nat,i < 12 → ∃ m c:Nat,decode (ofInt (Int.ofNat i)) = .fin false m (-(c:Int))∧c≤1074∧m=i*2^c
  | 0,_=>⟨0,1074,by kernel_rfl,by decide,by decide +kernel⟩
  | 1,_=>⟨2^52,52,by kernel_rfl,by decide,by decide⟩
  | 2,_=>⟨2*2^51,51,by kernel_rfl,by decide,rfl⟩
  | 3,_=>⟨3*2^51,51,by kernel_rfl,by decide,rfl⟩
  | 4,_=>⟨4*2^50,50,by kernel_rfl,by decide,rfl⟩
  | 5,_=>⟨5*2^50,50,by kernel_rfl,by decide,rfl⟩
  | 6,_=>⟨6*2^50,50,by kernel_rfl,by decide,rfl⟩
  | 7,_=>⟨7*2^50,50,by kernel_rfl,by decide,rfl⟩
  | 8,_=>⟨8*2^49,49,by kernel_rfl,by decide,rfl⟩
  | 9,_=>⟨9*2^49,49,by kernel_rfl,by decide,rfl⟩
  | 10,_=>⟨10*2^49,49,by kernel_rfl,by decide,rfl⟩
  | 11,_=>⟨11*2^49,49,by kernel_rfl,by decide,rfl⟩
  | n+12,h=>absurd h (by lia)
theorem fv_ofInt {i:Nat} (hi:i < 12):isFin (ofInt (Int.ofNat i))∧fv (ofInt (Int.ofNat i))=(i:Rat):=by
  obtain ⟨m,c,h,hc,rfl⟩:=ofInt_dec i hi
  refine ⟨⟨_,_,_,h⟩,?_⟩
  have:=fv_dec c h hc
  have e:Float64.sgn false (i*2^c)=((i*2^c:Nat):Int):=rfl
  rw [e,Rat.intCast_natCast,Rat.natCast_mul] at this
  have p:(0:Rat) < ((2^c:Nat):Rat):=by
    have:=Rat.natCast_lt_natCast.2 (Nat.two_pow_pos c)
    exact this
  generalize ((2^c:Nat):Rat)=C at this p
  refine Rat.le_antisymm ?_ ?_
  · exact Rat.le_of_mul_le_mul_right (by rw [this]; exact Rat.le_refl) p
  · exact Rat.le_of_mul_le_mul_right (by rw [this]; exact Rat.le_refl) p
theorem hsvv {v s u:UInt64} (f1:isFin v) (f2:isFin s) (f3:isFin u) (mx n G:Rat) (hm0:0≤mx) (hm1:mx≤1073741824) (hn0:0≤n)
    (v1:fv v*1073741824-mx≤1 / 100000) (v2 : -(1 / 100000)≤fv v*1073741824-mx) (s1:mx*fv s-n≤1 / 10000) (s2 : -(1 / 10000)≤mx*fv s-n) (s3 : -(1 / 100)≤fv s) (s4:fv s≤101 / 100)
    (u1 : -(1 / 100)≤fv u) (u2:fv u≤101 / 100) (g1:n*fv u-G≤1 / 100) (g2 : -(1 / 100)≤n*fv u-G) :
    isFin (mul v (sub one (mul s u)))∧fv (mul v (sub one (mul s u)))*1073741824-(mx-G)≤1 / 10 ∧ -(1 / 10)≤fv (mul v (sub one (mul s u)))*1073741824-(mx-G):=by
  have k1:fv s*fv u≤104 / 100:=by
    have a:=Rat.mul_nonneg (show 0≤101 / 100-fv s by grind) (show 0≤fv u+1 / 100 by grind)
    grind
  have k2 : -(3 / 100)≤fv s*fv u:=by
    have a:=Rat.mul_nonneg (show 0≤fv s+1 / 100 by grind) (show 0≤fv u+1 / 100 by grind)
    grind
  obtain ⟨a0,a1,a2⟩:=mul_near f2 f3 (by grind) (by grind)
  obtain ⟨b0,b1,b2⟩:=sub_near one_fin a0 (by rw [fv_one]; grind) (by rw [fv_one]; grind)
  rw [fv_one] at b1 b2
  have w1 : -2≤fv (sub one (mul s u)):=by grind
  have w2:fv (sub one (mul s u))≤2:=by grind
  have e1:=err_mul (a:=fv v) (A:=mx / 1073741824) (u:=fv (sub one (mul s u))) (d:=1 / 107374182400000) (by grind) (by grind) w1 w2
  have m1:=Rat.mul_nonneg (show 0≤mx / 1073741824 by grind) (show 0≤2-fv (sub one (mul s u)) by grind)
  have m2:=Rat.mul_nonneg (show 0≤mx / 1073741824 by grind) (show 0≤2+fv (sub one (mul s u)) by grind)
  obtain ⟨c0,c1,c2⟩:=mul_near f1 b0 (by grind) (by grind)
  have e2:=err_mul (a:=mx*fv s) (A:=n) (u:=fv u) (d:=1 / 10000) s1 s2 (by grind) (by grind)
  have q1:=Rat.mul_nonneg hm0 (show 0≤2*eps-(fv (sub one (mul s u))-(1-fv s*fv u)) by grind)
  have q2:=Rat.mul_nonneg hm0 (show 0≤2*eps+(fv (sub one (mul s u))-(1-fv s*fv u)) by grind)
  have e3:mx / 1073741824*fv (sub one (mul s u))*1073741824=mx*fv (sub one (mul s u)):=by grind
  generalize fv (sub one (mul s u))=W at *
  generalize fv (mul v (sub one (mul s u)))=X at *
  refine ⟨c0,?_,?_⟩
  · have:X*1073741824≤mx*W+1 / 1000:=by grind
    have:mx*W≤mx-mx*fv s*fv u+1 / 1000:=by grind
    grind
  · have:mx*W-1 / 1000≤X*1073741824:=by grind
    have:mx-mx*fv s*fv u-1 / 1000≤mx*W:=by grind
    grind
theorem hsvp {v s:UInt64} (f1:isFin v) (f2:isFin s) (mx n:Rat) (hm0:0≤mx) (hm1:mx≤1073741824)
    (v1:fv v*1073741824-mx≤1 / 100000) (v2 : -(1 / 100000)≤fv v*1073741824-mx) (s1:mx*fv s-n≤1 / 10000) (s2 : -(1 / 10000)≤mx*fv s-n) (s3 : -(1 / 100)≤fv s) (s4:fv s≤101 / 100) :
    isFin (pF s v)∧fv (pF s v)*1073741824-(mx-n)≤1 / 10 ∧ -(1 / 10)≤fv (pF s v)*1073741824-(mx-n):=by
  unfold pF
  obtain ⟨b0,b1,b2⟩:=sub_near one_fin f2 (by rw [fv_one]; grind) (by rw [fv_one]; grind)
  rw [fv_one] at b1 b2
  have e1:=err_mul (a:=fv v) (A:=mx / 1073741824) (u:=fv (sub one s)) (d:=1 / 107374182400000) (by grind) (by grind) (by grind) (by grind)
  have m1:=Rat.mul_nonneg (show 0≤mx / 1073741824 by grind) (show 0≤2-fv (sub one s) by grind)
  have m2:=Rat.mul_nonneg (show 0≤mx / 1073741824 by grind) (show 0≤2+fv (sub one s) by grind)
  obtain ⟨c0,c1,c2⟩:=mul_near f1 b0 (by grind) (by grind)
  have q1:=Rat.mul_nonneg hm0 (show 0≤2*eps-(fv (sub one s)-(1-fv s)) by grind)
  have q2:=Rat.mul_nonneg hm0 (show 0≤2*eps+(fv (sub one s)-(1-fv s)) by grind)
  have e3:mx / 1073741824*fv (sub one s)*1073741824=mx*fv (sub one s):=by grind
  generalize fv (sub one s)=W at *
  generalize fv (mul v (sub one s))=X at *
  refine ⟨c0,?_,?_⟩
  · have:X*1073741824≤mx*W+1 / 1000:=by grind
    grind
  · have:mx*W-1 / 1000≤X*1073741824:=by grind
    grind
theorem hsv_turn (r g b mx mn n:Nat) (hmx:mx≤1073741824) (hr:mn≤r∧r≤mx) (hg:mn≤g∧g≤mx) (hb:mn≤b∧b≤mx) (hn:mx=mn+n) (hn0:1≤n) (hx:r=mx∨g=mx∨b=mx) (hm:r=mn∨g=mn∨b=mn) (k:Nat) (hk:k < 6)
    (h s v:UInt64) (eh:h=add (hueF (fl mx) (fl mn) (fl r) (fl g) (fl b)) (kF k)) (es:s=div (sub (fl mx) (fl mn)) (fl mx)) (ev:v=fl mx) (d:Int × Int × Int) (ed:d=dueK ((mx:Int)+mn) k ((r:Int),(g:Int),(b:Int))) :
    (cmp s (zero false) == some .eq)=false ∧ ∃ (fs:Bool) (fm:Nat) (fe:Int) (i:Nat),i < 12∧decode (mul h c6) = .fin fs fm fe∧truncOf fs fm fe=Int.ofNat i ∧
      tells (hsvT (fracF h i) s v (i % 6)).1 d.1∧tells (hsvT (fracF h i) s v (i % 6)).2.1 d.2.1∧tells (hsvT (fracF h i) s v (i % 6)).2.2 d.2.2:=by
  obtain ⟨h0,⟨u1,u2⟩,k0,g1,g2⟩:=hue_near hmx hr hg hb hn hn0
  obtain ⟨c0,c1,c2⟩:=kF_near hk
  have tn:=turn_near h0 c0 (n:Int) (by lia) (by lia) (hueZ r g b mx n+6*n*k0) (k:Int) (1 / 2000) (by decide +kernel) (by grind) (by grind) (by lia) c1 c2 g1 g2
  have k1:((k:Int):Rat)≤((5:Int):Rat):=Rat.intCast_le_intCast.2 (by lia)
  have k2:((0:Int):Rat)≤((k:Int):Rat):=Rat.intCast_le_intCast.2 (by lia)
  have k3:((5:Int):Rat)=5:=rfl
  have k4:((0:Int):Rat)=0:=rfl
  rw [k3] at k1
  rw [k4] at k2
  obtain ⟨_,z1,z2⟩:=add_near h0 c0 (by grind) (by grind)
  have hb1 : -(1 / 100000000000)≤fv h:=by rw [eh]; grind
  have hb2:fv h≤184 / 100:=by rw [eh]; grind
  obtain ⟨D1,D2,D3⟩:=due_turns r g b mx mn n hr hg hb hn hn0 hx hm k k0 rfl ed
  rw [← eh] at tn
  clear eh ed z1 z2 g1 g2 c0 c1 c2
  generalize hZ:hueZ r g b mx n+6*n*k0+k*n=Z at *
  clear hZ
  obtain ⟨t0,t1,t2⟩:=tn
  obtain ⟨a0,a1,a2⟩:=fl_near hmx
  obtain ⟨e0,e1,e2⟩:=fl_near (show mn≤1073741824 by lia)
  have x1:(mx:Rat)≤1073741824:=Rat.natCast_le_natCast.2 hmx
  have x4:(0:Rat)≤(mn:Rat):=Rat.natCast_nonneg
  have cn:((n:Int):Rat)=(n:Rat):=Rat.intCast_natCast n
  have cmx:((mx:Int):Rat)=(mx:Rat):=Rat.intCast_natCast mx
  have cX:(mx:Rat)=(mn:Rat)+(n:Rat):=by rw [hn,Rat.natCast_add]
  have n1:(1:Rat)≤(n:Rat):=by
    have:((1:Nat):Rat)≤((n:Nat):Rat):=Rat.natCast_le_natCast.2 hn0
    exact this
  obtain ⟨s0,s1,s2⟩:=sub_near a0 e0 (by grind) (by grind)
  obtain ⟨q0,⟨q1,q2⟩,q3,q4⟩:=quot_near s0 a0 (n:Int) (mx:Int) (by lia) (by lia) (by lia) (by lia) (by rw [cn]; grind) (by rw [cn]; grind) (by rw [cmx]; grind) (by rw [cmx]; grind)
  rw [cn,cmx,← es] at q1 q2
  rw [← es] at q0 q3 q4
  rw [← ev] at a0 a1 a2
  have sp:0 < fv s:=by
    refine Rat.not_le.1 fun hc => ?_
    have:=Rat.mul_nonneg (show (0:Rat)≤(mx:Rat) by grind) (show 0 ≤ -fv s by grind)
    grind
  have hz0:fv (zero false)=0:=fv_zero false
  refine ⟨by
    cases hc:(cmp s (zero false) == some .eq) with
    | false=>rfl
    | true =>
      have:fv s=fv (zero false):=eq_is q0 ⟨_,_,_,zero_fin false⟩ true hc
      grind,?_⟩
  obtain ⟨X0,X1,X2⟩:=mul_nearD t0 c6_fin (by rw [fv_c6]; grind) (by rw [fv_c6]; grind)
  rw [fv_c6] at X1 X2
  obtain ⟨fs,fm,fe,hd⟩:=X0
  obtain ⟨i,hi,hi2,hi3,hi4⟩:=trunc_all hd (by grind) (by grind)
  obtain ⟨i0,i1⟩:=fv_ofInt hi
  have ilow:(i:Rat)≤fv (mul h c6)+1 / 10000000000:=by
    rcases hi3 with h | h
    · grind
    · rw [h]
      have:((0:Nat):Rat)=0:=rfl
      rw [this]; grind
  have hnn:(0:Rat)≤(n:Rat):=by grind
  have n2:(n:Rat)≤1073741824:=by grind
  have p1:=Rat.mul_nonneg hnn (show 0≤eps2-(fv (mul h c6)-fv h*6) by grind)
  have p2:=Rat.mul_nonneg hnn (show 0≤eps2+(fv (mul h c6)-fv h*6) by grind)
  rw [cn] at t1 t2
  have Z1:(n:Rat)*fv (mul h c6)-(Z:Rat)≤7 / 10000:=by grind
  have Z2 : -(7 / 10000)≤(n:Rat)*fv (mul h c6)-(Z:Rat):=by grind
  have p3:=Rat.mul_nonneg hnn (show 0≤fv (mul h c6)+1 / 10000000000-(i:Rat) by grind)
  have p4:=Rat.mul_nonneg hnn (show 0≤(i:Rat)+1-fv (mul h c6) by grind)
  have ci:(((n:Int)*(i:Int):Int):Rat)=(n:Rat)*(i:Rat):=by rw [Rat.intCast_mul,Rat.intCast_natCast,Rat.intCast_natCast]
  have F0:(n:Int)*i≤Z:=int_le (by rw [ci]; grind)
  have F1:Z≤(n:Int)*i+n:=int_le (by rw [Rat.intCast_add,ci,cn]; grind)
  obtain ⟨F,hF⟩ : ∃ F:Int,Z=(n:Int)*i+F:=⟨Z-n*i,by lia⟩
  have cF:(Z:Rat)=(n:Rat)*(i:Rat)+(F:Rat):=by rw [hF,Rat.intCast_add,ci]
  obtain ⟨f0,f1,f2⟩:=sub_near (x:=mul h c6) (y:=ofInt (Int.ofNat i)) ⟨_,_,_,hd⟩ i0 (by rw [i1]; grind) (by rw [i1]; grind)
  rw [i1] at f1 f2
  have f0:isFin (fracF h i):=f0
  have f1:fv (fracF h i)-(fv (mul h c6)-(i:Rat))≤eps:=f1
  have f2 : -eps≤fv (fracF h i)-(fv (mul h c6)-(i:Rat)):=f2
  have p5:=Rat.mul_nonneg hnn (show 0≤eps-(fv (fracF h i)-(fv (mul h c6)-(i:Rat))) by grind)
  have p6:=Rat.mul_nonneg hnn (show 0≤eps+(fv (fracF h i)-(fv (mul h c6)-(i:Rat))) by grind)
  obtain ⟨o0,o1,o2⟩:=sub_near one_fin f0 (by rw [fv_one]; grind) (by rw [fv_one]; grind)
  rw [fv_one] at o1 o2
  have p7:=Rat.mul_nonneg hnn (show 0≤eps-(fv (sub one (fracF h i))-(1-fv (fracF h i))) by grind)
  have p8:=Rat.mul_nonneg hnn (show 0≤eps+(fv (sub one (fracF h i))-(1-fv (fracF h i))) by grind)
  have G1:(n:Rat)*fv (fracF h i)-(F:Rat)≤1 / 1000:=by grind
  have G2 : -(1 / 1000)≤(n:Rat)*fv (fracF h i)-(F:Rat):=by grind
  have tv:tells v (mx:Int):=⟨a0,by rw [cmx]; grind,by rw [cmx]; grind⟩
  have tp:tells (pF s v) (mn:Int):=by
    obtain ⟨y0,y1,y2⟩:=hsvp a0 q0 (mx:Rat) (n:Rat) (by grind) x1 (by grind) (by grind) (by grind) (by grind) (by grind) (by grind)
    have:((mn:Int):Rat)=(mx:Rat)-(n:Rat):=by rw [Rat.intCast_natCast]; grind
    exact ⟨y0,by rw [this]; exact y1,by rw [this]; exact y2⟩
  have tq:tells (q5F (fracF h i) s v) ((mx:Int)-F):=by
    obtain ⟨y0,y1,y2⟩:=hsvv a0 q0 f0 (mx:Rat) (n:Rat) (F:Rat) (by grind) x1 hnn (by grind) (by grind) (by grind) (by grind) (by grind) (by grind) (by grind) (by grind) (by grind) (by grind)
    exact ⟨y0,by rw [Rat.intCast_sub,cmx]; exact y1,by rw [Rat.intCast_sub,cmx]; exact y2⟩
  have tt:tells (tF (fracF h i) s v) ((mx:Int)-((n:Int)-F)):=by
    obtain ⟨y0,y1,y2⟩:=hsvv a0 q0 o0 (mx:Rat) (n:Rat) ((n:Rat)-(F:Rat)) (by grind) x1 hnn (by grind) (by grind) (by grind) (by grind) (by grind) (by grind) (by grind) (by grind) (by grind) (by grind)
    exact ⟨y0,by rw [Rat.intCast_sub,Rat.intCast_sub,cmx,cn]; exact y1,by rw [Rat.intCast_sub,Rat.intCast_sub,cmx,cn]; exact y2⟩
  refine ⟨fs,fm,fe,i,hi,hd,hi2,?_⟩
  have F2:0≤F:=by lia
  have F3:F≤n:=by lia
  obtain ⟨j,c,hij,hc⟩ : ∃ j c:Nat,i=6*j+c∧c < 6:=⟨i / 6,i % 6,by lia,by lia⟩
  have him:i % 6=c:=by lia
  rw [him]
  have hZ:Z=6*((n:Int)*j)+(c:Int)*n+F:=by rw [hF,hij]; push_cast; grind
  have hB:(mx:Int)+mn=2*mn+n:=by lia
  have hd2:d=dueK ((mx:Int)+mn) c ((mn:Int)+n,mn+F,mn):=by
    obtain ⟨p1,p2,p3⟩:=isT_s hB c F (-(j:Int)) F2 F3 rfl (show Z+6*(n:Int)*(-(j:Int))=F+c*n by rw [hZ]; grind)
    have w1:=D1 _ p1
    have w2:=D2 _ p2
    have w3:=D3 _ p3
    rw [Int.add_comm,Int.sub_add_cancel] at w1 w2 w3
    exact Prod.ext w1.symm (Prod.ext w2.symm w3.symm)
  generalize hBB:(mx:Int)+mn=B at hd2 hB
  clear D1 D2 D3 hZ hF F0 F1
  have a1:tells v ((mn:Int)+n):=by rw [show (mn:Int)+n=mx by lia]; exact tv
  have b3:tells v (B-mn):=by rw [show B-mn=mx by lia]; exact tv
  have a2:tells (tF (fracF h i) s v) ((mn:Int)+F):=by rw [show (mn:Int)+F=mx-(n-F) by lia]; exact tt
  have b2:tells (q5F (fracF h i) s v) (B-(mn+F)):=by rw [show B-(mn+F)=mx-F by lia]; exact tq
  have b1:tells (pF s v) (B-(mn+n)):=by rw [show B-(mn+n)=mn by lia]; exact tp
  rw [hd2]
  match c,hc with
  | 0,_=>exact ⟨a1,a2,tp⟩
  | 1,_=>exact ⟨b2,b3,b1⟩
  | 2,_=>rw [dueK2]; exact ⟨tp,a1,a2⟩
  | 3,_=>rw [dueK2]; exact ⟨b1,b2,b3⟩
  | 4,_=>rw [dueK2,dueK2]; exact ⟨a2,tp,a1⟩
  | 5,_=>rw [dueK2,dueK2]; exact ⟨b3,b1,b2⟩
  | c+6,h=>exact absurd h (by lia)
theorem kY1_fin:isFin kY1:=⟨false,5404319552844595,-(54:Nat),by kernel_rfl⟩
theorem fv_kY1:fv kY1=5404319552844595 / 18014398509481984:=by
  have h:=fv_dec (x:=kY1) (a:=false) (m:=5404319552844595) 54 (by kernel_rfl) (by decide)
  have e1:(((2^54:Nat):Nat):Rat)=18014398509481984:=rfl
  have e2:((Float64.sgn false 5404319552844595:Int):Rat)=5404319552844595:=rfl
  rw [e1,e2] at h
  grind
theorem kY2_fin:isFin kY2:=⟨false,5314247560297185,-(53:Nat),by kernel_rfl⟩
theorem fv_kY2:fv kY2=5314247560297185 / 9007199254740992:=by
  have h:=fv_dec (x:=kY2) (a:=false) (m:=5314247560297185) 53 (by kernel_rfl) (by decide)
  have e1:(((2^53:Nat):Nat):Rat)=9007199254740992:=rfl
  have e2:((Float64.sgn false 5314247560297185:Int):Rat)=5314247560297185:=rfl
  rw [e1,e2] at h
  grind
theorem kY3_fin:isFin kY3:=⟨false,7926335344172073,-(56:Nat),by kernel_rfl⟩
theorem fv_kY3:fv kY3=7926335344172073 / 72057594037927936:=by
  have h:=fv_dec (x:=kY3) (a:=false) (m:=7926335344172073) 56 (by kernel_rfl) (by decide)
  have e1:(((2^56:Nat):Nat):Rat)=72057594037927936:=rfl
  have e2:((Float64.sgn false 7926335344172073:Int):Rat)=7926335344172073:=rfl
  rw [e1,e2] at h
  grind
theorem kI1_fin:isFin kI1:=⟨false,6665327448508334,-(53:Nat),by kernel_rfl⟩
theorem fv_kI1:fv kI1=6665327448508334 / 9007199254740992:=by
  have h:=fv_dec (x:=kI1) (a:=false) (m:=6665327448508334) 53 (by kernel_rfl) (by decide)
  have e1:(((2^53:Nat):Nat):Rat)=9007199254740992:=rfl
  have e2:((Float64.sgn false 6665327448508334:Int):Rat)=6665327448508334:=rfl
  rw [e1,e2] at h
  grind
theorem kI2_fin:isFin kI2:=⟨false,4863887597560136,-(54:Nat),by kernel_rfl⟩
theorem fv_kI2:fv kI2=4863887597560136 / 18014398509481984:=by
  have h:=fv_dec (x:=kI2) (a:=false) (m:=4863887597560136) 54 (by kernel_rfl) (by decide)
  have e1:(((2^54:Nat):Nat):Rat)=18014398509481984:=rfl
  have e2:((Float64.sgn false 4863887597560136:Int):Rat)=4863887597560136:=rfl
  rw [e1,e2] at h
  grind
theorem kQ1_fin:isFin kQ1:=⟨false,8646911284551352,-(54:Nat),by kernel_rfl⟩
theorem fv_kQ1:fv kQ1=8646911284551352 / 18014398509481984:=by
  have h:=fv_dec (x:=kQ1) (a:=false) (m:=8646911284551352) 54 (by kernel_rfl) (by decide)
  have e1:(((2^54:Nat):Nat):Rat)=18014398509481984:=rfl
  have e2:((Float64.sgn false 8646911284551352:Int):Rat)=8646911284551352:=rfl
  rw [e1,e2] at h
  grind
theorem kQ2_fin:isFin kQ2:=⟨false,7385903388887613,-(54:Nat),by kernel_rfl⟩
theorem fv_kQ2:fv kQ2=7385903388887613 / 18014398509481984:=by
  have h:=fv_dec (x:=kQ2) (a:=false) (m:=7385903388887613) 54 (by kernel_rfl) (by decide)
  have e1:(((2^54:Nat):Nat):Rat)=18014398509481984:=rfl
  have e2:((Float64.sgn false 7385903388887613:Int):Rat)=7385903388887613:=rfl
  rw [e1,e2] at h
  grind
theorem kR1_fin:isFin kR1:=⟨false,8528756800101170,-(53:Nat),by kernel_rfl⟩
theorem fv_kR1:fv kR1=8528756800101170 / 9007199254740992:=by
  have h:=fv_dec (x:=kR1) (a:=false) (m:=8528756800101170) 53 (by kernel_rfl) (by decide)
  have e1:(((2^53:Nat):Nat):Rat)=9007199254740992:=rfl
  have e2:((Float64.sgn false 8528756800101170:Int):Rat)=8528756800101170:=rfl
  rw [e1,e2] at h
  grind
theorem kR2_fin:isFin kR2:=⟨false,5616498380554430,-(53:Nat),by kernel_rfl⟩
theorem fv_kR2:fv kR2=5616498380554430 / 9007199254740992:=by
  have h:=fv_dec (x:=kR2) (a:=false) (m:=5616498380554430) 53 (by kernel_rfl) (by decide)
  have e1:(((2^53:Nat):Nat):Rat)=9007199254740992:=rfl
  have e2:((Float64.sgn false 5616498380554430:Int):Rat)=5616498380554430:=rfl
  rw [e1,e2] at h
  grind
theorem kG1_fin:isFin kG1:=⟨false,4950134165912378,-(54:Nat),by kernel_rfl⟩
theorem fv_kG1:fv kG1=4950134165912378 / 18014398509481984:=by
  have h:=fv_dec (x:=kG1) (a:=false) (m:=4950134165912378) 54 (by kernel_rfl) (by decide)
  have e1:(((2^54:Nat):Nat):Rat)=18014398509481984:=rfl
  have e2:((Float64.sgn false 4950134165912378:Int):Rat)=4950134165912378:=rfl
  rw [e1,e2] at h
  grind
theorem kG2_fin:isFin kG2:=⟨false,5725796214702067,-(53:Nat),by kernel_rfl⟩
theorem fv_kG2:fv kG2=5725796214702067 / 9007199254740992:=by
  have h:=fv_dec (x:=kG2) (a:=false) (m:=5725796214702067) 53 (by kernel_rfl) (by decide)
  have e1:(((2^53:Nat):Nat):Rat)=9007199254740992:=rfl
  have e2:((Float64.sgn false 5725796214702067:Int):Rat)=5725796214702067:=rfl
  rw [e1,e2] at h
  grind
theorem kB1_fin:isFin kB1:=⟨false,4992443004937270,-(52:Nat),by kernel_rfl⟩
theorem fv_kB1:fv kB1=4992443004937270 / 4503599627370496:=by
  have h:=fv_dec (x:=kB1) (a:=false) (m:=4992443004937270) 52 (by kernel_rfl) (by decide)
  have e1:(((2^52:Nat):Nat):Rat)=4503599627370496:=rfl
  have e2:((Float64.sgn false 4992443004937270:Int):Rat)=4992443004937270:=rfl
  rw [e1,e2] at h
  grind
theorem kB2_fin:isFin kB2:=⟨false,7696682965944959,-(52:Nat),by kernel_rfl⟩
theorem fv_kB2:fv kB2=7696682965944959 / 4503599627370496:=by
  have h:=fv_dec (x:=kB2) (a:=false) (m:=7696682965944959) 52 (by kernel_rfl) (by decide)
  have e1:(((2^52:Nat):Nat):Rat)=4503599627370496:=rfl
  have e2:((Float64.sgn false 7696682965944959:Int):Rat)=7696682965944959:=rfl
  rw [e1,e2] at h
  grind
theorem clamp_tells {x:UInt64} {N:Int} (h0:0≤N) (h1:N≤1073741824) (h:tells x N):tells (clampF x) N:=by
  have r0:(0:Rat)≤(N:Rat):=by exact_mod_cast h0
  have r1:(N:Rat)≤1073741824:=Rat.intCast_le_intCast.2 h1
  have z0:fv (zero false)=0:=fv_zero false
  have zf:isFin (zero false):=⟨_,_,_,zero_fin false⟩
  have low:tells (cond (cmp x (zero false) == some .lt) (zero false) x) N:=by
    obtain ⟨f,a,b⟩:=h
    cases hc:(cmp x (zero false) == some .lt) with
    | false=>exact ⟨f,a,b⟩
    | true =>
      have l:fv x < fv (zero false):=lt_is f zf true hc
      rw [z0] at l
      show tells (zero false) N
      exact ⟨zf,by rw [z0]; grind,by rw [z0]; grind⟩
  unfold clampF
  generalize cond (cmp x (zero false) == some .lt) (zero false) x=u at low
  obtain ⟨f,a,b⟩:=low
  cases hc:(cmp u one == some .gt) with
  | false=>exact ⟨f,a,b⟩
  | true =>
    have l:fv one < fv u:=gt_is f one_fin true hc
    rw [fv_one] at l
    show tells one N
    exact ⟨one_fin,by rw [fv_one]; grind,by rw [fv_one]; grind⟩
noncomputable abbrev V4:=Rat × Rat × Rat × Rat
noncomputable def ln (R G B:Rat) (v:V4):Rat:=v.1*R+v.2.1*G+v.2.2.1*B+v.2.2.2
noncomputable def ab (x:Rat):Rat:=if 0≤x then x else -x
noncomputable def bd (v:V4):Rat:=ab v.1+ab v.2.1+ab v.2.2.1+ab v.2.2.2
noncomputable def va (v u:V4):V4:=(v.1+u.1,v.2.1+u.2.1,v.2.2.1+u.2.2.1,v.2.2.2+u.2.2.2)
noncomputable def vm (c:Rat) (v:V4):V4:=(c*v.1,c*v.2.1,c*v.2.2.1,c*v.2.2.2)
noncomputable def NL (R G B:Rat) (x:UInt64) (v:V4) (e:Rat):Prop:=isFin x∧fv x-ln R G B v≤e ∧ -e≤fv x-ln R G B v
theorem ab_mul {c t e:Rat} (h:t≤e) (h' : -e≤t):c*t≤ab c*e ∧ -(ab c*e)≤c*t:=by
  unfold ab
  split
  · rename_i q
    have a:=Rat.mul_nonneg q (show 0≤e-t by grind)
    have b:=Rat.mul_nonneg q (show 0≤e+t by grind)
    constructor <;> grind
  · rename_i q
    have a:=Rat.mul_nonneg (show 0 ≤ -c by grind) (show 0≤e-t by grind)
    have b:=Rat.mul_nonneg (show 0 ≤ -c by grind) (show 0≤e+t by grind)
    constructor <;> grind
theorem ab_le (c:Rat):c≤ab c ∧ -ab c≤c:=by
  have:=ab_mul (c:=c) (t:=1) (e:=1) (by decide +kernel) (by decide +kernel)
  rwa [Rat.mul_one,Rat.mul_one] at this
section
variable {R G B:Rat} (hR:0≤R∧R≤1) (hG:0≤G∧G≤1) (hB:0≤B∧B≤1) {x y k:UInt64} {v u:V4} {e f c:Rat}
include hR hG hB
theorem ln_bd (v:V4):ln R G B v≤bd v ∧ -bd v≤ln R G B v:=by
  have key : ∀ {T:Rat},0≤T∧T≤1 → ∀ c:Rat,c*T≤ab c ∧ -ab c≤c*T:=fun h c=>by
    have:=ab_mul (c:=c) h.2 (Rat.le_trans (by decide +kernel) h.1)
    rwa [Rat.mul_one] at this
  obtain ⟨a1,a2⟩:=key hR v.1
  obtain ⟨b1,b2⟩:=key hG v.2.1
  obtain ⟨c1,c2⟩:=key hB v.2.2.1
  obtain ⟨d1,d2⟩:=ab_le v.2.2.2
  unfold ln bd
  constructor <;> grind
theorem NL_add (h:NL R G B x v e) (k:NL R G B y u f) (b:bd v+bd u+e+f < 8):NL R G B (add x y) (va v u) (e+f+eps):=by
  obtain ⟨h0,h1,h2⟩:=h
  obtain ⟨k0,k1,k2⟩:=k
  obtain ⟨p1,p2⟩:=ln_bd hR hG hB v
  obtain ⟨q1,q2⟩:=ln_bd hR hG hB u
  have E:ln R G B (va v u)=ln R G B v+ln R G B u:=by unfold ln va; grind
  obtain ⟨z0,z1,z2⟩:=add_near h0 k0 (by grind) (by grind)
  exact ⟨z0,by grind,by grind⟩
omit hR hG hB in
theorem NL_neg (h:NL R G B x v e):NL R G B (Float64.neg x) (vm (-1) v) e:=by
  obtain ⟨h0,h1,h2⟩:=h
  obtain ⟨n0,n1⟩:=neg_fin h0
  have E:ln R G B (vm (-1) v) = -ln R G B v:=by unfold ln vm; grind
  exact ⟨n0,by grind,by grind⟩
theorem NL_sub (h:NL R G B x v e) (k:NL R G B y u f) (b:bd v+bd (vm (-1) u)+e+f < 8):NL R G B (sub x y) (va v (vm (-1) u)) (e+f+eps):=by
  unfold Float64.sub
  exact NL_add hR hG hB h (NL_neg k) b
theorem NL_mul (hk:isFin k) (hc:fv k=c) (h:NL R G B x v e) (b:ab c*(bd v+e) < 8):NL R G B (mul k x) (vm c v) (ab c*e+eps):=by
  obtain ⟨h0,h1,h2⟩:=h
  obtain ⟨p1,p2⟩:=ln_bd hR hG hB v
  obtain ⟨a1,a2⟩:=ab_mul (c:=c) (t:=fv x) (e:=bd v+e) (by grind) (by grind)
  obtain ⟨b1,b2⟩:=ab_mul (c:=c) h1 h2
  have E:ln R G B (vm c v)=c*ln R G B v:=by unfold ln vm; grind
  obtain ⟨z0,z1,z2⟩:=mul_near hk h0 (by rw [hc]; grind) (by rw [hc]; grind)
  rw [hc] at z1 z2
  exact ⟨z0,by grind,by grind⟩
theorem NL_to (h:NL R G B x v e) (b:bd (va v (vm (-1) u))+e≤f):NL R G B x u f:=by
  obtain ⟨h0,h1,h2⟩:=h
  obtain ⟨p1,p2⟩:=ln_bd hR hG hB (va v (vm (-1) u))
  have E:ln R G B (va v (vm (-1) u))=ln R G B v-ln R G B u:=by unfold ln va vm; grind
  exact ⟨h0,by grind,by grind⟩
end
theorem NL_fl {p:Nat} (h:p≤1073741824):isFin (fl p)∧fv (fl p)-(p:Rat) / 1073741824≤1 / 1000000000000000 ∧ -(1 / 1000000000000000)≤fv (fl p)-(p:Rat) / 1073741824∧0≤(p:Rat) / 1073741824∧(p:Rat) / 1073741824≤1:=by
  obtain ⟨a,b,c⟩:=fl_near h
  have x0:(0:Rat)≤(p:Rat):=Rat.natCast_nonneg
  have x1:(p:Rat)≤1073741824:=Rat.natCast_le_natCast.2 h
  exact ⟨a,by grind,by grind,by grind,by grind⟩
theorem NL_tells {R G B:Rat} {x:UInt64} {v:V4} {p:Nat} (hp:p≤1073741824) (h:NL R G B x v (1 / 1000000000000)) (e:ln R G B v=1-(p:Rat) / 1073741824):tells (clampF x) ((1073741824-p:Nat):Int):=by
  obtain ⟨h0,h1,h2⟩:=h
  rw [e] at h1 h2
  have cr:(((1073741824-p:Nat):Int):Rat)=1073741824-(p:Rat):=by
    have:((1073741824-p:Nat):Int)=1073741824-(p:Int):=by lia
    rw [this,Rat.intCast_sub,Rat.intCast_natCast]; rfl
  exact clamp_tells (Int.natCast_nonneg _) (by lia) ⟨h0,by rw [cr]; grind,by rw [cr]; grind⟩
theorem yiq_o (r g b:Nat) (hr:r≤1073741824) (hg:g≤1073741824) (hb:b≤1073741824) (y i q:UInt64) (ey:y=sub one (yF (fl r) (fl g) (fl b))) (ei:i=Float64.neg (iF (fl r) (fl g) (fl b))) (eq:q=Float64.neg (qF (fl r) (fl g) (fl b))) :
    tells (clampF (rF y i q)) ((1073741824-r:Nat):Int)∧tells (clampF (gF y i q)) ((1073741824-g:Nat):Int)∧tells (clampF (bF y i q)) ((1073741824-b:Nat):Int):=by
  obtain ⟨r0,r1,r2,hR⟩:=NL_fl hr
  obtain ⟨g0,g1,g2,hG⟩:=NL_fl hg
  obtain ⟨b0,b1,b2,hB⟩:=NL_fl hb
  generalize eR:(r:Rat) / 1073741824=R at *
  generalize eG:(g:Rat) / 1073741824=G at *
  generalize eB:(b:Rat) / 1073741824=B at *
  have l1:ln R G B (1,0,0,0)=R:=by unfold ln; grind
  have l2:ln R G B (0,1,0,0)=G:=by unfold ln; grind
  have l3:ln R G B (0,0,1,0)=B:=by unfold ln; grind
  have N1:NL R G B (fl r) (1,0,0,0) (1 / 1000000000000000):=⟨r0,by rw [l1]; exact r1,by rw [l1]; exact r2⟩
  have N2:NL R G B (fl g) (0,1,0,0) (1 / 1000000000000000):=⟨g0,by rw [l2]; exact g1,by rw [l2]; exact g2⟩
  have N3:NL R G B (fl b) (0,0,1,0) (1 / 1000000000000000):=⟨b0,by rw [l3]; exact b1,by rw [l3]; exact b2⟩
  have N4:NL R G B one (0,0,0,1) 0:=by
    have e:ln R G B (0,0,0,1)=1:=by unfold ln; grind
    refine ⟨one_fin,?_,?_⟩ <;> rw [fv_one,e] <;> decide +kernel
  generalize fl r=r' at *
  generalize fl g=g' at *
  generalize fl b=b' at *
  have A := @NL_add R G B hR hG hB
  have S := @NL_sub R G B hR hG hB
  have M := @NL_mul R G B hR hG hB
  have Y:NL R G B (yF r' g' b') (3 / 10,59 / 100,11 / 100,0) (1 / 100000000000000):=NL_to hR hG hB (A (A (M kY1_fin fv_kY1 N1 (by decide +kernel)) (M kY2_fin fv_kY2 N2 (by decide +kernel)) (by decide +kernel)) (M kY3_fin fv_kY3 N3 (by decide +kernel)) (by decide +kernel)) (by decide +kernel)
  have D1:=NL_to hR hG hB (u:=(7 / 10,-59 / 100,-11 / 100,0)) (f:=2 / 100000000000000) (S N1 Y (by decide +kernel)) (by decide +kernel)
  have D2:=NL_to hR hG hB (u:=(-3 / 10,-59 / 100,89 / 100,0)) (f:=2 / 100000000000000) (S N3 Y (by decide +kernel)) (by decide +kernel)
  have y0:NL R G B y (-3 / 10,-59 / 100,-11 / 100,1) (2 / 100000000000000):=ey▸NL_to hR hG hB (S N4 Y (by decide +kernel)) (by decide +kernel)
  have i0:NL R G B i (-5990 / 10000,2773 / 10000,3217 / 10000,0) (4 / 100000000000000):=ei▸NL_to hR hG hB (NL_neg (S (M kI1_fin fv_kI1 D1 (by decide +kernel)) (M kI2_fin fv_kI2 D2 (by decide +kernel)) (by decide +kernel))) (by decide +kernel)
  have q0:NL R G B q (-2130 / 10000,5251 / 10000,-3121 / 10000,0) (4 / 100000000000000):=eq▸NL_to hR hG hB (NL_neg (A (M kQ1_fin fv_kQ1 D1 (by decide +kernel)) (M kQ2_fin fv_kQ2 D2 (by decide +kernel)) (by decide +kernel))) (by decide +kernel)
  clear ey ei eq N1 N2 N3 N4 Y D1 D2 l1 l2 l3
  refine ⟨NL_tells hr (v:=(-1,0,0,1)) (NL_to hR hG hB (A (A y0 (M kR1_fin fv_kR1 i0 (by decide +kernel)) (by decide +kernel)) (M kR2_fin fv_kR2 q0 (by decide +kernel)) (by decide +kernel)) (by decide +kernel)) (by rw [eR]; unfold ln; grind),
    NL_tells hg (v:=(0,-1,0,1)) (NL_to hR hG hB (S (S y0 (M kG1_fin fv_kG1 i0 (by decide +kernel)) (by decide +kernel)) (M kG2_fin fv_kG2 q0 (by decide +kernel)) (by decide +kernel)) (by decide +kernel)) (by rw [eG]; unfold ln; grind),
    NL_tells hb (v:=(0,0,-1,1)) (NL_to hR hG hB (A (S y0 (M kB1_fin fv_kB1 i0 (by decide +kernel)) (by decide +kernel)) (M kB2_fin fv_kB2 q0 (by decide +kernel)) (by decide +kernel)) (by decide +kernel)) (by rw [eB]; unfold ln; grind)⟩
theorem hls_gray {p:Nat} (hp:p≤1073741824):hlsF (fl p) (fl p) (fl p)=(zero false,lF (fl p) (fl p),zero false):=by
  have e1:maxF (fl p) (fl p) (fl p)=fl p:=by rw [maxF_fl hp hp hp]; congr 1; lia
  have e2:minF (fl p) (fl p) (fl p)=fl p:=by rw [minF_fl hp hp hp]; congr 1; lia
  unfold hlsF
  rw [e1,e2,eq_fl hp hp]
  simp
theorem hsv_gray {p:Nat} (hp:p≤1073741824):hsvF (fl p) (fl p) (fl p)=(zero false,zero false,fl p):=by
  have e1:maxF (fl p) (fl p) (fl p)=fl p:=by rw [maxF_fl hp hp hp]; congr 1; lia
  have e2:minF (fl p) (fl p) (fl p)=fl p:=by rw [minF_fl hp hp hp]; congr 1; lia
  unfold hsvF
  rw [e1,e2,eq_fl hp hp]
  simp
theorem hls_col {p q s mx mn:Nat} (hp:p≤1073741824) (hq:q≤1073741824) (hs:s≤1073741824) (e1:max (max p q) s=mx) (e2:min (min p q) s=mn) (h:mn < mx):hlsF (fl p) (fl q) (fl s)=(hueF (fl mx) (fl mn) (fl p) (fl q) (fl s),lF (fl mx) (fl mn),sF (fl mx) (fl mn)):=by
  unfold hlsF
  rw [maxF_fl hp hq hs,minF_fl hp hq hs,e1,e2,eq_fl (by lia) (by lia),decide_eq_false (by lia)]
  rfl
theorem hsv_col {p q s mx mn:Nat} (hp:p≤1073741824) (hq:q≤1073741824) (hs:s≤1073741824) (e1:max (max p q) s=mx) (e2:min (min p q) s=mn) (h:mn < mx):hsvF (fl p) (fl q) (fl s)=(hueF (fl mx) (fl mn) (fl p) (fl q) (fl s),div (sub (fl mx) (fl mn)) (fl mx),fl mx):=by
  unfold hsvF
  rw [maxF_fl hp hq hs,minF_fl hp hq hs,e1,e2,eq_fl (by lia) (by lia),decide_eq_false (by lia)]
  rfl
theorem fl_tells {p:Nat} (hp:p≤1073741824):tells (fl p) (p:Int):=by
  obtain ⟨a,b,c⟩:=fl_near hp
  exact ⟨a,by rw [Rat.intCast_natCast]; grind,by rw [Rat.intCast_natCast]; grind⟩
theorem l_gray {p:Nat} (hp:p≤1073741824):tells (lF (fl p) (fl p)) (p:Int)∧tells (sub one (lF (fl p) (fl p))) ((1073741824-p:Nat):Int):=by
  obtain ⟨a,b,c⟩:=fl_near hp
  have x0:(0:Rat)≤(p:Rat):=Rat.natCast_nonneg
  have x1:(p:Rat)≤1073741824:=Rat.natCast_le_natCast.2 hp
  obtain ⟨s0,s1,s2⟩:=add_near a a (by grind) (by grind)
  obtain ⟨d0,d1,d2⟩:=div_near s0 c2_fin (by rw [fv_c2]; decide) (fv (add (fl p) (fl p)) / 2) (by rw [fv_c2]; grind) (by grind) (by grind)
  have d0:isFin (lF (fl p) (fl p)):=d0
  have d1:fv (lF (fl p) (fl p))-fv (add (fl p) (fl p)) / 2≤eps:=d1
  have d2 : -eps≤fv (lF (fl p) (fl p))-fv (add (fl p) (fl p)) / 2:=d2
  obtain ⟨o0,o1,o2⟩:=sub_near one_fin d0 (by rw [fv_one]; grind) (by rw [fv_one]; grind)
  rw [fv_one] at o1 o2
  have ci:((p:Int):Rat)=(p:Rat):=Rat.intCast_natCast p
  have cr:(((1073741824-p:Nat):Int):Rat)=1073741824-(p:Rat):=by
    have:((1073741824-p:Nat):Int)=1073741824-(p:Int):=by lia
    rw [this,Rat.intCast_sub,Rat.intCast_natCast]; rfl
  exact ⟨⟨d0,by rw [ci]; grind,by rw [ci]; grind⟩,⟨o0,by rw [cr]; grind,by rw [cr]; grind⟩⟩
theorem s_not {s:UInt64} (f:isFin s) (h:0 < fv s):(cmp s (zero false) == some .eq)=false:=by
  cases hc:(cmp s (zero false) == some .eq) with
  | false=>rfl
  | true =>
    have:fv s=fv (zero false):=eq_is f ⟨_,_,_,zero_fin false⟩ true hc
    have hz0:fv (zero false)=0:=fv_zero false
    grind
theorem dueK_low (mx mn:Nat) : ∀ (k:Nat) (a b c:Int),(mn≤a∧a≤mx)→(mn≤b∧b≤mx)→(mn≤c∧c≤mx)→((mn:Int)≤(dueK ((mx:Int)+mn) k (a,b,c)).1∧(dueK ((mx:Int)+mn) k (a,b,c)).1≤mx)∧((mn:Int)≤(dueK ((mx:Int)+mn) k (a,b,c)).2.1∧(dueK ((mx:Int)+mn) k (a,b,c)).2.1≤mx)∧((mn:Int)≤(dueK ((mx:Int)+mn) k (a,b,c)).2.2∧(dueK ((mx:Int)+mn) k (a,b,c)).2.2≤mx)
  | 0,_,_,_,h1,h2,h3=>⟨h1,h2,h3⟩
  | k+1,a,b,c,h1,h2,h3=>dueK_low mx mn k ((mx:Int)+mn-b) ((mx:Int)+mn-c) ((mx:Int)+mn-a) (by lia) (by lia) (by lia)
theorem dueK_dvd (D both:Int) (hb:D∣both) : ∀ (k:Nat) (a b c:Int),D∣a→D∣b→D∣c→D∣(dueK both k (a,b,c)).1∧D∣(dueK both k (a,b,c)).2.1∧D∣(dueK both k (a,b,c)).2.2
  | 0,_,_,_,h1,h2,h3=>⟨h1,h2,h3⟩
  | k+1,_,_,_,h1,h2,h3=>dueK_dvd D both hb k _ _ _ (Int.dvd_sub hb h2) (Int.dvd_sub hb h3) (Int.dvd_sub hb h1)
end Mine
namespace Mine
open PySem PySem.W PySem.W.X
noncomputable def pl_v_0 (w:World) (b1 b2 b3:Bool) (m1 m2 hue:UInt64) (t1 t2 t3:Tok) (g2:(Float64.cmp ((Float64.divmod hue Float64.one).2) c16 == some .lt)=true):Nat→Nat→PlanOk (VV ⟨w,b1,b2,b3⟩):=fun x t =>
    useQ (k_r_fmod (D:=900) hue t3 Float64.one (Nat.add t 3) (by decide +kernel)) 19343993706022166836822018 [] fun o1 =>
    useQ (k_r_flt (D:=900) ((Float64.divmod hue Float64.one).2) (o1.v 0) c16 560 true g2) 34359754881 [] fun o2 =>
    useQ (k_r_fsub (D:=900) m2 t2 m1 t1) 268451969 [] fun o3 =>
    useQ (k_r_fmul (D:=900) (Float64.sub m2 m1) (o3.v 0) ((Float64.divmod hue Float64.one).2) (o1.v 0)) 16385 [] fun o4 =>
    useQ (k_r_fmul (D:=900) (Float64.mul (Float64.sub m2 m1) ((Float64.divmod hue Float64.one).2)) (o4.v 0) c6 (Nat.add o4.t 0)) 128 [] fun o5 =>
    useQ (k_r_fadd (D:=900) m1 t1 (Float64.mul (Float64.mul (Float64.sub m2 m1) ((Float64.divmod hue Float64.one).2)) c6) (o5.v 0)) 128 [] fun o6 =>
    finK 0 (fun _=>(o6.v 0)) []
theorem v_0 (w:World) (b1 b2 b3:Bool) (m1 m2 hue:UInt64) (t1 t2 t3:Tok) (g2:(Float64.cmp ((Float64.divmod hue Float64.one).2) c16 == some .lt)=true) :
    Spec (VV ⟨w,b1,b2,b3⟩) 420 (.call (.ref 221) ⟨[.float m1 t1,.float m2 t2,.float hue t3],[]⟩) [] (fun o=>⟨.ok (.ret (.float (Float64.add m1 (Float64.mul (Float64.mul (Float64.sub m2 m1) ((Float64.divmod hue Float64.one).2)) c6)) (o.v 0))),[],[]⟩):=by
  refine spec_run [] 3000 (pl_v_0 w b1 b2 b3 m1 m2 hue t1 t2 t3 g2) rfl fun x t => ?_
  cases b1 <;> kernel_rfl
noncomputable def pl_v_1 (w:World) (b1 b2 b3:Bool) (hue:UInt64) (t2 t3:Tok) (g2:(Float64.cmp ((Float64.divmod hue Float64.one).2) c16 == some .lt)=false) (g3:(Float64.cmp ((Float64.divmod hue Float64.one).2) Float64.half == some .lt)=true):Nat→Nat→PlanOk (VV ⟨w,b1,b2,b3⟩):=fun x t =>
    useQ (k_r_fmod (D:=900) hue t3 Float64.one (Nat.add t 3) (by decide +kernel)) 19343993706022166836822018 [] fun o1 =>
    useQ (k_r_flt (D:=900) ((Float64.divmod hue Float64.one).2) (o1.v 0) c16 560 false g2) 34359754881 [] fun o2 =>
    useQ (k_r_flt (D:=900) ((Float64.divmod hue Float64.one).2) (o1.v 0) Float64.half (Nat.add o2.t 0) true g3) 16385 [] fun o3 =>
    finK 1 (fun _=>t2) []
theorem v_1 (w:World) (b1 b2 b3:Bool) (m1 m2 hue:UInt64) (t1 t2 t3:Tok) (g2:(Float64.cmp ((Float64.divmod hue Float64.one).2) c16 == some .lt)=false) (g3:(Float64.cmp ((Float64.divmod hue Float64.one).2) Float64.half == some .lt)=true) :
    Spec (VV ⟨w,b1,b2,b3⟩) 420 (.call (.ref 221) ⟨[.float m1 t1,.float m2 t2,.float hue t3],[]⟩) [] (fun o=>⟨.ok (.ret (.float m2 (o.v 0))),[],[]⟩):=by
  refine spec_run [] 3000 (pl_v_1 w b1 b2 b3 hue t2 t3 g2 g3) rfl fun x t => ?_
  cases b1 <;> kernel_rfl
noncomputable def pl_v_2 (w:World) (b1 b2 b3:Bool) (m1 m2 hue:UInt64) (t1 t2 t3:Tok) (g2:(Float64.cmp ((Float64.divmod hue Float64.one).2) c16 == some .lt)=false) (g3:(Float64.cmp ((Float64.divmod hue Float64.one).2) Float64.half == some .lt)=false) (g4:(Float64.cmp ((Float64.divmod hue Float64.one).2) c23 == some .lt)=true):Nat→Nat→PlanOk (VV ⟨w,b1,b2,b3⟩):=fun x t =>
    useQ (k_r_fmod (D:=900) hue t3 Float64.one (Nat.add t 3) (by decide +kernel)) 19343993706022166836822018 [] fun o1 =>
    useQ (k_r_flt (D:=900) ((Float64.divmod hue Float64.one).2) (o1.v 0) c16 560 false g2) 34359754881 [] fun o2 =>
    useQ (k_r_flt (D:=900) ((Float64.divmod hue Float64.one).2) (o1.v 0) Float64.half (Nat.add o2.t 0) false g3) 16385 [] fun o3 =>
    useQ (k_r_flt (D:=900) ((Float64.divmod hue Float64.one).2) (o1.v 0) c23 564 true g4) 2097153 [] fun o4 =>
    useQ (k_r_fsub (D:=900) m2 t2 m1 t1) 268451969 [] fun o5 =>
    useQ (k_r_fsub (D:=900) c23 564 ((Float64.divmod hue Float64.one).2) (o1.v 0)) 2097280 [] fun o6 =>
    useQ (k_r_fmul (D:=900) (Float64.sub m2 m1) (o5.v 0) (Float64.sub c23 ((Float64.divmod hue Float64.one).2)) (o6.v 0)) 128 [] fun o7 =>
    useQ (k_r_fmul (D:=900) (Float64.mul (Float64.sub m2 m1) (Float64.sub c23 ((Float64.divmod hue Float64.one).2))) (o7.v 0) c6 (Nat.add o7.t 0)) 128 [] fun o8 =>
    useQ (k_r_fadd (D:=900) m1 t1 (Float64.mul (Float64.mul (Float64.sub m2 m1) (Float64.sub c23 ((Float64.divmod hue Float64.one).2))) c6) (o8.v 0)) 128 [] fun o9 =>
    finK 0 (fun _=>(o9.v 0)) []
theorem v_2 (w:World) (b1 b2 b3:Bool) (m1 m2 hue:UInt64) (t1 t2 t3:Tok) (g2:(Float64.cmp ((Float64.divmod hue Float64.one).2) c16 == some .lt)=false) (g3:(Float64.cmp ((Float64.divmod hue Float64.one).2) Float64.half == some .lt)=false) (g4:(Float64.cmp ((Float64.divmod hue Float64.one).2) c23 == some .lt)=true) :
    Spec (VV ⟨w,b1,b2,b3⟩) 420 (.call (.ref 221) ⟨[.float m1 t1,.float m2 t2,.float hue t3],[]⟩) [] (fun o=>⟨.ok (.ret (.float (Float64.add m1 (Float64.mul (Float64.mul (Float64.sub m2 m1) (Float64.sub c23 ((Float64.divmod hue Float64.one).2))) c6)) (o.v 0))),[],[]⟩):=by
  refine spec_run [] 3000 (pl_v_2 w b1 b2 b3 m1 m2 hue t1 t2 t3 g2 g3 g4) rfl fun x t => ?_
  cases b1 <;> kernel_rfl
noncomputable def pl_v_3 (w:World) (b1 b2 b3:Bool) (hue:UInt64) (t1 t3:Tok) (g2:(Float64.cmp ((Float64.divmod hue Float64.one).2) c16 == some .lt)=false) (g3:(Float64.cmp ((Float64.divmod hue Float64.one).2) Float64.half == some .lt)=false) (g4:(Float64.cmp ((Float64.divmod hue Float64.one).2) c23 == some .lt)=false):Nat→Nat→PlanOk (VV ⟨w,b1,b2,b3⟩):=fun x t =>
    useQ (k_r_fmod (D:=900) hue t3 Float64.one (Nat.add t 3) (by decide +kernel)) 19343993706022166836822018 [] fun o1 =>
    useQ (k_r_flt (D:=900) ((Float64.divmod hue Float64.one).2) (o1.v 0) c16 560 false g2) 34359754881 [] fun o2 =>
    useQ (k_r_flt (D:=900) ((Float64.divmod hue Float64.one).2) (o1.v 0) Float64.half (Nat.add o2.t 0) false g3) 16385 [] fun o3 =>
    useQ (k_r_flt (D:=900) ((Float64.divmod hue Float64.one).2) (o1.v 0) c23 564 false g4) 2097153 [] fun o4 =>
    finK 1 (fun _=>t1) []
theorem v_3 (w:World) (b1 b2 b3:Bool) (m1 m2 hue:UInt64) (t1 t2 t3:Tok) (g2:(Float64.cmp ((Float64.divmod hue Float64.one).2) c16 == some .lt)=false) (g3:(Float64.cmp ((Float64.divmod hue Float64.one).2) Float64.half == some .lt)=false) (g4:(Float64.cmp ((Float64.divmod hue Float64.one).2) c23 == some .lt)=false) :
    Spec (VV ⟨w,b1,b2,b3⟩) 420 (.call (.ref 221) ⟨[.float m1 t1,.float m2 t2,.float hue t3],[]⟩) [] (fun o=>⟨.ok (.ret (.float m1 (o.v 0))),[],[]⟩):=by
  refine spec_run [] 3000 (pl_v_3 w b1 b2 b3 hue t1 t3 g2 g3 g4) rfl fun x t => ?_
  cases b1 <;> kernel_rfl
theorem sp_v (w:World) (b1 b2 b3:Bool) (m1 m2 hue:UInt64) (t1 t2 t3:Tok):Spec (VV ⟨w,b1,b2,b3⟩) 420 (.call (.ref 221) ⟨[.float m1 t1,.float m2 t2,.float hue t3],[]⟩) [] (fun o=>⟨.ok (.ret (.float (vF m1 m2 hue) (o.v 0))),[],[]⟩):=by
  cases h1:(Float64.cmp (mod1 hue) c16 == some .lt) with
  | true=>rw [show vF m1 m2 hue=_ from if_pos h1]; exact v_0 w b1 b2 b3 m1 m2 hue t1 t2 t3 h1
  | false =>
    have e1:vF m1 m2 hue=_:=if_neg (by rw [h1]; decide)
    cases h2:(Float64.cmp (mod1 hue) Float64.half == some .lt) with
    | true=>rw [e1,if_pos h2]; exact v_1 w b1 b2 b3 m1 m2 hue t1 t2 t3 h1 h2
    | false =>
      rw [if_neg (by rw [h2]; decide)] at e1
      cases h3:(Float64.cmp (mod1 hue) c23 == some .lt) with
      | true=>rw [e1,if_pos h3]; exact v_2 w b1 b2 b3 m1 m2 hue t1 t2 t3 h1 h2 h3
      | false=>rw [e1,if_neg (by rw [h3]; decide)]; exact v_3 w b1 b2 b3 m1 m2 hue t1 t2 t3 h1 h2 h3
noncomputable def k_sp_v:=fun a1 a2 a3 a4 a5 a6 a7 a8 a9 a10=>kOf (sp_v a1 a2 a3 a4 a5 a6 a7 a8 a9 a10)
section
variable (w:World) (b1 b2 b3:Bool)
theorem sp_max (r g b:UInt64) (t1 t2 t3:Tok):Spec (VV ⟨w,b1,b2,b3⟩) 500 (.builtin "max" ⟨[.float r t1,.float g t2,.float b t3],[]⟩) [] (fun o=>⟨.ok (.ret (.float (maxF r g b) (o.v 0))),[],[]⟩):=by
  unfold maxF
  generalize h1:(Float64.cmp g r == some .gt)=c1
  generalize h2:(Float64.cmp b (cond c1 g r) == some .gt)=c2
  refine spec_run [] 3000 (fun x t =>
    useQ (k_r_fgt (D:=900) g t2 r t1 c1 h1) 3451297726629011745701282394927953998805268561920555883706375311736960 [] fun o1 =>
    useQ (k_r_fgt (D:=900) b t3 (cond c1 g r) (cond c1 t2 t1) c2 h2) (cond c1 40569809806582068600434300338563 19345192817011865902154112) [] fun o2 =>
    finK (cond c2 2009542168264449766278350173592666499 958224376804566271914649092480) (fun _=>cond c2 t3 (cond c1 t2 t1)) []) rfl fun x t => ?_
  cases c1 <;> cases c2 <;> cases b1 <;> kernel_rfl
noncomputable def k_sp_max:=fun a1 a2 a3 a4 a5 a6 a7 a8 a9 a10=>kOf (sp_max a1 a2 a3 a4 a5 a6 a7 a8 a9 a10)
theorem sp_min (r g b:UInt64) (t1 t2 t3:Tok):Spec (VV ⟨w,b1,b2,b3⟩) 500 (.builtin "min" ⟨[.float r t1,.float g t2,.float b t3],[]⟩) [] (fun o=>⟨.ok (.ret (.float (minF r g b) (o.v 0))),[],[]⟩):=by
  unfold minF
  generalize h1:(Float64.cmp g r == some .lt)=c1
  generalize h2:(Float64.cmp b (cond c1 g r) == some .lt)=c2
  refine spec_run [] 3000 (fun x t =>
    useQ (k_r_flt (D:=900) g t2 r t1 c1 h1) 3451297726629011745701282394927953998805268561920555883706375311736960 [] fun o1 =>
    useQ (k_r_flt (D:=900) b t3 (cond c1 g r) (cond c1 t2 t1) c2 h2) (cond c1 40569809806582068600434300338563 19345192817011865902154112) [] fun o2 =>
    finK (cond c2 2009542168264449766278350173592666499 958224376804566271914649092480) (fun _=>cond c2 t3 (cond c1 t2 t1)) []) rfl fun x t => ?_
  cases c1 <;> cases c2 <;> cases b1 <;> kernel_rfl
noncomputable def k_sp_min:=fun a1 a2 a3 a4 a5 a6 a7 a8 a9 a10=>kOf (sp_min a1 a2 a3 a4 a5 a6 a7 a8 a9 a10)
theorem max_z (r g b:Nat):cond (decide (Int.ofNat (cond (decide (Int.ofNat r < Int.ofNat g)) g r) < Int.ofNat b)) b (cond (decide (Int.ofNat r < Int.ofNat g)) g r)=max (max r g) b:=by
  have k : ∀ x y:Nat,cond (decide (Int.ofNat x < Int.ofNat y)) y x=max x y:=fun x y=>by
    by_cases h:x < y
    · rw [decide_eq_true (by show (x:Int) < y; lia)]; show y=_; lia
    · rw [decide_eq_false (by show ¬ (x:Int) < y; lia)]; show x=_; lia
  rw [k r g]; exact k _ _
theorem min_z (r g b:Nat):cond (decide (Int.ofNat b < Int.ofNat (cond (decide (Int.ofNat g < Int.ofNat r)) g r))) b (cond (decide (Int.ofNat g < Int.ofNat r)) g r)=min (min r g) b:=by
  have k : ∀ x y:Nat,cond (decide (Int.ofNat y < Int.ofNat x)) y x=min x y:=fun x y=>by
    by_cases h:y < x
    · rw [decide_eq_true (by show (y:Int) < x; lia)]; show y=_; lia
    · rw [decide_eq_false (by show ¬ (y:Int) < x; lia)]; show x=_; lia
  rw [k r g]; exact k _ _
theorem sp_maxZ (a:Addr) (r g b:Nat) (t1 t2 t3:Tok) (ep:Nat):Spec (VV ⟨w,b1,b2,b3⟩) 500 (.builtin "max" ⟨[.ref a],[]⟩) [(a,lst [.int (Int.ofNat r) t1,.int (Int.ofNat g) t2,.int (Int.ofNat b) t3] ep)] (fun o=>⟨.ok (.ret (.int (Int.ofNat (max (max r g) b)) (o.v 0))),[lst [.int (Int.ofNat r) t1,.int (Int.ofNat g) t2,.int (Int.ofNat b) t3] ep],[]⟩):=by
  rw [← max_z]
  generalize h1:decide (Int.ofNat r < Int.ofNat g)=c1
  generalize h2:decide (Int.ofNat (cond c1 g r) < Int.ofNat b)=c2
  refine spec_run [0] 3000 (fun x t =>
    useQ (k_r_int_gt (D:=900) (Int.ofNat g) (Int.ofNat r) t2 t1 c1 h1) 3451297726629011745701282394927953998805268561920555883706375311736960 [] fun o1 =>
    useQ (k_r_int_gt (D:=900) (Int.ofNat b) (Int.ofNat (cond c1 g r)) t3 (cond c1 t2 t1) c2 h2) (cond c1 40569809806582068600434300338563 19345192817011865902154112) [] fun o2 =>
    finK (cond c2 2009542168264449766278350173592666499 958224376804566271914649092480) (fun _=>cond c2 t3 (cond c1 t2 t1)) []) rfl fun x t => ?_
  cases c1 <;> cases c2 <;> cases b1 <;> kernel_rfl
noncomputable def k_sp_maxZ:=fun a1 a2 a3 a4 a5 a6 a7 a8 a9 a10 a11 a12=>kOf (sp_maxZ a1 a2 a3 a4 a5 a6 a7 a8 a9 a10 a11 a12)
theorem sp_minZ (a:Addr) (r g b:Nat) (t1 t2 t3:Tok) (ep:Nat):Spec (VV ⟨w,b1,b2,b3⟩) 500 (.builtin "min" ⟨[.ref a],[]⟩) [(a,lst [.int (Int.ofNat r) t1,.int (Int.ofNat g) t2,.int (Int.ofNat b) t3] ep)] (fun o=>⟨.ok (.ret (.int (Int.ofNat (min (min r g) b)) (o.v 0))),[lst [.int (Int.ofNat r) t1,.int (Int.ofNat g) t2,.int (Int.ofNat b) t3] ep],[]⟩):=by
  rw [← min_z]
  generalize h1:decide (Int.ofNat g < Int.ofNat r)=c1
  generalize h2:decide (Int.ofNat b < Int.ofNat (cond c1 g r))=c2
  refine spec_run [0] 3000 (fun x t =>
    useQ (k_r_int_lt (D:=900) (Int.ofNat g) (Int.ofNat r) t2 t1 c1 h1) 3451297726629011745701282394927953998805268561920555883706375311736960 [] fun o1 =>
    useQ (k_r_int_lt (D:=900) (Int.ofNat b) (Int.ofNat (cond c1 g r)) t3 (cond c1 t2 t1) c2 h2) (cond c1 40569809806582068600434300338563 19345192817011865902154112) [] fun o2 =>
    finK (cond c2 2009542168264449766278350173592666499 958224376804566271914649092480) (fun _=>cond c2 t3 (cond c1 t2 t1)) []) rfl fun x t => ?_
  cases c1 <;> cases c2 <;> cases b1 <;> kernel_rfl
noncomputable def k_sp_minZ:=fun a1 a2 a3 a4 a5 a6 a7 a8 a9 a10 a11 a12=>kOf (sp_minZ a1 a2 a3 a4 a5 a6 a7 a8 a9 a10 a11 a12)
end
section
variable (w:World) (b1 b2 b3:Bool)
noncomputable def pl_hls_0 (w:World) (b1 b2 b3:Bool) (r g b:UInt64) (t1 t2 t3:Tok) (g6:(Float64.cmp (minF r g b) (maxF r g b) == some .eq)=true):Nat→Nat→PlanOk (VV ⟨w,b1,b2,b3⟩):=fun x t =>
    useQ (k_sp_max w b1 b2 b3 r g b t1 t2 t3) 5192616266407776371042869728788482 [] fun o1 =>
    useQ (k_sp_min w b1 b2 b3 r g b t1 t2 t3) 72062026712612993 [] fun o2 =>
    useQ (k_r_fadd (D:=900) (maxF r g b) (o1.v 0) (minF r g b) (o2.v 0)) 34361852033 [] fun o3 =>
    useQ (k_r_fsub (D:=900) (maxF r g b) (o1.v 0) (minF r g b) (o2.v 0)) 34361852033 [] fun o4 =>
    useQ (k_r_fdiv (D:=900) (Float64.add (maxF r g b) (minF r g b)) (o3.v 0) c2 (Nat.add o4.t 1) (by decide +kernel)) 268451969 [] fun o5 =>
    useQ (k_r_feq (D:=900) (minF r g b) (o2.v 0) (maxF r g b) (o1.v 0) true g6) 34361852033 [] fun o6 =>
    finK 1 (pick [o6.x,(Nat.add o6.t 0),(o5.v 0),(Nat.add o6.t 1)]) [1]
theorem hls_0 (r g b:UInt64) (t1 t2 t3:Tok) (g6:(Float64.cmp (minF r g b) (maxF r g b) == some .eq)=true) :
    Spec (VV ⟨w,b1,b2,b3⟩) 400 (.call (.ref 207) ⟨[.float r t1,.float g t2,.float b t3],[]⟩) [] (fun o=>⟨.ok (.ret (.ref (A (o.v 0)))),[],[(A (o.v 0),tup [.float (Float64.zero false) (o.v 1),.float (Float64.div (Float64.add (maxF r g b) (minF r g b)) c2) (o.v 2),.float (Float64.zero false) (o.v 3)])]⟩):=by
  refine spec_run [] 3000 (pl_hls_0 w b1 b2 b3 r g b t1 t2 t3 g6) rfl fun x t => ?_
  cases b1 <;> kernel_rfl
noncomputable def pl_hls_1 (w:World) (b1 b2 b3:Bool) (r g b:UInt64) (t1 t2 t3:Tok) (g6:(Float64.cmp (minF r g b) (maxF r g b) == some .eq)=false) (g7:leB (Float64.div (Float64.add (maxF r g b) (minF r g b)) c2) Float64.half=true) (z8:Float64.isZero (Float64.add (maxF r g b) (minF r g b))=false) (z10:Float64.isZero (Float64.sub (maxF r g b) (minF r g b))=false) (g15:(Float64.cmp r (maxF r g b) == some .eq)=true):Nat→Nat→PlanOk (VV ⟨w,b1,b2,b3⟩):=fun x t =>
    useQ (k_sp_max w b1 b2 b3 r g b t1 t2 t3) 5192616266407776371042869728788482 [] fun o1 =>
    useQ (k_sp_min w b1 b2 b3 r g b t1 t2 t3) 72062026712612993 [] fun o2 =>
    useQ (k_r_fadd (D:=900) (maxF r g b) (o1.v 0) (minF r g b) (o2.v 0)) 34361852033 [] fun o3 =>
    useQ (k_r_fsub (D:=900) (maxF r g b) (o1.v 0) (minF r g b) (o2.v 0)) 34361852033 [] fun o4 =>
    useQ (k_r_fdiv (D:=900) (Float64.add (maxF r g b) (minF r g b)) (o3.v 0) c2 (Nat.add o4.t 1) (by decide +kernel)) 268451969 [] fun o5 =>
    useQ (k_r_feq (D:=900) (minF r g b) (o2.v 0) (maxF r g b) (o1.v 0) false g6) 34361852033 [] fun o6 =>
    useQ (k_r_fle (D:=900) (Float64.div (Float64.add (maxF r g b) (minF r g b)) c2) (o5.v 0) Float64.half (Nat.add o6.t 0) true g7) 16385 [] fun o7 =>
    useQ (k_r_fdiv (D:=900) (Float64.sub (maxF r g b) (minF r g b)) (o4.v 0) (Float64.add (maxF r g b) (minF r g b)) (o3.v 0) z8) 2097281 [] fun o8 =>
    useQ (k_r_fsub (D:=900) (maxF r g b) (o1.v 0) r t1) 34361852033 [] fun o9 =>
    useQ (k_r_fdiv (D:=900) (Float64.sub (maxF r g b) r) (o9.v 0) (Float64.sub (maxF r g b) (minF r g b)) (o4.v 0) z10) 16385 [] fun o10 =>
    useQ (k_r_fsub (D:=900) (maxF r g b) (o1.v 0) g t2) 34361852033 [] fun o11 =>
    useQ (k_r_fdiv (D:=900) (Float64.sub (maxF r g b) g) (o11.v 0) (Float64.sub (maxF r g b) (minF r g b)) (o4.v 0) z10) 16385 [] fun o12 =>
    useQ (k_r_fsub (D:=900) (maxF r g b) (o1.v 0) b t3) 34361852033 [] fun o13 =>
    useQ (k_r_fdiv (D:=900) (Float64.sub (maxF r g b) b) (o13.v 0) (Float64.sub (maxF r g b) (minF r g b)) (o4.v 0) z10) 16385 [] fun o14 =>
    useQ (k_r_feq (D:=900) r t1 (maxF r g b) (o1.v 0) true g15) 34361852033 [] fun o15 =>
    useQ (k_r_fsub (D:=900) (Float64.div (Float64.sub (maxF r g b) b) (Float64.sub (maxF r g b) (minF r g b))) (o14.v 0) (Float64.div (Float64.sub (maxF r g b) g) (Float64.sub (maxF r g b) (minF r g b))) (o12.v 0)) 2097281 [] fun o16 =>
    useQ (k_r_fdiv (D:=900) (Float64.sub (Float64.div (Float64.sub (maxF r g b) b) (Float64.sub (maxF r g b) (minF r g b))) (Float64.div (Float64.sub (maxF r g b) g) (Float64.sub (maxF r g b) (minF r g b)))) (o16.v 0) c6 (Nat.add o16.t 1) (by decide +kernel)) 268451969 [] fun o17 =>
    useQ (k_r_fmod (D:=900) (Float64.div (Float64.sub (Float64.div (Float64.sub (maxF r g b) b) (Float64.sub (maxF r g b) (minF r g b))) (Float64.div (Float64.sub (maxF r g b) g) (Float64.sub (maxF r g b) (minF r g b)))) c6) (o17.v 0) Float64.one (Nat.add o17.t 0) (by decide +kernel)) 128 [] fun o18 =>
    finK 270549121 (pick [o18.x,(o18.v 0),(o5.v 0),(o8.v 0)]) [1]
theorem hls_1 (r g b:UInt64) (t1 t2 t3:Tok) (g6:(Float64.cmp (minF r g b) (maxF r g b) == some .eq)=false) (g7:leB (Float64.div (Float64.add (maxF r g b) (minF r g b)) c2) Float64.half=true) (z8:Float64.isZero (Float64.add (maxF r g b) (minF r g b))=false) (z10:Float64.isZero (Float64.sub (maxF r g b) (minF r g b))=false) (g15:(Float64.cmp r (maxF r g b) == some .eq)=true) :
    Spec (VV ⟨w,b1,b2,b3⟩) 400 (.call (.ref 207) ⟨[.float r t1,.float g t2,.float b t3],[]⟩) [] (fun o=>⟨.ok (.ret (.ref (A (o.v 0)))),[],[(A (o.v 0),tup [.float ((Float64.divmod (Float64.div (Float64.sub (Float64.div (Float64.sub (maxF r g b) b) (Float64.sub (maxF r g b) (minF r g b))) (Float64.div (Float64.sub (maxF r g b) g) (Float64.sub (maxF r g b) (minF r g b)))) c6) Float64.one).2) (o.v 1),.float (Float64.div (Float64.add (maxF r g b) (minF r g b)) c2) (o.v 2),.float (Float64.div (Float64.sub (maxF r g b) (minF r g b)) (Float64.add (maxF r g b) (minF r g b))) (o.v 3)])]⟩):=by
  refine spec_run [] 3000 (pl_hls_1 w b1 b2 b3 r g b t1 t2 t3 g6 g7 z8 z10 g15) rfl fun x t => ?_
  cases b1 <;> kernel_rfl
noncomputable def pl_hls_2 (w:World) (b1 b2 b3:Bool) (r g b:UInt64) (t1 t2 t3:Tok) (g6:(Float64.cmp (minF r g b) (maxF r g b) == some .eq)=false) (g7:leB (Float64.div (Float64.add (maxF r g b) (minF r g b)) c2) Float64.half=true) (z8:Float64.isZero (Float64.add (maxF r g b) (minF r g b))=false) (z10:Float64.isZero (Float64.sub (maxF r g b) (minF r g b))=false) (g15:(Float64.cmp r (maxF r g b) == some .eq)=false) (g16:(Float64.cmp g (maxF r g b) == some .eq)=true):Nat→Nat→PlanOk (VV ⟨w,b1,b2,b3⟩):=fun x t =>
    useQ (k_sp_max w b1 b2 b3 r g b t1 t2 t3) 5192616266407776371042869728788482 [] fun o1 =>
    useQ (k_sp_min w b1 b2 b3 r g b t1 t2 t3) 72062026712612993 [] fun o2 =>
    useQ (k_r_fadd (D:=900) (maxF r g b) (o1.v 0) (minF r g b) (o2.v 0)) 34361852033 [] fun o3 =>
    useQ (k_r_fsub (D:=900) (maxF r g b) (o1.v 0) (minF r g b) (o2.v 0)) 34361852033 [] fun o4 =>
    useQ (k_r_fdiv (D:=900) (Float64.add (maxF r g b) (minF r g b)) (o3.v 0) c2 (Nat.add o4.t 1) (by decide +kernel)) 268451969 [] fun o5 =>
    useQ (k_r_feq (D:=900) (minF r g b) (o2.v 0) (maxF r g b) (o1.v 0) false g6) 34361852033 [] fun o6 =>
    useQ (k_r_fle (D:=900) (Float64.div (Float64.add (maxF r g b) (minF r g b)) c2) (o5.v 0) Float64.half (Nat.add o6.t 0) true g7) 16385 [] fun o7 =>
    useQ (k_r_fdiv (D:=900) (Float64.sub (maxF r g b) (minF r g b)) (o4.v 0) (Float64.add (maxF r g b) (minF r g b)) (o3.v 0) z8) 2097281 [] fun o8 =>
    useQ (k_r_fsub (D:=900) (maxF r g b) (o1.v 0) r t1) 34361852033 [] fun o9 =>
    useQ (k_r_fdiv (D:=900) (Float64.sub (maxF r g b) r) (o9.v 0) (Float64.sub (maxF r g b) (minF r g b)) (o4.v 0) z10) 16385 [] fun o10 =>
    useQ (k_r_fsub (D:=900) (maxF r g b) (o1.v 0) g t2) 34361852033 [] fun o11 =>
    useQ (k_r_fdiv (D:=900) (Float64.sub (maxF r g b) g) (o11.v 0) (Float64.sub (maxF r g b) (minF r g b)) (o4.v 0) z10) 16385 [] fun o12 =>
    useQ (k_r_fsub (D:=900) (maxF r g b) (o1.v 0) b t3) 34361852033 [] fun o13 =>
    useQ (k_r_fdiv (D:=900) (Float64.sub (maxF r g b) b) (o13.v 0) (Float64.sub (maxF r g b) (minF r g b)) (o4.v 0) z10) 16385 [] fun o14 =>
    useQ (k_r_feq (D:=900) r t1 (maxF r g b) (o1.v 0) false g15) 34361852033 [] fun o15 =>
    useQ (k_r_feq (D:=900) g t2 (maxF r g b) (o1.v 0) true g16) 2097281 [] fun o16 =>
    useQ (k_r_fadd (D:=900) c2 (Nat.add o16.t 0) (Float64.div (Float64.sub (maxF r g b) r) (Float64.sub (maxF r g b) (minF r g b))) (o10.v 0)) 16385 [] fun o17 =>
    useQ (k_r_fsub (D:=900) (Float64.add c2 (Float64.div (Float64.sub (maxF r g b) r) (Float64.sub (maxF r g b) (minF r g b)))) (o17.v 0) (Float64.div (Float64.sub (maxF r g b) b) (Float64.sub (maxF r g b) (minF r g b))) (o14.v 0)) 16385 [] fun o18 =>
    useQ (k_r_fdiv (D:=900) (Float64.sub (Float64.add c2 (Float64.div (Float64.sub (maxF r g b) r) (Float64.sub (maxF r g b) (minF r g b)))) (Float64.div (Float64.sub (maxF r g b) b) (Float64.sub (maxF r g b) (minF r g b)))) (o18.v 0) c6 (Nat.add o18.t 1) (by decide +kernel)) 268451969 [] fun o19 =>
    useQ (k_r_fmod (D:=900) (Float64.div (Float64.sub (Float64.add c2 (Float64.div (Float64.sub (maxF r g b) r) (Float64.sub (maxF r g b) (minF r g b)))) (Float64.div (Float64.sub (maxF r g b) b) (Float64.sub (maxF r g b) (minF r g b)))) c6) (o19.v 0) Float64.one (Nat.add o19.t 0) (by decide +kernel)) 128 [] fun o20 =>
    finK 270549121 (pick [o20.x,(o20.v 0),(o5.v 0),(o8.v 0)]) [1]
theorem hls_2 (r g b:UInt64) (t1 t2 t3:Tok) (g6:(Float64.cmp (minF r g b) (maxF r g b) == some .eq)=false) (g7:leB (Float64.div (Float64.add (maxF r g b) (minF r g b)) c2) Float64.half=true) (z8:Float64.isZero (Float64.add (maxF r g b) (minF r g b))=false) (z10:Float64.isZero (Float64.sub (maxF r g b) (minF r g b))=false) (g15:(Float64.cmp r (maxF r g b) == some .eq)=false) (g16:(Float64.cmp g (maxF r g b) == some .eq)=true) :
    Spec (VV ⟨w,b1,b2,b3⟩) 400 (.call (.ref 207) ⟨[.float r t1,.float g t2,.float b t3],[]⟩) [] (fun o=>⟨.ok (.ret (.ref (A (o.v 0)))),[],[(A (o.v 0),tup [.float ((Float64.divmod (Float64.div (Float64.sub (Float64.add c2 (Float64.div (Float64.sub (maxF r g b) r) (Float64.sub (maxF r g b) (minF r g b)))) (Float64.div (Float64.sub (maxF r g b) b) (Float64.sub (maxF r g b) (minF r g b)))) c6) Float64.one).2) (o.v 1),.float (Float64.div (Float64.add (maxF r g b) (minF r g b)) c2) (o.v 2),.float (Float64.div (Float64.sub (maxF r g b) (minF r g b)) (Float64.add (maxF r g b) (minF r g b))) (o.v 3)])]⟩):=by
  refine spec_run [] 3000 (pl_hls_2 w b1 b2 b3 r g b t1 t2 t3 g6 g7 z8 z10 g15 g16) rfl fun x t => ?_
  cases b1 <;> kernel_rfl
noncomputable def pl_hls_3 (w:World) (b1 b2 b3:Bool) (r g b:UInt64) (t1 t2 t3:Tok) (g6:(Float64.cmp (minF r g b) (maxF r g b) == some .eq)=false) (g7:leB (Float64.div (Float64.add (maxF r g b) (minF r g b)) c2) Float64.half=true) (z8:Float64.isZero (Float64.add (maxF r g b) (minF r g b))=false) (z10:Float64.isZero (Float64.sub (maxF r g b) (minF r g b))=false) (g15:(Float64.cmp r (maxF r g b) == some .eq)=false) (g16:(Float64.cmp g (maxF r g b) == some .eq)=false):Nat→Nat→PlanOk (VV ⟨w,b1,b2,b3⟩):=fun x t =>
    useQ (k_sp_max w b1 b2 b3 r g b t1 t2 t3) 5192616266407776371042869728788482 [] fun o1 =>
    useQ (k_sp_min w b1 b2 b3 r g b t1 t2 t3) 72062026712612993 [] fun o2 =>
    useQ (k_r_fadd (D:=900) (maxF r g b) (o1.v 0) (minF r g b) (o2.v 0)) 34361852033 [] fun o3 =>
    useQ (k_r_fsub (D:=900) (maxF r g b) (o1.v 0) (minF r g b) (o2.v 0)) 34361852033 [] fun o4 =>
    useQ (k_r_fdiv (D:=900) (Float64.add (maxF r g b) (minF r g b)) (o3.v 0) c2 (Nat.add o4.t 1) (by decide +kernel)) 268451969 [] fun o5 =>
    useQ (k_r_feq (D:=900) (minF r g b) (o2.v 0) (maxF r g b) (o1.v 0) false g6) 34361852033 [] fun o6 =>
    useQ (k_r_fle (D:=900) (Float64.div (Float64.add (maxF r g b) (minF r g b)) c2) (o5.v 0) Float64.half (Nat.add o6.t 0) true g7) 16385 [] fun o7 =>
    useQ (k_r_fdiv (D:=900) (Float64.sub (maxF r g b) (minF r g b)) (o4.v 0) (Float64.add (maxF r g b) (minF r g b)) (o3.v 0) z8) 2097281 [] fun o8 =>
    useQ (k_r_fsub (D:=900) (maxF r g b) (o1.v 0) r t1) 34361852033 [] fun o9 =>
    useQ (k_r_fdiv (D:=900) (Float64.sub (maxF r g b) r) (o9.v 0) (Float64.sub (maxF r g b) (minF r g b)) (o4.v 0) z10) 16385 [] fun o10 =>
    useQ (k_r_fsub (D:=900) (maxF r g b) (o1.v 0) g t2) 34361852033 [] fun o11 =>
    useQ (k_r_fdiv (D:=900) (Float64.sub (maxF r g b) g) (o11.v 0) (Float64.sub (maxF r g b) (minF r g b)) (o4.v 0) z10) 16385 [] fun o12 =>
    useQ (k_r_fsub (D:=900) (maxF r g b) (o1.v 0) b t3) 34361852033 [] fun o13 =>
    useQ (k_r_fdiv (D:=900) (Float64.sub (maxF r g b) b) (o13.v 0) (Float64.sub (maxF r g b) (minF r g b)) (o4.v 0) z10) 16385 [] fun o14 =>
    useQ (k_r_feq (D:=900) r t1 (maxF r g b) (o1.v 0) false g15) 34361852033 [] fun o15 =>
    useQ (k_r_feq (D:=900) g t2 (maxF r g b) (o1.v 0) false g16) 2097281 [] fun o16 =>
    useQ (k_r_fadd (D:=900) c4 (Nat.add o16.t 0) (Float64.div (Float64.sub (maxF r g b) g) (Float64.sub (maxF r g b) (minF r g b))) (o12.v 0)) 16385 [] fun o17 =>
    useQ (k_r_fsub (D:=900) (Float64.add c4 (Float64.div (Float64.sub (maxF r g b) g) (Float64.sub (maxF r g b) (minF r g b)))) (o17.v 0) (Float64.div (Float64.sub (maxF r g b) r) (Float64.sub (maxF r g b) (minF r g b))) (o10.v 0)) 16385 [] fun o18 =>
    useQ (k_r_fdiv (D:=900) (Float64.sub (Float64.add c4 (Float64.div (Float64.sub (maxF r g b) g) (Float64.sub (maxF r g b) (minF r g b)))) (Float64.div (Float64.sub (maxF r g b) r) (Float64.sub (maxF r g b) (minF r g b)))) (o18.v 0) c6 (Nat.add o18.t 1) (by decide +kernel)) 268451969 [] fun o19 =>
    useQ (k_r_fmod (D:=900) (Float64.div (Float64.sub (Float64.add c4 (Float64.div (Float64.sub (maxF r g b) g) (Float64.sub (maxF r g b) (minF r g b)))) (Float64.div (Float64.sub (maxF r g b) r) (Float64.sub (maxF r g b) (minF r g b)))) c6) (o19.v 0) Float64.one (Nat.add o19.t 0) (by decide +kernel)) 128 [] fun o20 =>
    finK 270549121 (pick [o20.x,(o20.v 0),(o5.v 0),(o8.v 0)]) [1]
theorem hls_3 (r g b:UInt64) (t1 t2 t3:Tok) (g6:(Float64.cmp (minF r g b) (maxF r g b) == some .eq)=false) (g7:leB (Float64.div (Float64.add (maxF r g b) (minF r g b)) c2) Float64.half=true) (z8:Float64.isZero (Float64.add (maxF r g b) (minF r g b))=false) (z10:Float64.isZero (Float64.sub (maxF r g b) (minF r g b))=false) (g15:(Float64.cmp r (maxF r g b) == some .eq)=false) (g16:(Float64.cmp g (maxF r g b) == some .eq)=false) :
    Spec (VV ⟨w,b1,b2,b3⟩) 400 (.call (.ref 207) ⟨[.float r t1,.float g t2,.float b t3],[]⟩) [] (fun o=>⟨.ok (.ret (.ref (A (o.v 0)))),[],[(A (o.v 0),tup [.float ((Float64.divmod (Float64.div (Float64.sub (Float64.add c4 (Float64.div (Float64.sub (maxF r g b) g) (Float64.sub (maxF r g b) (minF r g b)))) (Float64.div (Float64.sub (maxF r g b) r) (Float64.sub (maxF r g b) (minF r g b)))) c6) Float64.one).2) (o.v 1),.float (Float64.div (Float64.add (maxF r g b) (minF r g b)) c2) (o.v 2),.float (Float64.div (Float64.sub (maxF r g b) (minF r g b)) (Float64.add (maxF r g b) (minF r g b))) (o.v 3)])]⟩):=by
  refine spec_run [] 3000 (pl_hls_3 w b1 b2 b3 r g b t1 t2 t3 g6 g7 z8 z10 g15 g16) rfl fun x t => ?_
  cases b1 <;> kernel_rfl
noncomputable def pl_hls_4 (w:World) (b1 b2 b3:Bool) (r g b:UInt64) (t1 t2 t3:Tok) (g6:(Float64.cmp (minF r g b) (maxF r g b) == some .eq)=false) (g7:leB (Float64.div (Float64.add (maxF r g b) (minF r g b)) c2) Float64.half=false) (z10:Float64.isZero (Float64.sub (Float64.sub c2 (maxF r g b)) (minF r g b))=false) (z12:Float64.isZero (Float64.sub (maxF r g b) (minF r g b))=false) (g17:(Float64.cmp r (maxF r g b) == some .eq)=true):Nat→Nat→PlanOk (VV ⟨w,b1,b2,b3⟩):=fun x t =>
    useQ (k_sp_max w b1 b2 b3 r g b t1 t2 t3) 5192616266407776371042869728788482 [] fun o1 =>
    useQ (k_sp_min w b1 b2 b3 r g b t1 t2 t3) 72062026712612993 [] fun o2 =>
    useQ (k_r_fadd (D:=900) (maxF r g b) (o1.v 0) (minF r g b) (o2.v 0)) 34361852033 [] fun o3 =>
    useQ (k_r_fsub (D:=900) (maxF r g b) (o1.v 0) (minF r g b) (o2.v 0)) 34361852033 [] fun o4 =>
    useQ (k_r_fdiv (D:=900) (Float64.add (maxF r g b) (minF r g b)) (o3.v 0) c2 (Nat.add o4.t 1) (by decide +kernel)) 268451969 [] fun o5 =>
    useQ (k_r_feq (D:=900) (minF r g b) (o2.v 0) (maxF r g b) (o1.v 0) false g6) 34361852033 [] fun o6 =>
    useQ (k_r_fle (D:=900) (Float64.div (Float64.add (maxF r g b) (minF r g b)) c2) (o5.v 0) Float64.half (Nat.add o6.t 0) false g7) 16385 [] fun o7 =>
    useQ (k_r_fsub (D:=900) c2 (Nat.add o7.t 0) (maxF r g b) (o1.v 0)) 2097281 [] fun o8 =>
    useQ (k_r_fsub (D:=900) (Float64.sub c2 (maxF r g b)) (o8.v 0) (minF r g b) (o2.v 0)) 16385 [] fun o9 =>
    useQ (k_r_fdiv (D:=900) (Float64.sub (maxF r g b) (minF r g b)) (o4.v 0) (Float64.sub (Float64.sub c2 (maxF r g b)) (minF r g b)) (o9.v 0) z10) 128 [] fun o10 =>
    useQ (k_r_fsub (D:=900) (maxF r g b) (o1.v 0) r t1) 34361852033 [] fun o11 =>
    useQ (k_r_fdiv (D:=900) (Float64.sub (maxF r g b) r) (o11.v 0) (Float64.sub (maxF r g b) (minF r g b)) (o4.v 0) z12) 16385 [] fun o12 =>
    useQ (k_r_fsub (D:=900) (maxF r g b) (o1.v 0) g t2) 34361852033 [] fun o13 =>
    useQ (k_r_fdiv (D:=900) (Float64.sub (maxF r g b) g) (o13.v 0) (Float64.sub (maxF r g b) (minF r g b)) (o4.v 0) z12) 16385 [] fun o14 =>
    useQ (k_r_fsub (D:=900) (maxF r g b) (o1.v 0) b t3) 34361852033 [] fun o15 =>
    useQ (k_r_fdiv (D:=900) (Float64.sub (maxF r g b) b) (o15.v 0) (Float64.sub (maxF r g b) (minF r g b)) (o4.v 0) z12) 16385 [] fun o16 =>
    useQ (k_r_feq (D:=900) r t1 (maxF r g b) (o1.v 0) true g17) 34361852033 [] fun o17 =>
    useQ (k_r_fsub (D:=900) (Float64.div (Float64.sub (maxF r g b) b) (Float64.sub (maxF r g b) (minF r g b))) (o16.v 0) (Float64.div (Float64.sub (maxF r g b) g) (Float64.sub (maxF r g b) (minF r g b))) (o14.v 0)) 2097281 [] fun o18 =>
    useQ (k_r_fdiv (D:=900) (Float64.sub (Float64.div (Float64.sub (maxF r g b) b) (Float64.sub (maxF r g b) (minF r g b))) (Float64.div (Float64.sub (maxF r g b) g) (Float64.sub (maxF r g b) (minF r g b)))) (o18.v 0) c6 (Nat.add o18.t 1) (by decide +kernel)) 268451969 [] fun o19 =>
    useQ (k_r_fmod (D:=900) (Float64.div (Float64.sub (Float64.div (Float64.sub (maxF r g b) b) (Float64.sub (maxF r g b) (minF r g b))) (Float64.div (Float64.sub (maxF r g b) g) (Float64.sub (maxF r g b) (minF r g b)))) c6) (o19.v 0) Float64.one (Nat.add o19.t 0) (by decide +kernel)) 128 [] fun o20 =>
    finK 270549121 (pick [o20.x,(o20.v 0),(o5.v 0),(o10.v 0)]) [1]
theorem hls_4 (r g b:UInt64) (t1 t2 t3:Tok) (g6:(Float64.cmp (minF r g b) (maxF r g b) == some .eq)=false) (g7:leB (Float64.div (Float64.add (maxF r g b) (minF r g b)) c2) Float64.half=false) (z10:Float64.isZero (Float64.sub (Float64.sub c2 (maxF r g b)) (minF r g b))=false) (z12:Float64.isZero (Float64.sub (maxF r g b) (minF r g b))=false) (g17:(Float64.cmp r (maxF r g b) == some .eq)=true) :
    Spec (VV ⟨w,b1,b2,b3⟩) 400 (.call (.ref 207) ⟨[.float r t1,.float g t2,.float b t3],[]⟩) [] (fun o=>⟨.ok (.ret (.ref (A (o.v 0)))),[],[(A (o.v 0),tup [.float ((Float64.divmod (Float64.div (Float64.sub (Float64.div (Float64.sub (maxF r g b) b) (Float64.sub (maxF r g b) (minF r g b))) (Float64.div (Float64.sub (maxF r g b) g) (Float64.sub (maxF r g b) (minF r g b)))) c6) Float64.one).2) (o.v 1),.float (Float64.div (Float64.add (maxF r g b) (minF r g b)) c2) (o.v 2),.float (Float64.div (Float64.sub (maxF r g b) (minF r g b)) (Float64.sub (Float64.sub c2 (maxF r g b)) (minF r g b))) (o.v 3)])]⟩):=by
  refine spec_run [] 3000 (pl_hls_4 w b1 b2 b3 r g b t1 t2 t3 g6 g7 z10 z12 g17) rfl fun x t => ?_
  cases b1 <;> kernel_rfl
noncomputable def pl_hls_5 (w:World) (b1 b2 b3:Bool) (r g b:UInt64) (t1 t2 t3:Tok) (g6:(Float64.cmp (minF r g b) (maxF r g b) == some .eq)=false) (g7:leB (Float64.div (Float64.add (maxF r g b) (minF r g b)) c2) Float64.half=false) (z10:Float64.isZero (Float64.sub (Float64.sub c2 (maxF r g b)) (minF r g b))=false) (z12:Float64.isZero (Float64.sub (maxF r g b) (minF r g b))=false) (g17:(Float64.cmp r (maxF r g b) == some .eq)=false) (g18:(Float64.cmp g (maxF r g b) == some .eq)=true):Nat→Nat→PlanOk (VV ⟨w,b1,b2,b3⟩):=fun x t =>
    useQ (k_sp_max w b1 b2 b3 r g b t1 t2 t3) 5192616266407776371042869728788482 [] fun o1 =>
    useQ (k_sp_min w b1 b2 b3 r g b t1 t2 t3) 72062026712612993 [] fun o2 =>
    useQ (k_r_fadd (D:=900) (maxF r g b) (o1.v 0) (minF r g b) (o2.v 0)) 34361852033 [] fun o3 =>
    useQ (k_r_fsub (D:=900) (maxF r g b) (o1.v 0) (minF r g b) (o2.v 0)) 34361852033 [] fun o4 =>
    useQ (k_r_fdiv (D:=900) (Float64.add (maxF r g b) (minF r g b)) (o3.v 0) c2 (Nat.add o4.t 1) (by decide +kernel)) 268451969 [] fun o5 =>
    useQ (k_r_feq (D:=900) (minF r g b) (o2.v 0) (maxF r g b) (o1.v 0) false g6) 34361852033 [] fun o6 =>
    useQ (k_r_fle (D:=900) (Float64.div (Float64.add (maxF r g b) (minF r g b)) c2) (o5.v 0) Float64.half (Nat.add o6.t 0) false g7) 16385 [] fun o7 =>
    useQ (k_r_fsub (D:=900) c2 (Nat.add o7.t 0) (maxF r g b) (o1.v 0)) 2097281 [] fun o8 =>
    useQ (k_r_fsub (D:=900) (Float64.sub c2 (maxF r g b)) (o8.v 0) (minF r g b) (o2.v 0)) 16385 [] fun o9 =>
    useQ (k_r_fdiv (D:=900) (Float64.sub (maxF r g b) (minF r g b)) (o4.v 0) (Float64.sub (Float64.sub c2 (maxF r g b)) (minF r g b)) (o9.v 0) z10) 128 [] fun o10 =>
    useQ (k_r_fsub (D:=900) (maxF r g b) (o1.v 0) r t1) 34361852033 [] fun o11 =>
    useQ (k_r_fdiv (D:=900) (Float64.sub (maxF r g b) r) (o11.v 0) (Float64.sub (maxF r g b) (minF r g b)) (o4.v 0) z12) 16385 [] fun o12 =>
    useQ (k_r_fsub (D:=900) (maxF r g b) (o1.v 0) g t2) 34361852033 [] fun o13 =>
    useQ (k_r_fdiv (D:=900) (Float64.sub (maxF r g b) g) (o13.v 0) (Float64.sub (maxF r g b) (minF r g b)) (o4.v 0) z12) 16385 [] fun o14 =>
    useQ (k_r_fsub (D:=900) (maxF r g b) (o1.v 0) b t3) 34361852033 [] fun o15 =>
    useQ (k_r_fdiv (D:=900) (Float64.sub (maxF r g b) b) (o15.v 0) (Float64.sub (maxF r g b) (minF r g b)) (o4.v 0) z12) 16385 [] fun o16 =>
    useQ (k_r_feq (D:=900) r t1 (maxF r g b) (o1.v 0) false g17) 34361852033 [] fun o17 =>
    useQ (k_r_feq (D:=900) g t2 (maxF r g b) (o1.v 0) true g18) 2097281 [] fun o18 =>
    useQ (k_r_fadd (D:=900) c2 (Nat.add o18.t 0) (Float64.div (Float64.sub (maxF r g b) r) (Float64.sub (maxF r g b) (minF r g b))) (o12.v 0)) 16385 [] fun o19 =>
    useQ (k_r_fsub (D:=900) (Float64.add c2 (Float64.div (Float64.sub (maxF r g b) r) (Float64.sub (maxF r g b) (minF r g b)))) (o19.v 0) (Float64.div (Float64.sub (maxF r g b) b) (Float64.sub (maxF r g b) (minF r g b))) (o16.v 0)) 16385 [] fun o20 =>
    useQ (k_r_fdiv (D:=900) (Float64.sub (Float64.add c2 (Float64.div (Float64.sub (maxF r g b) r) (Float64.sub (maxF r g b) (minF r g b)))) (Float64.div (Float64.sub (maxF r g b) b) (Float64.sub (maxF r g b) (minF r g b)))) (o20.v 0) c6 (Nat.add o20.t 1) (by decide +kernel)) 268451969 [] fun o21 =>
    useQ (k_r_fmod (D:=900) (Float64.div (Float64.sub (Float64.add c2 (Float64.div (Float64.sub (maxF r g b) r) (Float64.sub (maxF r g b) (minF r g b)))) (Float64.div (Float64.sub (maxF r g b) b) (Float64.sub (maxF r g b) (minF r g b)))) c6) (o21.v 0) Float64.one (Nat.add o21.t 0) (by decide +kernel)) 128 [] fun o22 =>
    finK 270549121 (pick [o22.x,(o22.v 0),(o5.v 0),(o10.v 0)]) [1]
theorem hls_5 (r g b:UInt64) (t1 t2 t3:Tok) (g6:(Float64.cmp (minF r g b) (maxF r g b) == some .eq)=false) (g7:leB (Float64.div (Float64.add (maxF r g b) (minF r g b)) c2) Float64.half=false) (z10:Float64.isZero (Float64.sub (Float64.sub c2 (maxF r g b)) (minF r g b))=false) (z12:Float64.isZero (Float64.sub (maxF r g b) (minF r g b))=false) (g17:(Float64.cmp r (maxF r g b) == some .eq)=false) (g18:(Float64.cmp g (maxF r g b) == some .eq)=true) :
    Spec (VV ⟨w,b1,b2,b3⟩) 400 (.call (.ref 207) ⟨[.float r t1,.float g t2,.float b t3],[]⟩) [] (fun o=>⟨.ok (.ret (.ref (A (o.v 0)))),[],[(A (o.v 0),tup [.float ((Float64.divmod (Float64.div (Float64.sub (Float64.add c2 (Float64.div (Float64.sub (maxF r g b) r) (Float64.sub (maxF r g b) (minF r g b)))) (Float64.div (Float64.sub (maxF r g b) b) (Float64.sub (maxF r g b) (minF r g b)))) c6) Float64.one).2) (o.v 1),.float (Float64.div (Float64.add (maxF r g b) (minF r g b)) c2) (o.v 2),.float (Float64.div (Float64.sub (maxF r g b) (minF r g b)) (Float64.sub (Float64.sub c2 (maxF r g b)) (minF r g b))) (o.v 3)])]⟩):=by
  refine spec_run [] 3000 (pl_hls_5 w b1 b2 b3 r g b t1 t2 t3 g6 g7 z10 z12 g17 g18) rfl fun x t => ?_
  cases b1 <;> kernel_rfl
noncomputable def pl_hls_6 (w:World) (b1 b2 b3:Bool) (r g b:UInt64) (t1 t2 t3:Tok) (g6:(Float64.cmp (minF r g b) (maxF r g b) == some .eq)=false) (g7:leB (Float64.div (Float64.add (maxF r g b) (minF r g b)) c2) Float64.half=false) (z10:Float64.isZero (Float64.sub (Float64.sub c2 (maxF r g b)) (minF r g b))=false) (z12:Float64.isZero (Float64.sub (maxF r g b) (minF r g b))=false) (g17:(Float64.cmp r (maxF r g b) == some .eq)=false) (g18:(Float64.cmp g (maxF r g b) == some .eq)=false):Nat→Nat→PlanOk (VV ⟨w,b1,b2,b3⟩):=fun x t =>
    useQ (k_sp_max w b1 b2 b3 r g b t1 t2 t3) 5192616266407776371042869728788482 [] fun o1 =>
    useQ (k_sp_min w b1 b2 b3 r g b t1 t2 t3) 72062026712612993 [] fun o2 =>
    useQ (k_r_fadd (D:=900) (maxF r g b) (o1.v 0) (minF r g b) (o2.v 0)) 34361852033 [] fun o3 =>
    useQ (k_r_fsub (D:=900) (maxF r g b) (o1.v 0) (minF r g b) (o2.v 0)) 34361852033 [] fun o4 =>
    useQ (k_r_fdiv (D:=900) (Float64.add (maxF r g b) (minF r g b)) (o3.v 0) c2 (Nat.add o4.t 1) (by decide +kernel)) 268451969 [] fun o5 =>
    useQ (k_r_feq (D:=900) (minF r g b) (o2.v 0) (maxF r g b) (o1.v 0) false g6) 34361852033 [] fun o6 =>
    useQ (k_r_fle (D:=900) (Float64.div (Float64.add (maxF r g b) (minF r g b)) c2) (o5.v 0) Float64.half (Nat.add o6.t 0) false g7) 16385 [] fun o7 =>
    useQ (k_r_fsub (D:=900) c2 (Nat.add o7.t 0) (maxF r g b) (o1.v 0)) 2097281 [] fun o8 =>
    useQ (k_r_fsub (D:=900) (Float64.sub c2 (maxF r g b)) (o8.v 0) (minF r g b) (o2.v 0)) 16385 [] fun o9 =>
    useQ (k_r_fdiv (D:=900) (Float64.sub (maxF r g b) (minF r g b)) (o4.v 0) (Float64.sub (Float64.sub c2 (maxF r g b)) (minF r g b)) (o9.v 0) z10) 128 [] fun o10 =>
    useQ (k_r_fsub (D:=900) (maxF r g b) (o1.v 0) r t1) 34361852033 [] fun o11 =>
    useQ (k_r_fdiv (D:=900) (Float64.sub (maxF r g b) r) (o11.v 0) (Float64.sub (maxF r g b) (minF r g b)) (o4.v 0) z12) 16385 [] fun o12 =>
    useQ (k_r_fsub (D:=900) (maxF r g b) (o1.v 0) g t2) 34361852033 [] fun o13 =>
    useQ (k_r_fdiv (D:=900) (Float64.sub (maxF r g b) g) (o13.v 0) (Float64.sub (maxF r g b) (minF r g b)) (o4.v 0) z12) 16385 [] fun o14 =>
    useQ (k_r_fsub (D:=900) (maxF r g b) (o1.v 0) b t3) 34361852033 [] fun o15 =>
    useQ (k_r_fdiv (D:=900) (Float64.sub (maxF r g b) b) (o15.v 0) (Float64.sub (maxF r g b) (minF r g b)) (o4.v 0) z12) 16385 [] fun o16 =>
    useQ (k_r_feq (D:=900) r t1 (maxF r g b) (o1.v 0) false g17) 34361852033 [] fun o17 =>
    useQ (k_r_feq (D:=900) g t2 (maxF r g b) (o1.v 0) false g18) 2097281 [] fun o18 =>
    useQ (k_r_fadd (D:=900) c4 (Nat.add o18.t 0) (Float64.div (Float64.sub (maxF r g b) g) (Float64.sub (maxF r g b) (minF r g b))) (o14.v 0)) 16385 [] fun o19 =>
    useQ (k_r_fsub (D:=900) (Float64.add c4 (Float64.div (Float64.sub (maxF r g b) g) (Float64.sub (maxF r g b) (minF r g b)))) (o19.v 0) (Float64.div (Float64.sub (maxF r g b) r) (Float64.sub (maxF r g b) (minF r g b))) (o12.v 0)) 16385 [] fun o20 =>
    useQ (k_r_fdiv (D:=900) (Float64.sub (Float64.add c4 (Float64.div (Float64.sub (maxF r g b) g) (Float64.sub (maxF r g b) (minF r g b)))) (Float64.div (Float64.sub (maxF r g b) r) (Float64.sub (maxF r g b) (minF r g b)))) (o20.v 0) c6 (Nat.add o20.t 1) (by decide +kernel)) 268451969 [] fun o21 =>
    useQ (k_r_fmod (D:=900) (Float64.div (Float64.sub (Float64.add c4 (Float64.div (Float64.sub (maxF r g b) g) (Float64.sub (maxF r g b) (minF r g b)))) (Float64.div (Float64.sub (maxF r g b) r) (Float64.sub (maxF r g b) (minF r g b)))) c6) (o21.v 0) Float64.one (Nat.add o21.t 0) (by decide +kernel)) 128 [] fun o22 =>
    finK 270549121 (pick [o22.x,(o22.v 0),(o5.v 0),(o10.v 0)]) [1]
theorem hls_6 (r g b:UInt64) (t1 t2 t3:Tok) (g6:(Float64.cmp (minF r g b) (maxF r g b) == some .eq)=false) (g7:leB (Float64.div (Float64.add (maxF r g b) (minF r g b)) c2) Float64.half=false) (z10:Float64.isZero (Float64.sub (Float64.sub c2 (maxF r g b)) (minF r g b))=false) (z12:Float64.isZero (Float64.sub (maxF r g b) (minF r g b))=false) (g17:(Float64.cmp r (maxF r g b) == some .eq)=false) (g18:(Float64.cmp g (maxF r g b) == some .eq)=false) :
    Spec (VV ⟨w,b1,b2,b3⟩) 400 (.call (.ref 207) ⟨[.float r t1,.float g t2,.float b t3],[]⟩) [] (fun o=>⟨.ok (.ret (.ref (A (o.v 0)))),[],[(A (o.v 0),tup [.float ((Float64.divmod (Float64.div (Float64.sub (Float64.add c4 (Float64.div (Float64.sub (maxF r g b) g) (Float64.sub (maxF r g b) (minF r g b)))) (Float64.div (Float64.sub (maxF r g b) r) (Float64.sub (maxF r g b) (minF r g b)))) c6) Float64.one).2) (o.v 1),.float (Float64.div (Float64.add (maxF r g b) (minF r g b)) c2) (o.v 2),.float (Float64.div (Float64.sub (maxF r g b) (minF r g b)) (Float64.sub (Float64.sub c2 (maxF r g b)) (minF r g b))) (o.v 3)])]⟩):=by
  refine spec_run [] 3000 (pl_hls_6 w b1 b2 b3 r g b t1 t2 t3 g6 g7 z10 z12 g17 g18) rfl fun x t => ?_
  cases b1 <;> kernel_rfl
noncomputable def pl_lsh_0 (w:World) (b1 b2 b3:Bool) (s:UInt64) (t2 t3:Tok) (g1:(Float64.cmp s (Float64.zero false) == some .eq)=true):Nat→Nat→PlanOk (VV ⟨w,b1,b2,b3⟩):=fun x t =>
    useQ (k_r_feq (D:=900) s t3 (Float64.zero false) (Nat.add t 3) true g1) 19343993706022166836822018 [] fun o1 =>
    finK 16513 (pick [o1.x,t2,t2,t2]) [1]
theorem lsh_0 (h l s:UInt64) (t1 t2 t3:Tok) (g1:(Float64.cmp s (Float64.zero false) == some .eq)=true) :
    Spec (VV ⟨w,b1,b2,b3⟩) 400 (.call (.ref 214) ⟨[.float h t1,.float l t2,.float s t3],[]⟩) [] (fun o=>⟨.ok (.ret (.ref (A (o.v 0)))),[],[(A (o.v 0),tup [.float l (o.v 1),.float l (o.v 2),.float l (o.v 3)])]⟩):=by
  refine spec_run [] 3000 (pl_lsh_0 w b1 b2 b3 s t2 t3 g1) rfl fun x t => ?_
  cases b1 <;> kernel_rfl
noncomputable def pl_lsh_1 (w:World) (b1 b2 b3:Bool) (h l s:UInt64) (t1 t2 t3:Tok) (g1:(Float64.cmp s (Float64.zero false) == some .eq)=false) (g2:leB l Float64.half=true):Nat→Nat→PlanOk (VV ⟨w,b1,b2,b3⟩):=fun x t =>
    useQ (k_r_feq (D:=900) s t3 (Float64.zero false) (Nat.add t 3) false g1) 19343993706022166836822018 [] fun o1 =>
    useQ (k_r_fle (D:=900) l t2 Float64.half (Nat.add o1.t 0) true g2) 16385 [] fun o2 =>
    useQ (k_r_fadd (D:=900) Float64.one (Nat.add o2.t 0) s t3) 2097281 [] fun o3 =>
    useQ (k_r_fmul (D:=900) l t2 (Float64.add Float64.one s) (o3.v 0)) 128 [] fun o4 =>
    useQ (k_r_fmul (D:=900) c2 (Nat.add o4.t 1) l t2) 268451969 [] fun o5 =>
    useQ (k_r_fsub (D:=900) (Float64.mul c2 l) (o5.v 0) (Float64.mul l (Float64.add Float64.one s)) (o4.v 0)) 16385 [] fun o6 =>
    useQ (k_r_fadd (D:=900) h t1 c13 556) 72057628668199041 [] fun o7 =>
    useQ (k_sp_v w b1 b2 b3 (Float64.sub (Float64.mul c2 l) (Float64.mul l (Float64.add Float64.one s))) (Float64.mul l (Float64.add Float64.one s)) (Float64.add h c13) (o6.v 0) (o4.v 0) (o7.v 0)) 128 [] fun o8 =>
    useQ (k_sp_v w b1 b2 b3 (Float64.sub (Float64.mul c2 l) (Float64.mul l (Float64.add Float64.one s))) (Float64.mul l (Float64.add Float64.one s)) h (o6.v 0) (o4.v 0) t1) 34361852032 [] fun o9 =>
    useQ (k_r_fsub (D:=900) h t1 c13 556) 4398048624768 [] fun o10 =>
    useQ (k_sp_v w b1 b2 b3 (Float64.sub (Float64.mul c2 l) (Float64.mul l (Float64.add Float64.one s))) (Float64.mul l (Float64.add Float64.one s)) (Float64.sub h c13) (o6.v 0) (o4.v 0) (o10.v 0)) 128 [] fun o11 =>
    finK 0 (pick [o11.x,(o8.v 0),(o9.v 0),(o11.v 0)]) [1]
theorem lsh_1 (h l s:UInt64) (t1 t2 t3:Tok) (g1:(Float64.cmp s (Float64.zero false) == some .eq)=false) (g2:leB l Float64.half=true) :
    Spec (VV ⟨w,b1,b2,b3⟩) 400 (.call (.ref 214) ⟨[.float h t1,.float l t2,.float s t3],[]⟩) [] (fun o=>⟨.ok (.ret (.ref (A (o.v 0)))),[],[(A (o.v 0),tup [.float (vF (Float64.sub (Float64.mul c2 l) (Float64.mul l (Float64.add Float64.one s))) (Float64.mul l (Float64.add Float64.one s)) (Float64.add h c13)) (o.v 1),.float (vF (Float64.sub (Float64.mul c2 l) (Float64.mul l (Float64.add Float64.one s))) (Float64.mul l (Float64.add Float64.one s)) h) (o.v 2),.float (vF (Float64.sub (Float64.mul c2 l) (Float64.mul l (Float64.add Float64.one s))) (Float64.mul l (Float64.add Float64.one s)) (Float64.sub h c13)) (o.v 3)])]⟩):=by
  refine spec_run [] 3000 (pl_lsh_1 w b1 b2 b3 h l s t1 t2 t3 g1 g2) rfl fun x t => ?_
  cases b1 <;> kernel_rfl
noncomputable def pl_lsh_2 (w:World) (b1 b2 b3:Bool) (h l s:UInt64) (t1 t2 t3:Tok) (g1:(Float64.cmp s (Float64.zero false) == some .eq)=false) (g2:leB l Float64.half=false):Nat→Nat→PlanOk (VV ⟨w,b1,b2,b3⟩):=fun x t =>
    useQ (k_r_feq (D:=900) s t3 (Float64.zero false) (Nat.add t 3) false g1) 19343993706022166836822018 [] fun o1 =>
    useQ (k_r_fle (D:=900) l t2 Float64.half (Nat.add o1.t 0) false g2) 16385 [] fun o2 =>
    useQ (k_r_fadd (D:=900) l t2 s t3) 2097281 [] fun o3 =>
    useQ (k_r_fmul (D:=900) l t2 s t3) 2097281 [] fun o4 =>
    useQ (k_r_fsub (D:=900) (Float64.add l s) (o3.v 0) (Float64.mul l s) (o4.v 0)) 128 [] fun o5 =>
    useQ (k_r_fmul (D:=900) c2 (Nat.add o5.t 1) l t2) 268451969 [] fun o6 =>
    useQ (k_r_fsub (D:=900) (Float64.mul c2 l) (o6.v 0) (Float64.sub (Float64.add l s) (Float64.mul l s)) (o5.v 0)) 16385 [] fun o7 =>
    useQ (k_r_fadd (D:=900) h t1 c13 556) 72057628668199041 [] fun o8 =>
    useQ (k_sp_v w b1 b2 b3 (Float64.sub (Float64.mul c2 l) (Float64.sub (Float64.add l s) (Float64.mul l s))) (Float64.sub (Float64.add l s) (Float64.mul l s)) (Float64.add h c13) (o7.v 0) (o5.v 0) (o8.v 0)) 128 [] fun o9 =>
    useQ (k_sp_v w b1 b2 b3 (Float64.sub (Float64.mul c2 l) (Float64.sub (Float64.add l s) (Float64.mul l s))) (Float64.sub (Float64.add l s) (Float64.mul l s)) h (o7.v 0) (o5.v 0) t1) 34361852032 [] fun o10 =>
    useQ (k_r_fsub (D:=900) h t1 c13 556) 4398048624768 [] fun o11 =>
    useQ (k_sp_v w b1 b2 b3 (Float64.sub (Float64.mul c2 l) (Float64.sub (Float64.add l s) (Float64.mul l s))) (Float64.sub (Float64.add l s) (Float64.mul l s)) (Float64.sub h c13) (o7.v 0) (o5.v 0) (o11.v 0)) 128 [] fun o12 =>
    finK 0 (pick [o12.x,(o9.v 0),(o10.v 0),(o12.v 0)]) [1]
theorem lsh_2 (h l s:UInt64) (t1 t2 t3:Tok) (g1:(Float64.cmp s (Float64.zero false) == some .eq)=false) (g2:leB l Float64.half=false) :
    Spec (VV ⟨w,b1,b2,b3⟩) 400 (.call (.ref 214) ⟨[.float h t1,.float l t2,.float s t3],[]⟩) [] (fun o=>⟨.ok (.ret (.ref (A (o.v 0)))),[],[(A (o.v 0),tup [.float (vF (Float64.sub (Float64.mul c2 l) (Float64.sub (Float64.add l s) (Float64.mul l s))) (Float64.sub (Float64.add l s) (Float64.mul l s)) (Float64.add h c13)) (o.v 1),.float (vF (Float64.sub (Float64.mul c2 l) (Float64.sub (Float64.add l s) (Float64.mul l s))) (Float64.sub (Float64.add l s) (Float64.mul l s)) h) (o.v 2),.float (vF (Float64.sub (Float64.mul c2 l) (Float64.sub (Float64.add l s) (Float64.mul l s))) (Float64.sub (Float64.add l s) (Float64.mul l s)) (Float64.sub h c13)) (o.v 3)])]⟩):=by
  refine spec_run [] 3000 (pl_lsh_2 w b1 b2 b3 h l s t1 t2 t3 g1 g2) rfl fun x t => ?_
  cases b1 <;> kernel_rfl
end
section
variable (w:World) (b1 b2 b3:Bool)
noncomputable def pl_hsv_0 (w:World) (b1 b2 b3:Bool) (r g b:UInt64) (t1 t2 t3:Tok) (g4:(Float64.cmp (minF r g b) (maxF r g b) == some .eq)=true):Nat→Nat→PlanOk (VV ⟨w,b1,b2,b3⟩):=fun x t =>
    useQ (k_sp_max w b1 b2 b3 r g b t1 t2 t3) 5192616266407776371042869728788482 [] fun o1 =>
    useQ (k_sp_min w b1 b2 b3 r g b t1 t2 t3) 72062026712612993 [] fun o2 =>
    useQ (k_r_fsub (D:=900) (maxF r g b) (o1.v 0) (minF r g b) (o2.v 0)) 34361852033 [] fun o3 =>
    useQ (k_r_feq (D:=900) (minF r g b) (o2.v 0) (maxF r g b) (o1.v 0) true g4) 72062026714726529 [] fun o4 =>
    finK 1 (pick [o4.x,(Nat.add o4.t 0),(Nat.add o4.t 1),(o1.v 0)]) [1]
theorem hsv_0 (r g b:UInt64) (t1 t2 t3:Tok) (g4:(Float64.cmp (minF r g b) (maxF r g b) == some .eq)=true) :
    Spec (VV ⟨w,b1,b2,b3⟩) 400 (.call (.ref 228) ⟨[.float r t1,.float g t2,.float b t3],[]⟩) [] (fun o=>⟨.ok (.ret (.ref (A (o.v 0)))),[],[(A (o.v 0),tup [.float (Float64.zero false) (o.v 1),.float (Float64.zero false) (o.v 2),.float (maxF r g b) (o.v 3)])]⟩):=by
  refine spec_run [] 3000 (pl_hsv_0 w b1 b2 b3 r g b t1 t2 t3 g4) rfl fun x t => ?_
  cases b1 <;> kernel_rfl
noncomputable def pl_hsv_1 (w:World) (b1 b2 b3:Bool) (r g b:UInt64) (t1 t2 t3:Tok) (g4:(Float64.cmp (minF r g b) (maxF r g b) == some .eq)=false) (z5:Float64.isZero (maxF r g b)=false) (z7:Float64.isZero (Float64.sub (maxF r g b) (minF r g b))=false) (g12:(Float64.cmp r (maxF r g b) == some .eq)=true):Nat→Nat→PlanOk (VV ⟨w,b1,b2,b3⟩):=fun x t =>
    useQ (k_sp_max w b1 b2 b3 r g b t1 t2 t3) 5192616266407776371042869728788482 [] fun o1 =>
    useQ (k_sp_min w b1 b2 b3 r g b t1 t2 t3) 72062026712612993 [] fun o2 =>
    useQ (k_r_fsub (D:=900) (maxF r g b) (o1.v 0) (minF r g b) (o2.v 0)) 34361852033 [] fun o3 =>
    useQ (k_r_feq (D:=900) (minF r g b) (o2.v 0) (maxF r g b) (o1.v 0) false g4) 72062026714726529 [] fun o4 =>
    useQ (k_r_fdiv (D:=900) (Float64.sub (maxF r g b) (minF r g b)) (o3.v 0) (maxF r g b) (o1.v 0) z5) 2097281 [] fun o5 =>
    useQ (k_r_fsub (D:=900) (maxF r g b) (o1.v 0) r t1) 34361852033 [] fun o6 =>
    useQ (k_r_fdiv (D:=900) (Float64.sub (maxF r g b) r) (o6.v 0) (Float64.sub (maxF r g b) (minF r g b)) (o3.v 0) z7) 16385 [] fun o7 =>
    useQ (k_r_fsub (D:=900) (maxF r g b) (o1.v 0) g t2) 34361852033 [] fun o8 =>
    useQ (k_r_fdiv (D:=900) (Float64.sub (maxF r g b) g) (o8.v 0) (Float64.sub (maxF r g b) (minF r g b)) (o3.v 0) z7) 16385 [] fun o9 =>
    useQ (k_r_fsub (D:=900) (maxF r g b) (o1.v 0) b t3) 34361852033 [] fun o10 =>
    useQ (k_r_fdiv (D:=900) (Float64.sub (maxF r g b) b) (o10.v 0) (Float64.sub (maxF r g b) (minF r g b)) (o3.v 0) z7) 16385 [] fun o11 =>
    useQ (k_r_feq (D:=900) r t1 (maxF r g b) (o1.v 0) true g12) 34361852033 [] fun o12 =>
    useQ (k_r_fsub (D:=900) (Float64.div (Float64.sub (maxF r g b) b) (Float64.sub (maxF r g b) (minF r g b))) (o11.v 0) (Float64.div (Float64.sub (maxF r g b) g) (Float64.sub (maxF r g b) (minF r g b))) (o9.v 0)) 2097281 [] fun o13 =>
    useQ (k_r_fdiv (D:=900) (Float64.sub (Float64.div (Float64.sub (maxF r g b) b) (Float64.sub (maxF r g b) (minF r g b))) (Float64.div (Float64.sub (maxF r g b) g) (Float64.sub (maxF r g b) (minF r g b)))) (o13.v 0) c6 (Nat.add o13.t 1) (by decide +kernel)) 268451969 [] fun o14 =>
    useQ (k_r_fmod (D:=900) (Float64.div (Float64.sub (Float64.div (Float64.sub (maxF r g b) b) (Float64.sub (maxF r g b) (minF r g b))) (Float64.div (Float64.sub (maxF r g b) g) (Float64.sub (maxF r g b) (minF r g b)))) c6) (o14.v 0) Float64.one (Nat.add o14.t 0) (by decide +kernel)) 128 [] fun o15 =>
    finK 270549121 (pick [o15.x,(o15.v 0),(o5.v 0),(o1.v 0)]) [1]
theorem hsv_1 (r g b:UInt64) (t1 t2 t3:Tok) (g4:(Float64.cmp (minF r g b) (maxF r g b) == some .eq)=false) (z5:Float64.isZero (maxF r g b)=false) (z7:Float64.isZero (Float64.sub (maxF r g b) (minF r g b))=false) (g12:(Float64.cmp r (maxF r g b) == some .eq)=true) :
    Spec (VV ⟨w,b1,b2,b3⟩) 400 (.call (.ref 228) ⟨[.float r t1,.float g t2,.float b t3],[]⟩) [] (fun o=>⟨.ok (.ret (.ref (A (o.v 0)))),[],[(A (o.v 0),tup [.float ((Float64.divmod (Float64.div (Float64.sub (Float64.div (Float64.sub (maxF r g b) b) (Float64.sub (maxF r g b) (minF r g b))) (Float64.div (Float64.sub (maxF r g b) g) (Float64.sub (maxF r g b) (minF r g b)))) c6) Float64.one).2) (o.v 1),.float (Float64.div (Float64.sub (maxF r g b) (minF r g b)) (maxF r g b)) (o.v 2),.float (maxF r g b) (o.v 3)])]⟩):=by
  refine spec_run [] 3000 (pl_hsv_1 w b1 b2 b3 r g b t1 t2 t3 g4 z5 z7 g12) rfl fun x t => ?_
  cases b1 <;> kernel_rfl
noncomputable def pl_hsv_2 (w:World) (b1 b2 b3:Bool) (r g b:UInt64) (t1 t2 t3:Tok) (g4:(Float64.cmp (minF r g b) (maxF r g b) == some .eq)=false) (z5:Float64.isZero (maxF r g b)=false) (z7:Float64.isZero (Float64.sub (maxF r g b) (minF r g b))=false) (g12:(Float64.cmp r (maxF r g b) == some .eq)=false) (g13:(Float64.cmp g (maxF r g b) == some .eq)=true):Nat→Nat→PlanOk (VV ⟨w,b1,b2,b3⟩):=fun x t =>
    useQ (k_sp_max w b1 b2 b3 r g b t1 t2 t3) 5192616266407776371042869728788482 [] fun o1 =>
    useQ (k_sp_min w b1 b2 b3 r g b t1 t2 t3) 72062026712612993 [] fun o2 =>
    useQ (k_r_fsub (D:=900) (maxF r g b) (o1.v 0) (minF r g b) (o2.v 0)) 34361852033 [] fun o3 =>
    useQ (k_r_feq (D:=900) (minF r g b) (o2.v 0) (maxF r g b) (o1.v 0) false g4) 72062026714726529 [] fun o4 =>
    useQ (k_r_fdiv (D:=900) (Float64.sub (maxF r g b) (minF r g b)) (o3.v 0) (maxF r g b) (o1.v 0) z5) 2097281 [] fun o5 =>
    useQ (k_r_fsub (D:=900) (maxF r g b) (o1.v 0) r t1) 34361852033 [] fun o6 =>
    useQ (k_r_fdiv (D:=900) (Float64.sub (maxF r g b) r) (o6.v 0) (Float64.sub (maxF r g b) (minF r g b)) (o3.v 0) z7) 16385 [] fun o7 =>
    useQ (k_r_fsub (D:=900) (maxF r g b) (o1.v 0) g t2) 34361852033 [] fun o8 =>
    useQ (k_r_fdiv (D:=900) (Float64.sub (maxF r g b) g) (o8.v 0) (Float64.sub (maxF r g b) (minF r g b)) (o3.v 0) z7) 16385 [] fun o9 =>
    useQ (k_r_fsub (D:=900) (maxF r g b) (o1.v 0) b t3) 34361852033 [] fun o10 =>
    useQ (k_r_fdiv (D:=900) (Float64.sub (maxF r g b) b) (o10.v 0) (Float64.sub (maxF r g b) (minF r g b)) (o3.v 0) z7) 16385 [] fun o11 =>
    useQ (k_r_feq (D:=900) r t1 (maxF r g b) (o1.v 0) false g12) 34361852033 [] fun o12 =>
    useQ (k_r_feq (D:=900) g t2 (maxF r g b) (o1.v 0) true g13) 2097281 [] fun o13 =>
    useQ (k_r_fadd (D:=900) c2 (Nat.add o13.t 0) (Float64.div (Float64.sub (maxF r g b) r) (Float64.sub (maxF r g b) (minF r g b))) (o7.v 0)) 16385 [] fun o14 =>
    useQ (k_r_fsub (D:=900) (Float64.add c2 (Float64.div (Float64.sub (maxF r g b) r) (Float64.sub (maxF r g b) (minF r g b)))) (o14.v 0) (Float64.div (Float64.sub (maxF r g b) b) (Float64.sub (maxF r g b) (minF r g b))) (o11.v 0)) 16385 [] fun o15 =>
    useQ (k_r_fdiv (D:=900) (Float64.sub (Float64.add c2 (Float64.div (Float64.sub (maxF r g b) r) (Float64.sub (maxF r g b) (minF r g b)))) (Float64.div (Float64.sub (maxF r g b) b) (Float64.sub (maxF r g b) (minF r g b)))) (o15.v 0) c6 (Nat.add o15.t 1) (by decide +kernel)) 268451969 [] fun o16 =>
    useQ (k_r_fmod (D:=900) (Float64.div (Float64.sub (Float64.add c2 (Float64.div (Float64.sub (maxF r g b) r) (Float64.sub (maxF r g b) (minF r g b)))) (Float64.div (Float64.sub (maxF r g b) b) (Float64.sub (maxF r g b) (minF r g b)))) c6) (o16.v 0) Float64.one (Nat.add o16.t 0) (by decide +kernel)) 128 [] fun o17 =>
    finK 270549121 (pick [o17.x,(o17.v 0),(o5.v 0),(o1.v 0)]) [1]
theorem hsv_2 (r g b:UInt64) (t1 t2 t3:Tok) (g4:(Float64.cmp (minF r g b) (maxF r g b) == some .eq)=false) (z5:Float64.isZero (maxF r g b)=false) (z7:Float64.isZero (Float64.sub (maxF r g b) (minF r g b))=false) (g12:(Float64.cmp r (maxF r g b) == some .eq)=false) (g13:(Float64.cmp g (maxF r g b) == some .eq)=true) :
    Spec (VV ⟨w,b1,b2,b3⟩) 400 (.call (.ref 228) ⟨[.float r t1,.float g t2,.float b t3],[]⟩) [] (fun o=>⟨.ok (.ret (.ref (A (o.v 0)))),[],[(A (o.v 0),tup [.float ((Float64.divmod (Float64.div (Float64.sub (Float64.add c2 (Float64.div (Float64.sub (maxF r g b) r) (Float64.sub (maxF r g b) (minF r g b)))) (Float64.div (Float64.sub (maxF r g b) b) (Float64.sub (maxF r g b) (minF r g b)))) c6) Float64.one).2) (o.v 1),.float (Float64.div (Float64.sub (maxF r g b) (minF r g b)) (maxF r g b)) (o.v 2),.float (maxF r g b) (o.v 3)])]⟩):=by
  refine spec_run [] 3000 (pl_hsv_2 w b1 b2 b3 r g b t1 t2 t3 g4 z5 z7 g12 g13) rfl fun x t => ?_
  cases b1 <;> kernel_rfl
noncomputable def pl_hsv_3 (w:World) (b1 b2 b3:Bool) (r g b:UInt64) (t1 t2 t3:Tok) (g4:(Float64.cmp (minF r g b) (maxF r g b) == some .eq)=false) (z5:Float64.isZero (maxF r g b)=false) (z7:Float64.isZero (Float64.sub (maxF r g b) (minF r g b))=false) (g12:(Float64.cmp r (maxF r g b) == some .eq)=false) (g13:(Float64.cmp g (maxF r g b) == some .eq)=false):Nat→Nat→PlanOk (VV ⟨w,b1,b2,b3⟩):=fun x t =>
    useQ (k_sp_max w b1 b2 b3 r g b t1 t2 t3) 5192616266407776371042869728788482 [] fun o1 =>
    useQ (k_sp_min w b1 b2 b3 r g b t1 t2 t3) 72062026712612993 [] fun o2 =>
    useQ (k_r_fsub (D:=900) (maxF r g b) (o1.v 0) (minF r g b) (o2.v 0)) 34361852033 [] fun o3 =>
    useQ (k_r_feq (D:=900) (minF r g b) (o2.v 0) (maxF r g b) (o1.v 0) false g4) 72062026714726529 [] fun o4 =>
    useQ (k_r_fdiv (D:=900) (Float64.sub (maxF r g b) (minF r g b)) (o3.v 0) (maxF r g b) (o1.v 0) z5) 2097281 [] fun o5 =>
    useQ (k_r_fsub (D:=900) (maxF r g b) (o1.v 0) r t1) 34361852033 [] fun o6 =>
    useQ (k_r_fdiv (D:=900) (Float64.sub (maxF r g b) r) (o6.v 0) (Float64.sub (maxF r g b) (minF r g b)) (o3.v 0) z7) 16385 [] fun o7 =>
    useQ (k_r_fsub (D:=900) (maxF r g b) (o1.v 0) g t2) 34361852033 [] fun o8 =>
    useQ (k_r_fdiv (D:=900) (Float64.sub (maxF r g b) g) (o8.v 0) (Float64.sub (maxF r g b) (minF r g b)) (o3.v 0) z7) 16385 [] fun o9 =>
    useQ (k_r_fsub (D:=900) (maxF r g b) (o1.v 0) b t3) 34361852033 [] fun o10 =>
    useQ (k_r_fdiv (D:=900) (Float64.sub (maxF r g b) b) (o10.v 0) (Float64.sub (maxF r g b) (minF r g b)) (o3.v 0) z7) 16385 [] fun o11 =>
    useQ (k_r_feq (D:=900) r t1 (maxF r g b) (o1.v 0) false g12) 34361852033 [] fun o12 =>
    useQ (k_r_feq (D:=900) g t2 (maxF r g b) (o1.v 0) false g13) 2097281 [] fun o13 =>
    useQ (k_r_fadd (D:=900) c4 (Nat.add o13.t 0) (Float64.div (Float64.sub (maxF r g b) g) (Float64.sub (maxF r g b) (minF r g b))) (o9.v 0)) 16385 [] fun o14 =>
    useQ (k_r_fsub (D:=900) (Float64.add c4 (Float64.div (Float64.sub (maxF r g b) g) (Float64.sub (maxF r g b) (minF r g b)))) (o14.v 0) (Float64.div (Float64.sub (maxF r g b) r) (Float64.sub (maxF r g b) (minF r g b))) (o7.v 0)) 16385 [] fun o15 =>
    useQ (k_r_fdiv (D:=900) (Float64.sub (Float64.add c4 (Float64.div (Float64.sub (maxF r g b) g) (Float64.sub (maxF r g b) (minF r g b)))) (Float64.div (Float64.sub (maxF r g b) r) (Float64.sub (maxF r g b) (minF r g b)))) (o15.v 0) c6 (Nat.add o15.t 1) (by decide +kernel)) 268451969 [] fun o16 =>
    useQ (k_r_fmod (D:=900) (Float64.div (Float64.sub (Float64.add c4 (Float64.div (Float64.sub (maxF r g b) g) (Float64.sub (maxF r g b) (minF r g b)))) (Float64.div (Float64.sub (maxF r g b) r) (Float64.sub (maxF r g b) (minF r g b)))) c6) (o16.v 0) Float64.one (Nat.add o16.t 0) (by decide +kernel)) 128 [] fun o17 =>
    finK 270549121 (pick [o17.x,(o17.v 0),(o5.v 0),(o1.v 0)]) [1]
theorem hsv_3 (r g b:UInt64) (t1 t2 t3:Tok) (g4:(Float64.cmp (minF r g b) (maxF r g b) == some .eq)=false) (z5:Float64.isZero (maxF r g b)=false) (z7:Float64.isZero (Float64.sub (maxF r g b) (minF r g b))=false) (g12:(Float64.cmp r (maxF r g b) == some .eq)=false) (g13:(Float64.cmp g (maxF r g b) == some .eq)=false) :
    Spec (VV ⟨w,b1,b2,b3⟩) 400 (.call (.ref 228) ⟨[.float r t1,.float g t2,.float b t3],[]⟩) [] (fun o=>⟨.ok (.ret (.ref (A (o.v 0)))),[],[(A (o.v 0),tup [.float ((Float64.divmod (Float64.div (Float64.sub (Float64.add c4 (Float64.div (Float64.sub (maxF r g b) g) (Float64.sub (maxF r g b) (minF r g b)))) (Float64.div (Float64.sub (maxF r g b) r) (Float64.sub (maxF r g b) (minF r g b)))) c6) Float64.one).2) (o.v 1),.float (Float64.div (Float64.sub (maxF r g b) (minF r g b)) (maxF r g b)) (o.v 2),.float (maxF r g b) (o.v 3)])]⟩):=by
  refine spec_run [] 3000 (pl_hsv_3 w b1 b2 b3 r g b t1 t2 t3 g4 z5 z7 g12 g13) rfl fun x t => ?_
  cases b1 <;> kernel_rfl
noncomputable def pl_vsh_9 (w:World) (b1 b2 b3:Bool) (s:UInt64) (t2 t3:Tok) (g1:(Float64.cmp s (Float64.zero false) == some .eq)=true):Nat→Nat→PlanOk (VV ⟨w,b1,b2,b3⟩):=fun x t =>
    useQ (k_r_feq (D:=900) s t2 (Float64.zero false) (Nat.add t 3) true g1) 19343993706022166836822018 [] fun o1 =>
    finK 16513 (pick [o1.x,t3,t3,t3]) [1]
theorem vsh_9 (h s v:UInt64) (t1 t2 t3:Tok) (g1:(Float64.cmp s (Float64.zero false) == some .eq)=true) :
    Spec (VV ⟨w,b1,b2,b3⟩) 400 (.call (.ref 235) ⟨[.float h t1,.float s t2,.float v t3],[]⟩) [] (fun o=>⟨.ok (.ret (.ref (A (o.v 0)))),[],[(A (o.v 0),tup [.float v (o.v 1),.float v (o.v 2),.float v (o.v 3)])]⟩):=by
  refine spec_run [] 3000 (pl_vsh_9 w b1 b2 b3 s t2 t3 g1) rfl fun x t => ?_
  cases b1 <;> kernel_rfl
noncomputable def pl_yiq_0 (w:World) (b1 b2 b3:Bool) (r g b:UInt64) (t1 t2 t3:Tok):Nat→Nat→PlanOk (VV ⟨w,b1,b2,b3⟩):=fun x t =>
    useQ (k_r_fmul (D:=900) (4599075939470750515:UInt64) (Nat.add t 3) r t1) 19343993706022166836822018 [] fun o1 =>
    useQ (k_r_fmul (D:=900) (4603489467105573601:UInt64) (Nat.add o1.t 0) g t2) 16385 [] fun o2 =>
    useQ (k_r_fadd (D:=900) (Float64.mul (4599075939470750515:UInt64) r) (o1.v 0) (Float64.mul (4603489467105573601:UInt64) g) (o2.v 0)) 128 [] fun o3 =>
    useQ (k_r_fmul (D:=900) (4592590756007337001:UInt64) (Nat.add o3.t 0) b t3) 16385 [] fun o4 =>
    useQ (k_r_fadd (D:=900) (Float64.add (Float64.mul (4599075939470750515:UInt64) r) (Float64.mul (4603489467105573601:UInt64) g)) (o3.v 0) (Float64.mul (4592590756007337001:UInt64) b) (o4.v 0)) 128 [] fun o5 =>
    useQ (k_r_fsub (D:=900) r t1 (Float64.add (Float64.add (Float64.mul (4599075939470750515:UInt64) r) (Float64.mul (4603489467105573601:UInt64) g)) (Float64.mul (4592590756007337001:UInt64) b)) (o5.v 0)) 34361852033 [] fun o6 =>
    useQ (k_r_fmul (D:=900) (4604840546993784750:UInt64) (Nat.add o5.t 1) (Float64.sub r (Float64.add (Float64.add (Float64.mul (4599075939470750515:UInt64) r) (Float64.mul (4603489467105573601:UInt64) g)) (Float64.mul (4592590756007337001:UInt64) b))) (o6.v 0)) 128 [] fun o7 =>
    useQ (k_r_fsub (D:=900) b t3 (Float64.add (Float64.add (Float64.mul (4599075939470750515:UInt64) r) (Float64.mul (4603489467105573601:UInt64) g)) (Float64.mul (4592590756007337001:UInt64) b)) (o5.v 0)) 2097281 [] fun o8 =>
    useQ (k_r_fmul (D:=900) (4598535507515466056:UInt64) (Nat.add o7.t 0) (Float64.sub b (Float64.add (Float64.add (Float64.mul (4599075939470750515:UInt64) r) (Float64.mul (4603489467105573601:UInt64) g)) (Float64.mul (4592590756007337001:UInt64) b))) (o8.v 0)) 128 [] fun o9 =>
    useQ (k_r_fsub (D:=900) (Float64.mul (4604840546993784750:UInt64) (Float64.sub r (Float64.add (Float64.add (Float64.mul (4599075939470750515:UInt64) r) (Float64.mul (4603489467105573601:UInt64) g)) (Float64.mul (4592590756007337001:UInt64) b)))) (o7.v 0) (Float64.mul (4598535507515466056:UInt64) (Float64.sub b (Float64.add (Float64.add (Float64.mul (4599075939470750515:UInt64) r) (Float64.mul (4603489467105573601:UInt64) g)) (Float64.mul (4592590756007337001:UInt64) b)))) (o9.v 0)) 128 [] fun o10 =>
    useQ (k_r_fsub (D:=900) r t1 (Float64.add (Float64.add (Float64.mul (4599075939470750515:UInt64) r) (Float64.mul (4603489467105573601:UInt64) g)) (Float64.mul (4592590756007337001:UInt64) b)) (o5.v 0)) 34361852033 [] fun o11 =>
    useQ (k_r_fmul (D:=900) (4602318531202457272:UInt64) (Nat.add o10.t 1) (Float64.sub r (Float64.add (Float64.add (Float64.mul (4599075939470750515:UInt64) r) (Float64.mul (4603489467105573601:UInt64) g)) (Float64.mul (4592590756007337001:UInt64) b))) (o11.v 0)) 128 [] fun o12 =>
    useQ (k_r_fsub (D:=900) b t3 (Float64.add (Float64.add (Float64.mul (4599075939470750515:UInt64) r) (Float64.mul (4603489467105573601:UInt64) g)) (Float64.mul (4592590756007337001:UInt64) b)) (o5.v 0)) 2097281 [] fun o13 =>
    useQ (k_r_fmul (D:=900) (4601057523306793533:UInt64) (Nat.add o12.t 0) (Float64.sub b (Float64.add (Float64.add (Float64.mul (4599075939470750515:UInt64) r) (Float64.mul (4603489467105573601:UInt64) g)) (Float64.mul (4592590756007337001:UInt64) b))) (o13.v 0)) 128 [] fun o14 =>
    useQ (k_r_fadd (D:=900) (Float64.mul (4602318531202457272:UInt64) (Float64.sub r (Float64.add (Float64.add (Float64.mul (4599075939470750515:UInt64) r) (Float64.mul (4603489467105573601:UInt64) g)) (Float64.mul (4592590756007337001:UInt64) b)))) (o12.v 0) (Float64.mul (4601057523306793533:UInt64) (Float64.sub b (Float64.add (Float64.add (Float64.mul (4599075939470750515:UInt64) r) (Float64.mul (4603489467105573601:UInt64) g)) (Float64.mul (4592590756007337001:UInt64) b)))) (o14.v 0)) 128 [] fun o15 =>
    finK 270549121 (pick [o15.x,(o5.v 0),(o10.v 0),(o15.v 0)]) [1]
theorem yiq_0 (r g b:UInt64) (t1 t2 t3:Tok)  :
    Spec (VV ⟨w,b1,b2,b3⟩) 400 (.call (.ref 193) ⟨[.float r t1,.float g t2,.float b t3],[]⟩) [] (fun o=>⟨.ok (.ret (.ref (A (o.v 0)))),[],[(A (o.v 0),tup [.float (Float64.add (Float64.add (Float64.mul (4599075939470750515:UInt64) r) (Float64.mul (4603489467105573601:UInt64) g)) (Float64.mul (4592590756007337001:UInt64) b)) (o.v 1),.float (Float64.sub (Float64.mul (4604840546993784750:UInt64) (Float64.sub r (Float64.add (Float64.add (Float64.mul (4599075939470750515:UInt64) r) (Float64.mul (4603489467105573601:UInt64) g)) (Float64.mul (4592590756007337001:UInt64) b)))) (Float64.mul (4598535507515466056:UInt64) (Float64.sub b (Float64.add (Float64.add (Float64.mul (4599075939470750515:UInt64) r) (Float64.mul (4603489467105573601:UInt64) g)) (Float64.mul (4592590756007337001:UInt64) b))))) (o.v 2),.float (Float64.add (Float64.mul (4602318531202457272:UInt64) (Float64.sub r (Float64.add (Float64.add (Float64.mul (4599075939470750515:UInt64) r) (Float64.mul (4603489467105573601:UInt64) g)) (Float64.mul (4592590756007337001:UInt64) b)))) (Float64.mul (4601057523306793533:UInt64) (Float64.sub b (Float64.add (Float64.add (Float64.mul (4599075939470750515:UInt64) r) (Float64.mul (4603489467105573601:UInt64) g)) (Float64.mul (4592590756007337001:UInt64) b))))) (o.v 3)])]⟩):=by
  refine spec_run [] 3000 (pl_yiq_0 w b1 b2 b3 r g b t1 t2 t3) rfl fun x t => ?_
  cases b1 <;> kernel_rfl
end
section
variable (w:World) (b1 b2 b3:Bool)
noncomputable def pl_sp_vsh (w:World) (b1 b2 b3:Bool) (h s v:UInt64) (t1 t2 t3:Tok) (n:Nat) (g1:(Float64.cmp s (Float64.zero false) == some .eq)=false) (fs:Bool) (fm:Nat) (fe:Int) (f3:Float64.decode (Float64.mul h c6) = .fin fs fm fe) (i3:Float64.truncOf fs fm fe=Int.ofNat n) (hi:Float64.isInf (Float64.ofInt (Int.ofNat n))=false):Nat→Nat→PlanOk (VV ⟨w,b1,b2,b3⟩):=fun x t =>
    useQ (k_r_feq (D:=900) s t2 (Float64.zero false) (Nat.add t 3) false g1) 19343993706022166836822018 [] fun o1 =>
    useQ (k_r_fmul (D:=900) h t1 c6 (Nat.add o1.t 0)) 268451840 [] fun o2 =>
    useQ (k_r_fint (D:=900) (Float64.mul h c6) (o2.v 0) f3 (Int.ofNat n) i3) 34359738368 [] fun o3 =>
    useQ (k_r_fmul (D:=900) h t1 c6 (Nat.add o3.t 1)) 4398317060096 [] fun o4 =>
    useQ (k_r_fsubi (D:=900) (Float64.mul h c6) (o4.v 0) (o3.v 0) (Int.ofNat n) hi) 16385 [] fun o5 =>
    useQ (k_r_fsub (D:=900) Float64.one (Nat.add o5.t 1) s t2) 34361852033 [] fun o6 =>
    useQ (k_r_fmul (D:=900) v t3 (Float64.sub Float64.one s) (o6.v 0)) 128 [] fun o7 =>
    useQ (k_r_fmul (D:=900) s t2 (fracF h n) (o5.v 0)) 4398317060225 [] fun o8 =>
    useQ (k_r_fsub (D:=900) Float64.one (Nat.add o7.t 1) (Float64.mul s (fracF h n)) (o8.v 0)) 128 [] fun o9 =>
    useQ (k_r_fmul (D:=900) v t3 (Float64.sub Float64.one (Float64.mul s (fracF h n))) (o9.v 0)) 128 [] fun o10 =>
    useQ (k_r_fsub (D:=900) Float64.one (Nat.add o10.t 2) (fracF h n) (o5.v 0)) 4398317060225 [] fun o11 =>
    useQ (k_r_fmul (D:=900) s t2 (Float64.sub Float64.one (fracF h n)) (o11.v 0)) 128 [] fun o12 =>
    useQ (k_r_fsub (D:=900) Float64.one (Nat.add o10.t 1) (Float64.mul s (Float64.sub Float64.one (fracF h n))) (o12.v 0)) 128 [] fun o13 =>
    useQ (k_r_fmul (D:=900) v t3 (Float64.sub Float64.one (Float64.mul s (Float64.sub Float64.one (fracF h n)))) (o13.v 0)) 128 [] fun o14 =>
    match n % 6 with
    | 0=>finK 19495109433473995213127809 (pick [o14.x,t3,o14.v 0,o7.v 0]) [1]
    | 1=>finK 40884207738619561146918247612545 (pick [o14.x,o10.v 0,t3,o7.v 0]) [1]
    | 2=>finK 85740398027461489889087034533980684417 (pick [o14.x,o7.v 0,t3,o14.v 0]) [1]
    | 3=>finK 179810647204086918443878643352144377123192961 (pick [o14.x,o7.v 0,o10.v 0,t3]) [1]
    | 4=>finK 377090258405345289188416984663226989910375201259649 (pick [o14.x,o14.v 0,o7.v 0,t3]) [1]
    | _=>finK 790815589595286683912067056220455808335228311788912132225 (pick [o14.x,t3,o7.v 0,o10.v 0]) [1]
theorem sp_vsh (h s v:UInt64) (t1 t2 t3:Tok) (n:Nat) (hn:n < 12) (g1:(Float64.cmp s (Float64.zero false) == some .eq)=false) {fs:Bool} {fm:Nat} {fe:Int} (f3:Float64.decode (Float64.mul h c6) = .fin fs fm fe) (i3:Float64.truncOf fs fm fe=Int.ofNat n) :
    Spec (VV ⟨w,b1,b2,b3⟩) 400 (.call (.ref 235) ⟨[.float h t1,.float s t2,.float v t3],[]⟩) [] (fun o=>⟨.ok (.ret (.ref (A (o.v 0)))),[],[(A (o.v 0),tup [.float (hsvT (fracF h n) s v (n % 6)).1 (o.v 1),.float (hsvT (fracF h n) s v (n % 6)).2.1 (o.v 2),.float (hsvT (fracF h n) s v (n % 6)).2.2 (o.v 3)])]⟩):=by
  have hi:Float64.isInf (Float64.ofInt (Int.ofNat n))=false:=by
    have : ∀ k,k < 12→Float64.isInf (Float64.ofInt (Int.ofNat k))=false:=by decide +kernel
    exact this n hn
  refine spec_run [] 3000 (pl_sp_vsh w b1 b2 b3 h s v t1 t2 t3 n g1 fs fm fe f3 i3 hi) rfl fun x t => ?_
  have hc:n=0∨n=1∨n=2∨n=3∨n=4∨n=5∨n=6∨n=7∨n=8∨n=9∨n=10∨n=11:=(by decide : ∀ n,n < 12→n=0∨n=1∨n=2∨n=3∨n=4∨n=5∨n=6∨n=7∨n=8∨n=9∨n=10∨n=11) n hn
  rcases hc with rfl | rfl | rfl | rfl | rfl | rfl | rfl | rfl | rfl | rfl | rfl | rfl <;> cases b1 <;> kernel_rfl
end
section
variable (w:World) (b1 b2 b3:Bool)
noncomputable def pl_qiy_0 (w:World) (b1 b2 b3:Bool) (y i q:UInt64) (t1 t2 t3:Tok) (c1 c2' c3 d1 d2 d3:Bool) (g1:(Float64.cmp (rF y i q) (Float64.zero false) == some .lt)=c1) (g2:(Float64.cmp (gF y i q) (Float64.zero false) == some .lt)=c2') (g3:(Float64.cmp (bF y i q) (Float64.zero false) == some .lt)=c3) (h1:(Float64.cmp (cond c1 (Float64.zero false) (rF y i q)) Float64.one == some .gt)=d1) (h2:(Float64.cmp (cond c2' (Float64.zero false) (gF y i q)) Float64.one == some .gt)=d2) (h3:(Float64.cmp (cond c3 (Float64.zero false) (bF y i q)) Float64.one == some .gt)=d3):Nat→Nat→PlanOk (VV ⟨w,b1,b2,b3⟩):=fun x t =>
    useQ (k_r_fmul (D:=900) kR1 (Nat.add t 3) i t2) 2476032374890400478486609922 [] fun o1 =>
    useQ (k_r_fadd (D:=900) y t1 (Float64.mul kR1 i) (o1.v 0)) 128 [] fun o2 =>
    useQ (k_r_fmul (D:=900) kR2 (Nat.add o2.t 0) q t3) 16385 [] fun o3 =>
    useQ (k_r_fadd (D:=900) (Float64.add y (Float64.mul kR1 i)) (o2.v 0) (Float64.mul kR2 q) (o3.v 0)) 128 [] fun o4 =>
    useQ (k_r_fmul (D:=900) kG1 (Nat.add o4.t 1) i t2) 34361852033 [] fun o5 =>
    useQ (k_r_fsub (D:=900) y t1 (Float64.mul kG1 i) (o5.v 0)) 128 [] fun o6 =>
    useQ (k_r_fmul (D:=900) kG2 (Nat.add o6.t 0) q t3) 16385 [] fun o7 =>
    useQ (k_r_fsub (D:=900) (Float64.sub y (Float64.mul kG1 i)) (o6.v 0) (Float64.mul kG2 q) (o7.v 0)) 128 [] fun o8 =>
    useQ (k_r_fmul (D:=900) kB1 (Nat.add o8.t 1) i t2) 34361852033 [] fun o9 =>
    useQ (k_r_fsub (D:=900) y t1 (Float64.mul kB1 i) (o9.v 0)) 128 [] fun o10 =>
    useQ (k_r_fmul (D:=900) kB2 (Nat.add o10.t 0) q t3) 16385 [] fun o11 =>
    useQ (k_r_fadd (D:=900) (Float64.sub y (Float64.mul kB1 i)) (o10.v 0) (Float64.mul kB2 q) (o11.v 0)) 128 [] fun o12 =>
    useQ (k_r_flt (D:=900) (rF y i q) (o4.v 0) (Float64.zero false) (Nat.add o12.t 1) c1 g1) 268451969 [] fun o13 =>
    useQ (k_r_flt (D:=900) (gF y i q) (o8.v 0) (Float64.zero false) (Nat.add o13.t (cond c1 2 0)) c2' g2) (cond c1 268451969 16385) [] fun o14 =>
    useQ (k_r_flt (D:=900) (bF y i q) (o12.v 0) (Float64.zero false) (Nat.add o14.t (cond c2' 2 0)) c3 g3) (cond c2' 268451969 16385) [] fun o15 =>
    useQ (k_r_fgt (D:=900) (cond c1 (Float64.zero false) (rF y i q)) (cond c1 (Nat.add o13.t 0) (o4.v 0)) Float64.one (Nat.add o15.t (cond c3 2 0)) d1 h1) (cond c3 268451969 16385) [] fun o16 =>
    useQ (k_r_fgt (D:=900) (cond c2' (Float64.zero false) (gF y i q)) (cond c2' (Nat.add o14.t 0) (o8.v 0)) Float64.one (Nat.add o16.t (cond d1 2 0)) d2 h2) (cond d1 268451969 16385) [] fun o17 =>
    useQ (k_r_fgt (D:=900) (cond c3 (Float64.zero false) (bF y i q)) (cond c3 (Nat.add o15.t 0) (o12.v 0)) Float64.one (Nat.add o17.t (cond d2 2 0)) d3 h3) (cond d2 268451969 16385) [] fun o18 =>
    finK (cond d3 270549121 16513) (pick [o18.x,cond d1 (Nat.add o16.t 0) (cond c1 (Nat.add o13.t 0) (o4.v 0)),cond d2 (Nat.add o17.t 0) (cond c2' (Nat.add o14.t 0) (o8.v 0)),cond d3 (Nat.add o18.t 0) (cond c3 (Nat.add o15.t 0) (o12.v 0))]) [1]
noncomputable def ck_qiy (w:World) (b2 b3:Bool) (y i q:UInt64) (t1 t2 t3:Tok) (x t:Nat) (b1 c1 c2' c3 d1 d2 d3:Bool)
    (g1:(Float64.cmp (rF y i q) (Float64.zero false) == some .lt)=c1) (g2:(Float64.cmp (gF y i q) (Float64.zero false) == some .lt)=c2') (g3:(Float64.cmp (bF y i q) (Float64.zero false) == some .lt)=c3)
    (h1:(Float64.cmp (cond c1 (Float64.zero false) (rF y i q)) Float64.one == some .gt)=d1) (h2:(Float64.cmp (cond c2' (Float64.zero false) (gF y i q)) Float64.one == some .gt)=d2) (h3:(Float64.cmp (cond c3 (Float64.zero false) (bF y i q)) Float64.one == some .gt)=d3):Chk :=
  start (VV ⟨w,b1,b2,b3⟩) ⟨[],[],(fun o=>⟨.ok (.ret (.ref (A (o.v 0)))),[],[(A (o.v 0),tup [.float (cond d1 Float64.one (cond c1 (Float64.zero false) (rF y i q))) (o.v 1),.float (cond d2 Float64.one (cond c2' (Float64.zero false) (gF y i q))) (o.v 2),.float (cond d3 Float64.one (cond c3 (Float64.zero false) (bF y i q))) (o.v 3)])]⟩)⟩ 3000 (pl_qiy_0 w b1 b2 b3 y i q t1 t2 t3 c1 c2' c3 d1 d2 d3 g1 g2 g3 h1 h2 h3 x t).plan (.call (.ref 200) ⟨[.float y t1,.float i t2,.float q t3],[]⟩) 400 x t
theorem qiy_0 (y i q:UInt64) (t1 t2 t3:Tok) (c1 c2' c3 d1 d2 d3:Bool)
    (g1:(Float64.cmp (rF y i q) (Float64.zero false) == some .lt)=c1) (g2:(Float64.cmp (gF y i q) (Float64.zero false) == some .lt)=c2') (g3:(Float64.cmp (bF y i q) (Float64.zero false) == some .lt)=c3)
    (h1:(Float64.cmp (cond c1 (Float64.zero false) (rF y i q)) Float64.one == some .gt)=d1) (h2:(Float64.cmp (cond c2' (Float64.zero false) (gF y i q)) Float64.one == some .gt)=d2) (h3:(Float64.cmp (cond c3 (Float64.zero false) (bF y i q)) Float64.one == some .gt)=d3)
    (k1:c1=true→d1=false) (k2:c2'=true→d2=false) (k3:c3=true→d3=false) :
    Spec (VV ⟨w,b1,b2,b3⟩) 400 (.call (.ref 200) ⟨[.float y t1,.float i t2,.float q t3],[]⟩) [] (fun o=>⟨.ok (.ret (.ref (A (o.v 0)))),[],[(A (o.v 0),tup [.float (cond d1 Float64.one (cond c1 (Float64.zero false) (rF y i q))) (o.v 1),.float (cond d2 Float64.one (cond c2' (Float64.zero false) (gF y i q))) (o.v 2),.float (cond d3 Float64.one (cond c3 (Float64.zero false) (bF y i q))) (o.v 3)])]⟩):=by
  refine spec_run [] 3000 (pl_qiy_0 w b1 b2 b3 y i q t1 t2 t3 c1 c2' c3 d1 d2 d3 g1 g2 g3 h1 h2 h3) rfl fun x t => ?_
  show ck_qiy w b2 b3 y i q t1 t2 t3 x t b1 c1 c2' c3 d1 d2 d3 g1 g2 g3 h1 h2 h3=(ck_qiy w b2 b3 y i q t1 t2 t3 x t b1 c1 c2' c3 d1 d2 d3 g1 g2 g3 h1 h2 h3).dup
  have T : ∀ {c d:Bool},(c=true→d=false)→(c=true∧d=false)∨(c=false∧d=true)∨(c=false∧d=false):=fun {c d} h=>by
    cases c <;> cases d <;> simp at h ⊢
  rcases T k1 with ⟨rfl,rfl⟩ | ⟨rfl,rfl⟩ | ⟨rfl,rfl⟩ <;> rcases T k2 with ⟨rfl,rfl⟩ | ⟨rfl,rfl⟩ | ⟨rfl,rfl⟩ <;> rcases T k3 with ⟨rfl,rfl⟩ | ⟨rfl,rfl⟩ | ⟨rfl,rfl⟩ <;> cases b1 <;> kernel_rfl
theorem sp_qiy (y i q:UInt64) (t1 t2 t3:Tok) :
    Spec (VV ⟨w,b1,b2,b3⟩) 400 (.call (.ref 200) ⟨[.float y t1,.float i t2,.float q t3],[]⟩) [] (fun o=>⟨.ok (.ret (.ref (A (o.v 0)))),[],[(A (o.v 0),tup [.float (clampF (rF y i q)) (o.v 1),.float (clampF (gF y i q)) (o.v 2),.float (clampF (bF y i q)) (o.v 3)])]⟩):=by
  have k : ∀ x:UInt64,(Float64.cmp x (Float64.zero false) == some .lt)=true→(Float64.cmp (cond (Float64.cmp x (Float64.zero false) == some .lt) (Float64.zero false) x) Float64.one == some .gt)=false:=fun x h=>by
    rw [h]; show (Float64.cmp (Float64.zero false) Float64.one == some .gt)=false; decide +kernel
  exact qiy_0 w b1 b2 b3 y i q t1 t2 t3 _ _ _ _ _ _ rfl rfl rfl rfl rfl rfl (k _) (k _) (k _)
end
end Mine
namespace Mine
open PySem PySem.W PySem.W.X PySem.Float64
theorem not_zero {x:UInt64} (h:0 < fv x):isZero x=false:=by
  cases e:isZero x with
  | false=>rfl
  | true =>
    have h0:=isZero_val e
    have v:=fv_val x
    rw [h0] at v
    have:=Rat.mul_pos h uK_pos
    rw [← v] at this
    exact absurd this (by decide)
theorem z_facts {mx mn:Nat} (hmx:mx≤1073741824) (hn:mn < mx):isZero (fl mx)=false∧isZero (sub (fl mx) (fl mn))=false∧isZero (add (fl mx) (fl mn))=false∧isZero (sub (sub c2 (fl mx)) (fl mn))=false:=by
  obtain ⟨a0,a1,a2⟩:=fl_near hmx
  obtain ⟨e0,e1,e2⟩:=fl_near (show mn≤1073741824 by lia)
  have x1:(mx:Rat)≤1073741824:=Rat.natCast_le_natCast.2 hmx
  have x4:(0:Rat)≤(mn:Rat):=Rat.natCast_nonneg
  have x5:((mn+1:Nat):Rat)≤(mx:Rat):=Rat.natCast_le_natCast.2 (by lia)
  rw [Rat.natCast_add,show (((1:Nat):Nat):Rat)=1 from rfl] at x5
  obtain ⟨s0,s1,s2⟩:=add_near a0 e0 (by grind) (by grind)
  obtain ⟨t0,t1,t2⟩:=sub_near a0 e0 (by grind) (by grind)
  obtain ⟨p0,p1,p2⟩:=sub_near c2_fin a0 (by rw [fv_c2]; grind) (by rw [fv_c2]; grind)
  rw [fv_c2] at p1 p2
  obtain ⟨q0,q1,q2⟩:=sub_near p0 e0 (by grind) (by grind)
  exact ⟨not_zero (by grind),not_zero (by grind),not_zero (by grind),not_zero (by grind)⟩
section
variable (w:World) (b1 b2 b3:Bool)
theorem sp_hls (p q s:Nat) (hp:p≤1073741824) (hq:q≤1073741824) (hs:s≤1073741824) (t1 t2 t3:Tok) :
    Spec (VV ⟨w,b1,b2,b3⟩) 400 (.call (.ref 207) ⟨[.float (fl p) t1,.float (fl q) t2,.float (fl s) t3],[]⟩) [] (fun o=>⟨.ok (.ret (.ref (A (o.v 0)))),[],[(A (o.v 0),tup [.float (hlsF (fl p) (fl q) (fl s)).1 (o.v 1),.float (hlsF (fl p) (fl q) (fl s)).2.1 (o.v 2),.float (hlsF (fl p) (fl q) (fl s)).2.2 (o.v 3)])]⟩):=by
  have eM:=maxF_fl hp hq hs
  have em:=minF_fl hp hq hs
  cases g:(cmp (minF (fl p) (fl q) (fl s)) (maxF (fl p) (fl q) (fl s)) == some .eq) with
  | true=>rw [show hlsF (fl p) (fl q) (fl s)=_ from if_pos g]; exact hls_0 w b1 b2 b3 _ _ _ t1 t2 t3 g
  | false =>
    have hne:min (min p q) s < max (max p q) s:=by
      rw [eM,em,eq_fl (by lia) (by lia)] at g
      have:=of_decide_eq_false g
      lia
    obtain ⟨_,z1,z2,z3⟩:=z_facts (by lia) hne
    rw [← eM,← em] at z1 z2 z3
    have e:hlsF (fl p) (fl q) (fl s)=(hueF (maxF (fl p) (fl q) (fl s)) (minF (fl p) (fl q) (fl s)) (fl p) (fl q) (fl s),lF (maxF (fl p) (fl q) (fl s)) (minF (fl p) (fl q) (fl s)),sF (maxF (fl p) (fl q) (fl s)) (minF (fl p) (fl q) (fl s))):=if_neg (by rw [g]; decide)
    rw [e]
    unfold hueF sF
    dsimp only
    cases h1:leB (lF (maxF (fl p) (fl q) (fl s)) (minF (fl p) (fl q) (fl s))) half with
    | true =>
      cases k1:(cmp (fl p) (maxF (fl p) (fl q) (fl s)) == some .eq) with
      | true=>simp only [Bool.false_eq_true,if_false,if_true]; exact hls_1 w b1 b2 b3 _ _ _ t1 t2 t3 g h1 z2 z1 k1
      | false =>
        cases k2:(cmp (fl q) (maxF (fl p) (fl q) (fl s)) == some .eq) with
        | true=>simp only [Bool.false_eq_true,if_false,if_true]; exact hls_2 w b1 b2 b3 _ _ _ t1 t2 t3 g h1 z2 z1 k1 k2
        | false=>simp only [Bool.false_eq_true,if_false,if_true]; exact hls_3 w b1 b2 b3 _ _ _ t1 t2 t3 g h1 z2 z1 k1 k2
    | false =>
      cases k1:(cmp (fl p) (maxF (fl p) (fl q) (fl s)) == some .eq) with
      | true=>simp only [Bool.false_eq_true,if_false,if_true]; exact hls_4 w b1 b2 b3 _ _ _ t1 t2 t3 g h1 z3 z1 k1
      | false =>
        cases k2:(cmp (fl q) (maxF (fl p) (fl q) (fl s)) == some .eq) with
        | true=>simp only [Bool.false_eq_true,if_false,if_true]; exact hls_5 w b1 b2 b3 _ _ _ t1 t2 t3 g h1 z3 z1 k1 k2
        | false=>simp only [Bool.false_eq_true,if_false,if_true]; exact hls_6 w b1 b2 b3 _ _ _ t1 t2 t3 g h1 z3 z1 k1 k2
theorem sp_hsv (p q s:Nat) (hp:p≤1073741824) (hq:q≤1073741824) (hs:s≤1073741824) (t1 t2 t3:Tok) :
    Spec (VV ⟨w,b1,b2,b3⟩) 400 (.call (.ref 228) ⟨[.float (fl p) t1,.float (fl q) t2,.float (fl s) t3],[]⟩) [] (fun o=>⟨.ok (.ret (.ref (A (o.v 0)))),[],[(A (o.v 0),tup [.float (hsvF (fl p) (fl q) (fl s)).1 (o.v 1),.float (hsvF (fl p) (fl q) (fl s)).2.1 (o.v 2),.float (hsvF (fl p) (fl q) (fl s)).2.2 (o.v 3)])]⟩):=by
  have eM:=maxF_fl hp hq hs
  have em:=minF_fl hp hq hs
  cases g:(cmp (minF (fl p) (fl q) (fl s)) (maxF (fl p) (fl q) (fl s)) == some .eq) with
  | true=>rw [show hsvF (fl p) (fl q) (fl s)=_ from if_pos g]; exact hsv_0 w b1 b2 b3 _ _ _ t1 t2 t3 g
  | false =>
    have hne:min (min p q) s < max (max p q) s:=by
      rw [eM,em,eq_fl (by lia) (by lia)] at g
      have:=of_decide_eq_false g
      lia
    obtain ⟨z0,z1,_,_⟩:=z_facts (by lia) hne
    rw [← eM] at z0
    rw [← eM,← em] at z1
    have e:hsvF (fl p) (fl q) (fl s)=(hueF (maxF (fl p) (fl q) (fl s)) (minF (fl p) (fl q) (fl s)) (fl p) (fl q) (fl s),div (sub (maxF (fl p) (fl q) (fl s)) (minF (fl p) (fl q) (fl s))) (maxF (fl p) (fl q) (fl s)),maxF (fl p) (fl q) (fl s)):=if_neg (by rw [g]; decide)
    rw [e]
    unfold hueF
    dsimp only
    cases k1:(cmp (fl p) (maxF (fl p) (fl q) (fl s)) == some .eq) with
    | true=>simp only [Bool.false_eq_true,if_false,if_true]; exact hsv_1 w b1 b2 b3 _ _ _ t1 t2 t3 g z0 z1 k1
    | false =>
      cases k2:(cmp (fl q) (maxF (fl p) (fl q) (fl s)) == some .eq) with
      | true=>simp only [Bool.false_eq_true,if_false,if_true]; exact hsv_2 w b1 b2 b3 _ _ _ t1 t2 t3 g z0 z1 k1 k2
      | false=>simp only [Bool.false_eq_true,if_false,if_true]; exact hsv_3 w b1 b2 b3 _ _ _ t1 t2 t3 g z0 z1 k1 k2
theorem sp_lsh (h l s:UInt64) (t1 t2 t3:Tok) (g1:(cmp s (zero false) == some .eq)=false) :
    Spec (VV ⟨w,b1,b2,b3⟩) 400 (.call (.ref 214) ⟨[.float h t1,.float l t2,.float s t3],[]⟩) [] (fun o=>⟨.ok (.ret (.ref (A (o.v 0)))),[],[(A (o.v 0),tup [.float (vF (m1F l s) (m2F l s) (add h c13)) (o.v 1),.float (vF (m1F l s) (m2F l s) h) (o.v 2),.float (vF (m1F l s) (m2F l s) (sub h c13)) (o.v 3)])]⟩):=by
  unfold m1F m2F
  cases h1:leB l half with
  | true=>rw [if_pos rfl]; exact lsh_1 w b1 b2 b3 h l s t1 t2 t3 g1 h1
  | false=>rw [if_neg (by decide)]; exact lsh_2 w b1 b2 b3 h l s t1 t2 t3 g1 h1
end
end Mine
namespace Mine
open PySem PySem.W PySem.W.X
noncomputable abbrev Tri (x1 x2 x3:UInt64):Out→Post:=fun o=>⟨.ok (.ret (.ref (A (o.v 0)))),[],[(A (o.v 0),tup [.float x1 (o.v 1),.float x2 (o.v 2),.float x3 (o.v 3)])]⟩
section
variable (w:World) (b1 b2 b3:Bool)
noncomputable def pl_deed_f (w:World) (b1 b2 b3:Bool) (d:Nat) (p' q' s':UInt64) (T:UInt64 × UInt64 × UInt64) (x1 x2 x3:UInt64) (hx : ∀ t1 t2 t3,Spec (VV ⟨w,b1,b2,b3⟩) 400 (.call (.ref 214) ⟨[.float T.1 t1,.float (Float64.sub Float64.one T.2.1) t2,.float T.2.2 t3],[]⟩) [] (Tri x1 x2 x3)) (u t1 t2 t3:Nat) (h1 : ∀ t1 t2 t3,Spec (VV ⟨w,b1,b2,b3⟩) 400 (.call (.ref 207) ⟨[.float p' t1,.float q' t2,.float s' t3],[]⟩) [] (Tri T.1 T.2.1 T.2.2)):Nat→Nat→PlanOk (VV ⟨w,b1,b2,b3⟩):=fun x t =>
    useQ (k_r_sget (D:=900) [102,45,d] u 0 (Nat.add t 2) 102 rfl (by decide)) 1180735735974747734018 [] fun o1 =>
    useQ (k_r_str_eq (D:=900) ⟨⟨[102]⟩⟩ ⟨⟨[111]⟩⟩ (o1.v 0) (Nat.add o1.t 0) false (by decide)) 128 [] fun o2 =>
    useQ (k_r_sget (D:=900) [102,45,d] u 0 (Nat.add o2.t 0) 102 rfl (by decide)) 16386 [] fun o3 =>
    useQ (k_r_str_eq (D:=900) ⟨⟨[102]⟩⟩ ⟨⟨[118]⟩⟩ (o3.v 0) (Nat.add o3.t 0) false (by decide)) 128 [] fun o4 =>
    useK (h1 t1 t2 t3) 6130356330720079999891468322638376175884441396411646208 [] fun o5 =>
    useQ (k_r_sget (D:=900) [102,45,d] u 0 (Nat.add o5.t 3) 102 rfl (by decide)) 37581304439701752594143097574542409932582103075746822468746989204436477418329715128478419801015491176932884867 [] fun o6 =>
    useQ (k_r_str_eq (D:=900) ⟨⟨[102]⟩⟩ ⟨⟨[102]⟩⟩ (o6.v 0) (Nat.add o6.t 0) true (by decide)) 128 [] fun o7 =>
    useQ (k_r_fsub (D:=900) Float64.one (Nat.add o7.t 0) T.2.1 (o5.v 2)) 268468480 [] fun o8 =>
    useK (hx (o5.v 1) (o8.v 0) (o5.v 3)) 16386 [] fun o9 =>
    finK 0 o9.v [6]
theorem deed_f (d:Nat) (p q s:Nat) (hp:p≤1073741824) (hq:q≤1073741824) (hs:s≤1073741824) (T:UInt64 × UInt64 × UInt64) (hT:hlsF (fl p) (fl q) (fl s)=T) (x1 x2 x3:UInt64) (hx : ∀ t1 t2 t3,Spec (VV ⟨w,b1,b2,b3⟩) 400 (.call (.ref 214) ⟨[.float T.1 t1,.float (Float64.sub Float64.one T.2.1) t2,.float T.2.2 t3],[]⟩) [] (Tri x1 x2 x3)) (a ep u t1 t2 t3:Nat) :
    Spec (VV ⟨w,b1,b2,b3⟩) 380 (.call (.ref 315) ⟨[.str ⟨⟨[102,45,d]⟩⟩ u,.ref (A a)],[]⟩) [(A a,lst [.float (fl p) t1,.float (fl q) t2,.float (fl s) t3] ep)] (fun o=>⟨.ok (.ret (.ref (A (o.v 0)))),[lst [.float (fl p) t1,.float (fl q) t2,.float (fl s) t3] ep],[(A (o.v 0),tup [.float x1 (o.v 1),.float x2 (o.v 2),.float x3 (o.v 3)])]⟩):=by
  have h1 : ∀ t1 t2 t3,Spec (VV ⟨w,b1,b2,b3⟩) 400 (.call (.ref 207) ⟨[.float (fl p) t1,.float (fl q) t2,.float (fl s) t3],[]⟩) [] (Tri T.1 T.2.1 T.2.2):=by subst hT; exact sp_hls w b1 b2 b3 p q s hp hq hs
  clear hT
  generalize fl p=p' at *
  generalize fl q=q' at *
  generalize fl s=s' at *
  refine spec_run [0] 3000 (pl_deed_f w b1 b2 b3 d p' q' s' T x1 x2 x3 hx u t1 t2 t3 h1) rfl fun x t => ?_
  cases b1 <;> kernel_rfl
noncomputable def pl_deed_m (w:World) (b1 b2 b3:Bool) (d:Nat) (p' q' s':UInt64) (T:UInt64 × UInt64 × UInt64) (x1 x2 x3:UInt64) (hx : ∀ t1 t2 t3,Spec (VV ⟨w,b1,b2,b3⟩) 400 (.call (.ref 214) ⟨[.float T.1 t1,.float T.2.1 t2,.float (Float64.div T.2.2 c2) t3],[]⟩) [] (Tri x1 x2 x3)) (u t1 t2 t3:Nat) (h1 : ∀ t1 t2 t3,Spec (VV ⟨w,b1,b2,b3⟩) 400 (.call (.ref 207) ⟨[.float p' t1,.float q' t2,.float s' t3],[]⟩) [] (Tri T.1 T.2.1 T.2.2)):Nat→Nat→PlanOk (VV ⟨w,b1,b2,b3⟩):=fun x t =>
    useQ (k_r_sget (D:=900) [109,45,d] u 0 (Nat.add t 2) 109 rfl (by decide)) 1180735735974747734018 [] fun o1 =>
    useQ (k_r_str_eq (D:=900) ⟨⟨[109]⟩⟩ ⟨⟨[111]⟩⟩ (o1.v 0) (Nat.add o1.t 0) false (by decide)) 128 [] fun o2 =>
    useQ (k_r_sget (D:=900) [109,45,d] u 0 (Nat.add o2.t 0) 109 rfl (by decide)) 16386 [] fun o3 =>
    useQ (k_r_str_eq (D:=900) ⟨⟨[109]⟩⟩ ⟨⟨[118]⟩⟩ (o3.v 0) (Nat.add o3.t 0) false (by decide)) 128 [] fun o4 =>
    useK (h1 t1 t2 t3) 6130356330720079999891468322638376175884441396411646208 [] fun o5 =>
    useQ (k_r_sget (D:=900) [109,45,d] u 0 (Nat.add o5.t 3) 109 rfl (by decide)) 37581304439701752594143097574542409932582103075746822468746989204436477418329715128478419801015491176932884867 [] fun o6 =>
    useQ (k_r_str_eq (D:=900) ⟨⟨[109]⟩⟩ ⟨⟨[102]⟩⟩ (o6.v 0) (Nat.add o6.t 0) false (by decide)) 128 [] fun o7 =>
    useQ (k_r_sget (D:=900) [109,45,d] u 0 (Nat.add o7.t 0) 109 rfl (by decide)) 16386 [] fun o8 =>
    useQ (k_r_str_eq (D:=900) ⟨⟨[109]⟩⟩ ⟨⟨[109]⟩⟩ (o8.v 0) (Nat.add o8.t 0) true (by decide)) 128 [] fun o9 =>
    useQ (k_r_fdiv (D:=900) T.2.2 (o5.v 3) c2 (Nat.add o9.t 0) (by decide +kernel)) 34363965696 [] fun o10 =>
    useK (hx (o5.v 1) (o5.v 2) (o10.v 0)) 128 [] fun o11 =>
    finK 0 o11.v [6]
theorem deed_m (d:Nat) (p q s:Nat) (hp:p≤1073741824) (hq:q≤1073741824) (hs:s≤1073741824) (T:UInt64 × UInt64 × UInt64) (hT:hlsF (fl p) (fl q) (fl s)=T) (x1 x2 x3:UInt64) (hx : ∀ t1 t2 t3,Spec (VV ⟨w,b1,b2,b3⟩) 400 (.call (.ref 214) ⟨[.float T.1 t1,.float T.2.1 t2,.float (Float64.div T.2.2 c2) t3],[]⟩) [] (Tri x1 x2 x3)) (a ep u t1 t2 t3:Nat) :
    Spec (VV ⟨w,b1,b2,b3⟩) 380 (.call (.ref 315) ⟨[.str ⟨⟨[109,45,d]⟩⟩ u,.ref (A a)],[]⟩) [(A a,lst [.float (fl p) t1,.float (fl q) t2,.float (fl s) t3] ep)] (fun o=>⟨.ok (.ret (.ref (A (o.v 0)))),[lst [.float (fl p) t1,.float (fl q) t2,.float (fl s) t3] ep],[(A (o.v 0),tup [.float x1 (o.v 1),.float x2 (o.v 2),.float x3 (o.v 3)])]⟩):=by
  have h1 : ∀ t1 t2 t3,Spec (VV ⟨w,b1,b2,b3⟩) 400 (.call (.ref 207) ⟨[.float (fl p) t1,.float (fl q) t2,.float (fl s) t3],[]⟩) [] (Tri T.1 T.2.1 T.2.2):=by subst hT; exact sp_hls w b1 b2 b3 p q s hp hq hs
  clear hT
  generalize fl p=p' at *
  generalize fl q=q' at *
  generalize fl s=s' at *
  refine spec_run [0] 3000 (pl_deed_m w b1 b2 b3 d p' q' s' T x1 x2 x3 hx u t1 t2 t3 h1) rfl fun x t => ?_
  cases b1 <;> kernel_rfl
noncomputable def pl_deed_o (w:World) (b1 b2 b3:Bool) (d:Nat) (p' q' s':UInt64) (T:UInt64 × UInt64 × UInt64) (x1 x2 x3:UInt64) (hx : ∀ t1 t2 t3,Spec (VV ⟨w,b1,b2,b3⟩) 400 (.call (.ref 200) ⟨[.float (Float64.sub Float64.one T.1) t1,.float (Float64.neg T.2.1) t2,.float (Float64.neg T.2.2) t3],[]⟩) [] (Tri x1 x2 x3)) (u t1 t2 t3:Nat) (h1 : ∀ t1 t2 t3,Spec (VV ⟨w,b1,b2,b3⟩) 400 (.call (.ref 193) ⟨[.float p' t1,.float q' t2,.float s' t3],[]⟩) [] (Tri T.1 T.2.1 T.2.2)):Nat→Nat→PlanOk (VV ⟨w,b1,b2,b3⟩):=fun x t =>
    useQ (k_r_sget (D:=900) [111,45,d] u 0 (Nat.add t 2) 111 rfl (by decide)) 1180735735974747734018 [] fun o1 =>
    useQ (k_r_str_eq (D:=900) ⟨⟨[111]⟩⟩ ⟨⟨[111]⟩⟩ (o1.v 0) (Nat.add o1.t 0) true (by decide)) 128 [] fun o2 =>
    useK (h1 t1 t2 t3) 6130356330720079999891468322638376175884441396411646208 [] fun o3 =>
    useQ (k_r_fsub (D:=900) Float64.one (Nat.add o3.t 3) T.1 (o3.v 1)) 4810402381284592349829516818757881979642931369964701543151391590923089494861740547387964569231355467662209630595 [] fun o4 =>
    useQ (k_r_fneg (D:=900) T.2.1 (o3.v 2)) 16386 [] fun o5 =>
    useQ (k_r_fneg (D:=900) T.2.2 (o3.v 3)) 16386 [] fun o6 =>
    useK (hx (o4.v 0) (o5.v 0) (o6.v 0)) 128 [] fun o7 =>
    finK 0 o7.v [6]
theorem deed_o (d:Nat) (p q s:Nat) (hp:p≤1073741824) (hq:q≤1073741824) (hs:s≤1073741824) (T:UInt64 × UInt64 × UInt64) (hT:(yF (fl p) (fl q) (fl s),iF (fl p) (fl q) (fl s),qF (fl p) (fl q) (fl s))=T) (x1 x2 x3:UInt64) (hx : ∀ t1 t2 t3,Spec (VV ⟨w,b1,b2,b3⟩) 400 (.call (.ref 200) ⟨[.float (Float64.sub Float64.one T.1) t1,.float (Float64.neg T.2.1) t2,.float (Float64.neg T.2.2) t3],[]⟩) [] (Tri x1 x2 x3)) (a ep u t1 t2 t3:Nat) :
    Spec (VV ⟨w,b1,b2,b3⟩) 380 (.call (.ref 315) ⟨[.str ⟨⟨[111,45,d]⟩⟩ u,.ref (A a)],[]⟩) [(A a,lst [.float (fl p) t1,.float (fl q) t2,.float (fl s) t3] ep)] (fun o=>⟨.ok (.ret (.ref (A (o.v 0)))),[lst [.float (fl p) t1,.float (fl q) t2,.float (fl s) t3] ep],[(A (o.v 0),tup [.float x1 (o.v 1),.float x2 (o.v 2),.float x3 (o.v 3)])]⟩):=by
  have h1 : ∀ t1 t2 t3,Spec (VV ⟨w,b1,b2,b3⟩) 400 (.call (.ref 193) ⟨[.float (fl p) t1,.float (fl q) t2,.float (fl s) t3],[]⟩) [] (Tri T.1 T.2.1 T.2.2):=by subst hT; exact yiq_0 w b1 b2 b3 (fl p) (fl q) (fl s)
  clear hT
  generalize fl p=p' at *
  generalize fl q=q' at *
  generalize fl s=s' at *
  refine spec_run [0] 3000 (pl_deed_o w b1 b2 b3 d p' q' s' T x1 x2 x3 hx u t1 t2 t3 h1) rfl fun x t => ?_
  cases b1 <;> kernel_rfl
noncomputable def pl_deed_l (w:World) (b1 b2 b3:Bool) (k:Nat) (hk:k < 6) (p' q' s':UInt64) (T:UInt64 × UInt64 × UInt64) (x1 x2 x3:UInt64) (hx : ∀ t1 t2 t3,Spec (VV ⟨w,b1,b2,b3⟩) 400 (.call (.ref 214) ⟨[.float (Float64.add T.1 (kF k)) t1,.float T.2.1 t2,.float T.2.2 t3],[]⟩) [] (Tri x1 x2 x3)) (u t1 t2 t3:Nat) (h1 : ∀ t1 t2 t3,Spec (VV ⟨w,b1,b2,b3⟩) 400 (.call (.ref 207) ⟨[.float p' t1,.float q' t2,.float s' t3],[]⟩) [] (Tri T.1 T.2.1 T.2.2)) (hk6:Float64.isInf (Float64.ofFrac false k 6)=false):Nat→Nat→PlanOk (VV ⟨w,b1,b2,b3⟩):=fun x t =>
    useQ (k_r_sget (D:=900) [108,45,48+k] u 0 (Nat.add t 2) 108 rfl (by decide)) 1180735735974747734018 [] fun o1 =>
    useQ (k_r_str_eq (D:=900) ⟨⟨[108]⟩⟩ ⟨⟨[111]⟩⟩ (o1.v 0) (Nat.add o1.t 0) false (by decide)) 128 [] fun o2 =>
    useQ (k_r_sget (D:=900) [108,45,48+k] u 0 (Nat.add o2.t 0) 108 rfl (by decide)) 16386 [] fun o3 =>
    useQ (k_r_str_eq (D:=900) ⟨⟨[108]⟩⟩ ⟨⟨[118]⟩⟩ (o3.v 0) (Nat.add o3.t 0) false (by decide)) 128 [] fun o4 =>
    useK (h1 t1 t2 t3) 6130356330720079999891468322638376175884441396411646208 [] fun o5 =>
    useQ (k_r_sget (D:=900) [108,45,48+k] u 0 (Nat.add o5.t 3) 108 rfl (by decide)) 37581304439701752594143097574542409932582103075746822468746989204436477418329715128478419801015491176932884867 [] fun o6 =>
    useQ (k_r_str_eq (D:=900) ⟨⟨[108]⟩⟩ ⟨⟨[102]⟩⟩ (o6.v 0) (Nat.add o6.t 0) false (by decide)) 128 [] fun o7 =>
    useQ (k_r_sget (D:=900) [108,45,48+k] u 0 (Nat.add o7.t 0) 108 rfl (by decide)) 16386 [] fun o8 =>
    useQ (k_r_str_eq (D:=900) ⟨⟨[108]⟩⟩ ⟨⟨[109]⟩⟩ (o8.v 0) (Nat.add o8.t 0) false (by decide)) 128 [] fun o9 =>
    useQ (k_sp_int w b1 b2 b3 k (by lia) (Nat.add o9.t 1)) 159444940744916985708800 [] fun o10 =>
    useQ (k_r_idiv (D:=900) (o10.v 0) (Nat.add o10.t 0) k 6 (by decide) hk6) 128 [] fun o11 =>
    useQ (k_r_fadd (D:=900) T.1 (o5.v 1) (kF k) (o11.v 0)) 128 [] fun o12 =>
    useK (hx (o12.v 0) (o5.v 2) (o5.v 3)) 2097410 [] fun o13 =>
    finK 0 o13.v [7]
theorem deed_l (k:Nat) (hk:k < 6) (p q s:Nat) (hp:p≤1073741824) (hq:q≤1073741824) (hs:s≤1073741824) (T:UInt64 × UInt64 × UInt64) (hT:hlsF (fl p) (fl q) (fl s)=T) (x1 x2 x3:UInt64) (hx : ∀ t1 t2 t3,Spec (VV ⟨w,b1,b2,b3⟩) 400 (.call (.ref 214) ⟨[.float (Float64.add T.1 (kF k)) t1,.float T.2.1 t2,.float T.2.2 t3],[]⟩) [] (Tri x1 x2 x3)) (a ep u t1 t2 t3:Nat) :
    Spec (VV ⟨w,b1,b2,b3⟩) 380 (.call (.ref 315) ⟨[.str ⟨⟨[108,45,48+k]⟩⟩ u,.ref (A a)],[]⟩) [(A a,lst [.float (fl p) t1,.float (fl q) t2,.float (fl s) t3] ep)] (fun o=>⟨.ok (.ret (.ref (A (o.v 0)))),[lst [.float (fl p) t1,.float (fl q) t2,.float (fl s) t3] ep],[(A (o.v 0),tup [.float x1 (o.v 1),.float x2 (o.v 2),.float x3 (o.v 3)])]⟩):=by
  have h1 : ∀ t1 t2 t3,Spec (VV ⟨w,b1,b2,b3⟩) 400 (.call (.ref 207) ⟨[.float (fl p) t1,.float (fl q) t2,.float (fl s) t3],[]⟩) [] (Tri T.1 T.2.1 T.2.2):=by subst hT; exact sp_hls w b1 b2 b3 p q s hp hq hs
  clear hT
  generalize fl p=p' at *
  generalize fl q=q' at *
  generalize fl s=s' at *
  have hk6:Float64.isInf (Float64.ofFrac false k 6)=false:=by
    have : ∀ j,j < 6→Float64.isInf (Float64.ofFrac false j 6)=false:=by decide +kernel
    exact this k hk
  refine spec_run [0] 3000 (pl_deed_l w b1 b2 b3 k hk p' q' s' T x1 x2 x3 hx u t1 t2 t3 h1 hk6) rfl fun x t => ?_
  have hc:k=0∨k=1∨k=2∨k=3∨k=4∨k=5:=(by decide : ∀ k,k < 6→k=0∨k=1∨k=2∨k=3∨k=4∨k=5) k hk
  rcases hc with rfl | rfl | rfl | rfl | rfl | rfl <;> cases b1 <;> kernel_rfl
noncomputable def pl_deed_v (w:World) (b1 b2 b3:Bool) (k:Nat) (hk:k < 6) (p' q' s':UInt64) (T:UInt64 × UInt64 × UInt64) (x1 x2 x3:UInt64) (hx : ∀ t1 t2 t3,Spec (VV ⟨w,b1,b2,b3⟩) 400 (.call (.ref 235) ⟨[.float (Float64.add T.1 (kF k)) t1,.float T.2.1 t2,.float T.2.2 t3],[]⟩) [] (Tri x1 x2 x3)) (u t1 t2 t3:Nat) (h1 : ∀ t1 t2 t3,Spec (VV ⟨w,b1,b2,b3⟩) 400 (.call (.ref 228) ⟨[.float p' t1,.float q' t2,.float s' t3],[]⟩) [] (Tri T.1 T.2.1 T.2.2)) (hk6:Float64.isInf (Float64.ofFrac false k 6)=false):Nat→Nat→PlanOk (VV ⟨w,b1,b2,b3⟩):=fun x t =>
    useQ (k_r_sget (D:=900) [118,45,48+k] u 0 (Nat.add t 2) 118 rfl (by decide)) 1180735735974747734018 [] fun o1 =>
    useQ (k_r_str_eq (D:=900) ⟨⟨[118]⟩⟩ ⟨⟨[111]⟩⟩ (o1.v 0) (Nat.add o1.t 0) false (by decide)) 128 [] fun o2 =>
    useQ (k_r_sget (D:=900) [118,45,48+k] u 0 (Nat.add o2.t 0) 118 rfl (by decide)) 16386 [] fun o3 =>
    useQ (k_r_str_eq (D:=900) ⟨⟨[118]⟩⟩ ⟨⟨[118]⟩⟩ (o3.v 0) (Nat.add o3.t 0) true (by decide)) 128 [] fun o4 =>
    useK (h1 t1 t2 t3) 6130356330720079999891468322638376175884441396411646208 [] fun o5 =>
    useQ (k_sp_int w b1 b2 b3 k (by lia) (Nat.add o5.t 4)) 365686750925086068515125356497563857088161162024329560722560914053447192648697560036691614187614527985490276036095606195606307203 [] fun o6 =>
    useQ (k_r_idiv (D:=900) (o6.v 0) (Nat.add o6.t 0) k 6 (by decide) hk6) 128 [] fun o7 =>
    useQ (k_r_fadd (D:=900) T.1 (o5.v 1) (kF k) (o7.v 0)) 128 [] fun o8 =>
    useK (hx (o8.v 0) (o5.v 2) (o5.v 3)) 2097410 [] fun o9 =>
    finK 0 o9.v [7]
theorem deed_v (k:Nat) (hk:k < 6) (p q s:Nat) (hp:p≤1073741824) (hq:q≤1073741824) (hs:s≤1073741824) (T:UInt64 × UInt64 × UInt64) (hT:hsvF (fl p) (fl q) (fl s)=T) (x1 x2 x3:UInt64) (hx : ∀ t1 t2 t3,Spec (VV ⟨w,b1,b2,b3⟩) 400 (.call (.ref 235) ⟨[.float (Float64.add T.1 (kF k)) t1,.float T.2.1 t2,.float T.2.2 t3],[]⟩) [] (Tri x1 x2 x3)) (a ep u t1 t2 t3:Nat) :
    Spec (VV ⟨w,b1,b2,b3⟩) 380 (.call (.ref 315) ⟨[.str ⟨⟨[118,45,48+k]⟩⟩ u,.ref (A a)],[]⟩) [(A a,lst [.float (fl p) t1,.float (fl q) t2,.float (fl s) t3] ep)] (fun o=>⟨.ok (.ret (.ref (A (o.v 0)))),[lst [.float (fl p) t1,.float (fl q) t2,.float (fl s) t3] ep],[(A (o.v 0),tup [.float x1 (o.v 1),.float x2 (o.v 2),.float x3 (o.v 3)])]⟩):=by
  have h1 : ∀ t1 t2 t3,Spec (VV ⟨w,b1,b2,b3⟩) 400 (.call (.ref 228) ⟨[.float (fl p) t1,.float (fl q) t2,.float (fl s) t3],[]⟩) [] (Tri T.1 T.2.1 T.2.2):=by subst hT; exact sp_hsv w b1 b2 b3 p q s hp hq hs
  clear hT
  generalize fl p=p' at *
  generalize fl q=q' at *
  generalize fl s=s' at *
  have hk6:Float64.isInf (Float64.ofFrac false k 6)=false:=by
    have : ∀ j,j < 6→Float64.isInf (Float64.ofFrac false j 6)=false:=by decide +kernel
    exact this k hk
  refine spec_run [0] 3000 (pl_deed_v w b1 b2 b3 k hk p' q' s' T x1 x2 x3 hx u t1 t2 t3 h1 hk6) rfl fun x t => ?_
  have hc:k=0∨k=1∨k=2∨k=3∨k=4∨k=5:=(by decide : ∀ k,k < 6→k=0∨k=1∨k=2∨k=3∨k=4∨k=5) k hk
  rcases hc with rfl | rfl | rfl | rfl | rfl | rfl <;> cases b1 <;> kernel_rfl
end
section
variable (w:World) (b1 b2 b3:Bool)
noncomputable def pl_due_f (w:World) (b1 b2 b3:Bool) (d:Nat) (p q s both:Nat) (n1 n2 n3:Nat) (hb:Int.ofNat (max (max p q) s)+Int.ofNat (min (min p q) s)=Int.ofNat both) (e1:(((Int.ofNat p)+1073741824)-(Int.ofNat both))=Int.ofNat n1) (e2:(((Int.ofNat q)+1073741824)-(Int.ofNat both))=Int.ofNat n2) (e3:(((Int.ofNat s)+1073741824)-(Int.ofNat both))=Int.ofNat n3) (a ep u t1 t2 t3:Nat):Nat→Nat→PlanOk (VV ⟨w,b1,b2,b3⟩):=fun x t =>
    useQ (k_sp_maxZ w b1 b2 b3 (A a) p q s t1 t2 t3 ep) 19345174297075570878480386 [0] fun o1 =>
    useQ (k_sp_minZ w b1 b2 b3 (A a) p q s t1 t2 t3 ep) 268468224 [0] fun o2 =>
    useQ (k_r_int_add (D:=900) (Int.ofNat (max (max p q) s)) (Int.ofNat (min (min p q) s)) (Int.ofNat both) (o1.v 0) (o2.v 0) hb) 128 [] fun o3 =>
    useQ (k_r_sget (D:=900) [102,45,d] u 0 (Nat.add o3.t 0) 102 rfl (by decide)) 268468611 [] fun o4 =>
    useQ (k_r_str_eq (D:=900) ⟨⟨[102]⟩⟩ ⟨⟨[111]⟩⟩ (o4.v 0) (Nat.add o4.t 0) false (by decide)) 128 [] fun o5 =>
    useQ (k_r_sget (D:=900) [102,45,d] u 0 (Nat.add o5.t 0) 102 rfl (by decide)) 16386 [] fun o6 =>
    useQ (k_r_str_eq (D:=900) ⟨⟨[102]⟩⟩ ⟨⟨[102]⟩⟩ (o6.v 0) (Nat.add o6.t 0) true (by decide)) 128 [] fun o7 =>
    useQ (k_r_int_add (D:=900) (Int.ofNat p) 1073741824 ((Int.ofNat p)+1073741824) t1 (Nat.add o7.t 3) rfl) (cond b2 374144427585337913775349965834827770153852181954690 1645504594390698586904571898076469883084633991406561446638665858) [] fun o8 =>
    useQ (k_r_int_sub (D:=900) ((Int.ofNat p)+1073741824) (Int.ofNat both) (Int.ofNat n1) (o8.v 0) (o3.v 0) e1) 16387 [] fun o9 =>
    useQ (k_r_int_add (D:=900) (Int.ofNat q) 1073741824 ((Int.ofNat q)+1073741824) t2 (Nat.add o9.t 3) rfl) 22835963597737909776327512563160874815257051776 [] fun o10 =>
    useQ (k_r_int_sub (D:=900) ((Int.ofNat q)+1073741824) (Int.ofNat both) (Int.ofNat n2) (o10.v 0) (o3.v 0) e2) 16387 [] fun o11 =>
    useQ (k_r_int_add (D:=900) (Int.ofNat s) 1073741824 ((Int.ofNat s)+1073741824) t3 (Nat.add o11.t 3) rfl) 22835963597737909776327512563160874815257051776 [] fun o12 =>
    useQ (k_r_int_sub (D:=900) ((Int.ofNat s)+1073741824) (Int.ofNat both) (Int.ofNat n3) (o12.v 0) (o3.v 0) e3) 16387 [] fun o13 =>
    finK 65848667385093296991675150640525288145536 (pick [(Nat.add o7.x 1),(o9.v 0),(o11.v 0),(o13.v 0)]) [4]
theorem due_f (d:Nat) (p q s both:Nat) (n1 n2 n3:Nat) (hb:Int.ofNat (max (max p q) s)+Int.ofNat (min (min p q) s)=Int.ofNat both) (e1:(((Int.ofNat p)+1073741824)-(Int.ofNat both))=Int.ofNat n1) (e2:(((Int.ofNat q)+1073741824)-(Int.ofNat both))=Int.ofNat n2) (e3:(((Int.ofNat s)+1073741824)-(Int.ofNat both))=Int.ofNat n3) (a ep u t1 t2 t3:Nat) :
    Spec (VV ⟨w,b1,b2,b3⟩) 380 (.call (.ref 320) ⟨[.str ⟨⟨[102,45,d]⟩⟩ u,.ref (A a)],[]⟩) [(A a,lst [.int (Int.ofNat p) t1,.int (Int.ofNat q) t2,.int (Int.ofNat s) t3] ep)] (fun o=>⟨.ok (.ret (.ref (A (o.v 0)))),[lst [.int (Int.ofNat p) t1,.int (Int.ofNat q) t2,.int (Int.ofNat s) t3] ep],[(A (o.v 0),lst [.int (Int.ofNat n1) (o.v 1),.int (Int.ofNat n2) (o.v 2),.int (Int.ofNat n3) (o.v 3)] 3)]⟩):=by
  refine spec_run [0] 3000 (pl_due_f w b1 b2 b3 d p q s both n1 n2 n3 hb e1 e2 e3 a ep u t1 t2 t3) rfl fun x t => ?_
  cases b1 <;> cases b2 <;> kernel_rfl
noncomputable def pl_due_m (w:World) (b1 b2 b3:Bool) (d:Nat) (p q s both:Nat) (hb:Int.ofNat (max (max p q) s)+Int.ofNat (min (min p q) s)=Int.ofNat both) (a ep u t1 t2 t3:Nat):Nat→Nat→PlanOk (VV ⟨w,b1,b2,b3⟩):=fun x t =>
    useQ (k_sp_maxZ w b1 b2 b3 (A a) p q s t1 t2 t3 ep) 19345174297075570878480386 [0] fun o1 =>
    useQ (k_sp_minZ w b1 b2 b3 (A a) p q s t1 t2 t3 ep) 268468224 [0] fun o2 =>
    useQ (k_r_int_add (D:=900) (Int.ofNat (max (max p q) s)) (Int.ofNat (min (min p q) s)) (Int.ofNat both) (o1.v 0) (o2.v 0) hb) 128 [] fun o3 =>
    useQ (k_r_sget (D:=900) [109,45,d] u 0 (Nat.add o3.t 0) 109 rfl (by decide)) 268468611 [] fun o4 =>
    useQ (k_r_str_eq (D:=900) ⟨⟨[109]⟩⟩ ⟨⟨[111]⟩⟩ (o4.v 0) (Nat.add o4.t 0) false (by decide)) 128 [] fun o5 =>
    useQ (k_r_sget (D:=900) [109,45,d] u 0 (Nat.add o5.t 0) 109 rfl (by decide)) 16386 [] fun o6 =>
    useQ (k_r_str_eq (D:=900) ⟨⟨[109]⟩⟩ ⟨⟨[102]⟩⟩ (o6.v 0) (Nat.add o6.t 0) false (by decide)) 128 [] fun o7 =>
    useQ (k_r_sget (D:=900) [109,45,d] u 0 (Nat.add o7.t 0) 109 rfl (by decide)) 16386 [] fun o8 =>
    useQ (k_r_str_eq (D:=900) ⟨⟨[109]⟩⟩ ⟨⟨[109]⟩⟩ (o8.v 0) (Nat.add o8.t 0) true (by decide)) 128 [] fun o9 =>
    useQ (k_r_int_mul (D:=900) 2 p (Nat.add o9.t 1) t1 (by decide)) (cond b2 22844391710062073303581234970509044115574898818 100470697258731641824088149890700764555763460093007842263170) [] fun o10 =>
    useQ (k_r_int_add (D:=900) (Int.ofNat (2*p)) (Int.ofNat both) (Int.ofNat ((2*p)+both)) (o10.v 0) (o3.v 0) rfl) 16387 [] fun o11 =>
    useQ (k_r_int_fdiv (D:=900) (((2*p)+both)) 4 (o11.v 0) (Nat.add o11.t 0) (by decide) rfl) 128 [] fun o12 =>
    useQ (k_r_int_mul (D:=900) 2 q (Nat.add o12.t 1) t2 (by decide)) 1394311017459843341283034360993155727229568 [] fun o13 =>
    useQ (k_r_int_add (D:=900) (Int.ofNat (2*q)) (Int.ofNat both) (Int.ofNat ((2*q)+both)) (o13.v 0) (o3.v 0) rfl) 16387 [] fun o14 =>
    useQ (k_r_int_fdiv (D:=900) (((2*q)+both)) 4 (o14.v 0) (Nat.add o14.t 0) (by decide) rfl) 128 [] fun o15 =>
    useQ (k_r_int_mul (D:=900) 2 s (Nat.add o15.t 1) t3 (by decide)) 1394311017459843341283034360993155727229568 [] fun o16 =>
    useQ (k_r_int_add (D:=900) (Int.ofNat (2*s)) (Int.ofNat both) (Int.ofNat ((2*s)+both)) (o16.v 0) (o3.v 0) rfl) 16387 [] fun o17 =>
    useQ (k_r_int_fdiv (D:=900) (((2*s)+both)) 4 (o17.v 0) (Nat.add o17.t 0) (by decide) rfl) 128 [] fun o18 =>
    finK 65848667385093296991675150640525288145536 (pick [(Nat.add o9.x 1),(o12.v 0),(o15.v 0),(o18.v 0)]) [4]
theorem due_m (d:Nat) (p q s both:Nat) (hb:Int.ofNat (max (max p q) s)+Int.ofNat (min (min p q) s)=Int.ofNat both)  (a ep u t1 t2 t3:Nat) :
    Spec (VV ⟨w,b1,b2,b3⟩) 380 (.call (.ref 320) ⟨[.str ⟨⟨[109,45,d]⟩⟩ u,.ref (A a)],[]⟩) [(A a,lst [.int (Int.ofNat p) t1,.int (Int.ofNat q) t2,.int (Int.ofNat s) t3] ep)] (fun o=>⟨.ok (.ret (.ref (A (o.v 0)))),[lst [.int (Int.ofNat p) t1,.int (Int.ofNat q) t2,.int (Int.ofNat s) t3] ep],[(A (o.v 0),lst [.int (Int.ofNat ((((2*p)+both)) / 4)) (o.v 1),.int (Int.ofNat ((((2*q)+both)) / 4)) (o.v 2),.int (Int.ofNat ((((2*s)+both)) / 4)) (o.v 3)] 3)]⟩):=by
  refine spec_run [0] 3000 (pl_due_m w b1 b2 b3 d p q s both hb a ep u t1 t2 t3) rfl fun x t => ?_
  cases b1 <;> cases b2 <;> kernel_rfl
noncomputable def pl_due_o (w:World) (b1 b2 b3:Bool) (d:Nat) (p q s both:Nat) (n1 n2 n3:Nat) (hb:Int.ofNat (max (max p q) s)+Int.ofNat (min (min p q) s)=Int.ofNat both) (e1:(1073741824-(Int.ofNat p))=Int.ofNat n1) (e2:(1073741824-(Int.ofNat q))=Int.ofNat n2) (e3:(1073741824-(Int.ofNat s))=Int.ofNat n3) (a ep u t1 t2 t3:Nat):Nat→Nat→PlanOk (VV ⟨w,b1,b2,b3⟩):=fun x t =>
    useQ (k_sp_maxZ w b1 b2 b3 (A a) p q s t1 t2 t3 ep) 19345174297075570878480386 [0] fun o1 =>
    useQ (k_sp_minZ w b1 b2 b3 (A a) p q s t1 t2 t3 ep) 268468224 [0] fun o2 =>
    useQ (k_r_int_add (D:=900) (Int.ofNat (max (max p q) s)) (Int.ofNat (min (min p q) s)) (Int.ofNat both) (o1.v 0) (o2.v 0) hb) 128 [] fun o3 =>
    useQ (k_r_sget (D:=900) [111,45,d] u 0 (Nat.add o3.t 0) 111 rfl (by decide)) 268468611 [] fun o4 =>
    useQ (k_r_str_eq (D:=900) ⟨⟨[111]⟩⟩ ⟨⟨[111]⟩⟩ (o4.v 0) (Nat.add o4.t 0) true (by decide)) 128 [] fun o5 =>
    useQ (k_r_int_sub (D:=900) 1073741824 (Int.ofNat p) (Int.ofNat n1) (Nat.add o5.t 3) t1 e1) (cond b2 374281435001058236474947883212000569443809360887938 1646107159377402727476567533260769167453159410679491061545451650) [] fun o6 =>
    useQ (k_r_int_sub (D:=900) 1073741824 (Int.ofNat q) (Int.ofNat n2) (Nat.add o6.t 3) t2 e2) 22844325866763808378597893262451206803169477248 [] fun o7 =>
    useQ (k_r_int_sub (D:=900) 1073741824 (Int.ofNat s) (Int.ofNat n3) (Nat.add o7.t 3) t3 e3) 22844325866763808378597893262451206803169477248 [] fun o8 =>
    finK 65848667385093296991675150640525288145536 (pick [(Nat.add o5.x 1),(o6.v 0),(o7.v 0),(o8.v 0)]) [4]
theorem due_o (d:Nat) (p q s both:Nat) (n1 n2 n3:Nat) (hb:Int.ofNat (max (max p q) s)+Int.ofNat (min (min p q) s)=Int.ofNat both) (e1:(1073741824-(Int.ofNat p))=Int.ofNat n1) (e2:(1073741824-(Int.ofNat q))=Int.ofNat n2) (e3:(1073741824-(Int.ofNat s))=Int.ofNat n3) (a ep u t1 t2 t3:Nat) :
    Spec (VV ⟨w,b1,b2,b3⟩) 380 (.call (.ref 320) ⟨[.str ⟨⟨[111,45,d]⟩⟩ u,.ref (A a)],[]⟩) [(A a,lst [.int (Int.ofNat p) t1,.int (Int.ofNat q) t2,.int (Int.ofNat s) t3] ep)] (fun o=>⟨.ok (.ret (.ref (A (o.v 0)))),[lst [.int (Int.ofNat p) t1,.int (Int.ofNat q) t2,.int (Int.ofNat s) t3] ep],[(A (o.v 0),lst [.int (Int.ofNat n1) (o.v 1),.int (Int.ofNat n2) (o.v 2),.int (Int.ofNat n3) (o.v 3)] 3)]⟩):=by
  refine spec_run [0] 3000 (pl_due_o w b1 b2 b3 d p q s both n1 n2 n3 hb e1 e2 e3 a ep u t1 t2 t3) rfl fun x t => ?_
  cases b1 <;> cases b2 <;> kernel_rfl
noncomputable def pl_due_l0 (w:World) (b1 b2 b3:Bool) (c:Nat) (hc : ∀ j,j=102∨j=109∨j=111→(([c]:List Nat) == [j])=false) (p q s both:Nat) (hb:Int.ofNat (max (max p q) s)+Int.ofNat (min (min p q) s)=Int.ofNat both) (a ep u t1 t2 t3:Nat):Nat→Nat→PlanOk (VV ⟨w,b1,b2,b3⟩):=fun x t =>
    useQ (k_sp_maxZ w b1 b2 b3 (A a) p q s t1 t2 t3 ep) 19345174297075570878480386 [0] fun o1 =>
    useQ (k_sp_minZ w b1 b2 b3 (A a) p q s t1 t2 t3 ep) 268468224 [0] fun o2 =>
    useQ (k_r_int_add (D:=900) (Int.ofNat (max (max p q) s)) (Int.ofNat (min (min p q) s)) (Int.ofNat both) (o1.v 0) (o2.v 0) hb) 128 [] fun o3 =>
    useQ (k_r_sget (D:=900) [c,45,48+0] u 0 (Nat.add o3.t 0) c rfl (by decide)) 268468611 [] fun o4 =>
    useQ (k_r_str_eq (D:=900) ⟨⟨[c]⟩⟩ ⟨⟨[111]⟩⟩ (o4.v 0) (Nat.add o4.t 0) false (hc 111 (by decide))) 128 [] fun o5 =>
    useQ (k_r_sget (D:=900) [c,45,48+0] u 0 (Nat.add o5.t 0) c rfl (by decide)) 16386 [] fun o6 =>
    useQ (k_r_str_eq (D:=900) ⟨⟨[c]⟩⟩ ⟨⟨[102]⟩⟩ (o6.v 0) (Nat.add o6.t 0) false (hc 102 (by decide))) 128 [] fun o7 =>
    useQ (k_r_sget (D:=900) [c,45,48+0] u 0 (Nat.add o7.t 0) c rfl (by decide)) 16386 [] fun o8 =>
    useQ (k_r_str_eq (D:=900) ⟨⟨[c]⟩⟩ ⟨⟨[109]⟩⟩ (o8.v 0) (Nat.add o8.t 0) false (hc 109 (by decide))) 128 [] fun o9 =>
    useQ (k_sp_int w b1 b2 b3 0 (by lia) (Nat.add o9.t 1)) 155875277905022213423104 [] fun o10 =>
    finK 25717322879360129322204050686143645320313353993350746885586944 (fun _=>0) []
theorem due_l0 (c:Nat) (hc : ∀ j,j=102∨j=109∨j=111→(([c]:List Nat) == [j])=false) (p q s both:Nat) (hb:Int.ofNat (max (max p q) s)+Int.ofNat (min (min p q) s)=Int.ofNat both)  (a ep u t1 t2 t3:Nat) :
    Spec (VV ⟨w,b1,b2,b3⟩) 380 (.call (.ref 320) ⟨[.str ⟨⟨[c,45,48+0]⟩⟩ u,.ref (A a)],[]⟩) [(A a,lst [.int (Int.ofNat p) t1,.int (Int.ofNat q) t2,.int (Int.ofNat s) t3] ep)] (fun o=>⟨.ok (.ret (.ref (A a))),[lst [.int (Int.ofNat p) t1,.int (Int.ofNat q) t2,.int (Int.ofNat s) t3] ep],[]⟩):=by
  refine spec_run [0] 3000 (pl_due_l0 w b1 b2 b3 c hc p q s both hb a ep u t1 t2 t3) rfl fun x t => ?_
  cases b1 <;> kernel_rfl
noncomputable def pl_due_l1 (w:World) (b1 b2 b3:Bool) (c:Nat) (hc : ∀ j,j=102∨j=109∨j=111→(([c]:List Nat) == [j])=false) (p q s both:Nat) (n1 n2 n3:Nat) (hb:Int.ofNat (max (max p q) s)+Int.ofNat (min (min p q) s)=Int.ofNat both) (e1:((Int.ofNat both)-(Int.ofNat q))=Int.ofNat n1) (e2:((Int.ofNat both)-(Int.ofNat s))=Int.ofNat n2) (e3:((Int.ofNat both)-(Int.ofNat p))=Int.ofNat n3) (a ep u t1 t2 t3:Nat):Nat→Nat→PlanOk (VV ⟨w,b1,b2,b3⟩):=fun x t =>
    useQ (k_sp_maxZ w b1 b2 b3 (A a) p q s t1 t2 t3 ep) 19345174297075570878480386 [0] fun o1 =>
    useQ (k_sp_minZ w b1 b2 b3 (A a) p q s t1 t2 t3 ep) 268468224 [0] fun o2 =>
    useQ (k_r_int_add (D:=900) (Int.ofNat (max (max p q) s)) (Int.ofNat (min (min p q) s)) (Int.ofNat both) (o1.v 0) (o2.v 0) hb) 128 [] fun o3 =>
    useQ (k_r_sget (D:=900) [c,45,48+1] u 0 (Nat.add o3.t 0) c rfl (by decide)) 268468611 [] fun o4 =>
    useQ (k_r_str_eq (D:=900) ⟨⟨[c]⟩⟩ ⟨⟨[111]⟩⟩ (o4.v 0) (Nat.add o4.t 0) false (hc 111 (by decide))) 128 [] fun o5 =>
    useQ (k_r_sget (D:=900) [c,45,48+1] u 0 (Nat.add o5.t 0) c rfl (by decide)) 16386 [] fun o6 =>
    useQ (k_r_str_eq (D:=900) ⟨⟨[c]⟩⟩ ⟨⟨[102]⟩⟩ (o6.v 0) (Nat.add o6.t 0) false (hc 102 (by decide))) 128 [] fun o7 =>
    useQ (k_r_sget (D:=900) [c,45,48+1] u 0 (Nat.add o7.t 0) c rfl (by decide)) 16386 [] fun o8 =>
    useQ (k_r_str_eq (D:=900) ⟨⟨[c]⟩⟩ ⟨⟨[109]⟩⟩ (o8.v 0) (Nat.add o8.t 0) false (hc 109 (by decide))) 128 [] fun o9 =>
    useQ (k_sp_int w b1 b2 b3 1 (by lia) (Nat.add o9.t 1)) 155875277905022213423104 [] fun o10 =>
    useQ (k_r_int_sub (D:=900) (Int.ofNat both) (Int.ofNat q) (Int.ofNat n1) (o3.v 0) t2 e1) 4074320629465211417523889872237673670009065399201192880814623741866441003387472488649719808 [] fun o11 =>
    useQ (k_r_int_sub (D:=900) (Int.ofNat both) (Int.ofNat s) (Int.ofNat n2) (o3.v 0) t3 e2) 1180663682709766291715 [] fun o12 =>
    useQ (k_r_int_sub (D:=900) (Int.ofNat both) (Int.ofNat p) (Int.ofNat n3) (o3.v 0) t1 e3) 1180663682709766291715 [] fun o13 =>
    finK 38696307328210281540092162 (pick [o13.x,(o11.v 0),(o12.v 0),(o13.v 0)]) [6]
theorem due_l1 (c:Nat) (hc : ∀ j,j=102∨j=109∨j=111→(([c]:List Nat) == [j])=false) (p q s both:Nat) (n1 n2 n3:Nat) (hb:Int.ofNat (max (max p q) s)+Int.ofNat (min (min p q) s)=Int.ofNat both) (e1:((Int.ofNat both)-(Int.ofNat q))=Int.ofNat n1) (e2:((Int.ofNat both)-(Int.ofNat s))=Int.ofNat n2) (e3:((Int.ofNat both)-(Int.ofNat p))=Int.ofNat n3) (a ep u t1 t2 t3:Nat) :
    Spec (VV ⟨w,b1,b2,b3⟩) 380 (.call (.ref 320) ⟨[.str ⟨⟨[c,45,48+1]⟩⟩ u,.ref (A a)],[]⟩) [(A a,lst [.int (Int.ofNat p) t1,.int (Int.ofNat q) t2,.int (Int.ofNat s) t3] ep)] (fun o=>⟨.ok (.ret (.ref (A (o.v 0)))),[lst [.int (Int.ofNat p) t1,.int (Int.ofNat q) t2,.int (Int.ofNat s) t3] ep],[(A (o.v 0),lst [.int (Int.ofNat n1) (o.v 1),.int (Int.ofNat n2) (o.v 2),.int (Int.ofNat n3) (o.v 3)] 0)]⟩):=by
  refine spec_run [0] 3000 (pl_due_l1 w b1 b2 b3 c hc p q s both n1 n2 n3 hb e1 e2 e3 a ep u t1 t2 t3) rfl fun x t => ?_
  cases b1 <;> kernel_rfl
noncomputable def pl_due_l2 (w:World) (b1 b2 b3:Bool) (c:Nat) (hc : ∀ j,j=102∨j=109∨j=111→(([c]:List Nat) == [j])=false) (p q s both:Nat) (n1 n2 n3:Nat) (hb:Int.ofNat (max (max p q) s)+Int.ofNat (min (min p q) s)=Int.ofNat both) (e1:((Int.ofNat both)-((Int.ofNat both)-(Int.ofNat s)))=Int.ofNat n1) (e2:((Int.ofNat both)-((Int.ofNat both)-(Int.ofNat p)))=Int.ofNat n2) (e3:((Int.ofNat both)-((Int.ofNat both)-(Int.ofNat q)))=Int.ofNat n3) (a ep u t1 t2 t3:Nat):Nat→Nat→PlanOk (VV ⟨w,b1,b2,b3⟩):=fun x t =>
    useQ (k_sp_maxZ w b1 b2 b3 (A a) p q s t1 t2 t3 ep) 19345174297075570878480386 [0] fun o1 =>
    useQ (k_sp_minZ w b1 b2 b3 (A a) p q s t1 t2 t3 ep) 268468224 [0] fun o2 =>
    useQ (k_r_int_add (D:=900) (Int.ofNat (max (max p q) s)) (Int.ofNat (min (min p q) s)) (Int.ofNat both) (o1.v 0) (o2.v 0) hb) 128 [] fun o3 =>
    useQ (k_r_sget (D:=900) [c,45,48+2] u 0 (Nat.add o3.t 0) c rfl (by decide)) 268468611 [] fun o4 =>
    useQ (k_r_str_eq (D:=900) ⟨⟨[c]⟩⟩ ⟨⟨[111]⟩⟩ (o4.v 0) (Nat.add o4.t 0) false (hc 111 (by decide))) 128 [] fun o5 =>
    useQ (k_r_sget (D:=900) [c,45,48+2] u 0 (Nat.add o5.t 0) c rfl (by decide)) 16386 [] fun o6 =>
    useQ (k_r_str_eq (D:=900) ⟨⟨[c]⟩⟩ ⟨⟨[102]⟩⟩ (o6.v 0) (Nat.add o6.t 0) false (hc 102 (by decide))) 128 [] fun o7 =>
    useQ (k_r_sget (D:=900) [c,45,48+2] u 0 (Nat.add o7.t 0) c rfl (by decide)) 16386 [] fun o8 =>
    useQ (k_r_str_eq (D:=900) ⟨⟨[c]⟩⟩ ⟨⟨[109]⟩⟩ (o8.v 0) (Nat.add o8.t 0) false (hc 109 (by decide))) 128 [] fun o9 =>
    useQ (k_sp_int w b1 b2 b3 2 (by lia) (Nat.add o9.t 1)) 155875277905022213423104 [] fun o10 =>
    useQ (k_r_int_sub (D:=900) (Int.ofNat both) (Int.ofNat q) ((Int.ofNat both)-(Int.ofNat q)) (o3.v 0) t2 rfl) 4074320629465211417523889872237673670009065399201192880814623741866441003387472488649719808 [] fun o11 =>
    useQ (k_r_int_sub (D:=900) (Int.ofNat both) (Int.ofNat s) ((Int.ofNat both)-(Int.ofNat s)) (o3.v 0) t3 rfl) 1180663682709766291715 [] fun o12 =>
    useQ (k_r_int_sub (D:=900) (Int.ofNat both) (Int.ofNat p) ((Int.ofNat both)-(Int.ofNat p)) (o3.v 0) t1 rfl) 1180663682709766291715 [] fun o13 =>
    useQ (k_r_int_sub (D:=900) (Int.ofNat both) ((Int.ofNat both)-(Int.ofNat s)) (Int.ofNat n1) (o3.v 0) (o12.v 0) e1) 6132601334259227390643892004628527885935300328334295298 [] fun o14 =>
    useQ (k_r_int_sub (D:=900) (Int.ofNat both) ((Int.ofNat both)-(Int.ofNat p)) (Int.ofNat n2) (o3.v 0) (o13.v 0) e2) 1181096054663896219907 [] fun o15 =>
    useQ (k_r_int_sub (D:=900) (Int.ofNat both) ((Int.ofNat both)-(Int.ofNat q)) (Int.ofNat n3) (o3.v 0) (o11.v 0) e3) 1181096054663896219907 [] fun o16 =>
    finK 38697487919830998951395586 (pick [o16.x,(o14.v 0),(o15.v 0),(o16.v 0)]) [7]
theorem due_l2 (c:Nat) (hc : ∀ j,j=102∨j=109∨j=111→(([c]:List Nat) == [j])=false) (p q s both:Nat) (n1 n2 n3:Nat) (hb:Int.ofNat (max (max p q) s)+Int.ofNat (min (min p q) s)=Int.ofNat both) (e1:((Int.ofNat both)-((Int.ofNat both)-(Int.ofNat s)))=Int.ofNat n1) (e2:((Int.ofNat both)-((Int.ofNat both)-(Int.ofNat p)))=Int.ofNat n2) (e3:((Int.ofNat both)-((Int.ofNat both)-(Int.ofNat q)))=Int.ofNat n3) (a ep u t1 t2 t3:Nat) :
    Spec (VV ⟨w,b1,b2,b3⟩) 380 (.call (.ref 320) ⟨[.str ⟨⟨[c,45,48+2]⟩⟩ u,.ref (A a)],[]⟩) [(A a,lst [.int (Int.ofNat p) t1,.int (Int.ofNat q) t2,.int (Int.ofNat s) t3] ep)] (fun o=>⟨.ok (.ret (.ref (A (o.v 0)))),[lst [.int (Int.ofNat p) t1,.int (Int.ofNat q) t2,.int (Int.ofNat s) t3] ep],[(A (o.v 0),lst [.int (Int.ofNat n1) (o.v 1),.int (Int.ofNat n2) (o.v 2),.int (Int.ofNat n3) (o.v 3)] 0)]⟩):=by
  refine spec_run [0] 3000 (pl_due_l2 w b1 b2 b3 c hc p q s both n1 n2 n3 hb e1 e2 e3 a ep u t1 t2 t3) rfl fun x t => ?_
  cases b1 <;> kernel_rfl
noncomputable def pl_due_l3 (w:World) (b1 b2 b3:Bool) (c:Nat) (hc : ∀ j,j=102∨j=109∨j=111→(([c]:List Nat) == [j])=false) (p q s both:Nat) (n1 n2 n3:Nat) (hb:Int.ofNat (max (max p q) s)+Int.ofNat (min (min p q) s)=Int.ofNat both) (e1:((Int.ofNat both)-((Int.ofNat both)-((Int.ofNat both)-(Int.ofNat p))))=Int.ofNat n1) (e2:((Int.ofNat both)-((Int.ofNat both)-((Int.ofNat both)-(Int.ofNat q))))=Int.ofNat n2) (e3:((Int.ofNat both)-((Int.ofNat both)-((Int.ofNat both)-(Int.ofNat s))))=Int.ofNat n3) (a ep u t1 t2 t3:Nat):Nat→Nat→PlanOk (VV ⟨w,b1,b2,b3⟩):=fun x t =>
    useQ (k_sp_maxZ w b1 b2 b3 (A a) p q s t1 t2 t3 ep) 19345174297075570878480386 [0] fun o1 =>
    useQ (k_sp_minZ w b1 b2 b3 (A a) p q s t1 t2 t3 ep) 268468224 [0] fun o2 =>
    useQ (k_r_int_add (D:=900) (Int.ofNat (max (max p q) s)) (Int.ofNat (min (min p q) s)) (Int.ofNat both) (o1.v 0) (o2.v 0) hb) 128 [] fun o3 =>
    useQ (k_r_sget (D:=900) [c,45,48+3] u 0 (Nat.add o3.t 0) c rfl (by decide)) 268468611 [] fun o4 =>
    useQ (k_r_str_eq (D:=900) ⟨⟨[c]⟩⟩ ⟨⟨[111]⟩⟩ (o4.v 0) (Nat.add o4.t 0) false (hc 111 (by decide))) 128 [] fun o5 =>
    useQ (k_r_sget (D:=900) [c,45,48+3] u 0 (Nat.add o5.t 0) c rfl (by decide)) 16386 [] fun o6 =>
    useQ (k_r_str_eq (D:=900) ⟨⟨[c]⟩⟩ ⟨⟨[102]⟩⟩ (o6.v 0) (Nat.add o6.t 0) false (hc 102 (by decide))) 128 [] fun o7 =>
    useQ (k_r_sget (D:=900) [c,45,48+3] u 0 (Nat.add o7.t 0) c rfl (by decide)) 16386 [] fun o8 =>
    useQ (k_r_str_eq (D:=900) ⟨⟨[c]⟩⟩ ⟨⟨[109]⟩⟩ (o8.v 0) (Nat.add o8.t 0) false (hc 109 (by decide))) 128 [] fun o9 =>
    useQ (k_sp_int w b1 b2 b3 3 (by lia) (Nat.add o9.t 1)) 155875277905022213423104 [] fun o10 =>
    useQ (k_r_int_sub (D:=900) (Int.ofNat both) (Int.ofNat q) ((Int.ofNat both)-(Int.ofNat q)) (o3.v 0) t2 rfl) 4074320629465211417523889872237673670009065399201192880814623741866441003387472488649719808 [] fun o11 =>
    useQ (k_r_int_sub (D:=900) (Int.ofNat both) (Int.ofNat s) ((Int.ofNat both)-(Int.ofNat s)) (o3.v 0) t3 rfl) 1180663682709766291715 [] fun o12 =>
    useQ (k_r_int_sub (D:=900) (Int.ofNat both) (Int.ofNat p) ((Int.ofNat both)-(Int.ofNat p)) (o3.v 0) t1 rfl) 1180663682709766291715 [] fun o13 =>
    useQ (k_r_int_sub (D:=900) (Int.ofNat both) ((Int.ofNat both)-(Int.ofNat s)) ((Int.ofNat both)-((Int.ofNat both)-(Int.ofNat s))) (o3.v 0) (o12.v 0) rfl) 6132601334259227390643892004628527885935300328334295298 [] fun o14 =>
    useQ (k_r_int_sub (D:=900) (Int.ofNat both) ((Int.ofNat both)-(Int.ofNat p)) ((Int.ofNat both)-((Int.ofNat both)-(Int.ofNat p))) (o3.v 0) (o13.v 0) rfl) 1181096054663896219907 [] fun o15 =>
    useQ (k_r_int_sub (D:=900) (Int.ofNat both) ((Int.ofNat both)-(Int.ofNat q)) ((Int.ofNat both)-((Int.ofNat both)-(Int.ofNat q))) (o3.v 0) (o11.v 0) rfl) 1181096054663896219907 [] fun o16 =>
    useQ (k_r_int_sub (D:=900) (Int.ofNat both) ((Int.ofNat both)-((Int.ofNat both)-(Int.ofNat p))) (Int.ofNat n1) (o3.v 0) (o15.v 0) e1) 6132975501515751955767551609090071441803384626308186370 [] fun o17 =>
    useQ (k_r_int_sub (D:=900) (Int.ofNat both) ((Int.ofNat both)-((Int.ofNat both)-(Int.ofNat q))) (Int.ofNat n2) (o3.v 0) (o16.v 0) e2) 1181168116656251207939 [] fun o18 =>
    useQ (k_r_int_sub (D:=900) (Int.ofNat both) ((Int.ofNat both)-((Int.ofNat both)-(Int.ofNat s))) (Int.ofNat n3) (o3.v 0) (o14.v 0) e3) 1181168116656251207939 [] fun o19 =>
    finK 38698668511451716362699010 (pick [o19.x,(o17.v 0),(o18.v 0),(o19.v 0)]) [8]
theorem due_l3 (c:Nat) (hc : ∀ j,j=102∨j=109∨j=111→(([c]:List Nat) == [j])=false) (p q s both:Nat) (n1 n2 n3:Nat) (hb:Int.ofNat (max (max p q) s)+Int.ofNat (min (min p q) s)=Int.ofNat both) (e1:((Int.ofNat both)-((Int.ofNat both)-((Int.ofNat both)-(Int.ofNat p))))=Int.ofNat n1) (e2:((Int.ofNat both)-((Int.ofNat both)-((Int.ofNat both)-(Int.ofNat q))))=Int.ofNat n2) (e3:((Int.ofNat both)-((Int.ofNat both)-((Int.ofNat both)-(Int.ofNat s))))=Int.ofNat n3) (a ep u t1 t2 t3:Nat) :
    Spec (VV ⟨w,b1,b2,b3⟩) 380 (.call (.ref 320) ⟨[.str ⟨⟨[c,45,48+3]⟩⟩ u,.ref (A a)],[]⟩) [(A a,lst [.int (Int.ofNat p) t1,.int (Int.ofNat q) t2,.int (Int.ofNat s) t3] ep)] (fun o=>⟨.ok (.ret (.ref (A (o.v 0)))),[lst [.int (Int.ofNat p) t1,.int (Int.ofNat q) t2,.int (Int.ofNat s) t3] ep],[(A (o.v 0),lst [.int (Int.ofNat n1) (o.v 1),.int (Int.ofNat n2) (o.v 2),.int (Int.ofNat n3) (o.v 3)] 0)]⟩):=by
  refine spec_run [0] 3000 (pl_due_l3 w b1 b2 b3 c hc p q s both n1 n2 n3 hb e1 e2 e3 a ep u t1 t2 t3) rfl fun x t => ?_
  cases b1 <;> kernel_rfl
noncomputable def pl_due_l4 (w:World) (b1 b2 b3:Bool) (c:Nat) (hc : ∀ j,j=102∨j=109∨j=111→(([c]:List Nat) == [j])=false) (p q s both:Nat) (n1 n2 n3:Nat) (hb:Int.ofNat (max (max p q) s)+Int.ofNat (min (min p q) s)=Int.ofNat both) (e1:((Int.ofNat both)-((Int.ofNat both)-((Int.ofNat both)-((Int.ofNat both)-(Int.ofNat q)))))=Int.ofNat n1) (e2:((Int.ofNat both)-((Int.ofNat both)-((Int.ofNat both)-((Int.ofNat both)-(Int.ofNat s)))))=Int.ofNat n2) (e3:((Int.ofNat both)-((Int.ofNat both)-((Int.ofNat both)-((Int.ofNat both)-(Int.ofNat p)))))=Int.ofNat n3) (a ep u t1 t2 t3:Nat):Nat→Nat→PlanOk (VV ⟨w,b1,b2,b3⟩):=fun x t =>
    useQ (k_sp_maxZ w b1 b2 b3 (A a) p q s t1 t2 t3 ep) 19345174297075570878480386 [0] fun o1 =>
    useQ (k_sp_minZ w b1 b2 b3 (A a) p q s t1 t2 t3 ep) 268468224 [0] fun o2 =>
    useQ (k_r_int_add (D:=900) (Int.ofNat (max (max p q) s)) (Int.ofNat (min (min p q) s)) (Int.ofNat both) (o1.v 0) (o2.v 0) hb) 128 [] fun o3 =>
    useQ (k_r_sget (D:=900) [c,45,48+4] u 0 (Nat.add o3.t 0) c rfl (by decide)) 268468611 [] fun o4 =>
    useQ (k_r_str_eq (D:=900) ⟨⟨[c]⟩⟩ ⟨⟨[111]⟩⟩ (o4.v 0) (Nat.add o4.t 0) false (hc 111 (by decide))) 128 [] fun o5 =>
    useQ (k_r_sget (D:=900) [c,45,48+4] u 0 (Nat.add o5.t 0) c rfl (by decide)) 16386 [] fun o6 =>
    useQ (k_r_str_eq (D:=900) ⟨⟨[c]⟩⟩ ⟨⟨[102]⟩⟩ (o6.v 0) (Nat.add o6.t 0) false (hc 102 (by decide))) 128 [] fun o7 =>
    useQ (k_r_sget (D:=900) [c,45,48+4] u 0 (Nat.add o7.t 0) c rfl (by decide)) 16386 [] fun o8 =>
    useQ (k_r_str_eq (D:=900) ⟨⟨[c]⟩⟩ ⟨⟨[109]⟩⟩ (o8.v 0) (Nat.add o8.t 0) false (hc 109 (by decide))) 128 [] fun o9 =>
    useQ (k_sp_int w b1 b2 b3 4 (by lia) (Nat.add o9.t 1)) 155875277905022213423104 [] fun o10 =>
    useQ (k_r_int_sub (D:=900) (Int.ofNat both) (Int.ofNat q) ((Int.ofNat both)-(Int.ofNat q)) (o3.v 0) t2 rfl) 4074320629465211417523889872237673670009065399201192880814623741866441003387472488649719808 [] fun o11 =>
    useQ (k_r_int_sub (D:=900) (Int.ofNat both) (Int.ofNat s) ((Int.ofNat both)-(Int.ofNat s)) (o3.v 0) t3 rfl) 1180663682709766291715 [] fun o12 =>
    useQ (k_r_int_sub (D:=900) (Int.ofNat both) (Int.ofNat p) ((Int.ofNat both)-(Int.ofNat p)) (o3.v 0) t1 rfl) 1180663682709766291715 [] fun o13 =>
    useQ (k_r_int_sub (D:=900) (Int.ofNat both) ((Int.ofNat both)-(Int.ofNat s)) ((Int.ofNat both)-((Int.ofNat both)-(Int.ofNat s))) (o3.v 0) (o12.v 0) rfl) 6132601334259227390643892004628527885935300328334295298 [] fun o14 =>
    useQ (k_r_int_sub (D:=900) (Int.ofNat both) ((Int.ofNat both)-(Int.ofNat p)) ((Int.ofNat both)-((Int.ofNat both)-(Int.ofNat p))) (o3.v 0) (o13.v 0) rfl) 1181096054663896219907 [] fun o15 =>
    useQ (k_r_int_sub (D:=900) (Int.ofNat both) ((Int.ofNat both)-(Int.ofNat q)) ((Int.ofNat both)-((Int.ofNat both)-(Int.ofNat q))) (o3.v 0) (o11.v 0) rfl) 1181096054663896219907 [] fun o16 =>
    useQ (k_r_int_sub (D:=900) (Int.ofNat both) ((Int.ofNat both)-((Int.ofNat both)-(Int.ofNat p))) ((Int.ofNat both)-((Int.ofNat both)-((Int.ofNat both)-(Int.ofNat p)))) (o3.v 0) (o15.v 0) rfl) 6132975501515751955767551609090071441803384626308186370 [] fun o17 =>
    useQ (k_r_int_sub (D:=900) (Int.ofNat both) ((Int.ofNat both)-((Int.ofNat both)-(Int.ofNat q))) ((Int.ofNat both)-((Int.ofNat both)-((Int.ofNat both)-(Int.ofNat q)))) (o3.v 0) (o16.v 0) rfl) 1181168116656251207939 [] fun o18 =>
    useQ (k_r_int_sub (D:=900) (Int.ofNat both) ((Int.ofNat both)-((Int.ofNat both)-(Int.ofNat s))) ((Int.ofNat both)-((Int.ofNat both)-((Int.ofNat both)-(Int.ofNat s)))) (o3.v 0) (o14.v 0) rfl) 1181168116656251207939 [] fun o19 =>
    useQ (k_r_int_sub (D:=900) (Int.ofNat both) ((Int.ofNat both)-((Int.ofNat both)-((Int.ofNat both)-(Int.ofNat q)))) (Int.ofNat n1) (o3.v 0) (o18.v 0) e1) 6133349668772276520891211213551614997671468924282077442 [] fun o20 =>
    useQ (k_r_int_sub (D:=900) (Int.ofNat both) ((Int.ofNat both)-((Int.ofNat both)-((Int.ofNat both)-(Int.ofNat s)))) (Int.ofNat n2) (o3.v 0) (o19.v 0) e2) 1181240178648606195971 [] fun o21 =>
    useQ (k_r_int_sub (D:=900) (Int.ofNat both) ((Int.ofNat both)-((Int.ofNat both)-((Int.ofNat both)-(Int.ofNat p)))) (Int.ofNat n3) (o3.v 0) (o17.v 0) e3) 1181240178648606195971 [] fun o22 =>
    finK 38699849103072433774002434 (pick [o22.x,(o20.v 0),(o21.v 0),(o22.v 0)]) [9]
theorem due_l4 (c:Nat) (hc : ∀ j,j=102∨j=109∨j=111→(([c]:List Nat) == [j])=false) (p q s both:Nat) (n1 n2 n3:Nat) (hb:Int.ofNat (max (max p q) s)+Int.ofNat (min (min p q) s)=Int.ofNat both) (e1:((Int.ofNat both)-((Int.ofNat both)-((Int.ofNat both)-((Int.ofNat both)-(Int.ofNat q)))))=Int.ofNat n1) (e2:((Int.ofNat both)-((Int.ofNat both)-((Int.ofNat both)-((Int.ofNat both)-(Int.ofNat s)))))=Int.ofNat n2) (e3:((Int.ofNat both)-((Int.ofNat both)-((Int.ofNat both)-((Int.ofNat both)-(Int.ofNat p)))))=Int.ofNat n3) (a ep u t1 t2 t3:Nat) :
    Spec (VV ⟨w,b1,b2,b3⟩) 380 (.call (.ref 320) ⟨[.str ⟨⟨[c,45,48+4]⟩⟩ u,.ref (A a)],[]⟩) [(A a,lst [.int (Int.ofNat p) t1,.int (Int.ofNat q) t2,.int (Int.ofNat s) t3] ep)] (fun o=>⟨.ok (.ret (.ref (A (o.v 0)))),[lst [.int (Int.ofNat p) t1,.int (Int.ofNat q) t2,.int (Int.ofNat s) t3] ep],[(A (o.v 0),lst [.int (Int.ofNat n1) (o.v 1),.int (Int.ofNat n2) (o.v 2),.int (Int.ofNat n3) (o.v 3)] 0)]⟩):=by
  refine spec_run [0] 3000 (pl_due_l4 w b1 b2 b3 c hc p q s both n1 n2 n3 hb e1 e2 e3 a ep u t1 t2 t3) rfl fun x t => ?_
  cases b1 <;> kernel_rfl
noncomputable def pl_due_l5 (w:World) (b1 b2 b3:Bool) (c:Nat) (hc : ∀ j,j=102∨j=109∨j=111→(([c]:List Nat) == [j])=false) (p q s both:Nat) (n1 n2 n3:Nat) (hb:Int.ofNat (max (max p q) s)+Int.ofNat (min (min p q) s)=Int.ofNat both) (e1:((Int.ofNat both)-((Int.ofNat both)-((Int.ofNat both)-((Int.ofNat both)-((Int.ofNat both)-(Int.ofNat s))))))=Int.ofNat n1) (e2:((Int.ofNat both)-((Int.ofNat both)-((Int.ofNat both)-((Int.ofNat both)-((Int.ofNat both)-(Int.ofNat p))))))=Int.ofNat n2) (e3:((Int.ofNat both)-((Int.ofNat both)-((Int.ofNat both)-((Int.ofNat both)-((Int.ofNat both)-(Int.ofNat q))))))=Int.ofNat n3) (a ep u t1 t2 t3:Nat):Nat→Nat→PlanOk (VV ⟨w,b1,b2,b3⟩):=fun x t =>
    useQ (k_sp_maxZ w b1 b2 b3 (A a) p q s t1 t2 t3 ep) 19345174297075570878480386 [0] fun o1 =>
    useQ (k_sp_minZ w b1 b2 b3 (A a) p q s t1 t2 t3 ep) 268468224 [0] fun o2 =>
    useQ (k_r_int_add (D:=900) (Int.ofNat (max (max p q) s)) (Int.ofNat (min (min p q) s)) (Int.ofNat both) (o1.v 0) (o2.v 0) hb) 128 [] fun o3 =>
    useQ (k_r_sget (D:=900) [c,45,48+5] u 0 (Nat.add o3.t 0) c rfl (by decide)) 268468611 [] fun o4 =>
    useQ (k_r_str_eq (D:=900) ⟨⟨[c]⟩⟩ ⟨⟨[111]⟩⟩ (o4.v 0) (Nat.add o4.t 0) false (hc 111 (by decide))) 128 [] fun o5 =>
    useQ (k_r_sget (D:=900) [c,45,48+5] u 0 (Nat.add o5.t 0) c rfl (by decide)) 16386 [] fun o6 =>
    useQ (k_r_str_eq (D:=900) ⟨⟨[c]⟩⟩ ⟨⟨[102]⟩⟩ (o6.v 0) (Nat.add o6.t 0) false (hc 102 (by decide))) 128 [] fun o7 =>
    useQ (k_r_sget (D:=900) [c,45,48+5] u 0 (Nat.add o7.t 0) c rfl (by decide)) 16386 [] fun o8 =>
    useQ (k_r_str_eq (D:=900) ⟨⟨[c]⟩⟩ ⟨⟨[109]⟩⟩ (o8.v 0) (Nat.add o8.t 0) false (hc 109 (by decide))) 128 [] fun o9 =>
    useQ (k_sp_int w b1 b2 b3 5 (by lia) (Nat.add o9.t 1)) 155875277905022213423104 [] fun o10 =>
    useQ (k_r_int_sub (D:=900) (Int.ofNat both) (Int.ofNat q) ((Int.ofNat both)-(Int.ofNat q)) (o3.v 0) t2 rfl) 4074320629465211417523889872237673670009065399201192880814623741866441003387472488649719808 [] fun o11 =>
    useQ (k_r_int_sub (D:=900) (Int.ofNat both) (Int.ofNat s) ((Int.ofNat both)-(Int.ofNat s)) (o3.v 0) t3 rfl) 1180663682709766291715 [] fun o12 =>
    useQ (k_r_int_sub (D:=900) (Int.ofNat both) (Int.ofNat p) ((Int.ofNat both)-(Int.ofNat p)) (o3.v 0) t1 rfl) 1180663682709766291715 [] fun o13 =>
    useQ (k_r_int_sub (D:=900) (Int.ofNat both) ((Int.ofNat both)-(Int.ofNat s)) ((Int.ofNat both)-((Int.ofNat both)-(Int.ofNat s))) (o3.v 0) (o12.v 0) rfl) 6132601334259227390643892004628527885935300328334295298 [] fun o14 =>
    useQ (k_r_int_sub (D:=900) (Int.ofNat both) ((Int.ofNat both)-(Int.ofNat p)) ((Int.ofNat both)-((Int.ofNat both)-(Int.ofNat p))) (o3.v 0) (o13.v 0) rfl) 1181096054663896219907 [] fun o15 =>
    useQ (k_r_int_sub (D:=900) (Int.ofNat both) ((Int.ofNat both)-(Int.ofNat q)) ((Int.ofNat both)-((Int.ofNat both)-(Int.ofNat q))) (o3.v 0) (o11.v 0) rfl) 1181096054663896219907 [] fun o16 =>
    useQ (k_r_int_sub (D:=900) (Int.ofNat both) ((Int.ofNat both)-((Int.ofNat both)-(Int.ofNat p))) ((Int.ofNat both)-((Int.ofNat both)-((Int.ofNat both)-(Int.ofNat p)))) (o3.v 0) (o15.v 0) rfl) 6132975501515751955767551609090071441803384626308186370 [] fun o17 =>
    useQ (k_r_int_sub (D:=900) (Int.ofNat both) ((Int.ofNat both)-((Int.ofNat both)-(Int.ofNat q))) ((Int.ofNat both)-((Int.ofNat both)-((Int.ofNat both)-(Int.ofNat q)))) (o3.v 0) (o16.v 0) rfl) 1181168116656251207939 [] fun o18 =>
    useQ (k_r_int_sub (D:=900) (Int.ofNat both) ((Int.ofNat both)-((Int.ofNat both)-(Int.ofNat s))) ((Int.ofNat both)-((Int.ofNat both)-((Int.ofNat both)-(Int.ofNat s)))) (o3.v 0) (o14.v 0) rfl) 1181168116656251207939 [] fun o19 =>
    useQ (k_r_int_sub (D:=900) (Int.ofNat both) ((Int.ofNat both)-((Int.ofNat both)-((Int.ofNat both)-(Int.ofNat q)))) ((Int.ofNat both)-((Int.ofNat both)-((Int.ofNat both)-((Int.ofNat both)-(Int.ofNat q))))) (o3.v 0) (o18.v 0) rfl) 6133349668772276520891211213551614997671468924282077442 [] fun o20 =>
    useQ (k_r_int_sub (D:=900) (Int.ofNat both) ((Int.ofNat both)-((Int.ofNat both)-((Int.ofNat both)-(Int.ofNat s)))) ((Int.ofNat both)-((Int.ofNat both)-((Int.ofNat both)-((Int.ofNat both)-(Int.ofNat s))))) (o3.v 0) (o19.v 0) rfl) 1181240178648606195971 [] fun o21 =>
    useQ (k_r_int_sub (D:=900) (Int.ofNat both) ((Int.ofNat both)-((Int.ofNat both)-((Int.ofNat both)-(Int.ofNat p)))) ((Int.ofNat both)-((Int.ofNat both)-((Int.ofNat both)-((Int.ofNat both)-(Int.ofNat p))))) (o3.v 0) (o17.v 0) rfl) 1181240178648606195971 [] fun o22 =>
    useQ (k_r_int_sub (D:=900) (Int.ofNat both) ((Int.ofNat both)-((Int.ofNat both)-((Int.ofNat both)-((Int.ofNat both)-(Int.ofNat s))))) (Int.ofNat n1) (o3.v 0) (o21.v 0) e1) 6133723836028801086014870818013158553539553222255968514 [] fun o23 =>
    useQ (k_r_int_sub (D:=900) (Int.ofNat both) ((Int.ofNat both)-((Int.ofNat both)-((Int.ofNat both)-((Int.ofNat both)-(Int.ofNat p))))) (Int.ofNat n2) (o3.v 0) (o22.v 0) e2) 1181312240640961184003 [] fun o24 =>
    useQ (k_r_int_sub (D:=900) (Int.ofNat both) ((Int.ofNat both)-((Int.ofNat both)-((Int.ofNat both)-((Int.ofNat both)-(Int.ofNat q))))) (Int.ofNat n3) (o3.v 0) (o20.v 0) e3) 1181312240640961184003 [] fun o25 =>
    finK 38701029694693151185305858 (pick [o25.x,(o23.v 0),(o24.v 0),(o25.v 0)]) [10]
theorem due_l5 (c:Nat) (hc : ∀ j,j=102∨j=109∨j=111→(([c]:List Nat) == [j])=false) (p q s both:Nat) (n1 n2 n3:Nat) (hb:Int.ofNat (max (max p q) s)+Int.ofNat (min (min p q) s)=Int.ofNat both) (e1:((Int.ofNat both)-((Int.ofNat both)-((Int.ofNat both)-((Int.ofNat both)-((Int.ofNat both)-(Int.ofNat s))))))=Int.ofNat n1) (e2:((Int.ofNat both)-((Int.ofNat both)-((Int.ofNat both)-((Int.ofNat both)-((Int.ofNat both)-(Int.ofNat p))))))=Int.ofNat n2) (e3:((Int.ofNat both)-((Int.ofNat both)-((Int.ofNat both)-((Int.ofNat both)-((Int.ofNat both)-(Int.ofNat q))))))=Int.ofNat n3) (a ep u t1 t2 t3:Nat) :
    Spec (VV ⟨w,b1,b2,b3⟩) 380 (.call (.ref 320) ⟨[.str ⟨⟨[c,45,48+5]⟩⟩ u,.ref (A a)],[]⟩) [(A a,lst [.int (Int.ofNat p) t1,.int (Int.ofNat q) t2,.int (Int.ofNat s) t3] ep)] (fun o=>⟨.ok (.ret (.ref (A (o.v 0)))),[lst [.int (Int.ofNat p) t1,.int (Int.ofNat q) t2,.int (Int.ofNat s) t3] ep],[(A (o.v 0),lst [.int (Int.ofNat n1) (o.v 1),.int (Int.ofNat n2) (o.v 2),.int (Int.ofNat n3) (o.v 3)] 0)]⟩):=by
  refine spec_run [0] 3000 (pl_due_l5 w b1 b2 b3 c hc p q s both n1 n2 n3 hb e1 e2 e3 a ep u t1 t2 t3) rfl fun x t => ?_
  cases b1 <;> kernel_rfl
end
end Mine
namespace Mine
open PySem PySem.W PySem.W.X PySem.Float64
noncomputable def coFn:Stmt:=stm pT 29
noncomputable def coFor:Stmt:=nthS (fBody coFn) 0
noncomputable def coEnv (fr:Nat):Env:={ scope:=fScope coFn,locals:=A fr,globals:=3,cells:=[],qual:=⟨⟨[95,108,97,119,95,99,111,108,111,117,114,115]⟩⟩++locSuf,func:=some 325,code := .ref 324,frame:=some (A fr),builtins:=0 }
noncomputable def coC (fr it:Nat):Code := .forLoop (forT coFor) (.ref (A it)) (forB coFor) (forE coFor) (coEnv fr)
noncomputable def coF2 (P:Params) (τ:Nat→Nat) (da pa:Nat):Obj:=frO [dEnt P [100,101,101,100,115] (τ 0) (.ref (A da)),dEnt P [112,97,114,116,115] (τ 1) (.ref (A pa))] 2
noncomputable def coF4 (P:Params) (τ:Nat→Nat) (da pa:Nat) (K:List Nat) (kt to:Nat):Obj:=frO [dEnt P [100,101,101,100,115] (τ 0) (.ref (A da)),dEnt P [112,97,114,116,115] (τ 1) (.ref (A pa)),dEnt P [107,101,121] (τ 2) (.str ⟨⟨K⟩⟩ kt),dEnt P [116,111,108,100] (τ 3) (.ref (A to))] 4
noncomputable def TI (x:UInt64) (N:Nat):Prop := ∃ a m e,decode (add (mul x c30) half) = .fin a m e∧truncOf a m e=Int.ofNat N
theorem fin_notInf {x:UInt64} (h:isFin x):isInf x=false:=by
  obtain ⟨a,m,e,h⟩:=h
  unfold isInf
  rw [h]
theorem spec_nodup {V:Stat} {D:Nat} {c:Code} {pre:List En} {post:Out→Post} (h:(pre.map (·.1)).Nodup→Spec V D c pre post):Spec V D c pre post :=
  fun A s R h1 h2 h3 h4 h5 h6 h7=>h h7 A s R h1 h2 h3 h4 h5 h6 h7
theorem r_lnextN {w:Ws} {D:Nat} (it l i:Nat) (vs:List Value) (ep:Nat) (v:Value) (hv:vs[i]? = some v) :
    Spec (VV w) D (.builtin "list_iterator.__next__" ⟨[.ref (A it)],[]⟩) [(A it,liO l i),(A l,lstO vs ep)] (fun _=>⟨.ok (.ret v),[liO l (i+1),lstO vs ep],[]⟩) :=
  spec_nodup fun h=>r_lnext it l i vs ep v hv fun e=>by subst e; simp at h
noncomputable def k_r_lnextN {w:Ws} {D:Nat}:=fun a1 a2 a3 a4 a5 a6 a7=>kOf (r_lnextN (w:=w) (D:=D) a1 a2 a3 a4 a5 a6 a7)
noncomputable abbrev inP (a b c ta tb tc ep:Nat):Obj:=lst [.int (Int.ofNat a) ta,.int (Int.ofNat b) tb,.int (Int.ofNat c) tc] ep
section
variable (w:World) (b1 b2 b3:Bool)
noncomputable def pl_sp_fint (w:World) (b1 b2 b3:Bool) (x:UInt64) (t:Tok) (s:Bool) (m:Nat) (e:Int) (h:decode x = .fin s m e) (z:Int) (hz:truncOf s m e=z):Nat→Nat→PlanOk (VV ⟨w,b1,b2,b3⟩):=fun _ _ =>
    useQ (k_r_fint (D:=900) x t h z hz) 34359738368 [] fun o1 =>
    finK 0 o1.v []
theorem sp_fint (x:UInt64) (t:Tok) {s:Bool} {m:Nat} {e:Int} (h:decode x = .fin s m e) (z:Int) (hz:truncOf s m e=z):Spec (VV ⟨w,b1,b2,b3⟩) 800 (.call (.type "int") ⟨[.float x t],[]⟩) [] (fun o=>⟨.ok (.ret (.int z (o.v 0))),[],[]⟩):=by
  refine spec_run [] 3000 (pl_sp_fint w b1 b2 b3 x t s m e h z hz) rfl fun x t => ?_
  cases b1 <;> kernel_rfl
noncomputable def k_sp_fint {s:Bool} {m:Nat} {e:Int}:=fun a1 a2 a3 a4 a5 a6 a7 a8 a9=>kOf (sp_fint (s:=s) (m:=m) (e:=e) a1 a2 a3 a4 a5 a6 a7 a8 a9)
noncomputable def pl_turn (it da pa:Nat) (vs:List Value) (ed i:Nat) (K:List Nat) (kt:Nat) (hv:vs[i]? = some (.str ⟨⟨K⟩⟩ kt)) (p q s tp tq ts ep:Nat) (x1 x2 x3 p' q' s':UInt64) (n1 n2 n3 e2:Nat) {fs1 fs2 fs3:Bool} {fm1 fm2 fm3:Nat} {fe1 fe2 fe3:Int} (d1:decode (add (mul x1 c30) half) = .fin fs1 fm1 fe1) (z1:truncOf fs1 fm1 fe1=Int.ofNat n1) (d2:decode (add (mul x2 c30) half) = .fin fs2 fm2 fe2) (z2:truncOf fs2 fm2 fe2=Int.ofNat n2) (d3:decode (add (mul x3 c30) half) = .fin fs3 fm3 fe3) (z3:truncOf fs3 fm3 fe3=Int.ofNat n3)
    (rp : ∀ t u:Nat,FF ⟨w,b1,b2,b3⟩ 900 "int.__truediv__" [.int (Int.ofNat p) t,.int (Int.ofNat 1073741824) u] p') (rq : ∀ t u:Nat,FF ⟨w,b1,b2,b3⟩ 900 "int.__truediv__" [.int (Int.ofNat q) t,.int (Int.ofNat 1073741824) u] q') (rs : ∀ t u:Nat,FF ⟨w,b1,b2,b3⟩ 900 "int.__truediv__" [.int (Int.ofNat s) t,.int (Int.ofNat 1073741824) u] s')
    (hd : ∀ a ep t1 t2 t3,Spec (VV ⟨w,b1,b2,b3⟩) 380 (.call (.ref 315) ⟨[.str ⟨⟨K⟩⟩ kt,.ref (A a)],[]⟩) [(A a,lst [.float p' t1,.float q' t2,.float s' t3] ep)] (fun o=>⟨.ok (.ret (.ref (A (o.v 0)))),[lst [.float p' t1,.float q' t2,.float s' t3] ep],[(A (o.v 0),tup [.float x1 (o.v 1),.float x2 (o.v 2),.float x3 (o.v 3)])]⟩))
    (hu:Spec (VV ⟨w,b1,b2,b3⟩) 380 (.call (.ref 320) ⟨[.str ⟨⟨K⟩⟩ kt,.ref (A pa)],[]⟩) [(A pa,inP p q s tp tq ts ep)] (fun o=>⟨.ok (.ret (.ref (A (o.v 0)))),[inP p q s tp tq ts ep],[(A (o.v 0),inP n1 n2 n3 (o.v 1) (o.v 2) (o.v 3) e2)]⟩)):Nat→Nat→PlanOk (VV ⟨w,b1,b2,b3⟩):=fun x t =>
    useQ (k_r_lnextN (D:=900) it da i vs ed (.str ⟨⟨K⟩⟩ kt) hv) 272630016 [1,2] fun o1 =>
    useK (rp tp (Nat.add o1.t 4)) (cond b2 100433630405819600025342003516958625865602262124508152332417 441711777803823503549076148552145185482640154953618451297916183791009921) [] fun o2 =>
    useK (rq tq (Nat.add o2.t 3)) 22835963683478348690492112727260661534622221056 [] fun o3 =>
    useK (rs ts (Nat.add o3.t 3)) 22835963683478348690492112727260661534622221056 [] fun o4 =>
    useK (hd (Nat.add o1.x 1) 3 (o2.v 0) (o3.v 0) (o4.v 0)) 178482785031810462624708413419051953283924736 [5] fun o5 =>
    useK hu 4398317043841 [3] fun o6 =>
    useQ (k_r_list_ne (D:=900) (A (Nat.add o6.x 1)) (A (Nat.add o6.x 5)) [] [] 0 0 [(A (Nat.add o6.x 1),lstO [] 0),(A (Nat.add o6.x 5),lstO [] 0)] (by decide) (.head _) (.tail _ (.head _)) .nil) (cond b2 353662194589099638185047745046590126455937887786704569058477184855132674507422371764180443818367836243518385454286172768251971517173815676231235867050851808961527910082920049569228379745315272319334751404161 1555422781021973610588377969841818203591431795764443082465211413007299926784401403889570642373278946062535636480902364226199556867875881653191969364629107188154574946305762076603344082936499083198553274944815240180662401) [12,16] fun o7 =>
    useQ (k_r_fmuli (D:=900) x1 (o5.v 1) (Nat.add o7.t 3) 1073741824 (by decide +kernel)) (cond b2 6129982620183036593524138755267886312212390421268169985 26959948675824160464033199452612320696362440938920378006817275544833) [] fun o8 =>
    useQ (k_r_fadd (D:=900) (mul x1 c30) (o8.v 0) half (Nat.add o8.t 0)) 128 [] fun o9 =>
    useQ (k_sp_fint w b1 b2 b3 (add (mul x1 c30) half) (o9.v 0) d1 _ z1) 1 [] fun o10 =>
    useQ (k_r_fmuli (D:=900) x2 (o5.v 2) (Nat.add o10.t 3) 1073741824 (by decide +kernel)) 374144447032656042085213547074455951673772675697024 [] fun o11 =>
    useQ (k_r_fadd (D:=900) (mul x2 c30) (o11.v 0) half (Nat.add o11.t 0)) 128 [] fun o12 =>
    useQ (k_sp_fint w b1 b2 b3 (add (mul x2 c30) half) (o12.v 0) d2 _ z2) 1 [] fun o13 =>
    useQ (k_r_fmuli (D:=900) x3 (o5.v 3) (Nat.add o13.t 3) 1073741824 (by decide +kernel)) 374144447032656042085213547074455951673772675697024 [] fun o14 =>
    useQ (k_r_fadd (D:=900) (mul x3 c30) (o14.v 0) half (Nat.add o14.t 0)) 128 [] fun o15 =>
    useQ (k_sp_fint w b1 b2 b3 (add (mul x3 c30) half) (o15.v 0) d3 _ z3) 1 [] fun o16 =>
    useQ (k_r_list_ne (D:=900) (A (Nat.add o7.x 1)) (A (o6.v 0)) [.int (Int.ofNat n1) (o10.v 0),.int (Int.ofNat n2) (o13.v 0),.int (Int.ofNat n3) (o16.v 0)] [.int (Int.ofNat n1) (o6.v 1),.int (Int.ofNat n2) (o6.v 2),.int (Int.ofNat n3) (o6.v 3)] 3 e2 [(A (Nat.add o7.x 1),lstO [.int (Int.ofNat n1) (o10.v 0),.int (Int.ofNat n2) (o13.v 0),.int (Int.ofNat n3) (o16.v 0)] 3),((A (o6.v 0)),lstO [.int (Int.ofNat n1) (o6.v 1),.int (Int.ofNat n2) (o6.v 2),.int (Int.ofNat n3) (o6.v 3)] e2)] (by decide) (.head _) (.tail _ (.head _)) (.cons (.base (.int _ _ _)) (.cons (.base (.int _ _ _)) (.cons (.base (.int _ _ _)) .nil)))) 7039957182501815995928960734042464785485751128051157376 [18,10] fun o17 =>
    finK 127 (pick [o6.v 0,o6.v 1,o6.v 2,o6.v 3,Nat.add o1.t 0,Nat.add o5.t 0,o5.v 0]) [10]
noncomputable def pl_turnC (it da pa:Nat) (vs:List Value) (ed i:Nat) (K:List Nat) (kt:Nat) (hv:vs[i]? = some (.str ⟨⟨K⟩⟩ kt)) (tp tq ts:Nat) (x1 x2 x3 p' q' s':UInt64) (n1 n2 n3 e2:Nat) {fs1 fs2 fs3:Bool} {fm1 fm2 fm3:Nat} {fe1 fe2 fe3:Int} (d1:decode (add (mul x1 c30) half) = .fin fs1 fm1 fe1) (z1:truncOf fs1 fm1 fe1=Int.ofNat n1) (d2:decode (add (mul x2 c30) half) = .fin fs2 fm2 fe2) (z2:truncOf fs2 fm2 fe2=Int.ofNat n2) (d3:decode (add (mul x3 c30) half) = .fin fs3 fm3 fe3) (z3:truncOf fs3 fm3 fe3=Int.ofNat n3)
    (rp : ∀ t u:Nat,FF ⟨w,b1,b2,b3⟩ 900 "int.__truediv__" [.int (Int.ofNat n1) t,.int (Int.ofNat 1073741824) u] p') (rq : ∀ t u:Nat,FF ⟨w,b1,b2,b3⟩ 900 "int.__truediv__" [.int (Int.ofNat n2) t,.int (Int.ofNat 1073741824) u] q') (rs : ∀ t u:Nat,FF ⟨w,b1,b2,b3⟩ 900 "int.__truediv__" [.int (Int.ofNat n3) t,.int (Int.ofNat 1073741824) u] s')
    (hd : ∀ a ep t1 t2 t3,Spec (VV ⟨w,b1,b2,b3⟩) 380 (.call (.ref 315) ⟨[.str ⟨⟨K⟩⟩ kt,.ref (A a)],[]⟩) [(A a,lst [.float p' t1,.float q' t2,.float s' t3] ep)] (fun o=>⟨.ok (.ret (.ref (A (o.v 0)))),[lst [.float p' t1,.float q' t2,.float s' t3] ep],[(A (o.v 0),tup [.float x1 (o.v 1),.float x2 (o.v 2),.float x3 (o.v 3)])]⟩))
    (hu:Spec (VV ⟨w,b1,b2,b3⟩) 380 (.call (.ref 320) ⟨[.str ⟨⟨K⟩⟩ kt,.ref (A pa)],[]⟩) [(A pa,inP n1 n2 n3 tp tq ts e2)] (fun o=>⟨.ok (.ret (.ref (A pa))),[inP n1 n2 n3 tp tq ts e2],[]⟩)):Nat→Nat→PlanOk (VV ⟨w,b1,b2,b3⟩):=fun x t =>
    useQ (k_r_lnextN (D:=900) it da i vs ed (.str ⟨⟨K⟩⟩ kt) hv) 272630016 [1,2] fun o1 =>
    useK (rp tp (Nat.add o1.t 4)) (cond b2 100433630405819600025342003516958625865602262124508152332417 441711777803823503549076148552145185482640154953618451297916183791009921) [] fun o2 =>
    useK (rq tq (Nat.add o2.t 3)) 22835963683478348690492112727260661534622221056 [] fun o3 =>
    useK (rs ts (Nat.add o3.t 3)) 22835963683478348690492112727260661534622221056 [] fun o4 =>
    useK (hd (Nat.add o1.x 1) 3 (o2.v 0) (o3.v 0) (o4.v 0)) 178482785031810462624708413419051953283924736 [5] fun o5 =>
    useK hu 4398317043841 [3] fun o6 =>
    useQ (k_r_list_ne (D:=900) (A (Nat.add o6.x 1)) (A (Nat.add o6.x 5)) [] [] 0 0 [(A (Nat.add o6.x 1),lstO [] 0),(A (Nat.add o6.x 5),lstO [] 0)] (by decide) (.head _) (.tail _ (.head _)) .nil) (cond b2 351153812038505735318985991440704838136618557653579205669681453453750056984680549526588484578247653722526985908159987797095515944142306833668237862907928436376664967949534710435307781618833302186596702879873 1544390797896819943325160408186842319857408291992384702153666172233321209146715477221381963482904602344433728463872007295267148562777877115496850775181807711586501401493634798971730940413518710796984174951520287668043905) [11,15] fun o7 =>
    useQ (k_r_fmuli (D:=900) x1 (o5.v 1) (Nat.add o7.t 3) 1073741824 (by decide +kernel)) (cond b2 6129982597347062535452640843930190082530005350627837185 26959948575390484430270395373070342667848395544554725940211231130881) [] fun o8 =>
    useQ (k_r_fadd (D:=900) (mul x1 c30) (o8.v 0) half (Nat.add o8.t 0)) 128 [] fun o9 =>
    useQ (k_sp_fint w b1 b2 b3 (add (mul x1 c30) half) (o9.v 0) d1 _ z1) 1 [] fun o10 =>
    useQ (k_r_fmuli (D:=900) x2 (o5.v 2) (Nat.add o10.t 3) 1073741824 (by decide +kernel)) 374144445638858797329873098384411015780038053202176 [] fun o11 =>
    useQ (k_r_fadd (D:=900) (mul x2 c30) (o11.v 0) half (Nat.add o11.t 0)) 128 [] fun o12 =>
    useQ (k_sp_fint w b1 b2 b3 (add (mul x2 c30) half) (o12.v 0) d2 _ z2) 1 [] fun o13 =>
    useQ (k_r_fmuli (D:=900) x3 (o5.v 3) (Nat.add o13.t 3) 1073741824 (by decide +kernel)) 374144445638858797329873098384411015780038053202176 [] fun o14 =>
    useQ (k_r_fadd (D:=900) (mul x3 c30) (o14.v 0) half (Nat.add o14.t 0)) 128 [] fun o15 =>
    useQ (k_sp_fint w b1 b2 b3 (add (mul x3 c30) half) (o15.v 0) d3 _ z3) 1 [] fun o16 =>
    useQ (k_r_list_ne (D:=900) (A (Nat.add o7.x 1)) (A pa) [.int (Int.ofNat n1) (o10.v 0),.int (Int.ofNat n2) (o13.v 0),.int (Int.ofNat n3) (o16.v 0)] [.int (Int.ofNat n1) (tp),.int (Int.ofNat n2) (tq),.int (Int.ofNat n3) (ts)] 3 e2 [(A (Nat.add o7.x 1),lstO [.int (Int.ofNat n1) (o10.v 0),.int (Int.ofNat n2) (o13.v 0),.int (Int.ofNat n3) (o16.v 0)] 3),((A pa),lstO [.int (Int.ofNat n1) (tp),.int (Int.ofNat n2) (tq),.int (Int.ofNat n3) (ts)] e2)] (by decide) (.head _) (.tail _ (.head _)) (.cons (.base (.int _ _ _)) (.cons (.base (.int _ _ _)) (.cons (.base (.int _ _ _)) .nil)))) 6992063613816323787867493941646247110032041165149178112 [17,3] fun o17 =>
    finK 127 (pick [0,0,0,0,Nat.add o1.t 0,Nat.add o5.t 0,o5.v 0]) []
theorem turnA (fr it da pa:Nat) (τ:Nat→Nat) (vs:List Value) (ed i:Nat) (K:List Nat) (kt:Nat) (hv:vs[i]? = some (.str ⟨⟨K⟩⟩ kt)) (p q s:Nat) (hp:p≤1073741824) (hq:q≤1073741824) (hs:s≤1073741824) (tp tq ts ep:Nat) (x1 x2 x3:UInt64) (n1 n2 n3 e2:Nat)
    (hd : ∀ a ep t1 t2 t3,Spec (VV ⟨w,b1,b2,b3⟩) 380 (.call (.ref 315) ⟨[.str ⟨⟨K⟩⟩ kt,.ref (A a)],[]⟩) [(A a,lst [.float (fl p) t1,.float (fl q) t2,.float (fl s) t3] ep)] (fun o=>⟨.ok (.ret (.ref (A (o.v 0)))),[lst [.float (fl p) t1,.float (fl q) t2,.float (fl s) t3] ep],[(A (o.v 0),tup [.float x1 (o.v 1),.float x2 (o.v 2),.float x3 (o.v 3)])]⟩))
    (hu:Spec (VV ⟨w,b1,b2,b3⟩) 380 (.call (.ref 320) ⟨[.str ⟨⟨K⟩⟩ kt,.ref (A pa)],[]⟩) [(A pa,inP p q s tp tq ts ep)] (fun o=>⟨.ok (.ret (.ref (A (o.v 0)))),[inP p q s tp tq ts ep],[(A (o.v 0),inP n1 n2 n3 (o.v 1) (o.v 2) (o.v 3) e2)]⟩))
    (h1:TI x1 n1) (h2:TI x2 n2) (h3:TI x3 n3) :
    Spec (VV ⟨w,b1,b2,b3⟩) 360 (coC fr it) [(A fr,coF2 w.params τ da pa),(A it,liO da i),(A da,lstO vs ed),(A pa,inP p q s tp tq ts ep)] (fun o=>⟨.go (coC fr it),[coF4 w.params (pick [τ 0,τ 1,o.v 4,o.v 5]) da (o.v 0) K kt (o.v 6),liO da (i+1),lstO vs ed,inP p q s tp tq ts ep],[(A (o.v 0),inP n1 n2 n3 (o.v 1) (o.v 2) (o.v 3) e2)]⟩):=by
  obtain ⟨fs1,fm1,fe1,d1,z1⟩:=h1
  obtain ⟨fs2,fm2,fe2,d2,z2⟩:=h2
  obtain ⟨fs3,fm3,fe3,d3,z3⟩:=h3
  have ri : ∀ (p:Nat),p≤1073741824 → ∀ (t u:Nat),FF ⟨w,b1,b2,b3⟩ 900 "int.__truediv__" [.int (Int.ofNat p) t,.int (Int.ofNat 1073741824) u] (fl p):=fun p h t u=>r_idiv t u p 1073741824 (by decide) (fin_notInf (fl_near h).1)
  have rp:=ri p hp
  have rq:=ri q hq
  have rs:=ri s hs
  clear ri
  generalize fl p=p' at *
  generalize fl q=q' at *
  generalize fl s=s' at *
  refine spec_run [0,1,2,3] 6000 (pl_turn w b1 b2 b3 it da pa vs ed i K kt hv p q s tp tq ts ep x1 x2 x3 p' q' s' n1 n2 n3 e2 d1 z1 d2 z2 d3 z3 rp rq rs hd hu) rfl fun x t => ?_
  cases b1 <;> cases b2 <;> kernel_rfl
noncomputable def k_turnA:=fun a1 a2 a3 a4 a5 a6 a7 a8 a9 a10 a11 a12 a13 a14 a15 a16 a17 a18 a19 a20 a21 a22 a23 a24 a25 a26 a27 a28 a29 a30 a31 a32 a33 a34 a35 a36 a37=>kOf (turnA a1 a2 a3 a4 a5 a6 a7 a8 a9 a10 a11 a12 a13 a14 a15 a16 a17 a18 a19 a20 a21 a22 a23 a24 a25 a26 a27 a28 a29 a30 a31 a32 a33 a34 a35 a36 a37)
theorem turnB (fr it da pa:Nat) (τ:Nat→Nat) (K0:List Nat) (kt0 to0:Nat) (vs:List Value) (ed i:Nat) (K:List Nat) (kt:Nat) (hv:vs[i]? = some (.str ⟨⟨K⟩⟩ kt)) (p q s:Nat) (hp:p≤1073741824) (hq:q≤1073741824) (hs:s≤1073741824) (tp tq ts ep:Nat) (x1 x2 x3:UInt64) (n1 n2 n3 e2:Nat)
    (hd : ∀ a ep t1 t2 t3,Spec (VV ⟨w,b1,b2,b3⟩) 380 (.call (.ref 315) ⟨[.str ⟨⟨K⟩⟩ kt,.ref (A a)],[]⟩) [(A a,lst [.float (fl p) t1,.float (fl q) t2,.float (fl s) t3] ep)] (fun o=>⟨.ok (.ret (.ref (A (o.v 0)))),[lst [.float (fl p) t1,.float (fl q) t2,.float (fl s) t3] ep],[(A (o.v 0),tup [.float x1 (o.v 1),.float x2 (o.v 2),.float x3 (o.v 3)])]⟩))
    (hu:Spec (VV ⟨w,b1,b2,b3⟩) 380 (.call (.ref 320) ⟨[.str ⟨⟨K⟩⟩ kt,.ref (A pa)],[]⟩) [(A pa,inP p q s tp tq ts ep)] (fun o=>⟨.ok (.ret (.ref (A (o.v 0)))),[inP p q s tp tq ts ep],[(A (o.v 0),inP n1 n2 n3 (o.v 1) (o.v 2) (o.v 3) e2)]⟩))
    (h1:TI x1 n1) (h2:TI x2 n2) (h3:TI x3 n3) :
    Spec (VV ⟨w,b1,b2,b3⟩) 360 (coC fr it) [(A fr,coF4 w.params τ da pa K0 kt0 to0),(A it,liO da i),(A da,lstO vs ed),(A pa,inP p q s tp tq ts ep)] (fun o=>⟨.go (coC fr it),[coF4 w.params (pick [τ 0,τ 1,τ 2,τ 3]) da (o.v 0) K kt (o.v 6),liO da (i+1),lstO vs ed,inP p q s tp tq ts ep],[(A (o.v 0),inP n1 n2 n3 (o.v 1) (o.v 2) (o.v 3) e2)]⟩):=by
  obtain ⟨fs1,fm1,fe1,d1,z1⟩:=h1
  obtain ⟨fs2,fm2,fe2,d2,z2⟩:=h2
  obtain ⟨fs3,fm3,fe3,d3,z3⟩:=h3
  have ri : ∀ (p:Nat),p≤1073741824 → ∀ (t u:Nat),FF ⟨w,b1,b2,b3⟩ 900 "int.__truediv__" [.int (Int.ofNat p) t,.int (Int.ofNat 1073741824) u] (fl p):=fun p h t u=>r_idiv t u p 1073741824 (by decide) (fin_notInf (fl_near h).1)
  have rp:=ri p hp
  have rq:=ri q hq
  have rs:=ri s hs
  clear ri
  generalize fl p=p' at *
  generalize fl q=q' at *
  generalize fl s=s' at *
  refine spec_run [0,1,2,3] 6000 (pl_turn w b1 b2 b3 it da pa vs ed i K kt hv p q s tp tq ts ep x1 x2 x3 p' q' s' n1 n2 n3 e2 d1 z1 d2 z2 d3 z3 rp rq rs hd hu) rfl fun x t => ?_
  cases b1 <;> cases b2 <;> kernel_rfl
noncomputable def k_turnB:=fun a1 a2 a3 a4 a5 a6 a7 a8 a9 a10 a11 a12 a13 a14 a15 a16 a17 a18 a19 a20 a21 a22 a23 a24 a25 a26 a27 a28 a29 a30 a31 a32 a33 a34 a35 a36 a37 a38 a39 a40=>kOf (turnB a1 a2 a3 a4 a5 a6 a7 a8 a9 a10 a11 a12 a13 a14 a15 a16 a17 a18 a19 a20 a21 a22 a23 a24 a25 a26 a27 a28 a29 a30 a31 a32 a33 a34 a35 a36 a37 a38 a39 a40)
theorem turnC (fr it da pa:Nat) (τ:Nat→Nat) (K0:List Nat) (kt0 to0:Nat) (vs:List Value) (ed i:Nat) (K:List Nat) (kt:Nat) (hv:vs[i]? = some (.str ⟨⟨K⟩⟩ kt)) (p q s:Nat) (hp:p≤1073741824) (hq:q≤1073741824) (hs:s≤1073741824) (tp tq ts ep:Nat) (x1 x2 x3:UInt64) (n1 n2 n3 e2:Nat)
    (hd : ∀ a ep t1 t2 t3,Spec (VV ⟨w,b1,b2,b3⟩) 380 (.call (.ref 315) ⟨[.str ⟨⟨K⟩⟩ kt,.ref (A a)],[]⟩) [(A a,lst [.float (fl p) t1,.float (fl q) t2,.float (fl s) t3] ep)] (fun o=>⟨.ok (.ret (.ref (A (o.v 0)))),[lst [.float (fl p) t1,.float (fl q) t2,.float (fl s) t3] ep],[(A (o.v 0),tup [.float x1 (o.v 1),.float x2 (o.v 2),.float x3 (o.v 3)])]⟩))
    (hu:Spec (VV ⟨w,b1,b2,b3⟩) 380 (.call (.ref 320) ⟨[.str ⟨⟨K⟩⟩ kt,.ref (A pa)],[]⟩) [(A pa,inP p q s tp tq ts ep)] (fun o=>⟨.ok (.ret (.ref (A pa))),[inP p q s tp tq ts ep],[]⟩))
    (hn:n1=p∧n2=q∧n3=s∧e2=ep)
    (h1:TI x1 n1) (h2:TI x2 n2) (h3:TI x3 n3) :
    Spec (VV ⟨w,b1,b2,b3⟩) 360 (coC fr it) [(A fr,coF4 w.params τ da pa K0 kt0 to0),(A it,liO da i),(A da,lstO vs ed),(A pa,inP p q s tp tq ts ep)] (fun o=>⟨.go (coC fr it),[coF4 w.params (pick [τ 0,τ 1,τ 2,τ 3]) da pa K kt (o.v 6),liO da (i+1),lstO vs ed,inP p q s tp tq ts ep],[]⟩):=by
  obtain ⟨rfl,rfl,rfl,rfl⟩:=hn
  obtain ⟨fs1,fm1,fe1,d1,z1⟩:=h1
  obtain ⟨fs2,fm2,fe2,d2,z2⟩:=h2
  obtain ⟨fs3,fm3,fe3,d3,z3⟩:=h3
  have ri : ∀ (p:Nat),p≤1073741824 → ∀ (t u:Nat),FF ⟨w,b1,b2,b3⟩ 900 "int.__truediv__" [.int (Int.ofNat p) t,.int (Int.ofNat 1073741824) u] (fl p):=fun p h t u=>r_idiv t u p 1073741824 (by decide) (fin_notInf (fl_near h).1)
  have rp:=ri n1 hp
  have rq:=ri n2 hq
  have rs:=ri n3 hs
  clear ri
  generalize fl n1=p' at *
  generalize fl n2=q' at *
  generalize fl n3=s' at *
  refine spec_run [0,1,2,3] 6000 (pl_turnC w b1 b2 b3 it da pa vs ed i K kt hv tp tq ts x1 x2 x3 p' q' s' n1 n2 n3 e2 d1 z1 d2 z2 d3 z3 rp rq rs hd hu) rfl fun x t => ?_
  cases b1 <;> cases b2 <;> kernel_rfl
noncomputable def k_turnC:=fun a1 a2 a3 a4 a5 a6 a7 a8 a9 a10 a11 a12 a13 a14 a15 a16 a17 a18 a19 a20 a21 a22 a23 a24 a25 a26 a27 a28 a29 a30 a31 a32 a33 a34 a35 a36 a37 a38 a39 a40 a41=>kOf (turnC a1 a2 a3 a4 a5 a6 a7 a8 a9 a10 a11 a12 a13 a14 a15 a16 a17 a18 a19 a20 a21 a22 a23 a24 a25 a26 a27 a28 a29 a30 a31 a32 a33 a34 a35 a36 a37 a38 a39 a40 a41)
end
section
variable (w:World) (b1 b2 b3:Bool)
noncomputable def DeedOK (K:List Nat) (p q s:Nat) (x1 x2 x3:UInt64):Prop := ∀ kt a ep t1 t2 t3:Nat,Spec (VV ⟨w,b1,b2,b3⟩) 380 (.call (.ref 315) ⟨[.str ⟨⟨K⟩⟩ kt,.ref (A a)],[]⟩) [(A a,lst [.float (fl p) t1,.float (fl q) t2,.float (fl s) t3] ep)] (fun o=>⟨.ok (.ret (.ref (A (o.v 0)))),[lst [.float (fl p) t1,.float (fl q) t2,.float (fl s) t3] ep],[(A (o.v 0),tup [.float x1 (o.v 1),.float x2 (o.v 2),.float x3 (o.v 3)])]⟩)
noncomputable def DueNew (K:List Nat) (p q s n1 n2 n3 e2:Nat):Prop := ∀ kt pa tp tq ts ep:Nat,Spec (VV ⟨w,b1,b2,b3⟩) 380 (.call (.ref 320) ⟨[.str ⟨⟨K⟩⟩ kt,.ref (A pa)],[]⟩) [(A pa,inP p q s tp tq ts ep)] (fun o=>⟨.ok (.ret (.ref (A (o.v 0)))),[inP p q s tp tq ts ep],[(A (o.v 0),inP n1 n2 n3 (o.v 1) (o.v 2) (o.v 3) e2)]⟩)
noncomputable def DueSame (K:List Nat) (p q s:Nat):Prop := ∀ kt pa tp tq ts ep:Nat,Spec (VV ⟨w,b1,b2,b3⟩) 380 (.call (.ref 320) ⟨[.str ⟨⟨K⟩⟩ kt,.ref (A pa)],[]⟩) [(A pa,inP p q s tp tq ts ep)] (fun _=>⟨.ok (.ret (.ref (A pa))),[inP p q s tp tq ts ep],[]⟩)
noncomputable def TurnOK (K:List Nat) (p q s n1 n2 n3:Nat):Prop:=p≤1073741824∧q≤1073741824∧s≤1073741824 ∧ ∃ x1 x2 x3,TI x1 n1∧TI x2 n2∧TI x3 n3∧DeedOK w b1 b2 b3 K p q s x1 x2 x3∧((∃ e2,DueNew w b1 b2 b3 K p q s n1 n2 n3 e2)∨(DueSame w b1 b2 b3 K p q s∧n1=p∧n2=q∧n3=s))
inductive Chain:List (List Nat)→Nat→Nat→Nat→Prop
  | nil (p q s:Nat):Chain [] p q s
  | cons {K:List Nat} {ks:List (List Nat)} {p q s n1 n2 n3:Nat}:TurnOK w b1 b2 b3 K p q s n1 n2 n3→Chain ks n1 n2 n3→Chain (K::ks) p q s
noncomputable abbrev any4:Out→Post:=fun o=>⟨.ok .next,[o.ob 0,o.ob 1,o.ob 2,o.ob 3],[]⟩
noncomputable abbrev coPre (fr it da pa:Nat) (τ:Nat→Nat) (K0:List Nat) (kt0 to0:Nat) (vs:List Value) (ed i p q s tp tq ts ep:Nat):List En:=[(A fr,coF4 w.params τ da pa K0 kt0 to0),(A it,liO da i),(A da,lstO vs ed),(A pa,inP p q s tp tq ts ep)]
theorem co_step (fr it da:Nat) (vs:List Value) (ed i:Nat) (K:List Nat) (kt:Nat) (hk:vs[i]? = some (.str ⟨⟨K⟩⟩ kt)) (p q s n1 n2 n3:Nat) (h:TurnOK w b1 b2 b3 K p q s n1 n2 n3)
    (ih : ∀ (pa:Nat) (τ:Nat→Nat) (K0:List Nat) (kt0 to0 tp tq ts ep:Nat),Spec (VV ⟨w,b1,b2,b3⟩) 360 (coC fr it) (coPre w fr it da pa τ K0 kt0 to0 vs ed (i+1) n1 n2 n3 tp tq ts ep) any4) (pa:Nat) (τ:Nat→Nat) (K0:List Nat) (kt0 to0 tp tq ts ep:Nat) :
    Spec (VV ⟨w,b1,b2,b3⟩) 360 (coC fr it) (coPre w fr it da pa τ K0 kt0 to0 vs ed i p q s tp tq ts ep) any4:=by
  obtain ⟨hp,hq,hs,x1,x2,x3,h1,h2,h3,hd,hu⟩:=h
  have hd:=fun a ep t1 t2 t3=>hd kt a ep t1 t2 t3
  rcases hu with ⟨e2,hu⟩ | ⟨hu,rfl,rfl,rfl⟩
  · have hu:=fun pa tp tq ts ep=>hu kt pa tp tq ts ep
    refine spec_run [0,1,2,3] 100 (fun x t =>
      useQ (k_turnB w b1 b2 b3 fr it da pa τ K0 kt0 to0 vs ed i K kt hk p q s hp hq hs tp tq ts ep x1 x2 x3 n1 n2 n3 e2 hd (hu pa tp tq ts ep) h1 h2 h3) 1 [0,1,2,3] fun o1 =>
      useK (ih (o1.v 0) (pick [τ 0,τ 1,τ 2,τ 3]) K kt (o1.v 6) (o1.v 1) (o1.v 2) (o1.v 3) e2) 1 [0,1,2,4] fun o2 =>
      finK 0 (fun _=>0) []) rfl fun x t => ?_
    kernel_rfl
  · have hu:=fun pa tp tq ts ep=>hu kt pa tp tq ts ep
    refine spec_run [0,1,2,3] 100 (fun x t =>
      useQ (k_turnC w b1 b2 b3 fr it da pa τ K0 kt0 to0 vs ed i K kt hk n1 n2 n3 hp hq hs tp tq ts ep x1 x2 x3 n1 n2 n3 ep hd (hu pa tp tq ts ep) ⟨rfl,rfl,rfl,rfl⟩ h1 h2 h3) 1 [0,1,2,3] fun o1 =>
      useK (ih pa (pick [τ 0,τ 1,τ 2,τ 3]) K kt (o1.v 6) tp tq ts ep) 1 [0,1,2,3] fun o2 =>
      finK 0 (fun _=>0) []) rfl fun x t => ?_
    kernel_rfl
theorem co_loop (fr it da:Nat) (vs:List Value) (ed N:Nat)
    (hend : ∀ (pa:Nat) (τ:Nat→Nat) (K0:List Nat) (kt0 to0 p q s tp tq ts ep:Nat),Spec (VV ⟨w,b1,b2,b3⟩) 360 (coC fr it) (coPre w fr it da pa τ K0 kt0 to0 vs ed N p q s tp tq ts ep) any4) :
    ∀ (ks:List (List Nat)) (p q s:Nat),Chain w b1 b2 b3 ks p q s → ∀ (i:Nat),i+ks.length=N→(∀ j K,ks[j]? = some K → ∃ kt,vs[i+j]? = some (.str ⟨⟨K⟩⟩ kt)) → ∀ (pa:Nat) (τ:Nat→Nat) (K0:List Nat) (kt0 to0 tp tq ts ep:Nat),
      Spec (VV ⟨w,b1,b2,b3⟩) 360 (coC fr it) (coPre w fr it da pa τ K0 kt0 to0 vs ed i p q s tp tq ts ep) any4
  | [],p,q,s,_,i,hi,_=>fun pa τ K0 kt0 to0 tp tq ts ep=>by
    have:i=N:=hi
    subst this
    exact hend pa τ K0 kt0 to0 p q s tp tq ts ep
  | K::ks,p,q,s,.cons h hc,i,hi,hv=>fun pa τ K0 kt0 to0 tp tq ts ep=>by
    obtain ⟨kt,hk⟩:=hv 0 K rfl
    exact co_step w b1 b2 b3 fr it da vs ed i K kt hk p q s _ _ _ h (co_loop fr it da vs ed N hend ks _ _ _ hc (i+1) (by rw [← hi,List.length_cons]; lia) (fun j K' e=>by
      obtain ⟨kt',e'⟩:=hv (j+1) K' e
      exact ⟨kt',by rw [← e']; congr 1; lia⟩)) pa τ K0 kt0 to0 tp tq ts ep
noncomputable def pl_co_end (w:World) (b1 b2 b3:Bool):Nat→Nat→PlanOk (VV ⟨w,b1,b2,b3⟩):=fun x t=>finK 7102142281280930185472 (fun _=>0) []
theorem co_end (fr it da:Nat) (vs:List Value) (ed N:Nat) (hN:vs.length=N) (h4:N=2∨N=3∨N=4) (pa:Nat) (τ:Nat→Nat) (K0:List Nat) (kt0 to0 p q s tp tq ts ep:Nat) :
    Spec (VV ⟨w,b1,b2,b3⟩) 360 (coC fr it) (coPre w fr it da pa τ K0 kt0 to0 vs ed N p q s tp tq ts ep) any4:=by
  subst hN
  match vs,h4 with
  | [a,b],_ | [a,b,c],_ | [a,b,c,d],_ =>
    refine spec_run [0,1,2,3] 2000 (pl_co_end w b1 b2 b3) rfl fun x t => ?_
    cases b1 <;> kernel_rfl
  | [],h | [_],h | _::_::_::_::_::_,h=>exact absurd h (by simp only [List.length_cons,List.length_nil]; lia)
noncomputable def pl_sp_colours (w:World) (b1 b2 b3:Bool) (da pa:Nat) (vs:List Value) (ed N:Nat) (K:List Nat) (ks:List (List Nat)) (p q s n1 n2 n3 e2 kt:Nat) (x1 x2 x3:UInt64) (hp:p≤1073741824) (hq:q≤1073741824) (hs:s≤1073741824) (h1:TI x1 n1) (h2:TI x2 n2) (h3:TI x3 n3) (hd:DeedOK w b1 b2 b3 K p q s x1 x2 x3) (hu:DueNew w b1 b2 b3 K p q s n1 n2 n3 e2) (hc:Chain w b1 b2 b3 ks n1 n2 n3) (hN:vs.length=N) (h4:N=2∨N=3∨N=4) (hl:1+ks.length=N) (hk:vs[0]? = some (.str ⟨⟨K⟩⟩ kt)) (hv : ∀ j K,ks[j]? = some K → ∃ kt,vs[1+j]? = some (.str ⟨⟨K⟩⟩ kt)) (tp tq ts ep:Nat):Nat→Nat→PlanOk (VV ⟨w,b1,b2,b3⟩):=by
  have L:=fun fr it=>co_loop w b1 b2 b3 fr it da vs ed N (fun pa τ K0 kt0 to0 p q s tp tq ts ep=>co_end w b1 b2 b3 fr it da vs ed N hN h4 pa τ K0 kt0 to0 p q s tp tq ts ep) ks n1 n2 n3 hc 1 hl hv
  have hd:=fun a ep t1 t2 t3=>hd kt a ep t1 t2 t3
  have hu:=fun pa tp tq ts ep=>hu kt pa tp tq ts ep
  exact fun x t =>
    useQ (k_turnA w b1 b2 b3 x (Nat.add x 1) da pa (pick [Nat.add t 0,Nat.add t 1]) vs ed 0 K kt hk p q s hp hq hs tp tq ts ep x1 x2 x3 n1 n2 n3 e2 hd (hu pa tp tq ts ep) h1 h2 h3) 41832489151534715249098271801346 [2,3,0,1] fun o1 =>
    useK (L x (Nat.add x 1) (o1.v 0) (pick [Nat.add t 0,Nat.add t 1,o1.v 4,o1.v 5]) K kt (o1.v 6) (o1.v 1) (o1.v 2) (o1.v 3) e2) 1 [2,3,0,4] fun o2 =>
    finK 0 (fun _=>0) []
theorem sp_colours (da pa:Nat) (vs:List Value) (ed N:Nat) (K:List Nat) (ks:List (List Nat)) (p q s n1 n2 n3 e2 kt:Nat) (x1 x2 x3:UInt64) (hp:p≤1073741824) (hq:q≤1073741824) (hs:s≤1073741824)
    (h1:TI x1 n1) (h2:TI x2 n2) (h3:TI x3 n3) (hd:DeedOK w b1 b2 b3 K p q s x1 x2 x3) (hu:DueNew w b1 b2 b3 K p q s n1 n2 n3 e2) (hc:Chain w b1 b2 b3 ks n1 n2 n3)
    (hN:vs.length=N) (h4:N=2∨N=3∨N=4) (hl:1+ks.length=N) (hk:vs[0]? = some (.str ⟨⟨K⟩⟩ kt)) (hv : ∀ j K,ks[j]? = some K → ∃ kt,vs[1+j]? = some (.str ⟨⟨K⟩⟩ kt)) (tp tq ts ep:Nat) :
    Spec (VV ⟨w,b1,b2,b3⟩) 330 (.call (.ref 325) ⟨[.ref (A da),.ref (A pa)],[]⟩) [(A da,lstO vs ed),(A pa,inP p q s tp tq ts ep)] (fun o=>⟨.ok (.ret (.bool true)),[o.ob 0,o.ob 1],[]⟩):=by
  refine spec_run [0,1] 3000 (pl_sp_colours w b1 b2 b3 da pa vs ed N K ks p q s n1 n2 n3 e2 kt x1 x2 x3 hp hq hs h1 h2 h3 hd hu hc hN h4 hl hk hv tp tq ts ep) rfl fun x t => ?_
  cases b1 <;> kernel_rfl
end
theorem ti_of {x:UInt64} {N:Nat} (hN:N≤1073741824) (h:tells x (N:Int)):TI x N:=by
  obtain ⟨f,a,b⟩:=h
  rw [Rat.intCast_natCast] at a b
  exact told_int f N hN (by grind) (by grind)
theorem not_letter {c:Nat} (h:c=108∨c=118) : ∀ j,j=102∨j=109∨j=111→(([c]:List Nat) == [j])=false:=fun j hj=>by
  rcases h with rfl | rfl <;> rcases hj with rfl | rfl | rfl <;> rfl
theorem zz:(cmp (zero false) (zero false) == some .eq)=true:=by decide +kernel
theorem zz2:(cmp (div (zero false) c2) (zero false) == some .eq)=true:=by decide +kernel
section
variable (w:World) (b1 b2 b3:Bool)
noncomputable def TurnTo (K:List Nat) (p q s D:Nat):Prop := ∃ n1 n2 n3,TurnOK w b1 b2 b3 K p q s n1 n2 n3∧n1≤1073741824∧n2≤1073741824∧n3≤1073741824∧D∣n1∧D∣n2∧D∣n3
noncomputable def TurnNew (K:List Nat) (p q s D:Nat):Prop := ∃ n1 n2 n3,(∃ x1 x2 x3 e2,TI x1 n1∧TI x2 n2∧TI x3 n3∧DeedOK w b1 b2 b3 K p q s x1 x2 x3∧DueNew w b1 b2 b3 K p q s n1 n2 n3 e2)∧n1≤1073741824∧n2≤1073741824∧n3≤1073741824∧D∣n1∧D∣n2∧D∣n3
noncomputable def Mm (p q s mx mn:Nat):Prop:=max (max p q) s=mx∧min (min p q) s=mn
theorem mm {p q s mx mn:Nat} (e:Mm p q s mx mn) (hp:p≤1073741824) (hq:q≤1073741824) (hs:s≤1073741824) :
    mx≤1073741824∧(mn≤p∧p≤mx)∧(mn≤q∧q≤mx)∧(mn≤s∧s≤mx)∧(p=mx∨q=mx∨s=mx)∧(p=mn∨q=mn∨s=mn):=by
  obtain ⟨rfl,rfl⟩:=e
  refine ⟨Nat.max_le.2 ⟨Nat.max_le.2 ⟨hp,hq⟩,hs⟩,⟨Nat.le_trans (Nat.min_le_left _ _) (Nat.min_le_left _ _),Nat.le_trans (Nat.le_max_left _ _) (Nat.le_max_left _ _)⟩,⟨Nat.le_trans (Nat.min_le_left _ _) (Nat.min_le_right _ _),Nat.le_trans (Nat.le_max_right _ _) (Nat.le_max_left _ _)⟩,⟨Nat.min_le_right _ _,Nat.le_max_right _ _⟩,?_,?_⟩
  · rcases Nat.le_total p q with h | h <;> simp only [Nat.max_eq_right h,Nat.max_eq_left h]
    · rcases Nat.le_total q s with h | h <;> simp [Nat.max_eq_right h,Nat.max_eq_left h]
    · rcases Nat.le_total p s with h | h <;> simp [Nat.max_eq_right h,Nat.max_eq_left h]
  · rcases Nat.le_total p q with h | h <;> simp only [Nat.min_eq_right h,Nat.min_eq_left h]
    · rcases Nat.le_total p s with h | h <;> simp [Nat.min_eq_right h,Nat.min_eq_left h]
    · rcases Nat.le_total q s with h | h <;> simp [Nat.min_eq_right h,Nat.min_eq_left h]
theorem mm_gray {p q s mx mn:Nat} (e:Mm p q s mx mn) (hp:p≤1073741824) (hq:q≤1073741824) (hs:s≤1073741824) (h : ¬ mn < mx):(q=p∧s=p)∧mx=p∧mn=p:=by
  obtain ⟨_,a,b,c,_,_⟩:=mm e hp hq hs
  clear e hp hq hs
  exact ⟨⟨by lia,by lia⟩,by lia,by lia⟩
theorem mm_dvd {p q s mx mn D:Nat} (e:Mm p q s mx mn) (hp:D∣p) (hq:D∣q) (hs:D∣s):D∣mx∧D∣mn:=by
  obtain ⟨rfl,rfl⟩:=e
  constructor
  · rcases Nat.le_total p q with h | h <;> simp only [Nat.max_eq_right h,Nat.max_eq_left h]
    · rcases Nat.le_total q s with h | h <;> simp only [Nat.max_eq_right h,Nat.max_eq_left h] <;> assumption
    · rcases Nat.le_total p s with h | h <;> simp only [Nat.max_eq_right h,Nat.max_eq_left h] <;> assumption
  · rcases Nat.le_total p q with h | h <;> simp only [Nat.min_eq_right h,Nat.min_eq_left h]
    · rcases Nat.le_total p s with h | h <;> simp only [Nat.min_eq_right h,Nat.min_eq_left h] <;> assumption
    · rcases Nat.le_total q s with h | h <;> simp only [Nat.min_eq_right h,Nat.min_eq_left h] <;> assumption
theorem mm_sum {p q s mx mn:Nat} (e:Mm p q s mx mn):max (max p q) s+min (min p q) s=mx+mn:=by rw [e.1,e.2]
theorem mm_int {p q s mx mn:Nat} (e:Mm p q s mx mn):Int.ofNat (max (max p q) s)+Int.ofNat (min (min p q) s)=Int.ofNat (mx+mn):=by rw [e.1,e.2]; rfl
theorem dueK_gray {both s:Int} (h:both-s=s) : ∀ k:Nat,dueK both k (s,s,s)=(s,s,s)
  | 0=>rfl
  | k+1=>by
    show dueK both k (both-s,both-s,both-s)=_
    rw [h]; exact dueK_gray h k
theorem due_k (c:Nat) (hc:c=108∨c=118) (k:Nat) (hk:k < 6) (p q s both n1 n2 n3:Nat) (hb:max (max p q) s+min (min p q) s=both) (hD:dueK (both:Int) k ((p:Int),(q:Int),(s:Int))=((n1:Int),(n2:Int),(n3:Int))) :
    (∃ e2,DueNew w b1 b2 b3 [c,45,48+k] p q s n1 n2 n3 e2)∨(DueSame w b1 b2 b3 [c,45,48+k] p q s∧n1=p∧n2=q∧n3=s):=by
  have hl:=not_letter hc
  have hb':Int.ofNat (max (max p q) s)+Int.ofNat (min (min p q) s)=Int.ofNat both:=by rw [← hb]; rfl
  have h1:=congrArg (·.1) hD
  have h2:=congrArg (·.2.1) hD
  have h3:=congrArg (·.2.2) hD
  clear hD
  match k,hk,h1,h2,h3 with
  | 0,_,h1,h2,h3 =>
    have h1:(p:Int)=n1:=h1
    have h2:(q:Int)=n2:=h2
    have h3:(s:Int)=n3:=h3
    exact .inr ⟨fun kt pa tp tq ts ep=>due_l0 w b1 b2 b3 c hl p q s both hb' pa ep kt tp tq ts,by lia,by lia,by lia⟩
  | 1,_,h1,h2,h3=>exact .inl ⟨0,fun kt pa tp tq ts ep=>due_l1 w b1 b2 b3 c hl p q s both n1 n2 n3 hb' h1 h2 h3 pa ep kt tp tq ts⟩
  | 2,_,h1,h2,h3=>exact .inl ⟨0,fun kt pa tp tq ts ep=>due_l2 w b1 b2 b3 c hl p q s both n1 n2 n3 hb' h1 h2 h3 pa ep kt tp tq ts⟩
  | 3,_,h1,h2,h3=>exact .inl ⟨0,fun kt pa tp tq ts ep=>due_l3 w b1 b2 b3 c hl p q s both n1 n2 n3 hb' h1 h2 h3 pa ep kt tp tq ts⟩
  | 4,_,h1,h2,h3=>exact .inl ⟨0,fun kt pa tp tq ts ep=>due_l4 w b1 b2 b3 c hl p q s both n1 n2 n3 hb' h1 h2 h3 pa ep kt tp tq ts⟩
  | 5,_,h1,h2,h3=>exact .inl ⟨0,fun kt pa tp tq ts ep=>due_l5 w b1 b2 b3 c hl p q s both n1 n2 n3 hb' h1 h2 h3 pa ep kt tp tq ts⟩
  | k+6,h,_,_,_=>exact absurd h (by lia)
theorem due_nat (k p q s mx mn D:Nat) (e:Mm p q s mx mn) (b1:p≤1073741824) (b2:q≤1073741824) (b3:s≤1073741824) (hp:D∣p) (hq:D∣q) (hs:D∣s) :
    ∃ n1 n2 n3:Nat,dueK ((mx:Int)+mn) k ((p:Int),(q:Int),(s:Int))=((n1:Int),(n2:Int),(n3:Int))∧n1≤1073741824∧n2≤1073741824∧n3≤1073741824∧D∣n1∧D∣n2∧D∣n3:=by
  obtain ⟨hdx,hdn⟩:=mm_dvd e hp hq hs
  obtain ⟨hx,p1,q1,s1,_,_⟩:=mm e b1 b2 b3
  have ci : ∀ {x:Nat},mn≤x∧x≤mx→(mn:Int)≤x∧(x:Int)≤mx:=fun h=>⟨Int.ofNat_le.2 h.1,Int.ofNat_le.2 h.2⟩
  have L:=dueK_low mx mn k (p:Int) (q:Int) (s:Int) (ci p1) (ci q1) (ci s1)
  have V:=dueK_dvd (D:Int) ((mx:Int)+mn) (Int.dvd_add (Int.natCast_dvd_natCast.2 hdx) (Int.natCast_dvd_natCast.2 hdn)) k (p:Int) (q:Int) (s:Int) (Int.natCast_dvd_natCast.2 hp) (Int.natCast_dvd_natCast.2 hq) (Int.natCast_dvd_natCast.2 hs)
  generalize dueK ((mx:Int)+mn) k ((p:Int),(q:Int),(s:Int))=X at L V
  obtain ⟨x,y,z⟩:=X
  obtain ⟨L1,L2,L3⟩:=L
  obtain ⟨V1,V2,V3⟩:=V
  have nat : ∀ {x:Int},((mn:Int)≤x∧x≤mx)→(D:Int)∣x → ∃ n:Nat,x=n∧n≤1073741824∧D∣n:=fun {x} h d=>by
    obtain ⟨n,rfl⟩:=Int.eq_ofNat_of_zero_le (Int.le_trans (Int.natCast_nonneg mn) h.1)
    exact ⟨n,rfl,Nat.le_trans (Int.ofNat_le.1 h.2) hx,Int.natCast_dvd_natCast.1 d⟩
  obtain ⟨a,rfl,a1,a2⟩:=nat L1 V1
  obtain ⟨b,rfl,b1,b2⟩:=nat L2 V2
  obtain ⟨c,rfl,c1,c2⟩:=nat L3 V3
  exact ⟨a,b,c,rfl,a1,b1,c1,a2,b2,c2⟩
theorem gray_nat {k s n1 n2 n3:Nat} (hD:dueK ((s:Int)+s) k ((s:Int),(s:Int),(s:Int))=((n1:Int),(n2:Int),(n3:Int))):n1=s∧n2=s∧n3=s:=by
  rw [dueK_gray (Int.add_sub_cancel _ _)] at hD
  exact ⟨(Int.ofNat.inj (congrArg (·.1) hD)).symm,(Int.ofNat.inj (congrArg (·.2.1) hD)).symm,(Int.ofNat.inj (congrArg (·.2.2) hD)).symm⟩
theorem nn {mx mn:Nat} (h:mn < mx):mx=mn+(mx-mn)∧1≤mx-mn:=⟨(Nat.add_sub_of_le (Nat.le_of_lt h)).symm,Nat.sub_pos_of_lt h⟩
theorem s_pos {mx mn n:Nat} (m0:mx≤1073741824) (g1:mx=mn+n) (g2:1≤n):(cmp (sF (fl mx) (fl mn)) (zero false) == some .eq)=false:=by
  obtain ⟨_,⟨s0,_,_⟩,_⟩:=ls_near m0 g1 g2
  have sl:=s_low m0 g1 g2
  exact s_not s0 (by grind)
theorem s_half {mx mn n:Nat} (m0:mx≤1073741824) (g1:mx=mn+n) (g2:1≤n):(cmp (div (sF (fl mx) (fl mn)) c2) (zero false) == some .eq)=false:=by
  obtain ⟨_,⟨s0,s1,s2⟩,_⟩:=ls_near m0 g1 g2
  have sl:=s_low m0 g1 g2
  obtain ⟨v0,v1,v2⟩:=div_near s0 c2_fin (by rw [fv_c2]; decide) (fv (sF (fl mx) (fl mn)) / 2) (by rw [fv_c2]; grind) (by grind) (by grind)
  exact s_not v0 (by grind)
theorem f_facts {x mx mn:Nat} (m0:mx≤1073741824) (h:mn≤x∧x≤mx):x+1073741824-(mx+mn)≤1073741824∧Int.ofNat x+1073741824-Int.ofNat (mx+mn)=Int.ofNat (x+1073741824-(mx+mn))∧(x:Int)+1073741824-((mx:Int)+mn)=((x+1073741824-(mx+mn):Nat):Int):=by
  have e:(x:Int)+1073741824-((mx:Int)+mn)=((x+1073741824-(mx+mn):Nat):Int):=by lia
  exact ⟨by lia,by show (x:Int)+1073741824-((mx+mn:Nat):Int)=((x+1073741824-(mx+mn):Nat):Int); lia,e⟩
theorem to_l (k:Nat) (hk:k < 6) (p q s D:Nat) (hp:p≤1073741824) (hq:q≤1073741824) (hs:s≤1073741824) (dp:D∣p) (dq:D∣q) (ds:D∣s):TurnTo w b1 b2 b3 [108,45,48+k] p q s D:=by
  obtain ⟨mx,mn,e⟩ : ∃ mx mn,Mm p q s mx mn:=⟨_,_,rfl,rfl⟩
  obtain ⟨n1,n2,n3,hD,l1,l2,l3,d1,d2,d3⟩:=due_nat k p q s mx mn D e hp hq hs dp dq ds
  have hu:=due_k w b1 b2 b3 108 (.inl rfl) k hk p q s (mx+mn) n1 n2 n3 (mm_sum e) (by rw [Int.natCast_add]; exact hD)
  obtain ⟨m0,m1,m2,m3,m4,m5⟩:=mm e hp hq hs
  refine ⟨n1,n2,n3,⟨hp,hq,hs,?_⟩,l1,l2,l3,d1,d2,d3⟩
  by_cases hg:mn < mx
  · obtain ⟨g1,g2⟩:=nn hg
    have t:=hls_turn p q s mx mn (mx-mn) m0 m1 m2 m3 g1 g2 m4 m5 k hk
    rw [hD] at t
    obtain ⟨t1,t2,t3⟩:=t
    exact ⟨_,_,_,ti_of l1 t1,ti_of l2 t2,ti_of l3 t3,fun kt a ep u1 u2 u3=>deed_l w b1 b2 b3 k hk p q s hp hq hs _ (hls_col hp hq hs e.1 e.2 hg) _ _ _ (fun t1 t2 t3=>sp_lsh w b1 b2 b3 _ _ _ t1 t2 t3 (s_pos m0 g1 g2)) a ep kt u1 u2 u3,hu⟩
  · obtain ⟨⟨rfl,rfl⟩,rfl,rfl⟩:=mm_gray e hp hq hs hg
    obtain ⟨rfl,rfl,rfl⟩:=gray_nat hD
    exact ⟨_,_,_,ti_of hp (l_gray hp).1,ti_of hp (l_gray hp).1,ti_of hp (l_gray hp).1,fun kt a ep u1 u2 u3=>deed_l w b1 b2 b3 k hk _ _ _ hp hq hs _ (hls_gray hp) _ _ _ (fun t1 t2 t3=>lsh_0 w b1 b2 b3 _ _ _ t1 t2 t3 zz) a ep kt u1 u2 u3,hu⟩
theorem to_v (k:Nat) (hk:k < 6) (p q s D:Nat) (hp:p≤1073741824) (hq:q≤1073741824) (hs:s≤1073741824) (dp:D∣p) (dq:D∣q) (ds:D∣s):TurnTo w b1 b2 b3 [118,45,48+k] p q s D:=by
  obtain ⟨mx,mn,e⟩ : ∃ mx mn,Mm p q s mx mn:=⟨_,_,rfl,rfl⟩
  obtain ⟨n1,n2,n3,hD,l1,l2,l3,d1,d2,d3⟩:=due_nat k p q s mx mn D e hp hq hs dp dq ds
  have hu:=due_k w b1 b2 b3 118 (.inr rfl) k hk p q s (mx+mn) n1 n2 n3 (mm_sum e) (by rw [Int.natCast_add]; exact hD)
  obtain ⟨m0,m1,m2,m3,m4,m5⟩:=mm e hp hq hs
  refine ⟨n1,n2,n3,⟨hp,hq,hs,?_⟩,l1,l2,l3,d1,d2,d3⟩
  by_cases hg:mn < mx
  · obtain ⟨g1,g2⟩:=nn hg
    obtain ⟨g1,fs,fm,fe,i,hi,hd,hz,t1,t2,t3⟩:=hsv_turn p q s mx mn (mx-mn) m0 m1 m2 m3 g1 g2 m4 m5 k hk _ _ _ rfl rfl rfl _ hD.symm
    exact ⟨_,_,_,ti_of l1 t1,ti_of l2 t2,ti_of l3 t3,fun kt a ep u1 u2 u3=>deed_v w b1 b2 b3 k hk p q s hp hq hs _ (hsv_col hp hq hs e.1 e.2 hg) _ _ _ (fun t1 t2 t3=>sp_vsh w b1 b2 b3 _ _ _ t1 t2 t3 i hi g1 hd hz) a ep kt u1 u2 u3,hu⟩
  · obtain ⟨⟨rfl,rfl⟩,rfl,rfl⟩:=mm_gray e hp hq hs hg
    obtain ⟨rfl,rfl,rfl⟩:=gray_nat hD
    exact ⟨_,_,_,ti_of hp (fl_tells hp),ti_of hp (fl_tells hp),ti_of hp (fl_tells hp),fun kt a ep u1 u2 u3=>deed_v w b1 b2 b3 k hk _ _ _ hp hq hs _ (hsv_gray hp) _ _ _ (fun t1 t2 t3=>vsh_9 w b1 b2 b3 _ _ _ t1 t2 t3 zz) a ep kt u1 u2 u3,hu⟩
theorem to_f0 (d:Nat) (p q s D:Nat) (hp:p≤1073741824) (hq:q≤1073741824) (hs:s≤1073741824) (h30:D∣1073741824) (dp:D∣p) (dq:D∣q) (ds:D∣s):TurnNew w b1 b2 b3 [102,45,d] p q s D:=by
  obtain ⟨mx,mn,e⟩ : ∃ mx mn,Mm p q s mx mn:=⟨_,_,rfl,rfl⟩
  have hdm:=Nat.dvd_add (mm_dvd e dp dq ds).1 (mm_dvd e dp dq ds).2
  obtain ⟨m0,m1,m2,m3,m4,m5⟩:=mm e hp hq hs
  obtain ⟨x1,y1,z1⟩:=f_facts m0 m1
  obtain ⟨x2,y2,z2⟩:=f_facts m0 m2
  obtain ⟨x3,y3,z3⟩:=f_facts m0 m3
  refine ⟨p+1073741824-(mx+mn),q+1073741824-(mx+mn),s+1073741824-(mx+mn),?_,x1,x2,x3,Nat.dvd_sub (Nat.dvd_add dp h30) hdm,Nat.dvd_sub (Nat.dvd_add dq h30) hdm,Nat.dvd_sub (Nat.dvd_add ds h30) hdm⟩
  obtain ⟨e3,hu⟩ : ∃ e2,DueNew w b1 b2 b3 [102,45,d] p q s (p+1073741824-(mx+mn)) (q+1073741824-(mx+mn)) (s+1073741824-(mx+mn)) e2:=⟨3,fun kt pa tp tq ts ep=>due_f w b1 b2 b3 d p q s (mx+mn) _ _ _ (mm_int e) y1 y2 y3 pa ep kt tp tq ts⟩
  by_cases hg:mn < mx
  · obtain ⟨g1,g2⟩:=nn hg
    obtain ⟨t1,t2,t3⟩:=hls_f p q s mx mn (mx-mn) m0 m1 m2 m3 g1 g2 m4 m5
    rw [z1] at t1
    rw [z2] at t2
    rw [z3] at t3
    exact ⟨_,_,_,e3,ti_of x1 t1,ti_of x2 t2,ti_of x3 t3,fun kt a ep u1 u2 u3=>deed_f w b1 b2 b3 d p q s hp hq hs _ (hls_col hp hq hs e.1 e.2 hg) _ _ _ (fun t1 t2 t3=>sp_lsh w b1 b2 b3 _ _ _ t1 t2 t3 (s_pos m0 g1 g2)) a ep kt u1 u2 u3,hu⟩
  · obtain ⟨⟨rfl,rfl⟩,rfl,rfl⟩:=mm_gray e hp hq hs hg
    have hT:=(l_gray hp).2
    rw [Nat.add_sub_add_left] at hu x1 ⊢
    exact ⟨_,_,_,e3,ti_of x1 hT,ti_of x1 hT,ti_of x1 hT,fun kt a ep u1 u2 u3=>deed_f w b1 b2 b3 d _ _ _ hp hq hs _ (hls_gray hp) _ _ _ (fun t1 t2 t3=>lsh_0 w b1 b2 b3 _ _ _ t1 t2 t3 zz) a ep kt u1 u2 u3,hu⟩
theorem to_f (d:Nat) (p q s D:Nat) (hp:p≤1073741824) (hq:q≤1073741824) (hs:s≤1073741824) (h30:D∣1073741824) (dp:D∣p) (dq:D∣q) (ds:D∣s):TurnTo w b1 b2 b3 [102,45,d] p q s D:=by
  obtain ⟨n1,n2,n3,⟨x1,x2,x3,e2,h1,h2,h3,hd,hu⟩,r⟩:=to_f0 w b1 b2 b3 d p q s D hp hq hs h30 dp dq ds
  exact ⟨n1,n2,n3,⟨hp,hq,hs,x1,x2,x3,h1,h2,h3,hd,.inl ⟨e2,hu⟩⟩,r⟩
theorem to_o (d:Nat) (p q s D:Nat) (hp:p≤1073741824) (hq:q≤1073741824) (hs:s≤1073741824) (h30:D∣1073741824) (dp:D∣p) (dq:D∣q) (ds:D∣s):TurnTo w b1 b2 b3 [111,45,d] p q s D:=by
  obtain ⟨mx,mn,e⟩ : ∃ mx mn,Mm p q s mx mn:=⟨_,_,rfl,rfl⟩
  have hE : ∀ x:Nat,x≤1073741824→(1073741824:Int)-Int.ofNat x=Int.ofNat (1073741824-x):=fun x h1=>(Int.ofNat_sub h1).symm
  have le : ∀ x:Nat,1073741824-x≤1073741824:=fun x=>Nat.sub_le _ _
  refine ⟨1073741824-p,1073741824-q,1073741824-s,⟨hp,hq,hs,?_⟩,le p,le q,le s,Nat.dvd_sub h30 dp,Nat.dvd_sub h30 dq,Nat.dvd_sub h30 ds⟩
  obtain ⟨t1,t2,t3⟩:=yiq_o p q s hp hq hs _ _ _ rfl rfl rfl
  exact ⟨_,_,_,ti_of (le p) t1,ti_of (le q) t2,ti_of (le s) t3,fun kt a ep u1 u2 u3=>deed_o w b1 b2 b3 d p q s hp hq hs _ rfl _ _ _ (fun t1 t2 t3=>sp_qiy w b1 b2 b3 _ _ _ t1 t2 t3) a ep kt u1 u2 u3,.inl ⟨3,fun kt pa tp tq ts ep=>due_o w b1 b2 b3 d p q s (mx+mn) _ _ _ (mm_int e) (hE p hp) (hE q hq) (hE s hs) pa ep kt tp tq ts⟩⟩
theorem m_le {x mx mn:Nat} (m0:mx≤1073741824) (h:mn≤x∧x≤mx):(2*x+(mx+mn)) / 4≤1073741824:=by lia
theorem m_same (s:Nat):(2*s+(s+s)) / 4=s:=by lia
theorem to_m (d:Nat) (p q s D:Nat) (hp:p≤1073741824) (hq:q≤1073741824) (hs:s≤1073741824) (dp:4*D∣p) (dq:4*D∣q) (ds:4*D∣s):TurnTo w b1 b2 b3 [109,45,d] p q s D:=by
  obtain ⟨mx,mn,e⟩ : ∃ mx mn,Mm p q s mx mn:=⟨_,_,rfl,rfl⟩
  have hdm:=Nat.dvd_add (mm_dvd e dp dq ds).1 (mm_dvd e dp dq ds).2
  obtain ⟨m0,m1,m2,m3,m4,m5⟩:=mm e hp hq hs
  have hV : ∀ x:Nat,4*D∣x→D∣(2*x+(mx+mn)) / 4∧x % 4=0:=fun x hx=>by
    constructor
    · obtain ⟨c,hc⟩:=Nat.dvd_add (Nat.dvd_trans hx (Nat.dvd_mul_left x 2)) hdm
      rw [hc,Nat.mul_assoc,Nat.mul_div_cancel_left _ (by decide)]
      exact Nat.dvd_mul_right D c
    · obtain ⟨c,hc⟩:=hx
      rw [hc,Nat.mul_assoc,Nat.mul_mod_right]
  have l1:=m_le m0 m1
  have l2:=m_le m0 m2
  have l3:=m_le m0 m3
  refine ⟨(2*p+(mx+mn)) / 4,(2*q+(mx+mn)) / 4,(2*s+(mx+mn)) / 4,⟨hp,hq,hs,?_⟩,l1,l2,l3,(hV p dp).1,(hV q dq).1,(hV s ds).1⟩
  have hu : ∃ e2,DueNew w b1 b2 b3 [109,45,d] p q s ((2*p+(mx+mn)) / 4) ((2*q+(mx+mn)) / 4) ((2*s+(mx+mn)) / 4) e2:=⟨3,fun kt pa tp tq ts ep=>due_m w b1 b2 b3 d p q s (mx+mn) (mm_int e) pa ep kt tp tq ts⟩
  by_cases hg:mn < mx
  · obtain ⟨g1,g2⟩:=nn hg
    obtain ⟨t1,t2,t3⟩:=hls_m p q s mx mn (mx-mn) m0 m1 m2 m3 g1 g2 m4 m5 (hV p dp).2 (hV q dq).2 (hV s ds).2
    exact ⟨_,_,_,ti_of l1 t1,ti_of l2 t2,ti_of l3 t3,fun kt a ep u1 u2 u3=>deed_m w b1 b2 b3 d p q s hp hq hs _ (hls_col hp hq hs e.1 e.2 hg) _ _ _ (fun t1 t2 t3=>sp_lsh w b1 b2 b3 _ _ _ t1 t2 t3 (s_half m0 g1 g2)) a ep kt u1 u2 u3,.inl hu⟩
  · obtain ⟨⟨rfl,rfl⟩,rfl,rfl⟩:=mm_gray e hp hq hs hg
    rw [m_same] at hu ⊢
    have hT:=(l_gray hp).1
    exact ⟨_,_,_,ti_of hp hT,ti_of hp hT,ti_of hp hT,fun kt a ep u1 u2 u3=>deed_m w b1 b2 b3 d _ _ _ hp hq hs _ (hls_gray hp) _ _ _ (fun t1 t2 t3=>lsh_0 w b1 b2 b3 _ _ _ t1 t2 t3 zz2) a ep kt u1 u2 u3,.inl hu⟩
end
end Mine
namespace Mine
open PySem PySem.W PySem.W.X
theorem strL_len : ∀ l:List (List Nat × Nat),(strL l).length=l.length
  | []=>rfl
  | p::l=>by
    show (Value.str ⟨⟨p.1⟩⟩ p.2::strL l).length=_
    rw [List.length_cons,List.length_cons,strL_len l]
theorem strL_get : ∀ (l:List (List Nat × Nat)) (j:Nat) (K:List Nat),(l.map (·.1))[j]? = some K → ∃ kt,(strL l)[j]? = some (.str ⟨⟨K⟩⟩ kt)
  | [],_,_,h=>by simp at h
  | p::l,0,K,h=>by
    have h:some p.1=some K:=h
    injection h with h
    exact ⟨p.2,by rw [← h]; rfl⟩
  | p::l,j+1,K,h=>strL_get l j K h
section
variable (w:World) (b1 b2 b3:Bool)
theorem to_any (n p q s D:Nat) (hp:p≤1073741824) (hq:q≤1073741824) (hs:s≤1073741824) (h30:D∣1073741824) (dp:4*D∣p) (dq:4*D∣q) (ds:4*D∣s):TurnTo w b1 b2 b3 (dkey n) p q s D:=by
  have e:=fun {x:Nat} (h:4*D∣x)=>Nat.dvd_trans (Nat.dvd_mul_left D 4) h
  have hk:n / 5 % 6 < 6:=Nat.mod_lt _ (by decide)
  unfold dkey letterOf digitOf
  generalize n / 5 % 6=k at hk
  split
  · exact to_f w b1 b2 b3 (48+k) p q s D hp hq hs h30 (e dp) (e dq) (e ds)
  · exact to_v w b1 b2 b3 k hk p q s D hp hq hs (e dp) (e dq) (e ds)
  · exact to_l w b1 b2 b3 k hk p q s D hp hq hs (e dp) (e dq) (e ds)
  · exact to_o w b1 b2 b3 (48+k) p q s D hp hq hs h30 (e dp) (e dq) (e ds)
  · exact to_m w b1 b2 b3 (48+k) p q s D hp hq hs dp dq ds
theorem chain_of : ∀ (ns:List Nat) (p q s:Nat),p≤1073741824→q≤1073741824→s≤1073741824→4^ns.length∣1073741824→4^ns.length∣p→4^ns.length∣q→4^ns.length∣s→Chain w b1 b2 b3 (ns.map dkey) p q s
  | [],p,q,s,_,_,_,_,_,_,_ => .nil p q s
  | n::ns,p,q,s,hp,hq,hs,h30,dp,dq,ds=>by
    have e4:4^(n::ns).length=4*4^ns.length:=by rw [List.length_cons,Nat.pow_succ,Nat.mul_comm]
    rw [e4] at h30 dp dq ds
    have h30':4^ns.length∣1073741824:=Nat.dvd_trans (Nat.dvd_mul_left _ 4) h30
    obtain ⟨n1,n2,n3,ht,l1,l2,l3,d1,d2,d3⟩:=to_any w b1 b2 b3 n p q s (4^ns.length) hp hq hs h30' dp dq ds
    exact .cons ht (chain_of ns n1 n2 n3 l1 l2 l3 h30' d1 d2 d3)
theorem all_col:AllCol w b1 b2 b3:=fun ns a b c hl ha hb hc l da pa ed ep ta tb tc hm=>by
  have hlen:l.length=2+ns.length:=by
    have:=congrArg List.length hm
    rw [List.length_map,List.length_cons,List.length_cons,List.length_map] at this
    lia
  have D0:4^(12012::ns).length∣256:=by
    rw [List.length_cons]
    have:ns.length=0∨ns.length=1∨ns.length=2:=by lia
    rcases this with h | h | h <;> rw [h] <;> decide
  have d30:=Nat.dvd_trans D0 (show 256∣1073741824 by decide)
  have dx : ∀ x:Nat,4^(12012::ns).length∣x*67108864:=fun x=>Nat.dvd_trans (Nat.dvd_trans D0 (show 256∣67108864 by decide)) (Nat.dvd_mul_left _ _)
  obtain ⟨n1,n2,n3,⟨x1,x2,x3,e2,h1,h2,h3,hd,hu⟩,l1,l2,l3,d1,d2,d3⟩:=to_f0 w b1 b2 b3 48 (a*67108864) (b*67108864) (c*67108864) _ (by lia) (by lia) (by lia) d30 (dx a) (dx b) (dx c)
  have hC:=chain_of w b1 b2 b3 (12012::ns) n1 n2 n3 l1 l2 l3 d30 d1 d2 d3
  obtain ⟨kt,hk⟩:=strL_get l 0 (dkey 1290) (by rw [hm]; rfl)
  exact sp_colours w b1 b2 b3 da pa (strL l) ed (2+ns.length) (dkey 1290) ((12012::ns).map dkey) _ _ _ n1 n2 n3 e2 kt x1 x2 x3 (by lia) (by lia) (by lia) h1 h2 h3 hd hu hC
    (by rw [strL_len,hlen]) (by lia) (by rw [List.length_map,List.length_cons]; lia) hk
    (fun j K h=>strL_get l (1+j) K (by rw [hm,Nat.add_comm]; exact h)) ta tb tc ep
end
end Mine
namespace Mine
open PySem PySem.W PyProof.Rows
noncomputable abbrev pw:=PySem.Challenge.pw_pe0274_01
noncomputable def qv:Program:=view pw [0,30]
noncomputable def looseN:List Str:=["_wall", "tspecials", "_name_disallowed_re", "_value_disallowed_re", "_formatparam", "Headers", "ONE_THIRD", "ONE_SIXTH", "TWO_THIRD", "rgb_to_yiq", "yiq_to_rgb", "rgb_to_hls", "hls_to_rgb", "_v", "rgb_to_hsv", "hsv_to_rgb", "_netrclex", "_law_lexer", "_law_note", "_law_written", "_law_nest", "_law_params", "_law_deed", "_law_due", "_law_colours"]
noncomputable def Yf (s:Shared):List (Option Obj) × Nat × Bool:=(katts.map s.heap.get?,s.heap.objs.size,Nat.blt 0 s.toks)
noncomputable def Ya (w:World):List (Option Obj) × Nat × Bool:=((klist pT w.params).map some,331,true)
noncomputable def Xt (s:Shared):Bool:=recOk [] s
theorem left:LeftO pw qv looseN Xt Yf Ya 3980:=by
  intro w
  unfold openEnds fencedOpening topFrom
  rw [(PySem.W.Fast.te14082659384304107361 : @topRun=_),(PySem.W.Fast.te4187177175401517315 : @openSeen=_),(PySem.W.Fast.te10274390034422433532 : @importEnds=_),(PySem.W.Fast.te14289696077712309145 : @fenceModules? = _),(PySem.W.Fast.te1435165496053646825 : @PySem.start=_),(PySem.W.Fast.te14364793385576792824 : @treeTable=_)]
  rw [show pw=pT from pT_eq]
  kernel_rfl
end Mine
section
open PySem PySem.W PyProof.Rows
theorem Mine.said:PySem.Challenge.rw_pe0274_01.wellSaid=true:=by
  rw [(PySem.W.Fast.te9446332074065402090 : @OpenLaw.wellSaid=_)]
  kernel_rfl
theorem Mine.holds_of (hC : ∀ w b1 b2 b3,Mine.AllCol w b1 b2 b3):PySem.Challenge.rw_pe0274_01.Holds:=by
  w_on
  refine holds_law Mine.said fun said => ?_
  refine holds_openX (q:=Mine.qv) (loose:=Mine.looseN) (Xt:=Mine.Xt) (XP:=fun _ _=>True) (Yf:=Mine.Yf) (Ya:=Mine.Ya) (N:=3980) Mine.left (fun _ _=>trivial) (fun _ _ _ _ _=>trivial) (by rfl) (by rfl) (by rfl) (fun s e=>recFacts_of e) (by rfl) (by assumption) (by decide +kernel) ⟨rfl,rfl,rfl,rfl,rfl,by decide +kernel⟩ ?hw ?hc
  case hw=>w_witness2
  case hc =>
    intro w s₀ s₁ mg mb G Y fa o pm cd doc dV kV ho hd hcd hD hmg hg args vals as L hpre hlay hrd hwl hlo
    clear hd hcd hD
    obtain ⟨hK,Y2⟩:=Prod.mk.inj (show (Mine.katts.map s₀.heap.get?,s₀.heap.objs.size,Nat.blt 0 s₀.toks)=((Mine.klist Mine.pT w.params).map some,331,true) from Y)
    obtain ⟨hz,ht⟩:=Prod.mk.inj Y2
    have ht:0 < s₀.toks:=X.blt_true ht
    obtain ⟨hs,hp⟩:=pre_splitW hpre
    obtain ⟨d,r,rfl,h1,h2⟩:=hasAllW_cons (R:=[]) (e := .list .int) (es:=[]) hs
    obtain rfl:=hasAllW_nil h2
    obtain ⟨xs,rfl,h3⟩:=hasW_list h1
    obtain ⟨is,rfl⟩:=Mine.ints_of h3
    have hlen:=Mine.holds_len is hp
    obtain ⟨ord,_,hl⟩:=L.laid
    obtain ⟨ps,hpl,rfl,hh⟩:=Mine.lay_one hl
    have h3:s₁.heap.get? 3=some (Mine.o3 Mine.pT w.params):=L.keeps _ _ (Mine.lkK_sound (g:=s₀.heap.get?) _ _ hK 3 _ (by kernel_rfl))
    obtain rfl:=Mine.fa_is G.T.g h3 hmg
    rw [hz]
    have E:PySem.Challenge.rw_pe0274_01.row.prog=Mine.pT:=Mine.pT_eq
    rw [E]
    refine Mine.law_run hC w s₀ s₁ hK hz (by rw [hh]; show 0 < s₀.toks+_; lia) hg ps (by lia) (by rw [hh]) _ _ fun h' d t K => ?_
    exact ⟨.inl ⟨.bool true,.bool true,[],rfl,fun cls=>rfl,.bool _,postW_of (r:=PySem.Challenge.rw_pe0274_01.row.toRowW) (X:=true) rfl (Mine.post_val _) rfl,fun _=>⟨List.nodup_nil,fun a ha=>(nomatch ha)⟩⟩,K,rfl,AllBare.of_eq hg⟩
end
theorem PySem.Challenge.cw_pe0274_01_holds : PySem.Challenge.rw_pe0274_01.Holds := by
  exact Mine.holds_of fun w b1 b2 b3 => Mine.all_col w b1 b2 b3
