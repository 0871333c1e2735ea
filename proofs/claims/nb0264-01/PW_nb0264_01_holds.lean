import PyProof.Rows.All
import Wide.All
import OpenK.AllK
import Wide.FinOn
import PySem.Challenge.RW_nb0264_01
open PySem PySem.W PyProof.Rows
set_option Elab.async false
set_option maxRecDepth 100000
set_option maxHeartbeats 8000000
set_option linter.all false
noncomputable section
theorem Mine.pre.tw10006983352648288001 : True := trivial
theorem Mine.pre.tw10125758760863536837 : True := trivial
theorem Mine.pre.tw10173806913403940048 : True := trivial
theorem Mine.pre.tw10204019117609856550 : True := trivial
theorem Mine.pre.tw10281252085104320626 : True := trivial
theorem Mine.pre.tw10408196067039045116 : True := trivial
theorem Mine.pre.tw10467903544787568591 : True := trivial
theorem Mine.pre.tw10476441753547339612 : True := trivial
theorem Mine.pre.tw1050892389064381581 : True := trivial
theorem Mine.pre.tw10556904025073309525 : True := trivial
theorem Mine.pre.tw10584150303738031772 : True := trivial
theorem Mine.pre.tw10657489962057554541 : True := trivial
theorem Mine.pre.tw10832435889686368783 : True := trivial
theorem Mine.pre.tw10895488247777486873 : True := trivial
theorem Mine.pre.tw10933684431934463483 : True := trivial
theorem Mine.pre.tw1134953709659117593 : True := trivial
theorem Mine.pre.tw11368260480374895074 : True := trivial
theorem Mine.pre.tw11389374557681466464 : True := trivial
theorem Mine.pre.tw11422953727881016366 : True := trivial
theorem Mine.pre.tw11459765794423145806 : True := trivial
theorem Mine.pre.tw11477163547676270809 : True := trivial
theorem Mine.pre.tw11600251252059698432 : True := trivial
theorem Mine.pre.tw11661489554611879777 : True := trivial
theorem Mine.pre.tw1167468095371924960 : True := trivial
theorem Mine.pre.tw11686044155741065774 : True := trivial
theorem Mine.pre.tw11832514201138764445 : True := trivial
theorem Mine.pre.tw11967863500246565877 : True := trivial
theorem Mine.pre.tw12058416156572183381 : True := trivial
theorem Mine.pre.tw12109822677291299447 : True := trivial
theorem Mine.pre.tw1220156853476297361 : True := trivial
theorem Mine.pre.tw12329847798736442354 : True := trivial
theorem Mine.pre.tw12354323748567133018 : True := trivial
theorem Mine.pre.tw124356168213406971 : True := trivial
theorem Mine.pre.tw12444740210674830803 : True := trivial
theorem Mine.pre.tw12464593357960378961 : True := trivial
theorem Mine.pre.tw12465533948053986477 : True := trivial
theorem Mine.pre.tw12600001335209363398 : True := trivial
theorem Mine.pre.tw12601736412296754624 : True := trivial
theorem Mine.pre.tw12633947648045723924 : True := trivial
theorem Mine.pre.tw12701294055307798758 : True := trivial
theorem Mine.pre.tw12723660185843396471 : True := trivial
theorem Mine.pre.tw12782663578184508038 : True := trivial
theorem Mine.pre.tw13048787070281555549 : True := trivial
theorem Mine.pre.tw13155615532978356968 : True := trivial
theorem Mine.pre.tw1319391196419952638 : True := trivial
theorem Mine.pre.tw13207373630104666366 : True := trivial
theorem Mine.pre.tw13305933163451760600 : True := trivial
theorem Mine.pre.tw13344253833810582256 : True := trivial
theorem Mine.pre.tw13447196603976731960 : True := trivial
theorem Mine.pre.tw13503923098360568469 : True := trivial
theorem Mine.pre.tw13511625669976193069 : True := trivial
theorem Mine.pre.tw13676013984246606415 : True := trivial
theorem Mine.pre.tw13702654961898353498 : True := trivial
theorem Mine.pre.tw13798339373520121222 : True := trivial
theorem Mine.pre.tw13839825171144383216 : True := trivial
theorem Mine.pre.tw1385352955633275780 : True := trivial
theorem Mine.pre.tw13924473152081393076 : True := trivial
theorem Mine.pre.tw14114672765552503122 : True := trivial
theorem Mine.pre.tw14177746915815934671 : True := trivial
theorem Mine.pre.tw14504007709385416882 : True := trivial
theorem Mine.pre.tw14504531411983417640 : True := trivial
theorem Mine.pre.tw14604634542777377977 : True := trivial
theorem Mine.pre.tw14628187420673343983 : True := trivial
theorem Mine.pre.tw14795137245576490350 : True := trivial
theorem Mine.pre.tw14844808246951043556 : True := trivial
theorem Mine.pre.tw15123789955226152525 : True := trivial
theorem Mine.pre.tw15130635324320710267 : True := trivial
theorem Mine.pre.tw15217727220281956571 : True := trivial
theorem Mine.pre.tw15233245896131659966 : True := trivial
theorem Mine.pre.tw15353535704898639103 : True := trivial
theorem Mine.pre.tw15364903961692622375 : True := trivial
theorem Mine.pre.tw15384540385098350899 : True := trivial
theorem Mine.pre.tw15416329323232597108 : True := trivial
theorem Mine.pre.tw15552298541256452641 : True := trivial
theorem Mine.pre.tw1558150184486289097 : True := trivial
theorem Mine.pre.tw15625995988735854195 : True := trivial
theorem Mine.pre.tw1566006351459327484 : True := trivial
theorem Mine.pre.tw15693231618869550497 : True := trivial
theorem Mine.pre.tw15812367493763553726 : True := trivial
theorem Mine.pre.tw16009375183914227583 : True := trivial
theorem Mine.pre.tw16058929423575460821 : True := trivial
theorem Mine.pre.tw16268650808249262707 : True := trivial
theorem Mine.pre.tw16520217711010471092 : True := trivial
theorem Mine.pre.tw1653692239557863189 : True := trivial
theorem Mine.pre.tw16614349812334507722 : True := trivial
theorem Mine.pre.tw16785959692537240356 : True := trivial
theorem Mine.pre.tw16830677165564596964 : True := trivial
theorem Mine.pre.tw16852057512633287067 : True := trivial
theorem Mine.pre.tw17028943642903203401 : True := trivial
theorem Mine.pre.tw17070133332105845622 : True := trivial
theorem Mine.pre.tw17171853630340306582 : True := trivial
theorem Mine.pre.tw17224984220818489609 : True := trivial
theorem Mine.pre.tw17268093052136287145 : True := trivial
theorem Mine.pre.tw17434239335780912936 : True := trivial
theorem Mine.pre.tw17454632208202312435 : True := trivial
theorem Mine.pre.tw17634280546446320765 : True := trivial
theorem Mine.pre.tw17670664521834963977 : True := trivial
theorem Mine.pre.tw17680803279675618773 : True := trivial
theorem Mine.pre.tw17747810498848355795 : True := trivial
theorem Mine.pre.tw17779947637784298742 : True := trivial
theorem Mine.pre.tw17813032836175352512 : True := trivial
theorem Mine.pre.tw18027193599098250407 : True := trivial
theorem Mine.pre.tw18233255370621244900 : True := trivial
theorem Mine.pre.tw18236140840165549141 : True := trivial
theorem Mine.pre.tw18236615629503518134 : True := trivial
theorem Mine.pre.tw18302127490750121730 : True := trivial
theorem Mine.pre.tw18320262050320308368 : True := trivial
theorem Mine.pre.tw18334436613972320873 : True := trivial
theorem Mine.pre.tw18353081439011116257 : True := trivial
theorem Mine.pre.tw18384004337637608275 : True := trivial
theorem Mine.pre.tw1847581664246446794 : True := trivial
theorem Mine.pre.tw1873049638177181067 : True := trivial
theorem Mine.pre.tw1891802886393711113 : True := trivial
theorem Mine.pre.tw1936523389482728524 : True := trivial
theorem Mine.pre.tw1957200725488321114 : True := trivial
theorem Mine.pre.tw1961266365660868435 : True := trivial
theorem Mine.pre.tw2142029966526130302 : True := trivial
theorem Mine.pre.tw2165444987737528205 : True := trivial
theorem Mine.pre.tw2204125747762997160 : True := trivial
theorem Mine.pre.tw2302775849342015749 : True := trivial
theorem Mine.pre.tw2339367589048809781 : True := trivial
theorem Mine.pre.tw235555817698774555 : True := trivial
theorem Mine.pre.tw2397827621436535734 : True := trivial
theorem Mine.pre.tw2432886682013690578 : True := trivial
theorem Mine.pre.tw246745258367748990 : True := trivial
theorem Mine.pre.tw2494791040518364336 : True := trivial
theorem Mine.pre.tw2572576715449792082 : True := trivial
theorem Mine.pre.tw2749649739559614557 : True := trivial
theorem Mine.pre.tw2793876952464144092 : True := trivial
theorem Mine.pre.tw28029345213723098 : True := trivial
theorem Mine.pre.tw2834345416658533467 : True := trivial
theorem Mine.pre.tw2842862063813979719 : True := trivial
theorem Mine.pre.tw286901278798810841 : True := trivial
theorem Mine.pre.tw2924357142288256476 : True := trivial
theorem Mine.pre.tw30198436418510105 : True := trivial
theorem Mine.pre.tw3094614900183604011 : True := trivial
theorem Mine.pre.tw3097859360267383691 : True := trivial
theorem Mine.pre.tw3142542386609302197 : True := trivial
theorem Mine.pre.tw3144533544089427767 : True := trivial
theorem Mine.pre.tw348168221346353151 : True := trivial
theorem Mine.pre.tw3539868169495542887 : True := trivial
theorem Mine.pre.tw3653203284003021278 : True := trivial
theorem Mine.pre.tw3744368537293892124 : True := trivial
theorem Mine.pre.tw3745178552056971020 : True := trivial
theorem Mine.pre.tw3828133749990796969 : True := trivial
theorem Mine.pre.tw3841362995048172961 : True := trivial
theorem Mine.pre.tw3955983160652177813 : True := trivial
theorem Mine.pre.tw4067389917850719585 : True := trivial
theorem Mine.pre.tw4076518906421193238 : True := trivial
theorem Mine.pre.tw4084086026405070310 : True := trivial
theorem Mine.pre.tw4189212242694403473 : True := trivial
theorem Mine.pre.tw4251858453314251639 : True := trivial
theorem Mine.pre.tw4286845863238312128 : True := trivial
theorem Mine.pre.tw4592789736104886690 : True := trivial
theorem Mine.pre.tw4723819031872623170 : True := trivial
theorem Mine.pre.tw4866971608788673576 : True := trivial
theorem Mine.pre.tw4886116117891900527 : True := trivial
theorem Mine.pre.tw4936351757903562790 : True := trivial
theorem Mine.pre.tw5155193400670720939 : True := trivial
theorem Mine.pre.tw5185967812794802750 : True := trivial
theorem Mine.pre.tw5265556644796053535 : True := trivial
theorem Mine.pre.tw5332355000321386561 : True := trivial
theorem Mine.pre.tw546099227143320219 : True := trivial
theorem Mine.pre.tw5504704829203286782 : True := trivial
theorem Mine.pre.tw5532335634301144135 : True := trivial
theorem Mine.pre.tw5559670671026103597 : True := trivial
theorem Mine.pre.tw5568758830717608373 : True := trivial
theorem Mine.pre.tw5616357354536732607 : True := trivial
theorem Mine.pre.tw578446559104950318 : True := trivial
theorem Mine.pre.tw5896042150136470975 : True := trivial
theorem Mine.pre.tw590388290315067818 : True := trivial
theorem Mine.pre.tw5913483473008304380 : True := trivial
theorem Mine.pre.tw5916611623707148302 : True := trivial
theorem Mine.pre.tw6027166026388233240 : True := trivial
theorem Mine.pre.tw6170148345488586343 : True := trivial
theorem Mine.pre.tw6204301905142194262 : True := trivial
theorem Mine.pre.tw6232320607302061507 : True := trivial
theorem Mine.pre.tw6260126215559185383 : True := trivial
theorem Mine.pre.tw6284017060364792222 : True := trivial
theorem Mine.pre.tw6327315350404671063 : True := trivial
theorem Mine.pre.tw6437931551330290438 : True := trivial
theorem Mine.pre.tw6492504938478613368 : True := trivial
theorem Mine.pre.tw6548938536104458511 : True := trivial
theorem Mine.pre.tw6567427038174304042 : True := trivial
theorem Mine.pre.tw6585939558152295258 : True := trivial
theorem Mine.pre.tw6598987100012212614 : True := trivial
theorem Mine.pre.tw6737512137890597438 : True := trivial
theorem Mine.pre.tw6767112457854269605 : True := trivial
theorem Mine.pre.tw6846343938879960342 : True := trivial
theorem Mine.pre.tw6926492576228361084 : True := trivial
theorem Mine.pre.tw698346005061455353 : True := trivial
theorem Mine.pre.tw7190905415377987725 : True := trivial
theorem Mine.pre.tw7226070088885751544 : True := trivial
theorem Mine.pre.tw7264331424420516383 : True := trivial
theorem Mine.pre.tw7316099461249669598 : True := trivial
theorem Mine.pre.tw7564766255729297416 : True := trivial
theorem Mine.pre.tw7569232922502155860 : True := trivial
theorem Mine.pre.tw7615275554976931207 : True := trivial
theorem Mine.pre.tw7744840787576684945 : True := trivial
theorem Mine.pre.tw7766291113635084844 : True := trivial
theorem Mine.pre.tw7871981215989793078 : True := trivial
theorem Mine.pre.tw7964398728579978746 : True := trivial
theorem Mine.pre.tw8077660925545611655 : True := trivial
theorem Mine.pre.tw8089614636097026548 : True := trivial
theorem Mine.pre.tw8113819696807641309 : True := trivial
theorem Mine.pre.tw8125289683539537955 : True := trivial
theorem Mine.pre.tw8138631344701588614 : True := trivial
theorem Mine.pre.tw8351358002074471861 : True := trivial
theorem Mine.pre.tw8406826420958275948 : True := trivial
theorem Mine.pre.tw8599402730897727845 : True := trivial
theorem Mine.pre.tw8609264570733361716 : True := trivial
theorem Mine.pre.tw8646183201884414562 : True := trivial
theorem Mine.pre.tw868406912619844004 : True := trivial
theorem Mine.pre.tw8729141346455856134 : True := trivial
theorem Mine.pre.tw8807187873865674685 : True := trivial
theorem Mine.pre.tw8930836413682506088 : True := trivial
theorem Mine.pre.tw8960298273192479886 : True := trivial
theorem Mine.pre.tw899124743068861042 : True := trivial
theorem Mine.pre.tw9018989078215470512 : True := trivial
theorem Mine.pre.tw9181419433902100537 : True := trivial
theorem Mine.pre.tw9248483282066975539 : True := trivial
theorem Mine.pre.tw9271824920137149763 : True := trivial
theorem Mine.pre.tw9293138973955870494 : True := trivial
theorem Mine.pre.tw9315323111575073388 : True := trivial
theorem Mine.pre.tw9354241043653843321 : True := trivial
theorem Mine.pre.tw9552730113335097103 : True := trivial
theorem Mine.pre.tw9571515539528028750 : True := trivial
theorem Mine.pre.tw9609149167571056082 : True := trivial
theorem Mine.pre.tw9755709050763076478 : True := trivial
theorem Mine.pre.tw9843896370901672699 : True := trivial
namespace Mine
section
variable {prog : Program} {w : World} {A : Around} {E : Value → Shared → Prop} {s : Shared}
theorem tail_int {value slice : PySem.Expr} {k : Int} {u : Tok} {i : Value} {ops : List Value} {Q : Value → Shared → Prop} (hh : A.handled = none)
    (h : ∀ h' tk e, Heap.NewExc s.heap h' e "TypeError" → E (.ref e) { s with heap := h', toks := tk })
    (hs : subscripted slice false (.int k u) i = operate ops (getItem (.int k u) i)) : wpAny (model prog w) A (subscriptTail value slice (.int k u) i) Q E s := by
  have hT : s.TypeIs (.int k u) "int" := rfl
  have hl : typeLookup (.type "int") "__getitem__" = pure none := by kernel_rfl
  unfold subscriptTail
  refine wpAny_bind ?_
  rw [getitemInPython_of_ne hT.not_modules]
  refine wpAny_bind (wpAny_specialOf hT hl ?_)
  have fin : wpAny (model prog w) A (subscripted slice false (.int k u) i) (fun r s₃ => wpAny (model prog w) A (letTemporaryGo value (.int k u) r >>= fun _ => pure r) Q E s₃) E s := by
    rw [hs]
    refine wpAny_operating ?_
    unfold getItem
    refine wpAny_holding ?_
    refine wpAny_bind ?_
    unfold sequenceKey
    refine wpAny_bind (wpAny_typeOf hT ?_)
    have hn : seqItemTypes.contains "int" = false := by decide +kernel
    simp only [hn, Bool.not_false, if_true]
    refine wpAny_pure ?_
    unfold callSpecial?
    refine wpAny_bind (wpAny_bind (wpAny_specialOf hT hl (wpAny_pure ?_)))
    refine wpAny_bind ?_
    unfold isType
    refine wpAny_bind ?_
    have hns : notAStandIn (Value.int k u) = pure () := rfl
    rw [hns]
    refine wpAny_pure (wpAny_pure ?_)
    simp only [Bool.false_eq_true, if_false]
    refine wpAny_bind (wpAny_typeNameOf' hT rfl (wpAny_raiseTypeError hh h ?_))
    show (Str.ofString _).length ≤ sizeLine
    rw [PySem.ofString_length, sizeLine_eq]
    decide +kernel
  first
    | exact wpAny_pure (wpAny_bind fin)
    | exact wpAny_bind (wpAny_pure (wpAny_bind fin))
    | exact wpAny_bind fin
end
end Mine
def Mine.r0 : OpenRow := { PySem.Challenge.rw_nb0264_01.row with args := [.int], raises := [(.builtin "TypeError", .lit (.bool true))], pre := .lit (.bool true), post := .lit (.bool true) }
set_option Elab.async true in
theorem Mine.pre : Mine.r0.Holds := by
  w_on
  k_head
  (case hw => exact ⟨[.int 0], by decide +kernel, by decide +kernel⟩)
  k_go0
  (k_with "subscriptTail" => (k_here; (with_reducible show wpAny _ _ (subscriptTail _ _ (Value.int _ _) _) _ _ _); refine Mine.tail_int (by exact rfl) ?_ (by with_unfolding_all rfl); intro h' tk' e' NE'))
  k_steps
  rename Heap.NewExc _ _ _ _ => NE
  rename Fr _ _ _ _ => F1
  rename Below _ _ _ _ => B1
  rename Below _ _ [] _ => B0
  refine leave_new2 B1 NE (F1.push _) ?_
  intro h2 fl2
  refine wpAny_leaves_on (Around.frames_deeper B0.stack) rfl fl2 ?_
  intro h3 fl3
  exact goodW_flying fl3 (by assumption) (raisesW_true (.head _) rfl)
/-- waits for the theorem above (its statement names what that theorem lays), then turns its switches off -/
theorem Mine.topOff : Mine.pre.heap_1_1 = Mine.pre.heap_1_1 := by
  w_top off
  k_with_none
  exact rfl
local macro_rules | `(tactic| tb_rel) => `(tactic| k_extra "tb_rel")
local macro_rules | `(tactic| tb_start) => `(tactic| k_extra "tb_start")
local macro_rules | `(tactic| ktr_unf) => `(tactic| k_extra "ktr_unf")
local macro_rules | `(tactic| ktr_rel) => `(tactic| k_extra "ktr_rel")
local macro_rules | `(tactic| k_mem) => `(tactic| k_extra "k_mem")
local macro_rules | `(tactic| k_all) => `(tactic| k_extra "k_all")
section
namespace Mine
theorem all_cons {α : Type} {P : α → Prop} {a : α} {l : List α} (h : P a) (t : ∀ p ∈ l, P p) : ∀ p ∈ a :: l, P p
  | _, .head _ => h
  | p, .tail _ hp => t p hp
theorem sub_cons {α : Type} {a : α} {l r : List α} (h : a ∈ r) (t : ∀ p ∈ l, p ∈ r) : ∀ p ∈ a :: l, p ∈ r
  | _, .head _ => h
  | p, .tail _ hp => t p hp
theorem sub_tail {α : Type} {b : α} {l r : List α} (t : ∀ p ∈ l, p ∈ r) : ∀ p ∈ l, p ∈ b :: r := fun p hp => .tail _ (t p hp)
/-- a name for the ground of the calls, its value kept -/
theorem letEq {A : Around} {P : Around → Prop} (h : let A' := A; P A') : ∀ A', A = A' → P A' := fun _ e => e ▸ h
/-- a list looked through in two parts -/
theorem all_cut {α : Type} {f : α → Bool} {l : List α} (n : Nat) (h1 : (l.take n).all f = true) (h2 : (l.drop n).all f = true) : l.all f = true := by
  rw [← List.take_append_drop n l, List.all_append, h1, h2]; rfl
theorem forall_cut {α : Type} {P : α → Prop} {l : List α} (n : Nat) (h1 : ∀ x ∈ l.take n, P x) (h2 : ∀ x ∈ l.drop n, P x) : ∀ x ∈ l, P x := by
  intro x hx
  rw [← List.take_append_drop n l] at hx
  exact (List.mem_append.mp hx).elim (h1 x) (h2 x)
/-- what two branches want alike is shown once, behind them -/
structure Later (T : Prop) : Prop where
  out : T
theorem later {T G : Prop} (f : Later T → G) (t : T) : G := f ⟨t⟩
theorem hide {G : Prop} (k : ∀ P : Prop, (G → P) → P) : G := k G id
theorem fill0 : PySem.Challenge.rw_nb0264_01 = PySem.Challenge.rw_nb0264_01 ∧ Mine.pre.heap_1_1 = Mine.pre.heap_1_1 := by
  k_fill
  exact ⟨rfl, rfl⟩

theorem in_up {Γ : Ctx} {A A' : Around} (hh : A.handled = A'.handled) (hf : A.frames = A'.frames) (hg : A.guards = A'.guards) (hd : A.depth ≤ A'.depth) (hu : A.units ≤ A'.units)
    (h : Γ.In A) : Γ.In A' :=
  ⟨h.1.trans hh, Nat.le_trans h.2.1 hd, fun l e => h.2.2.1 l (hf.trans e), fun g e => h.2.2.2.1 g (hg.trans e), Nat.le_trans h.2.2.2.2 hu⟩
theorem wp_up {α : Type} {M : Model} {A A' : Around} {t : Sem α} {Q : α → Shared → Prop} {E : Value → Shared → Prop} {s : Shared} (h : wpAny M A' t Q E s)
    (hh : A.handled = A'.handled) (hf : A.frames = A'.frames) (hg : A.guards = A'.guards) (hd : A.depth ≤ A'.depth) (hu : A.units ≤ A'.units) : wpAny M A t Q E s :=
  fun Γ p hΓ => h Γ p (in_up hh hf hg hd hu hΓ)
theorem wp_upR {α : Type} {M : Model} {A A' : Around} {t : Sem α} {Q : α → Shared → Prop} {E : Value → Shared → Prop} {s : Shared} (hf : A.frames = A'.frames) (hh : A.handled = A'.handled) (hg : A.guards = A'.guards) (hd : A.depth ≤ A'.depth) (hu : A.units ≤ A'.units)
    (h : wpAny M A' t Q E s) : wpAny M A t Q E s := wp_up h hh hf hg hd hu
end Mine
namespace Mine
open PySem.Spec
section
variable {prog : Program} {w : World} {A : Around} {E : Value → Shared → Prop} {s : Shared} {env : Env} {h₀ : Heap} {x : Str} {body : List Stmt} {Q : Flow → Shared → Prop}
theorem iter_rangeJ {r : Addr} {a₀ b₀ : Int} {t₀ u₀ v₀ : Tok} {n : Nat} {m₀ : Str → Option Value} {news : List (Addr × Obj)} (J : Nat → (Str → Option Value) → List (Addr × Obj) → Prop)
    (hh : A.handled = none) (hr : IsRange s.heap r a₀ b₀ 1 t₀ u₀ v₀) (hsmall : Builtin.Range.small a₀ b₀ 1 = true) (hn : Builtin.Range.rangeSize a₀ b₀ 1 = (n : Int)) (F : Fr h₀ env.locals s.heap m₀) (N : News h₀ env.locals s.heap news) (hj : J 0 m₀ news)
    (turn : ∀ i t m₁ nx h tk own, i < n → nx.map (·.1) = news.map (·.1) → OwnOff own (news.map (·.1)) → J i m₁ nx → Fr h₀ env.locals h (fun y => if y = x then some (.int (a₀ + (i : Int)) t) else m₁ y) → News h₀ env.locals h (nx ++ own) →
      wpAny (model prog w) A (execs body env) (InvPostN h₀ env.locals (J (i + 1)) own (news.map (·.1)) { s with heap := h, toks := tk } Q) E { s with heap := h, toks := tk })
    (done : ∀ m₁ nx h tk, J n m₁ nx → Fr h₀ env.locals h m₁ → News h₀ env.locals h nx → Q .next { s with heap := h, toks := tk }) :
    wpAny (model prog w) A (pyIter (.ref r)) (fun it s₂ => LoopAtV prog w A h₀ env x body Q E it s₂) E s := by
  refine wpAny_pyIter_range hr hsmall ?_
  have W : Walks prog w A s.heap.objs.size [s.heap.objs.size] [s.heap.objs.size] n (fun i v => i < n ∧ ∃ t, v = .int (a₀ + i * 1) t)
      (fun i h => IsRangeIter h s.heap.objs.size (a₀ + (i : Nat) * 1) ((n : Int) - (i : Nat)) 1) := (Walks.range hh _ a₀ 1 n).bound
  refine loop_invN J W ?_ ?_ ?_ ?_ (by show IsRangeIter _ _ _ _ _; rw [hn]; simpa using Heap.get?_push_size _ rfl) (F.push _) (fun p hp => ⟨Heap.get?_push_of_some _ (N p hp).1, (N p hp).2⟩) hj ?_ ?_
  · intro hm
    exact absurd F.ns.lt ((List.mem_singleton.mp hm) ▸ Nat.lt_irrefl _)
  · intro b hb
    rw [List.mem_singleton.mp hb]
    exact next_is_new F
  · intro p hp hI
    exact absurd (Heap.lt_size (N p hp).1) ((List.mem_singleton.mp hI) ▸ Nat.lt_irrefl _)
  · intro p hp hI
    exact absurd (Heap.lt_size (N p hp).1) ((List.mem_singleton.mp hI) ▸ Nat.lt_irrefl _)
  · rintro i v m₁ nx h tk own hi ⟨_, t, rfl⟩ hadr hsep hJ F' N'
    refine turn i t m₁ nx h tk own hi hadr hsep hJ ?_ N'
    simpa using F'
  · exact done
theorem iter_rangeP {r : Addr} {a₀ b₀ : Int} {t₀ u₀ v₀ : Tok} {n : Nat} {m₀ : Str → Option Value} {news : List (Addr × Obj)} (P : Nat → Prop)
    (hh : A.handled = none) (hr : IsRange s.heap r a₀ b₀ 1 t₀ u₀ v₀) (hsmall : Builtin.Range.small a₀ b₀ 1 = true) (hn : Builtin.Range.rangeSize a₀ b₀ 1 = (n : Int)) (F : Fr h₀ env.locals s.heap m₀) (N : News h₀ env.locals s.heap news) (hj : P 0)
    (turn : ∀ i t h tk own, i < n → OwnOff own (news.map (·.1)) → P i → Fr h₀ env.locals h (fun y => if y = x then some (.int (a₀ + (i : Int)) t) else m₀ y) → News h₀ env.locals h (news ++ own) →
      wpAny (model prog w) A (execs body env) (InvPostN h₀ env.locals (fun m₁ nx => nx = news ∧ (∀ z, z ≠ x → m₁ z = m₀ z) ∧ P (i + 1)) own (news.map (·.1)) { s with heap := h, toks := tk } Q) E { s with heap := h, toks := tk })
    (done : ∀ (u : Str → Option Value) h tk, P n → Fr h₀ env.locals h (fun z => if z = x then u z else m₀ z) → News h₀ env.locals h news → Q .next { s with heap := h, toks := tk }) :
    wpAny (model prog w) A (pyIter (.ref r)) (fun it s₂ => LoopAtV prog w A h₀ env x body Q E it s₂) E s := by
  refine iter_rangeJ (fun i m₁ nx => nx = news ∧ (∀ z, z ≠ x → m₁ z = m₀ z) ∧ P i) hh hr hsmall hn F N ⟨rfl, fun _ _ => rfl, hj⟩ ?_ ?_
  · rintro i t m₁ nx h tk own hi _ hsep ⟨rfl, hm, hP⟩ F' N'
    refine turn i t h tk own hi hsep hP ?_ N'
    rw [← map_none hm]; exact F'
  · rintro m₁ nx h tk ⟨rfl, hm, hP⟩ F' N'
    refine done m₁ h tk hP ?_ N'
    rw [done_none hm]; exact F'
end
end Mine
namespace Mine
open PySem.Calls
section
variable {prog : Program} {w : World} {A A₀ : Around} {s : Shared} {K : Frag} {L : Addr} {h₀ base : Heap} {m mg mb : Str → Option Value} {news : List (Addr × Obj)} {p : Program} {loose : List Str} {mean : ExcName → Option Value} {env : Env} {outer : List Env} {R : Result → Shared → Prop} {name qual : Str} {params : Arguments} {body : List Stmt} {scope : Scope} {dV kV doc pm cdv ct oc : Value} {an od : Option Addr} {osl : Array (Option Value)} {f : Addr} {args : Args} {binds : List (Str × Value)}
/-- a def with cells is entered; all that the ledger does not name stands in the ground -/
theorem enterC
    (B : Below A₀ base outer h₀) (F : Fr h₀ L s.heap m) (X₀ : K.In h₀) (N : News h₀ L s.heap news) (T : Top p loose mean mg mb h₀) (hA : A.frames = some (env :: outer)) (hf : env.frame = some L) (hke : env.scope.kind = .function)
    (ho : K.lookup f = some ⟨oc, od, .func (fnOf name qual params body scope dV kV doc pm an cdv ct), osl⟩) (hcd : codeIn K cdv qual = true) (hroom : A.depth < recursionLimit)
    (hbind : BindsTo s (fnOf name qual params body scope dV kV doc pm an cdv ct) args binds) (hkind : (binds.all fun y => scope.names.lookup y.1 == some .local || scope.names.lookup y.1 == some .cell) = true)
    (hnd : ((cellsFrom 0 scope.names []).map (·.1)).Nodup)
    (h : ∀ g L' h₁ tk cells, Fr h₀ L g m → Fr g L' h₁ (bindL (envOfC qual scope L' f cdv).kindOf binds fun _ => none) → News g L' h₁ (cells ++ news) →
      CellsAre (bindC (envOfC qual scope L' f cdv).kindOf binds fun _ => none) (cellsFrom (L' + 1) scope.names []) cells → Below A base (env :: outer) g → K.In g → Top p loose mean mg mb g → (∀ p ∈ news, p.1 < L') → GSub s.heap g (news.map (·.1)) →
      wpAny (model prog w) (A.deeper (envOfC qual scope L' f cdv)) (execs body (envOfC qual scope L' f cdv))
        (fun fl s' => LeaveK h₀ L m g R (match fl with | .ret v => v | _ => .none) s')
        (fun e s' => wpAny (model prog w) (A.deeper (envOfC qual scope L' f cdv)) (leaving (envOfC qual scope L' f cdv) e) (fun _ s'' => R (.error e) s'') (fun e' s'' => R (.error e') s'') s')
        { s with heap := h₁, toks := tk })
    (hco : scope.isCoroutine = false) (hgen : scope.isGenerator = false) (hk : scope.kind = .function) : codeAny (model prog w) A (.call (.ref f) args) R s := by
  have G : ∀ (adr : List Addr), GSub s.heap (hideAll s.heap adr) adr := fun adr b o e n => hideAll_get _ e n
  obtain ⟨FG, BG, st, lv⟩ := groundX (R := R) B F N hA hf hke
  have hd : (⟨oc, od, .func (fnOf name qual params body scope dV kV doc pm an cdv ct), osl⟩ : Obj).data = .func (fnX name qual params body scope [] dV kV doc pm an cdv ct) := rfl
  refine codeAny_call_function hroom ((X₀.keeps F.keep) _ _ ho) hd hco hgen rfl (codeRec_of (X₀.keeps F.keep) hcd) (hbind _ _ _ _ ?_)
  refine wpAny_newFunctionEnv_cells hk (kindsX hkind _) fun env' he s' x => ?_
  subst he
  refine ⟨(T.nolimit.keeps F.keep).keeps x.toInCall.keep, codeAny_func ?_⟩
  obtain ⟨h₁, tk, rfl, _⟩ := x.done
  have hk₁ := x.toInCall.keep
  obtain ⟨cells, NC, Y⟩ := Cl.news (h₀ := s.heap) (Nat.le_refl _) fun n c hm => ⟨x.cell n c (lookup_of_mem_nodup (cellsFrom_names scope.names 0 (s.heap.objs.size + 1) [] [] rfl ▸ hnd) hm), x.above n c hm⟩
  have FN : Fr (hideAll s.heap (news.map (·.1))) s.heap.objs.size h₁ (bindL (envOfC qual scope s.heap.objs.size f cdv).kindOf binds fun _ => none) := ⟨x.toInCall.ns, fun b o e => hk₁ b o (of_hideAll _ e), Nat.le_of_eq (hideAll_size _ _)⟩
  have NN : News (hideAll s.heap (news.map (·.1))) s.heap.objs.size h₁ (cells ++ news) := fun p hp => by
    rcases List.mem_append.mp hp with hp | hp
    · refine ⟨(NC p hp).1, (NC p hp).2.1, ?_⟩
      cases q : (hideAll s.heap (news.map (·.1))).get? p.1 with
      | none => rfl
      | some o => have := of_hideAll _ q; rw [(NC p hp).2.2] at this; cases this
    · exact ⟨hk₁ _ _ (N p hp).1, Nat.ne_of_lt (Heap.lt_size (N p hp).1), hideAll_none _ (List.mem_map_of_mem hp)⟩
  exact wpAny_mono (h _ s.heap.objs.size h₁ tk cells FG FN NN Y BG (X₀.keeps st) (T.keeps st) (fun p hp => Heap.lt_size (N p hp).1) (G _)) (fun fl s' hl => lv _ _ hl) fun _ _ y => y
end
end Mine
end
section
namespace Mine
noncomputable def alph : List Nat := [97, 98, 65, 47, 42]
noncomputable def allNames : List Str :=
  [⟨#[]⟩] ++ alph.map (fun a => ⟨#[a]⟩) ++ (alph.flatMap fun a => alph.map fun b => ⟨#[a, b]⟩) ++ (alph.flatMap fun a => alph.flatMap fun b => alph.map fun c => ⟨#[a, b, c]⟩)
noncomputable def smallSign (a : Str) : Str := if (a == Str.ofString "A") = true then Str.ofString "a" else a
noncomputable def smallS (x : Str) : Str := Txt.join (Str.ofString "") ((signs x).map smallSign)
noncomputable def headS (p : Str) : Str := Txt.slice p none (some (Txt.find (p ++ Str.ofString "/") (Str.ofString "/")))
theorem nm_all : ∀ x ∈ allNames, x.length ≤ 3 ∧ (smallS x).length = x.length ∧ Txt.find (smallS x ++ Str.ofString "/") (Str.ofString "/") ≠ -1 ∧ (headS (smallS x)).length ≤ 3 := by decide +kernel
theorem nm_len {x : Str} (h : x ∈ allNames) : x.length ≤ 3 := (nm_all x h).1
theorem nm_small {x : Str} (h : x ∈ allNames) : (smallS x).length ≤ 3 := (nm_all x h).2.1 ▸ nm_len h
theorem nm_find {x : Str} (h : x ∈ allNames) : Txt.find (smallS x ++ Str.ofString "/") (Str.ofString "/") ≠ -1 := (nm_all x h).2.2.1
theorem nm_head {x : Str} (h : x ∈ allNames) : (headS (smallS x)).length ≤ 3 := (nm_all x h).2.2.2
end Mine
end
section
theorem Mine.w_Small_0 : True := by
  k_with_none
  trivial
namespace Mine
theorem small_carried {ys : List Value} {x : Str} (h : CarriedAll ys (List.map (fun a => if (a == Str.ofString "A") = true then PyData.str (Str.ofString "a") else PyData.str a) (List.filter (fun _ => true) (signs x)))) :
    CarriedAll ys (((signs x).map smallSign).map PyData.str) := by
  have e : List.map (fun a => if (a == Str.ofString "A") = true then PyData.str (Str.ofString "a") else PyData.str a) (List.filter (fun _ => true) (signs x)) = ((signs x).map smallSign).map PyData.str := by
    rw [List.filter_eq_self.mpr (fun _ _ => rfl), List.map_map]
    apply List.map_congr_left
    intro a _
    simp only [Function.comp, smallSign]
    split <;> rfl
  rw [e] at h
  exact h
theorem small_len (x : Str) : ∀ a ∈ signs x, (smallSign a).length ≤ 1 := by
  intro a ha
  unfold smallSign
  split
  · decide +kernel
  · exact Nat.le_of_eq (sign_length_one x a ha)
theorem Mine.w_Small_1 : True := by
  (k_with "call builtin:str.join" => ((with_reducible show wpAny _ _ (call (Value.builtin "str.join") [Value.str _ _, Value.ref _]) _ _ _); (with_reducible rename CarriedAll _ _ => hc'w); (with_reducible rename Heap.IsList _ _ _ => hl'w); refine join_madeW (l := signs _) (g := smallSign) 1 hl'w (by rw [List.toList_toArray]; exact small_carried hc'w) (small_len _) (by rw [signs_length]; assumption) (by decide +kernel) ?_; intro _ _))
  trivial
section
variable {w : World} {mean : ExcName → Option Value} {mg mb : Str → Option Value} {gd : Option (List Code)} {cn : Str} {nms : List (Str × NameKind)} {mr : List (Str × Const)} {a : Addr} {ccd : Value} {cl : List (Str × Addr)} {outer : List Env} {A₀ : Around} {base h₀ : Heap} {L : Addr} {m : Str → Option Value} {s : Shared} {Q E : Value → Shared → Prop} {news : List (Addr × Obj)}
theorem c_small (B : Below A₀ base outer h₀) (F : Fr h₀ L s.heap m) (X : (Mine.pre.heap_1_1 w.params).In h₀) (N : News h₀ L s.heap news) (T : Top Mine.pre.view_1_2 (looseW Mine.pre.view_1_2 [Str.ofString "_NodeInfo"]) mean mg mb h₀)
   (x : Str) (t : Tok) (hx : x ∈ allNames)
   (hQ : ∀ t' h' tk', Fr h₀ L h' m → News h₀ L h' news → Q (.str (smallS x) t') { s with heap := h', toks := tk' }) :
   wpAny (model PySem.Challenge.rw_nb0264_01.row.prog w) (ktrTop 308 40 gd cn ⟨.function, nms, false, false, mr⟩ L a ccd cl outer) (call (.ref 202) [.str x t]) Q E s := by
  have hx3 : x.length ≤ 1048576 := Nat.le_trans (nm_len hx) (by omega)
  k_steps
  all_goals exact hQ _ _ _ (by k_asm) (by first | k_asm | exact cb_drop (by assumption) (fun _ hp => .tail _ hp))
end
end Mine
end
section
theorem Mine.w_Stands_0 : True := by
  k_with_none
  trivial
namespace Mine
theorem Mine.w_Stands_1 : True := by
  (k_with "ktr_unf" => repeat' ((fail_if_success (with_reducible show wpAny _ _ (pyIter (Value.ref _)) _ _ _)); first | (k_unfold; (try dsimp only)) | walk1 | (dsimp only; walk1)))
  trivial
noncomputable def cutS (y : Str) (k n : Nat) : Str := Txt.slice y (some (0 + (k : Int))) (some (0 + (k : Int) + (n : Int)))
noncomputable def standsIn (x y : Str) : Bool := (List.range (y.length + 1 - x.length)).any fun k => cutS y k x.length == x
theorem standsIn_true {x y : Str} {i : Nat} (hi : i < y.length + 1 - x.length) (h : (cutS y i x.length == x) = true) : standsIn x y = true :=
  List.any_eq_true.mpr ⟨i, List.mem_range.mpr hi, h⟩
theorem standsIn_false {x y : Str} (h : ∀ k < y.length + 1 - x.length, (cutS y k x.length == x) = false) : standsIn x y = false :=
  List.any_eq_false.mpr fun k hk => by rw [h k (List.mem_range.mp hk)]; exact Bool.false_ne_true
theorem small_of {a : Int} (h0 : -1000 < a) (h1 : a < 1000) : Builtin.Range.small 0 a 1 = true := by
  unfold Builtin.Range.small Builtin.Range.rangeFitsLong
  simp [Builtin.Range.rangeSize]
  omega
theorem size_of (x y : Nat) : Builtin.Range.rangeSize 0 ((y : Int) - (x : Int) + 1) 1 = ((y + 1 - x : Nat) : Int) := by
  unfold Builtin.Range.rangeSize
  simp
  split <;> omega
section
variable {w : World} {mean : ExcName → Option Value} {mg mb : Str → Option Value} {gd : Option (List Code)} {cn : Str} {nms : List (Str × NameKind)} {mr : List (Str × Const)} {a : Addr} {ccd : Value} {cl : List (Str × Addr)} {outer : List Env} {A₀ : Around} {base h₀ : Heap} {L : Addr} {m : Str → Option Value} {s : Shared} {Q E : Value → Shared → Prop} {news : List (Addr × Obj)}
theorem c_stands (B : Below A₀ base outer h₀) (F : Fr h₀ L s.heap m) (X : (Mine.pre.heap_1_1 w.params).In h₀) (N : News h₀ L s.heap news) (T : Top Mine.pre.view_1_2 (looseW Mine.pre.view_1_2 [Str.ofString "_NodeInfo"]) mean mg mb h₀)
   (x y : Str) (t u : Tok) (hx : x.length ≤ 3) (hy : y.length ≤ 3)
   (hQ : ∀ h' tk', Fr h₀ L h' m → News h₀ L h' news → Q (.bool (standsIn x y)) { s with heap := h', toks := tk' }) :
   wpAny (model PySem.Challenge.rw_nb0264_01.row.prog w) (ktrTop 308 40 gd cn ⟨.function, nms, false, false, mr⟩ L a ccd cl outer) (call (.ref 209) [.str x t, .str y u]) Q E s := by
  ktr_unf
  (try ((with_reducible show wpAny _ _ _ _ _ _); generalize hA1 : Around.deeper _ _ = A1; revert A1; refine letEq ?_; intro A1))
  (rename Fr _ _ _ _ => lF'); (rename News _ _ _ _ => lN')
  refine iter_rangeP (n := (y.length + 1 - x.length)) (fun i => ∀ k < i, (cutS y k x.length == x) = false) rfl (by assumption) (small_of (by omega) (by omega)) (size_of _ _) lF' lN' (fun _ h => absurd h (Nat.not_lt_zero _)) ?_ ?_
  · intro i t' h' tk own hi hsep hP F' N'
    ktr_unf
    · rename (Txt.slice _ _ _ == x) = true => hc
      rw [standsIn_true hi hc] at hQ
      exact hQ _ _ (by k_asm) (cb_drop (by assumption) (fun _ hp => List.mem_append_left _ hp))
    · rename (Txt.slice _ _ _ == x) = false => hc
      refine InvEndN.intro (nx := news) (by k_asm) (by k_asm) ⟨rfl, fun z hz => if_neg hz, fun k hk => ?_⟩ rfl (fun _ hp => List.mem_append_left _ hp) (fun _ hp => List.mem_append_right _ hp)
      rcases Nat.lt_succ_iff_lt_or_eq.mp hk with h | rfl
      · exact hP k h
      · exact hc
  · intro u' h' tk hP F' N'
    ktr_unf
    rw [standsIn_false hP] at hQ
    exact hQ _ _ (by k_asm) (by k_asm)
end
end Mine
end
section
namespace Mine
theorem strs_get {vs : List Value} {xs : List Str} (h0 : StrsAre vs xs) : ∀ {i : Nat} {v : Value}, vs[i]? = some v → ∃ x t, xs[i]? = some x ∧ v = .str x t := by
  induction h0 with
  | nil => intro i v h; simp at h
  | cons x t hr ih =>
    intro i v h
    cases i with
    | zero => exact ⟨x, t, rfl, (Option.some.inj h).symm⟩
    | succ i => exact ih (i := i) (by simpa using h)
theorem strs_at {vs : List Value} {xs : List Str} (h : StrsAre vs xs) {i : Nat} {x : Str} (hx : xs[i]? = some x) : ∃ t, vs[i]? = some (.str x t) := by
  induction h generalizing i with
  | nil => simp at hx
  | cons y t hr ih =>
    cases i with
    | zero => simp at hx; subst hx; exact ⟨t, by simp⟩
    | succ i => obtain ⟨t', h'⟩ := ih (i := i) (by simpa using hx); exact ⟨t', by simpa using h'⟩
theorem strs_len {vs : List Value} {xs : List Str} (h : StrsAre vs xs) : vs.length = xs.length := by
  induction h with
  | nil => rfl
  | cons _ _ _ ih => exact congrArg Nat.succ ih
theorem strs_snoc {vs : List Value} {xs : List Str} {x : Str} {t : Tok} (h : StrsAre vs xs) : StrsAre (vs ++ [.str x t]) (xs ++ [x]) := by
  induction h with
  | nil => exact .cons _ _ .nil
  | cons _ _ _ ih => exact .cons _ _ ih
theorem take_snoc {α β : Type} {xs : List α} {f : α → β} {i : Nat} {x : α} (h : xs[i]? = some x) : (xs.take (i + 1)).map f = (xs.take i).map f ++ [f x] := by
  rw [List.take_add_one, h]; simp
theorem allLt_ne {d x : Addr} {l : List (Addr × Obj)} (h : AllLt d l) (hx : @LE.le Nat _ d x) : ∀ p ∈ l, p.1 ≠ x := fun p hp => neN (by have := ltN (kst_ltOf h p hp); omega)
theorem lt_ne {d x : Addr} {l : List (Addr × Obj)} (h : ∀ p ∈ l, p.1 < d) (hx : @LE.le Nat _ d x) : ∀ p ∈ l, p.1 ≠ x := fun p hp => neN (by have := ltN (h p hp); omega)
theorem off1_mem' {D : Addr} : ∀ {l : List (Addr × Obj)}, LCg.Off1 D l → ∀ p ∈ l, p.1 ≠ D
  | [], _, _, h => nomatch h
  | _ :: _, x, p, h => by
    rcases List.mem_cons.mp h with rfl | h
    · exact x.1
    · exact off1_mem' x.2 p h
structure SubL (B nw : List (Addr × Obj)) : Prop where
  sub : ∀ p, p ∈ B → p ∈ nw
theorem SubL.mem {B nw : List (Addr × Obj)} (h : SubL B nw) {p : Addr × Obj} (hp : p ∈ B) : p ∈ nw := h.sub p hp
theorem SubL.of {led B nw : List (Addr × Obj)} (h : nw = led ++ B) : SubL B nw := ⟨fun _ hp => h ▸ List.mem_append_right _ hp⟩
theorem SubL.refl {B : List (Addr × Obj)} : SubL B B := ⟨fun _ hp => hp⟩
theorem SubL.tail {B : List (Addr × Obj)} {p : Addr × Obj} : SubL B (p :: B) := ⟨fun _ hp => .tail _ hp⟩
theorem SubL.trans {B C D : List (Addr × Obj)} (h : SubL B C) (h' : SubL C D) : SubL B D := ⟨fun _ hp => h'.sub _ (h.sub _ hp)⟩
end Mine
end
section
namespace Mine
open PySem.Spec PySem.Calls
section
variable {prog : Program} {w : World} {A : Around} {h₀ : Heap} {L : Addr} {m : Str → Option Value} {env : Env} {ct elt : Expr} {x : Str} {scope : Scope} {cl : List (Str × Addr)} {s : Shared} {S : List (Addr × Obj) → Prop} {P : Nat → Value → Prop} {Fin : List Value → List (Addr × Obj) → Prop} {news : List (Addr × Obj)}
theorem compEnd_mono {s₁ s₂ : Shared} {I C D : Addr} {oI oC oD : Obj} {r r' : Value → List (Addr × Obj) → Prop} {y : Value} (hr : ∀ y news, r y news → r' y news) (h : LCg.CompEnd h₀ L m s₁ I oI C oC D oD S r y s₂) : LCg.CompEnd h₀ L m s₁ I oI C oC D oD S r' y s₂ :=
  by
    obtain ⟨h', tk, nw, e, F, N, o, hS, hr'⟩ := h
    exact ⟨h', tk, nw, e, F, N, o, hS, hr _ _ hr'⟩
/-- a comprehension's turns by an invariant over their number, the list so far and the ledger -/
theorem compRest_inv {n : Nat} (J : Nat → List Value → List (Addr × Obj) → Prop)
    (turn : ∀ i v ys nw I oI C oC D m₂ h tk (E' : Value → Shared → Prop), i < n → P i v → J i ys nw → LCg.NsObj oC m₂ → m₂ x = some v → Fr h₀ L h m → News h₀ L h ((I, oI) :: (C, oC) :: (D, LCg.lst ys) :: nw) → LCg.Off3 I C D nw → ((@Ne Nat I C) ∧ (@Ne Nat I D) ∧ (@Ne Nat C D)) →
      wpAny (model prog w) A (eval elt (compEnvC scope cl C env)) (LCg.CompEnd h₀ L m { s with heap := h, toks := tk } I oI C oC D (LCg.lst ys) S (fun y nw' => J (i + 1) (ys ++ [y]) nw')) E' { s with heap := h, toks := tk })
    (fin : ∀ ys nw, J n ys nw → Fin ys nw) (h0 : J 0 [] news) : LCg.CompRest prog w A h₀ L m env elt x scope cl s S P Fin n 0 [] news := by
  have key : ∀ (k i : Nat) (ys : List Value) (nw : List (Addr × Obj)), i + k = n → J i ys nw → LCg.CompRest prog w A h₀ L m env elt x scope cl s S P Fin k i ys nw := by
    intro k
    induction k with
    | zero =>
      intro i ys nw e hJ
      have : i = n := by omega
      subst this
      exact LCg.CompRest.zero (fin _ _ hJ)
    | succ k ih =>
      intro i ys nw e hJ
      refine LCg.CompRest.succ ?_
      intro v I oI C oC D m₂ h tk E' hv hC hx F N off ne
      exact wpAny_mono (turn i v ys nw I oI C oC D m₂ h tk E' (by omega) hv hJ hC hx F N off ne) (fun y s' hq => compEnd_mono (fun y nw' hJ' => ih (i + 1) _ _ (by omega) hJ') hq) fun _ _ e => e
  exact key n 0 [] news (by omega) h0
theorem compRestT_inv {n : Nat} (J : Nat → List Value → List (Addr × Obj) → Prop)
    (turn : ∀ i v ys nw I oI C oC D m₂ h tk (E' : Value → Shared → Prop), i < n → P i v → J i ys nw → LCg.NsObj oC m₂ → m₂ x = some v → Fr h₀ L h m → News h₀ L h ((I, oI) :: (C, oC) :: (D, LCg.lst ys) :: nw) → LCg.Off3 I C D nw → ((@Ne Nat I C) ∧ (@Ne Nat I D) ∧ (@Ne Nat C D)) →
      wpAny (model prog w) A (isTrue ct (compEnvC scope cl C env) (eval ct (compEnvC scope cl C env))) (fun ok s' => if ok = true then
        wpAny (model prog w) A (eval elt (compEnvC scope cl C env)) (LCg.CompEnd h₀ L m { s with heap := h, toks := tk } I oI C oC D (LCg.lst ys) S (fun y nw' => J (i + 1) (ys ++ [y]) nw')) E' s'
        else LCg.CompEnd h₀ L m { s with heap := h, toks := tk } I oI C oC D (LCg.lst ys) S (fun _ nw' => J (i + 1) ys nw') Value.none s') E' { s with heap := h, toks := tk })
    (fin : ∀ ys nw, J n ys nw → Fin ys nw) (h0 : J 0 [] news) : LCt.CompRestT prog w A h₀ L m env ct elt x scope cl s S P Fin n 0 [] news := by
  have key : ∀ (k i : Nat) (ys : List Value) (nw : List (Addr × Obj)), i + k = n → J i ys nw → LCt.CompRestT prog w A h₀ L m env ct elt x scope cl s S P Fin k i ys nw := by
    intro k
    induction k with
    | zero =>
      intro i ys nw e hJ
      have : i = n := by omega
      subst this
      exact LCt.CompRestT.zero (fin _ _ hJ)
    | succ k ih =>
      intro i ys nw e hJ
      refine LCt.CompRestT.succ ?_
      intro v I oI C oC D m₂ h tk E' hv hC hx F N off ne
      refine wpAny_mono (turn i v ys nw I oI C oC D m₂ h tk E' (by omega) hv hJ hC hx F N off ne) (fun ok s' hq => ?_) fun _ _ e => e
      cases ok with
      | true =>
        simp only [if_true] at hq ⊢
        exact wpAny_mono hq (fun y s' hq => compEnd_mono (fun y nw' hJ' => ih (i + 1) _ _ (by omega) hJ') hq) fun _ _ e => e
      | false =>
        simp only [Bool.false_eq_true, if_false] at hq ⊢
        exact compEnd_mono (fun y nw' hJ' => ih (i + 1) _ _ (by omega) hJ') hq
  exact key n 0 [] news (by omega) h0

theorem compRest_pure {n : Nat} (R : Nat → List Value → Prop) (hS : S news)
    (turn : ∀ i v ys I oI C oC D m₂ h tk (E' : Value → Shared → Prop), i < n → P i v → R i ys → LCg.NsObj oC m₂ → m₂ x = some v → Fr h₀ L h m → News h₀ L h ((I, oI) :: (C, oC) :: (D, LCg.lst ys) :: news) → LCg.Off3 I C D news → ((@Ne Nat I C) ∧ (@Ne Nat I D) ∧ (@Ne Nat C D)) → S news →
      wpAny (model prog w) A (eval elt (compEnvC scope cl C env)) (LCg.CompEnd h₀ L m { s with heap := h, toks := tk } I oI C oC D (LCg.lst ys) S (fun y nw' => nw' = news ∧ R (i + 1) (ys ++ [y]))) E' { s with heap := h, toks := tk })
    (fin : ∀ ys, R n ys → Fin ys news) (h0 : R 0 []) : LCg.CompRest prog w A h₀ L m env elt x scope cl s S P Fin n 0 [] news := by
  refine compRest_inv (fun i ys nw => nw = news ∧ R i ys) ?_ ?_ ⟨rfl, h0⟩
  · intro i v ys nw I oI C oC D m₂ h tk E' hi hv hz0 hC hx F N off ne
    refine hide ?_
    intro Pz kz
    obtain ⟨rfl, hR⟩ := hz0
    refine kz ?_
    clear kz Pz
    exact turn i v ys I oI C oC D m₂ h tk E' hi hv hR hC hx F N off ne hS
  · intro ys nw hz0
    refine hide ?_
    intro Pz kz
    obtain ⟨rfl, hR⟩ := hz0
    refine kz ?_
    clear kz Pz
    exact fin ys hR
theorem compRestT_pure {n : Nat} (R : Nat → List Value → Prop) (hS : S news)
    (turn : ∀ i v ys I oI C oC D m₂ h tk (E' : Value → Shared → Prop), i < n → P i v → R i ys → LCg.NsObj oC m₂ → m₂ x = some v → Fr h₀ L h m → News h₀ L h ((I, oI) :: (C, oC) :: (D, LCg.lst ys) :: news) → LCg.Off3 I C D news → ((@Ne Nat I C) ∧ (@Ne Nat I D) ∧ (@Ne Nat C D)) → S news →
      wpAny (model prog w) A (isTrue ct (compEnvC scope cl C env) (eval ct (compEnvC scope cl C env))) (fun ok s' => if ok = true then
        wpAny (model prog w) A (eval elt (compEnvC scope cl C env)) (LCg.CompEnd h₀ L m { s with heap := h, toks := tk } I oI C oC D (LCg.lst ys) S (fun y nw' => nw' = news ∧ R (i + 1) (ys ++ [y]))) E' s'
        else LCg.CompEnd h₀ L m { s with heap := h, toks := tk } I oI C oC D (LCg.lst ys) S (fun _ nw' => nw' = news ∧ R (i + 1) ys) Value.none s') E' { s with heap := h, toks := tk })
    (fin : ∀ ys, R n ys → Fin ys news) (h0 : R 0 []) : LCt.CompRestT prog w A h₀ L m env ct elt x scope cl s S P Fin n 0 [] news := by
  refine compRestT_inv (fun i ys nw => nw = news ∧ R i ys) ?_ ?_ ⟨rfl, h0⟩
  · intro i v ys nw I oI C oC D m₂ h tk E' hi hv hz0 hC hx F N off ne
    refine hide ?_
    intro Pz kz
    obtain ⟨rfl, hR⟩ := hz0
    refine kz ?_
    clear kz Pz
    exact turn i v ys I oI C oC D m₂ h tk E' hi hv hR hC hx F N off ne hS
  · intro ys nw hz0
    refine hide ?_
    intro Pz kz
    obtain ⟨rfl, hR⟩ := hz0
    refine kz ?_
    clear kz Pz
    exact fin ys hR
theorem compEnd_pure {s₁ : Shared} {I C D : Addr} {oI oC oD : Obj} {r : List Value → Prop} {ys : List Value} {y : Value} {h' : Heap} {tk : Nat} (F : Fr h₀ L h' m) (N : News h₀ L h' ((I, oI) :: (C, oC) :: (D, oD) :: news)) (off : LCg.Off3 I C D news) (hS : S news) (hr : r (ys ++ [y])) :
    LCg.CompEnd h₀ L m s₁ I oI C oC D oD S (fun y nw' => nw' = news ∧ r (ys ++ [y])) y { s₁ with heap := h', toks := tk } := LCg.CompEnd.intro F N news (fun _ hp => hp) off hS ⟨rfl, hr⟩
end
end Mine
end
section
namespace Mine
open PySem.Spec PySem.Calls LCg
/-- apart from the four things that a comprehension with a kept variable owns -/
noncomputable def Off4 (I C c D : Addr) (nw : List (Addr × Obj)) : Prop := ∀ p ∈ nw, p.1 ≠ I ∧ p.1 ≠ C ∧ p.1 ≠ c ∧ p.1 ≠ D
structure Ne4 (I C c D : Addr) : Prop where
  IC : I ≠ C
  Ic : I ≠ c
  ID : I ≠ D
  Cc : C ≠ c
  CD : C ≠ D
  cD : c ≠ D
noncomputable abbrev cellNone : Obj := { cls := .type "cell", data := .cell none }
section
variable {prog : Program} {w : World} {A : Around} {E : Value → Shared → Prop} {s : Shared} {h₀ : Heap} {L : Addr} {m : Str → Option Value} {env : Env}
inductive EndV (h₀ : Heap) (L : Addr) (m : Str → Option Value) (s : Shared) (I : Addr) (oI : Obj) (C : Addr) (oC : Obj) (c : Addr) (oc : Obj) (D : Addr) (ys : List Value) (r : Value → List (Addr × Obj) → Prop) (y : Value) (s' : Shared) : Prop
  | mk (h' : Heap) (tk : Nat) (nw' : List (Addr × Obj)) (e : s' = { s with heap := h', toks := tk }) (F : Fr h₀ L h' m) (N : News h₀ L h' ((I, oI) :: (C, oC) :: (c, oc) :: (D, lst ys) :: nw')) (off : Off4 I C c D nw') (hr : r y nw')
inductive CVI (s₂ : Shared) (h₀ : Heap) (L : Addr) (m : Str → Option Value) (I C c D : Addr) (n : Nat) (St : Nat → Heap → Prop) (J : Nat → List Value → List (Addr × Obj) → Prop) (k : Nat) (s' : Shared) : Prop
  | mk (h' : Heap) (tk i : Nat) (ys : List Value) (m' : Str → Option Value) (ov : Option Value) (oc : Obj) (nw : List (Addr × Obj)) (e : s' = { s₂ with heap := h', toks := tk }) (hi : i ≤ n) (hk : k = n + 1 - i) (hl : ys.length = i) (hst : St i h') (F : Fr h₀ L h' m) (hn : h'.Ns C m') (hc : oc.data = .cell ov) (N : News h₀ L h' ((c, oc) :: (D, lst ys) :: nw)) (off : Off4 I C c D nw) (hJ : J i ys nw)
theorem block_V {elt iter : Expr} {x : Str} {px : Pos} {scope : Scope} {cl : List (Str × Addr)} {pos : Pos} {s₂ : Shared} {I : Addr} {fp : List Addr} {n : Nat} {P : Nat → Value → Prop} {St : Nat → Heap → Prop} {S : List (Addr × Obj) → Prop} {news : List (Addr × Obj)}
    {RR : Value → Addr → Result → Shared → Prop} (J : Nat → List Value → List (Addr × Obj) → Prop)
    (W : Walks prog w A I fp [I] n P St) (hsz : n ≤ sizeLine) (hIo : ∀ i h, St i h → ∃ o, h.get? I = some o)
    (hSt : ∀ i h h' o nw, St i h → h.get? I = some o → h'.get? I = some o → (∀ b o, h₀.get? b = some o → h'.get? b = some o) → News h₀ L h' nw → S nw → St i h')
    (hnew : newFunctionEnv scope env.globals cl [] env.qual none .none (some env) = (do
      let C ← alloc { cls := .type "dict", data := .dict #[] }
      let c ← alloc cellNone
      pure { scope, locals := C, globals := env.globals, cells := (x, c) :: cl, qual := env.qual, func := none, code := env.code, frame := env.frame, builtins := env.builtins }))
    (hkind : scope.kind = .function) (hx : (relabel scope env).names.lookup x = some .cell) (hst : St 0 s₂.heap) (hfp : ∀ b ∈ fp, b < s₂.heap.objs.size)
    (F : Fr h₀ L s₂.heap m) (N : News h₀ L s₂.heap news) (hIL : L ≠ I) (hI₀ : h₀.get? I = none) (off : ∀ p ∈ news, p.1 ≠ I)
    (h0 : J 0 [] news) (hJS : ∀ i ys nw, J i ys nw → S nw)
    (turn : ∀ i v ys nw oI C oC c oc D h tk (E' : Value → Shared → Prop), i < n → P i v → J i ys nw → oc.data = .cell (some v) → Fr h₀ L h m → News h₀ L h ((I, oI) :: (C, oC) :: (c, oc) :: (D, lst ys) :: nw) → Off4 I C c D nw → Ne4 I C c D →
      wpAny (model prog w) A (eval elt (compEnvC scope ((x, c) :: cl) C env)) (EndV h₀ L m { s₂ with heap := h, toks := tk } I oI C oC c oc D ys (fun y nw' => J (i + 1) (ys ++ [y]) nw')) E' { s₂ with heap := h, toks := tk })
    (hRR : ∀ D C h tk m' ys nw, Fr h₀ L h m → News h₀ L h ((D, lst ys) :: nw) → (∀ p ∈ nw, p.1 ≠ D) → h.Ns C m' → h₀.get? C = none → h₀.get? D = none → C ≠ L → D ≠ L → C ≠ D → (∀ p ∈ nw, p.1 ≠ C) → J n ys nw → RR (.ref D) C (.ok .next) { s₂ with heap := h, toks := tk }) :
    wpAny (model prog w) A (newList []) (fun acc s₃ => wpAny (model prog w) A (newFunctionEnv scope env.globals cl [] env.qual none .none (some env)) (fun cenv s₄ =>
      codeAny (model prog w) A (.compStart (.ListComp elt [⟨.Name x px, iter, [], 0⟩] scope pos) 0 (.ref I) acc { cenv with scope := relabel scope env }) (RR acc cenv.locals) s₄) E s₃) E s₂ := by
  refine wpAny_newObj_type ?_
  rw [hnew]
  refine wpAny_bind (wpAny_alloc (wpAny_bind (wpAny_alloc (wpAny_pure ?_))))
  dsimp only
  generalize hH2 : s₂.heap.push { cls := .type "list", dict := none, data := .seq ([] : List Value).toArray } = H2
  generalize hH3 : H2.push { cls := .type "dict", data := .dict #[] } = H3
  have hC : H2.objs.size = s₂.heap.objs.size + 1 := by rw [← hH2, Heap.size_push]
  have hc : H3.objs.size = s₂.heap.objs.size + 2 := by rw [← hH3, Heap.size_push, hC]
  generalize hD : s₂.heap.objs.size = D at *
  generalize hCe : H2.objs.size = C at *
  generalize hce : H3.objs.size = c at *
  have hIf : I ∈ fp := W.sub I (List.mem_singleton.mpr rfl)
  have hIlt : @LT.lt Nat _ I D := hfp I hIf
  have hLlt : @LT.lt Nat _ L D := hD ▸ F.ns.lt
  have ne : Ne4 I C c D := ⟨neN (by omega), neN (by omega), neN (by omega), neN (by omega), neN (by omega), neN (by omega)⟩
  have old : ∀ b o, s₂.heap.get? b = some o → (H3.push cellNone).get? b = some o := fun b o e => Heap.get?_push_of_some _ (hH3 ▸ Heap.get?_push_of_some _ (hH2 ▸ Heap.get?_push_of_some _ e))
  have zD : (H3.push cellNone).get? D = some (lst []) := Heap.get?_push_of_some _ (hH3 ▸ Heap.get?_push_of_some _ (by rw [← hH2, ← hD]; exact Heap.get?_push_size _ rfl))
  have zC : (H3.push cellNone).get? C = some { cls := .type "dict", data := .dict #[] } := Heap.get?_push_of_some _ (by rw [← hH3, ← hCe]; exact Heap.get?_push_size _ rfl)
  have zc : (H3.push cellNone).get? c = some cellNone := by rw [← hce]; exact Heap.get?_push_size _ rfl
  have fresh : ∀ a, D ≤ a → s₂.heap.get? a = none := fun a ha => by
    cases e : s₂.heap.get? a with
    | none => rfl
    | some o' => exact absurd (hD ▸ Heap.lt_size e) (Nat.not_lt.mpr ha)
  have fresh₀ : ∀ a, D ≤ a → h₀.get? a = none := fun a ha => by
    cases e : h₀.get? a with
    | none => rfl
    | some o' => have := F.keep a o' e; rw [fresh a ha] at this; cases this
  have hD₀ : h₀.get? D = none := fresh₀ _ (Nat.le_refl _)
  have hC₀ : h₀.get? C = none := fresh₀ _ (by omega)
  have hc₀ : h₀.get? c = none := fresh₀ _ (by omega)
  have hDL : D ≠ L := neN (by omega)
  have hCL : C ≠ L := neN (by omega)
  have hcL : c ≠ L := neN (by omega)
  have hst₁ : St 0 (H3.push cellNone) := W.frame _ _ _ hst fun b _ o e => old b o e
  have hns : (H3.push cellNone).Ns C (fun _ => none) := by
    have z := Heap.Ns.new H2 (.type "dict")
    rw [hCe, hH3] at z
    exact z.at' fun o e => Heap.get?_push_of_some _ e
  have lt_of : ∀ p ∈ news, @LT.lt Nat _ p.1 D := fun p hp => hD ▸ Heap.lt_size (N p hp).1
  have off₀ : Off4 I C c D news := fun p hp => ⟨off p hp, neN (by have := lt_of p hp; omega), neN (by have := lt_of p hp; omega), neN (by have := lt_of p hp; omega)⟩
  have hxe : (compEnvC scope ((x, c) :: cl) C env).kindOf x = some .cell := hx
  have hDfp : D ∉ fp := fun hm => Nat.lt_irrefl _ (hfp _ hm)
  have hcfp : c ∉ fp := fun hm => by have := ltN (hfp _ hm); omega
  have hCfp : C ∉ fp := fun hm => by have := ltN (hfp _ hm); omega
  have loop : codeAny (model prog w) A (.compLoop (.ListComp elt [⟨.Name x px, iter, [], 0⟩] scope pos) 0 (.ref I) (.ref D) (compEnvC scope ((x, c) :: cl) C env))
        (RR (.ref D) C) { s₂ with heap := H3.push cellNone } := by
    refine codeAny_compLoop_tests
      (CVI s₂ h₀ L m I C c D n St J) ?_ (n + 1)
      ⟨H3.push cellNone, s₂.toks, 0, [], _, none, cellNone, news, rfl, Nat.zero_le _, rfl, rfl, hst₁, F.keeps old, hns, rfl, fun p hp => ?_, off₀, h0⟩
    · intro k s' hz0
      refine hide ?_
      intro Pz kz
      obtain ⟨h', tk, i, ys, m', ov, oc, nw, rfl, hi, rfl, hyl, hst', F', hn', hoc, N', off', hJ⟩ := hz0
      refine kz ?_
      clear kz Pz
      have N'c := N' (c, oc) List.mem_cons_self
      have N'D := N' (D, lst ys) (List.mem_cons_of_mem _ List.mem_cons_self)
      by_cases hlt : i < n
      · refine W.item i _ _ _ hlt hst' fun v h₂ tk₂ hPv hst₂ hk₂ => ?_
        have hk : ∀ b o, b ≠ I → h'.get? b = some o → h₂.get? b = some o := fun b o hb e => hk₂ b o (by simpa using hb) e
        refine wpAny_assign_Name (wpAny_storeName_cell (c := c) (v₀ := ov) hkind hxe (by simp [compEnvC]) ⟨oc, hk _ _ (Ne.symm ne.Ic) N'c.1, hoc⟩ fun h₃ hc₃ hs₃ => ?_)
        refine wpAny_tests_nil ?_
        simp only [if_true]
        refine hide ?_
        intro Pz kz
        obtain ⟨oc', hec, hoc'⟩ := hc₃
        have hst₃ : St (i + 1) h₃ := W.frame _ _ _ hst₂ fun b hb o e => hs₃.extBut b o (fun q => hcfp (by have q' : b = c := q; rw [← q']; exact hb)) e
        obtain ⟨oI, heI⟩ := hIo _ _ hst₃
        have hn₂ : h₂.Ns C m' := hn'.at' fun o e => hk C o (Ne.symm ne.IC) e
        have hn₃ : h₃.Ns C m' := hn₂.sameBut hs₃ ne.Cc
        obtain ⟨oC, heC, hoC⟩ := ns_obj hn₃
        refine kz ?_
        clear kz Pz
        have F₂ : Fr h₀ L h₂ m := fr_but F' hk₂ hIL hI₀
        have F₃ : Fr h₀ L h₃ m := F₂.change hs₃ hcL hc₀
        have N₃ : News h₀ L h₃ ((I, oI) :: (C, oC) :: (c, oc') :: (D, lst ys) :: nw) := (all_cons (⟨heI, Ne.symm hIL, hI₀⟩) (all_cons (⟨heC, hCL, hC₀⟩) (all_cons (⟨hec, hcL, hc₀⟩) (all_cons (⟨hs₃.extBut _ _ (Ne.symm ne.cD) (hk _ _ (Ne.symm ne.ID) N'D.1), hDL, hD₀⟩) (fun p hp => by have z := N' p (List.mem_cons_of_mem _ (List.mem_cons_of_mem _ hp)); exact ⟨hs₃.extBut _ _ (off' p hp).2.2.1 (hk _ _ (off' p hp).1 z.1), z.2⟩)))))
        refine wpAny_mono (turn i v ys nw oI C oC c oc' D h₃ _ _ hlt hPv hJ hoc' F₃ N₃ off' ne) (fun y s₄ h₄ => ?_) fun _ _ e => e
        refine hide ?_
        intro Pz kz
        obtain ⟨h₄, tk₄, nw₄, rfl, F₄, N₄, off₄, hJ₄⟩ := h₄
        refine kz ?_
        clear kz Pz
        have zI := (N₄ (I, oI) List.mem_cons_self).1
        have zC := (N₄ (C, oC) (by simp)).1
        have zc := N₄ (c, oc') (by simp)
        have zD := (N₄ (D, lst ys) (by simp)).1
        have N₄' : News h₀ L h₄ nw₄ := fun p hp => N₄ p (by simp [hp])
        have hst₄ : St (i + 1) h₄ := hSt _ _ _ _ _ hst₃ heI zI F₄.keep N₄' (hJS _ _ _ hJ₄)
        refine append_at (hsz := by show ys.toArray.size ≤ sizeLine; rw [List.size_toArray, hyl]; exact Nat.le_trans hi hsz) zD fun h₅ hs₅ hD₅ => ?_
        refine ⟨n + 1 - (i + 1), by omega, h₅, tk₄, i + 1, ys ++ [y], _, some v, oc', nw₄, rfl, hlt, rfl, by rw [List.length_append, List.length_singleton, hyl], W.frame _ _ _ hst₄ fun b hb o e => hs₅.extBut b o (fun q => hDfp (q ▸ hb)) e, F₄.change hs₅ hDL hD₀,
          (hoC.ns zC).sameBut hs₅ ne.CD, hoc', fun p hp => ?_, off₄, hJ₄⟩
        revert p
        exact all_cons (⟨hs₅.extBut _ _ ne.cD zc.1, zc.2⟩) (all_cons (⟨hD₅.trans (congrArg some (lst_snoc ys y)), hDL, hD₀⟩) (fun p hp => ⟨hs₅.extBut _ _ (off₄ p hp).2.2.2 (N₄' p hp).1, (N₄' p hp).2⟩))
      · obtain rfl : i = n := Nat.le_antisymm hi (Nat.not_lt.mp hlt)
        refine W.done _ _ _ hst' fun h₂ tk₂ hk₂ => ?_
        have hk : ∀ b o, b ≠ I → h'.get? b = some o → h₂.get? b = some o := fun b o hb e => hk₂ b o (by simpa using hb) e
        refine hRR _ _ h₂ tk₂ m' ys nw (fr_but F' hk₂ hIL hI₀) (fun p hp => ?_) (fun p hp => (off' p hp).2.2.2) (hn'.at' fun o e => hk C o (Ne.symm ne.IC) e) hC₀ hD₀ hCL hDL ne.CD (fun p hp => (off' p hp).2.1) hJ
        revert p
        exact all_cons (⟨hk _ _ (Ne.symm ne.ID) N'D.1, hDL, hD₀⟩) (fun p hp => by have z := N' p (List.mem_cons_of_mem _ (List.mem_cons_of_mem _ hp)); exact ⟨hk _ _ (off' p hp).1 z.1, z.2⟩)
    · revert p
      exact all_cons (⟨zc, hcL, hc₀⟩) (all_cons (⟨zD, hDL, hD₀⟩) (fun p hp => ⟨old _ _ (N p hp).1, (N p hp).2⟩))
  exact codeAny_compStart_list loop (W.self 0 _ _ _ hst₁ loop)

inductive AtV (prog : Program) (w : World) (A : Around) (h₀ : Heap) (L : Addr) (m : Str → Option Value) (env : Env) (elt : Expr) (x : Str) (scope : Scope) (cl : List (Str × Addr)) (Fin : Shared → List Value → List (Addr × Obj) → Prop) (it : Value) (s₂ : Shared) : Prop
  | mk (I : Addr) (fp : List Addr) (n : Nat) (P : Nat → Value → Prop) (St : Nat → Heap → Prop) (S : List (Addr × Obj) → Prop) (news : List (Addr × Obj)) (J : Nat → List Value → List (Addr × Obj) → Prop)
    (c1 : it = .ref I) (c2 : Walks prog w A I fp [I] n P St) (c3 : n ≤ sizeLine) (c4 : ∀ i h, St i h → ∃ o, h.get? I = some o)
    (c5 : ∀ i h h' o nw, St i h → h.get? I = some o → h'.get? I = some o → (∀ b o, h₀.get? b = some o → h'.get? b = some o) → News h₀ L h' nw → S nw → St i h')
    (c6 : St 0 s₂.heap) (c7 : ∀ b ∈ fp, b < s₂.heap.objs.size) (c8 : Fr h₀ L s₂.heap m) (c9 : News h₀ L s₂.heap news) (d1 : L ≠ I) (d2 : h₀.get? I = none) (d3 : ∀ p ∈ news, p.1 ≠ I) (d4 : J 0 [] news) (d5 : ∀ i ys nw, J i ys nw → S nw)
    (d6 : ∀ i v ys nw oI C oC c oc D h tk (E' : Value → Shared → Prop), i < n → P i v → J i ys nw → oc.data = .cell (some v) → Fr h₀ L h m → News h₀ L h ((I, oI) :: (C, oC) :: (c, oc) :: (D, lst ys) :: nw) → Off4 I C c D nw → Ne4 I C c D →
      wpAny (model prog w) A (eval elt (compEnvC scope ((x, c) :: cl) C env)) (EndV h₀ L m { s₂ with heap := h, toks := tk } I oI C oC c oc D ys (fun y nw' => J (i + 1) (ys ++ [y]) nw')) E' { s₂ with heap := h, toks := tk })
    (d7 : ∀ ys nw, J n ys nw → Fin s₂ ys nw)
theorem EndV.intro {h₀ : Heap} {L I C c D : Addr} {m : Str → Option Value} {s : Shared} {oI oC oc : Obj} {ys : List Value} {r : Value → List (Addr × Obj) → Prop} {y : Value} {h' : Heap} {tk : Nat} {all : List (Addr × Obj)}
    (F : Fr h₀ L h' m) (N : News h₀ L h' all) (nw' : List (Addr × Obj)) (sub : ∀ p ∈ (I, oI) :: (C, oC) :: (c, oc) :: (D, lst ys) :: nw', p ∈ all) (off : Off4 I C c D nw') (hr : r y nw') :
    EndV h₀ L m s I oI C oC c oc D ys r y { s with heap := h', toks := tk } := ⟨h', tk, nw', rfl, F, fun p hp => N p (sub p hp), off, hr⟩
theorem off1_of {D : Addr} : ∀ {l : List (Addr × Obj)}, (∀ p ∈ l, p.1 ≠ D) → Off1 D l
  | [], _ => trivial
  | _ :: _, h => ⟨h _ List.mem_cons_self, off1_of fun p hp => h p (List.mem_cons_of_mem _ hp)⟩
theorem off1_mem {D : Addr} : ∀ {l : List (Addr × Obj)}, Off1 D l → ∀ p ∈ l, p.1 ≠ D
  | [], _, _, h => nomatch h
  | _ :: _, x, p, h => by
    rcases List.mem_cons.mp h with rfl | h
    · exact x.1
    · exact off1_mem x.2 p h
theorem ListComp_V {elt iter : Expr} {x : Str} {px : Pos} {scope : Scope} {cl : List (Str × Addr)} {pos : Pos} {Q : Value → Shared → Prop} (_F₀ : Fr h₀ L s.heap m)
    (hclos : closureFor scope env = pure cl)
    (hnew : newFunctionEnv scope env.globals cl [] env.qual none .none (some env) = (do
      let C ← alloc { cls := .type "dict", data := .dict #[] }
      let c ← alloc cellNone
      pure { scope, locals := C, globals := env.globals, cells := (x, c) :: cl, qual := env.qual, func := none, code := env.code, frame := env.frame, builtins := env.builtins }))
    (hkind : scope.kind = .function) (hnames : ∀ y ∈ scope.names, y.2 = .local → scope.names.lookup y.1 = some .local) (hx : (relabel scope env).names.lookup x = some .cell)
    (h : wpAny (model prog w) A (eval iter env) (fun xv s₁ => wpAny (model prog w) A (pyIter xv) (AtV prog w A h₀ L m env elt x scope cl (fun s₂ => FinE h₀ L m s₂ Q)) E s₁) E s)
    (hs : ∀ x, foldedSetIterable iter env x = pure x := by intro _; rfl) :
    wpAny (model prog w) A (eval (.ListComp elt [⟨.Name x px, iter, [], 0⟩] scope pos) env) Q E s := by
  rw [eval_ListComp]
  refine wpAny_comprehension_free (use := none) rfl hs hclos hkind hnames (wpAny_mono h (fun xv s₁ h₁ => wpAny_mono h₁ (fun it s₂ h₂ => ?_) fun _ _ e => e) fun _ _ e => e)
  refine hide ?_
  intro Pz kz
  obtain ⟨I, fp, n, P, St, S, news, J, rfl, W, hsz, hIo, hSt, hst, hfp, F, N, hIL, hI₀, off, h0, hJS, turn, fin⟩ := h₂
  refine kz ?_
  clear kz Pz
  refine block_V J W hsz hIo hSt hnew hkind hx hst hfp F N hIL hI₀ off h0 hJS turn ?_
  intro D C h tk m' ys nw F' N' o1 hn hC₀ hD₀ hCL hDL hCD offC hJ
  refine ⟨m', hn, fun h'' hs'' => fin ys nw hJ D h'' tk (F'.change hs'' hCL hC₀) (fun p hp => ?_) (off1_of o1)⟩
  refine ⟨hs''.extBut _ _ ?_ (N' p hp).1, (N' p hp).2⟩
  revert p
  exact all_cons (Ne.symm hCD) (fun p hp => offC p hp)
theorem AtV.range {elt : Expr} {x : Str} {scope : Scope} {cl : List (Str × Addr)} {Fin : Shared → List Value → List (Addr × Obj) → Prop} {r : Addr} {a b : Int} {t u v : Tok} {n : Nat} {news : List (Addr × Obj)} (J : Nat → List Value → List (Addr × Obj) → Prop)
    (hh : A.handled = none) (F : Fr h₀ L s.heap m) (N : News h₀ L s.heap news) (hr : IsRange s.heap r a b 1 t u v) (hsm : Builtin.Range.small a b 1 = true) (hn : Builtin.Range.rangeSize a b 1 = ((n : Nat) : Int)) (hsz : n ≤ sizeLine)
    (h0 : J 0 [] news)
    (turn : ∀ g i t ys nw I oI C oC c oc D h tk (E' : Value → Shared → Prop), i < n → J i ys nw → oc.data = .cell (some (.int (a + (i : Int)) t)) → Fr h₀ L h m → News h₀ L h ((I, oI) :: (C, oC) :: (c, oc) :: (D, lst ys) :: nw) → Off4 I C c D nw → Ne4 I C c D →
      wpAny (model prog w) A (eval elt (compEnvC scope ((x, c) :: cl) C env)) (EndV h₀ L m { s with heap := h, toks := tk } I oI C oC c oc D ys (fun y nw' => J (i + 1) (ys ++ [y]) nw')) E' { { s with heap := g } with heap := h, toks := tk })
    (fin : ∀ g ys nw, J n ys nw → Fin { s with heap := g } ys nw) :
    wpAny (model prog w) A (pyIter (.ref r)) (AtV prog w A h₀ L m env elt x scope cl Fin) E s := by
  refine wpAny_pyIter_range hr hsm ?_
  have up : ∀ b o, s.heap.get? b = some o → (s.heap.push { cls := .type "range_iterator", data := .fields #[rawInt a, rawInt (Builtin.Range.rangeSize a b 1), rawInt 1] }).get? b = some o := fun b o e => Heap.get?_push_of_some _ e
  refine ⟨s.heap.objs.size, [s.heap.objs.size], n, _, _, fun _ => True, news, J, rfl, range_walks hh a n, hsz, fun i h st => ⟨_, st⟩, range_st, ?_, ?_, F.keeps fun _ _ e => Heap.get?_push_of_some _ e, N.grown fun _ _ e => Heap.get?_push_of_some _ e,
    Nat.ne_of_lt F.ns.lt, next_is_new F, fun p hp => Nat.ne_of_lt (Heap.lt_size (N p hp).1), h0, fun _ _ _ _ => trivial, ?_, fun ys nw hJ => fin _ ys nw hJ⟩
  · show IsRangeIter _ _ _ _ _
    rw [hn]; simpa using Heap.get?_push_size _ rfl
  · intro b hb
    rw [List.mem_singleton.mp hb]
    show s.heap.objs.size < (s.heap.push _).objs.size
    rw [Heap.size_push]; exact Nat.lt_succ_self _
  · intro i v ys nw oI C oC c oc D h tk E' hi hz0 hJ hoc F' N' off ne
    refine hide ?_
    intro Pz kz
    obtain ⟨t, rfl⟩ := hz0
    refine kz ?_
    clear kz Pz
    exact turn _ i t ys nw _ oI C oC c oc D h tk E' hi hJ hoc F' N' off ne
theorem AtV.list {elt : Expr} {x : Str} {scope : Scope} {cl : List (Str × Addr)} {Fin : Shared → List Value → List (Addr × Obj) → Prop} {ax : Addr} {its : Array Value} {k : Nat} {news : List (Addr × Obj)} (J : Nat → List Value → List (Addr × Obj) → Prop)
    (hh : A.handled = none) (F : Fr h₀ L s.heap m) (N : News h₀ L s.heap news) (hm : (ax, listOf its k) ∈ news) (hsz : its.size ≤ sizeLine)
    (h0 : J 0 [] news) (hJ' : ∀ i ys nw, J i ys nw → (ax, listOf its k) ∈ nw)
    (turn : ∀ g i v ys nw I oI C oC c oc D h tk (E' : Value → Shared → Prop), i < its.size → its[i]? = some v → J i ys nw → oc.data = .cell (some v) → Fr h₀ L h m → News h₀ L h ((I, oI) :: (C, oC) :: (c, oc) :: (D, lst ys) :: nw) → Off4 I C c D nw → Ne4 I C c D →
      wpAny (model prog w) A (eval elt (compEnvC scope ((x, c) :: cl) C env)) (EndV h₀ L m { s with heap := h, toks := tk } I oI C oC c oc D ys (fun y nw' => J (i + 1) (ys ++ [y]) nw')) E' { { s with heap := g } with heap := h, toks := tk })
    (fin : ∀ g ys nw, J its.size ys nw → Fin { s with heap := g } ys nw) :
    wpAny (model prog w) A (pyIter (.ref ax)) (AtV prog w A h₀ L m env elt x scope cl Fin) E s := by
  have hl : s.heap.IsList ax its := ⟨_, (N _ hm).1, rfl, _, rfl⟩
  have hlt : ax < s.heap.objs.size := Heap.lt_size (N _ hm).1
  refine wpAny_pyIter_list hl ?_
  have up : ∀ b o, s.heap.get? b = some o → (s.heap.push { cls := .type "list_iterator", data := .fields #[.ref ax, .int 0 0] }).get? b = some o := fun b o e => Heap.get?_push_of_some _ e
  refine ⟨s.heap.objs.size, _, its.size, _, _, SrcAt h₀ ax its, news, J, rfl, Walks.list hh s.heap.objs.size ax (Nat.ne_of_lt hlt) its, hsz, fun i h st => by obtain ⟨o, e, _⟩ := st.1; exact ⟨o, e⟩, list_st, ⟨⟨_, Heap.get?_push_size _ rfl, rfl, rfl⟩, hl.push _⟩, ?_, F.keeps up, N.grown up,
    Nat.ne_of_lt F.ns.lt, next_is_new F, fun p hp => Nat.ne_of_lt (Heap.lt_size (N p hp).1), h0, fun i ys nw hJ => .inr ⟨_, hJ' i ys nw hJ, rfl, _, rfl⟩, ?_, fun ys nw hJ => fin _ ys nw hJ⟩
  · intro b hb
    show b < (s.heap.push _).objs.size
    rw [Heap.size_push]
    rcases List.mem_cons.mp hb with rfl | hb
    · exact Nat.lt_succ_self _
    · rw [List.mem_singleton.mp hb]; exact Nat.lt_succ_of_lt hlt
  · rintro i v ys nw oI C oC c oc D h tk E' hi hv hJ hoc F' N' off ne
    exact turn _ i v ys nw _ oI C oC c oc D h tk E' hi hv hJ hoc F' N' off ne
end
end Mine
end
section
namespace Mine
theorem item_at {prog : Program} {w : World} {A : Around} {E : Value → Shared → Prop} {s : Shared} {h₀ : Heap} {L : Addr} {news : List (Addr × Obj)} {value slice : PySem.Expr} {l : Addr} {its : Array Value} {n : Nat} {k : Int} {u : Tok} {v : Value} {Q : Value → Shared → Prop}
    (N : News h₀ L s.heap news) (hm : (l, listOf its n) ∈ news) (h0 : 0 ≤ k) (hhi : k < 2 ^ 63) (hx : its[k.toNat]? = some v) (h : Q v s)
    (hs : subscripted slice false (.ref l) (.int k u) = operate [.ref l, .int k u] (getItem (.ref l) (.int k u)) := by with_unfolding_all rfl) :
    wpAny (model prog w) A (subscriptTail value slice (.ref l) (.int k u)) Q E s :=
  have hl : s.heap.IsList l its := ⟨_, (N _ hm).1, rfl, _, rfl⟩
  tail_any hl.typeIs slot_list_getitem.lookup (wpAny_getItem_list hl h0 hhi hx h) hs
end Mine
end
section
theorem Mine.w_Table_0 : True := by
  k_with_none
  (k_with "memw" => first | assumption | exact List.Mem.head _ | (refine List.Mem.tail _ ?_; k_extra "memw") | fail "memw")
  (k_with "subl" => first | exact fun _ h => h | (refine sub_cons (by k_extra "memw") ?_; k_extra "subl") | (refine sub_tail ?_; k_extra "subl") | fail "subl")
  trivial
namespace Mine
theorem Mine.w_Table_1 : True := by
  (k_with "ktr_unf" => repeat' ((fail_if_success (with_reducible show LCg.CompSrc _ _ _ _ _ _ _ _ _ _ _ _ _ _)); (fail_if_success (with_reducible show LCt.CompSrcT _ _ _ _ _ _ _ _ _ _ _ _ _ _ _)); (fail_if_success (with_reducible show wpAny _ _ (pyIter _) _ _ _)); first | (k_unfold; (try dsimp only)) | tb_rel | ((fail_if_success (with_reducible show wpAny _ _ (subscriptTail _ _ (Value.ref _) (Value.int _ _)) _ _ _)); first | walk1 | (dsimp only; walk1))))
  (k_with "k_mem" => first | assumption | exact List.Mem.head _ | (refine' List.Mem.tail _ ?_; k_mem) | (refine' SubL.mem (by assumption) ?_; k_mem))
  (k_with "k_all" => first | assumption | exact off1_mem' (by assumption) | exact lt_ne (by assumption) (by omega) | exact allLt_ne (by assumption) (by omega))
  (k_with "tb_rel" => ((with_reducible show wpAny _ _ (eval (Expr.ListComp _ _ _ _) _) _ _ _); k_dflt (refine ListComp_V (by k_asm) (by with_unfolding_all rfl) (by with_unfolding_all rfl) (by rfl) (by decide) (by rfl) ?_)))
  (k_with "tb_rel" => ((with_reducible show wpAny _ _ (eval (Expr.ListComp _ _ _ _) _) _ _ _); k_dflt (refine LCg.ListComp_U (F₀ := by k_asm) (by with_unfolding_all rfl) (by decide) (by rfl) (by decide) (by rfl) ?_)))
  (k_with "tb_rel" => ((with_reducible show wpAny _ _ (subscriptTail _ _ (Value.ref _) (Value.int _ _)) _ _ _); k_dflt (refine' item_at (by k_asm) (by k_mem) (by omega) (by omega) (by assumption) ?_); (try dsimp only)))
  (k_with "ktr_rel" => (k_dflt (first
        | refine LCg.CompSrc.ledger (by rfl) (by k_asm) (by k_asm) (by k_mem) (by rw [sizeLine_eq]; simp; omega) ?_
        | refine LCg.CompSrc.range (n := 6) (by rfl) (by k_asm) (by k_asm) (by assumption) (by first | decide | rfl) (by first | rfl | decide) (by first | size_fits | exact Nat.le_of_ble_eq_true rfl) ?_); intro g'w))
  (k_with "tb_rel" => ((with_reducible show wpAny _ _ (call (Value.ref 202) _) _ _ _); k_dflt (refine' wp_upR (by exact rfl) (by exact rfl) (by exact rfl) (by exact Nat.le_of_ble_eq_true rfl) (by exact Nat.le_of_ble_eq_true rfl) (c_small (by k_asm) (by k_asm) (by k_asm) (by k_asm) (by k_asm) _ _ (by assumption) ?_); k_whole); intro t'w h'w tk'w F'w N'w; (try dsimp only); (try k_fold)))
  (k_with "tb_rel" => ((with_reducible show wpAny _ _ (call (Value.ref 209) _) _ _ _); k_dflt (refine' wp_upR (by exact rfl) (by exact rfl) (by exact rfl) (by exact Nat.le_of_ble_eq_true rfl) (by exact Nat.le_of_ble_eq_true rfl) (c_stands (by k_asm) (by k_asm) (by k_asm) (by k_asm) (by k_asm) _ _ _ _ (by assumption) (by assumption) ?_); k_whole); intro h'w tk'w F'w N'w; (try dsimp only); (try k_fold)))
  trivial
noncomputable def partN (xs : List Str) (i : Nat) : Str := smallS (xs.getD i (Str.ofString ""))
noncomputable def tableF (xs : List Str) (i j : Nat) : Bool := !(partN xs i == Str.ofString "*") && standsIn (partN xs i) (headS (partN xs j))
theorem getD_of {xs : List Str} {i : Nat} (h : i < xs.length) : xs[i]? = some (xs.getD i (Str.ofString "")) := by
  rw [List.getD_eq_getElem?_getD, List.getElem?_eq_getElem h]; rfl
theorem part_at {xs : List Str} {ps : List Value} {i : Nat} (hl : xs.length = 6) (hps : StrsAre ps (xs.map smallS)) (hi : i < 6) : ∃ t, ps.toArray[(0 + (i : Int)).toNat]? = some (.str (partN xs i) t) := by
  refine hide ?_
  intro Pz kz
  obtain ⟨t, h⟩ := strs_at hps (i := i) (x := partN xs i) (by rw [List.getElem?_map, getD_of (by omega)]; rfl)
  refine kz ?_
  clear kz Pz
  exact ⟨t, by rw [show (0 + (i : Int)).toNat = i by omega]; simpa using h⟩
theorem head_at {xs : List Str} {hs : List Value} {i : Nat} (hl : xs.length = 6) (hhs : StrsAre hs ((xs.map smallS).map headS)) (hi : i < 6) : ∃ t, hs.toArray[(0 + (i : Int)).toNat]? = some (.str (headS (partN xs i)) t) := by
  refine hide ?_
  intro Pz kz
  obtain ⟨t, h⟩ := strs_at hhs (i := i) (x := headS (partN xs i)) (by rw [List.getElem?_map, List.getElem?_map, getD_of (by omega)]; rfl)
  refine kz ?_
  clear kz Pz
  exact ⟨t, by rw [show (0 + (i : Int)).toNat = i by omega]; simpa using h⟩
theorem nameN_mem {xs : List Str} {i : Nat} (hl : xs.length = 6) (hx : ∀ x ∈ xs, x ∈ allNames) (hi : i < 6) : xs.getD i (Str.ofString "") ∈ allNames := hx _ (List.mem_of_getElem? (getD_of (by omega)))
theorem partN_len {xs : List Str} {i : Nat} (hl : xs.length = 6) (hx : ∀ x ∈ xs, x ∈ allNames) (hi : i < 6) : (partN xs i).length ≤ 3 := nm_small (nameN_mem hl hx hi)
theorem headN_len {xs : List Str} {i : Nat} (hl : xs.length = 6) (hx : ∀ x ∈ xs, x ∈ allNames) (hi : i < 6) : (headS (partN xs i)).length ≤ 3 := nm_head (nameN_mem hl hx hi)
noncomputable def RowsAt (f : Nat → Nat → Bool) (led : List (Addr × Obj)) (ys : List Value) (n : Nat) : Prop :=
  ys.length = n ∧ ∀ k < n, ∃ r, ys[k]? = some (.ref r) ∧ (r, LCg.lst ((List.range 6).map fun j => Value.bool (f k j))) ∈ led
theorem RowsAt.snoc {f : Nat → Nat → Bool} {led : List (Addr × Obj)} {ys : List Value} {n : Nat} {r : Addr} (h : RowsAt f led ys n) :
    RowsAt f ((r, LCg.lst ((List.range 6).map fun j => Value.bool (f n j))) :: led) (ys ++ [.ref r]) (n + 1) := by
  refine ⟨by simp [h.1], fun k hk => ?_⟩
  rcases Nat.lt_succ_iff_lt_or_eq.mp hk with hk | rfl
  · refine hide ?_
    intro Pz kz
    obtain ⟨r', h1, h2⟩ := h.2 k hk
    refine kz ?_
    clear kz Pz
    exact ⟨r', by rw [List.getElem?_append_left (by rw [h.1]; exact hk)]; exact h1, .tail _ h2⟩
  · exact ⟨r, by rw [List.getElem?_append_right (by rw [h.1]; exact Nat.le_refl _)]; simp [h.1], .head _⟩
theorem range_snoc {f : Nat → Value} {j : Nat} : (List.range (j + 1)).map f = (List.range j).map f ++ [f j] := by
  rw [List.range_succ, List.map_append]; rfl
theorem tableF_t {xs : List Str} {i j : Nat} (h : (partN xs i != Str.ofString "*") = true) : tableF xs i j = standsIn (partN xs i) (headS (partN xs j)) := by
  unfold tableF
  have : (partN xs i == Str.ofString "*") = false := by simpa [bne] using h
  rw [this]; rfl
theorem tableF_f {xs : List Str} {i j : Nat} (h : (partN xs i != Str.ofString "*") = false) : tableF xs i j = false := by
  unfold tableF
  have : (partN xs i == Str.ofString "*") = true := by simpa [bne] using h
  rw [this]; rfl
section
variable {w : World} {mean : ExcName → Option Value} {mg mb : Str → Option Value} {gd : Option (List Code)} {cn : Str} {nms : List (Str × NameKind)} {mr : List (Str × Const)} {a : Addr} {ccd : Value} {cl : List (Str × Addr)} {outer : List Env} {A₀ : Around} {base h₀ : Heap} {L : Addr} {m : Str → Option Value} {s : Shared} {Q E : Value → Shared → Prop} {news : List (Addr × Obj)}
theorem c_table (B : Below A₀ base outer h₀) (F : Fr h₀ L s.heap m) (X : (Mine.pre.heap_1_1 w.params).In h₀) (N : News h₀ L s.heap news) (T : Top Mine.pre.view_1_2 (looseW Mine.pre.view_1_2 [Str.ofString "_NodeInfo"]) mean mg mb h₀)
   (nA : Addr) (e : Nat) (xs : List Str) (vs : List Value) (hvs : StrsAre vs xs) (hl6 : xs.length = 6) (hvl : vs.length = 6) (hx : ∀ x ∈ xs, x ∈ allNames)
   (hn : (nA, listOf vs.toArray e) ∈ news)
   (hQ : ∀ tA ys led h' tk', Fr h₀ L h' m → News h₀ L h' ((tA, LCg.lst ys) :: (led ++ news)) → RowsAt (tableF xs) led ys 6 → Q (.ref tA) { s with heap := h', toks := tk' }) :
   wpAny (model PySem.Challenge.rw_nb0264_01.row.prog w) (ktrTop 307 35 gd cn ⟨.function, nms, false, false, mr⟩ L a ccd cl outer) (call (.ref 214) [.ref nA]) Q E s := by
  ktr_unf
  (try ((with_reducible show wpAny _ _ _ _ _ _); generalize hA1 : Around.deeper _ _ = A1; revert A1; refine letEq ?_; intro A1))
  ktr_rel
  refine compRest_pure (fun i ys => StrsAre ys ((xs.take i).map smallS)) (.inr ⟨_, by k_mem, rfl, _, rfl⟩) ?_ ?_ .nil
  · intro i v ys I oI C oC D m₂ h tk E' hi hv hR hC hx' F' N' off ne hS
    refine hide ?_
    intro Pz kz
    obtain ⟨x, t, hxi, rfl⟩ := strs_get hvs (by simpa using hv)
    refine kz ?_
    clear kz Pz
    have hx3 := hx x (List.mem_of_getElem? hxi)
    ktr_unf
    refine LCg.CompEnd.intro (by k_asm) (by k_asm) _ (fun _ hp => hp) off hS ⟨rfl, ?_⟩
    rw [take_snoc hxi]
    exact strs_snoc hR
  · intro ps hps
    rw [show vs.toArray.size = xs.length by simp [hvl, hl6], List.take_length] at hps
    have hpl : ps.length = 6 := by rw [strs_len hps]; simp [hl6]
    unfold LCg.FinE
    intro D2 h2 tk2 F2 N2 o2
    simp only [LCg.Off1] at o2
    refine hide ?_
    intro Pz kz
    obtain ⟨o21, o22, o23⟩ := o2
    refine kz ?_
    clear kz Pz
    ktr_unf
    ktr_rel
    refine compRest_pure (fun i ys => StrsAre ys (((xs.map smallS).take i).map headS)) (.inr ⟨_, by k_mem, rfl, _, rfl⟩) ?_ ?_ .nil
    · intro i v ys I oI C oC D m₂ h tk E' hi hv hR hC hx' F' N' off ne hS
      refine hide ?_
      intro Pz kz
      obtain ⟨y, t, hyi, rfl⟩ := strs_get hps (by simpa using hv)
      obtain ⟨x, hxm, hxy⟩ := List.mem_map.mp (List.mem_of_getElem? hyi)
      refine kz ?_
      clear kz Pz
      have hy3 : y.length ≤ 3 := hxy ▸ nm_small (hx x hxm)
      have hyf := hxy ▸ nm_find (hx x hxm)
      ktr_unf
      · exfalso; exact hyf (by assumption)
      · refine LCg.CompEnd.intro (by k_asm) (by k_asm) _ (fun _ hp => hp) off hS ⟨rfl, ?_⟩
        rw [take_snoc hyi]
        exact strs_snoc hR
    · intro hs hhs
      rw [show ps.toArray.size = (xs.map smallS).length by simp [hpl, hl6], List.take_length] at hhs
      have hhl : hs.length = 6 := by rw [strs_len hhs]; simp [hl6]
      unfold LCg.FinE
      intro D3 h3 tk3 F3 N3 o3
      simp only [LCg.Off1] at o3
      refine hide ?_
      intro Pz kz
      obtain ⟨o31, o32, o33, o34⟩ := o3
      refine kz ?_
      clear kz Pz
      ktr_unf
      (rename Fr _ _ _ _ => lF'); (rename News _ _ _ _ => lN')
      refine AtV.range (n := 6) (fun i ys nw => ∃ led, nw = led ++ (D3, LCg.lst hs) :: (D2, LCg.lst ps) :: _ ∧ RowsAt (tableF xs) led ys i) rfl lF' lN' (by assumption) (by decide) (by rfl) (by decide +kernel) ⟨[], rfl, ?_⟩ ?_ ?_
      · exact ⟨rfl, fun k hk => absurd hk (Nat.not_lt_zero _)⟩
      · intro g i t ys nw I oI C oC c oc D h tk E' hi hz0 hoc F' N' off ne
        refine hide ?_
        intro Pz kz
        obtain ⟨led, hnw, hrows⟩ := hz0
        refine kz ?_
        clear kz Pz
        (try k_fold)
        have hsub := SubL.of hnw
        refine hide ?_
        intro Pz kz
        obtain ⟨tp, hpi⟩ := part_at hl6 hps hi
        refine kz ?_
        clear kz Pz
        have hp3 : (partN xs i).length ≤ 3 := partN_len hl6 hx hi
        ktr_unf
        ktr_rel
        refine compRest_pure (fun j zs => zs = (List.range j).map fun j => Value.bool (tableF xs i j)) trivial ?_ ?_ rfl
        · intro j v zs I' oI' C' oC' D' m₂ h' tk' E'' hj hz0 hR hC' hx' F'' N'' off' ne' hS
          refine hide ?_
          intro Pz kz
          obtain ⟨t', rfl⟩ := hz0
          refine kz ?_
          clear kz Pz
          (try k_fold)
          refine hide ?_
          intro Pz kz
          obtain ⟨th, hhj⟩ := head_at hl6 hhs hj
          refine kz ?_
          clear kz Pz
          have hh3 : (headS (partN xs j)).length ≤ 3 := headN_len hl6 hx hj
          ktr_unf
          · refine LCg.CompEnd.intro (by k_asm) (by k_asm) _ (fun _ hp => hp) off' hS ⟨rfl, ?_⟩
            rw [hR, range_snoc, tableF_t (by assumption)]
          · refine LCg.CompEnd.intro (by k_asm) (by k_asm) _ (fun _ hp => hp) off' hS ⟨rfl, ?_⟩
            rename (partN xs i != _) = false => hb
            rw [hR, range_snoc, tableF_f hb, hb]
        · intro zs hzs
          subst hzs
          unfold LCg.FinE
          intro D4 h4 tk4 F4 N4 o4
          simp only [LCg.Off1] at o4
          refine hide ?_
          intro Pz kz
          obtain ⟨o41, o42, o43, o44, o45⟩ := o4
          refine kz ?_
          clear kz Pz
          refine EndV.intro F4 N4 ((D4, LCg.lst ((List.range 6).map fun j => Value.bool (tableF xs i j))) :: nw) ?_ ?_ ⟨(D4, LCg.lst ((List.range 6).map fun j => Value.bool (tableF xs i j))) :: led, by rw [hnw]; rfl, ?_⟩
          · intro p hp
            revert p
            k_extra "subl"
          · intro p hp
            revert p
            exact all_cons (⟨Ne.symm o41, Ne.symm o42, Ne.symm o43, Ne.symm o44⟩) (fun p hp => off p hp)
          · exact hrows.snoc
      · intro g ys nw hz0
        refine hide ?_
        intro Pz kz
        obtain ⟨led, hnw, hrows⟩ := hz0
        refine kz ?_
        clear kz Pz
        (try k_fold)
        unfold LCg.FinE
        intro D4 h4 tk4 F4 N4 o4
        ktr_unf
        refine hQ D4 ys led _ _ (by k_asm) (cb_drop (by assumption) (fun p hp => ?_)) hrows
        rw [hnw]
        simp only [List.mem_cons, List.mem_append] at hp ⊢
        rcases hp with h | h | h <;> simp [h]
end
end Mine
end
section
namespace Mine
open PySem.Spec
noncomputable abbrev tupOf (its : Array Value) (n : Nat) : Obj := { cls := .type "tuple", data := .seq its n }
section
variable {prog : Program} {w : World} {A : Around} {E : Value → Shared → Prop} {s : Shared} {env : Env} {h₀ : Heap} {x : Str} {body : List Stmt} {Q : Flow → Shared → Prop}
/-- a turn's end: the invariant for the next turn holds over a ledger that stands off the loop's own things -/
inductive EndJ (h₀ : Heap) (L : Addr) (J : (Str → Option Value) → List (Addr × Obj) → Prop) (I : Addr) (oI : Obj) (s₁ s₂ : Shared) : Prop
  | mk (h' : Heap) (tk : Nat) (m' : Str → Option Value) (nx : List (Addr × Obj)) (e : s₂ = { s₁ with heap := h', toks := tk }) (F : Fr h₀ L h' m') (N : News h₀ L h' ((I, oI) :: nx)) (off : ∀ p ∈ nx, p.1 ≠ I) (hJ : J m' nx)
noncomputable def PostJ (h₀ : Heap) (L : Addr) (J : (Str → Option Value) → List (Addr × Obj) → Prop) (I : Addr) (oI : Obj) (s₁ : Shared) (Q : Flow → Shared → Prop) (f : Flow) (s₂ : Shared) : Prop :=
  match f with
  | .ret v => Q (.ret v) s₂
  | .brk => Q .next s₂
  | _ => EndJ h₀ L J I oI s₁ s₂
theorem EndJ.intro {L I : Addr} {oI : Obj} {J : (Str → Option Value) → List (Addr × Obj) → Prop} {m' : Str → Option Value} {all : List (Addr × Obj)} {s₁ : Shared} {h' : Heap} {tk : Nat} (F : Fr h₀ L h' m') (N : News h₀ L h' all) (nx : List (Addr × Obj))
    (sub : ∀ p ∈ (I, oI) :: nx, p ∈ all) (off : ∀ p ∈ nx, p.1 ≠ I) (hj : J m' nx) : EndJ h₀ L J I oI s₁ { s₁ with heap := h', toks := tk } := ⟨h', tk, m', nx, rfl, F, fun p hp => N p (sub p hp), off, hj⟩
/-- a for over a list of the ledger's that the turns leave as it is; the ledger may grow and change -/
theorem iter_led {l : Addr} {vs : List Value} {k : Nat} {m₀ : Str → Option Value} {news : List (Addr × Obj)} (J : Nat → (Str → Option Value) → List (Addr × Obj) → Prop)
    (hh : A.handled = none) (hl : (l, listOf vs.toArray k) ∈ news) (F : Fr h₀ env.locals s.heap m₀) (N : News h₀ env.locals s.heap news) (hj : J 0 m₀ news) (hJl : ∀ i m nx, J i m nx → (l, listOf vs.toArray k) ∈ nx)
    (turn : ∀ i v m₁ nx I oI h tk, i < vs.length → vs[i]? = some v → (∀ p ∈ nx, p.1 ≠ I) → J i m₁ nx → Fr h₀ env.locals h (fun y => if y = x then some v else m₁ y) → News h₀ env.locals h ((I, oI) :: nx) →
      wpAny (model prog w) A (execs body env) (PostJ h₀ env.locals (J (i + 1)) I oI { s with heap := h, toks := tk } Q) E { s with heap := h, toks := tk })
    (done : ∀ m₁ nx h tk, J vs.length m₁ nx → Fr h₀ env.locals h m₁ → News h₀ env.locals h nx → Q .next { s with heap := h, toks := tk }) :
    wpAny (model prog w) A (pyIter (.ref l)) (fun it s₂ => LoopAtV prog w A h₀ env x body Q E it s₂) E s := by
  have hol : s.heap.get? l = some (listOf vs.toArray k) := (N _ hl).1
  have hls : s.heap.IsList l vs.toArray := ⟨_, hol, rfl, k, rfl⟩
  have hne : l ≠ s.heap.objs.size := Nat.ne_of_lt (Heap.lt_size hol)
  refine wpAny_pyIter_list hls ?_
  have W := Walks.list (prog := prog) (w := w) hh s.heap.objs.size l hne vs.toArray
  have hI₀ := next_is_new F
  refine ⟨_, _, _, vs.toArray.size, _, _, m₀, news, (fun i m nx => (∀ p ∈ nx, p.1 ≠ s.heap.objs.size) ∧ J i m nx), rfl, W, ?_, ?_, ?_, ⟨⟨_, Heap.get?_push_size _ rfl, rfl, rfl⟩, hls.at fun o e => Heap.get?_push_of_some _ e⟩, F.push _, (fun p hp => ⟨Heap.get?_push_of_some _ (N p hp).1, (N p hp).2⟩), ⟨fun p hp => Nat.ne_of_lt (Heap.lt_size (N p hp).1), hj⟩, ?_, ?_⟩
  · intro hm
    rcases List.mem_cons.mp hm with e | hm
    · exact absurd F.ns.lt (e ▸ Nat.lt_irrefl _)
    · exact (N _ hl).2.1 ((List.mem_singleton.mp hm).symm)
  · intro b hb
    rw [List.mem_singleton.mp hb]
    exact hI₀
  · intro p hp hI
    exact absurd (Heap.lt_size (N p hp).1) ((List.mem_singleton.mp hI) ▸ Nat.lt_irrefl _)
  · intro i v m₁ nx s₁ own hz0 hin hP hz1 _ hown hget hfp hst F₁ N₁
    refine hide ?_
    intro Pz kz
    obtain ⟨hh', tk', rfl⟩ := hz0
    obtain ⟨hoff, hJ⟩ := hz1
    obtain ⟨⟨oI, hoI, _⟩, _⟩ := id hst
    refine kz ?_
    clear kz Pz
    have hIown : (s.heap.objs.size, oI) ∈ own := hfp _ (List.mem_cons.mpr (.inl rfl)) hI₀ _ hoI
    have N₂ : News h₀ env.locals hh' ((s.heap.objs.size, oI) :: nx) := (all_cons (N₁ _ (List.mem_append_left _ hIown)) (fun p hp => N₁ p (List.mem_append_right _ hp)))
    have hlo : hh'.get? l = some (listOf vs.toArray k) := (N₁ _ (List.mem_append_right _ (hJl _ _ _ hJ))).1
    refine wpAny_mono (turn i v m₁ nx _ oI hh' tk' (by simpa using hin) (by simpa using hP) hoff hJ F₁ N₂) (fun f s₂ p => ?_) fun _ _ e => e
    have fin : EndJ h₀ env.locals (J (i + 1)) s.heap.objs.size oI { s with heap := hh', toks := tk' } s₂ →
        LoopStepU h₀ env.locals [s.heap.objs.size] own (fun m nx => (∀ p ∈ nx, p.1 ≠ s.heap.objs.size) ∧ J (i + 1) m nx) { s with heap := hh', toks := tk' } .next s₂ := by
      intro hz0
      refine hide ?_
      intro Pz kz
      obtain ⟨h', tk, m', nx', e, F', N', off', hJ'⟩ := hz0
      refine kz ?_
      clear kz Pz
      refine ⟨rfl, h', tk, m', nx', e, F', fun p hp => ?_, fun p hp hI => off' p hp (List.mem_singleton.mp hI), off', hJ'⟩
      rcases List.mem_append.mp hp with h | h
      · rcases List.mem_cons.mp (hown p h) with h2 | h2
        · have h3 := hget p h
          rw [h2] at h3
          have h4 : p = (s.heap.objs.size, oI) := Prod.ext h2 (Option.some.inj (h3.symm.trans hoI))
          rw [h4]; exact N' _ List.mem_cons_self
        · have h1 : p.1 = l := List.mem_singleton.mp h2
          have h3 := hget p h
          rw [h1] at h3
          have h4 : p = (l, listOf vs.toArray k) := Prod.ext h1 (Option.some.inj (h3.symm.trans hlo))
          rw [h4]; exact N' _ (List.mem_cons_of_mem _ (hJl _ _ _ hJ'))
      · exact N' p (List.mem_cons_of_mem _ h)
    cases f with
    | ret v => exact .ret p
    | brk => exact .brk p
    | next => exact .next (fin p)
    | cont => exact .cont (fin p)
  · intro h' tk m' nx F' N' _ hz0
    refine hide ?_
    intro Pz kz
    obtain ⟨_, hJ⟩ := hz0
    refine kz ?_
    clear kz Pz
    rw [List.size_toArray] at hJ
    exact done m' nx h' tk hJ F' N'
/-- a for over a tuple of the ledger's that the turns leave as it is; the ledger may grow and change -/
theorem iter_tup {l : Addr} {vs : List Value} {k : Nat} {m₀ : Str → Option Value} {news : List (Addr × Obj)} (J : Nat → (Str → Option Value) → List (Addr × Obj) → Prop)
    (hh : A.handled = none) (hl : (l, tupOf vs.toArray k) ∈ news) (F : Fr h₀ env.locals s.heap m₀) (N : News h₀ env.locals s.heap news) (hj : J 0 m₀ news) (hJl : ∀ i m nx, J i m nx → (l, tupOf vs.toArray k) ∈ nx)
    (turn : ∀ i v m₁ nx I oI h tk, i < vs.length → vs[i]? = some v → (∀ p ∈ nx, p.1 ≠ I) → J i m₁ nx → Fr h₀ env.locals h (fun y => if y = x then some v else m₁ y) → News h₀ env.locals h ((I, oI) :: nx) →
      wpAny (model prog w) A (execs body env) (PostJ h₀ env.locals (J (i + 1)) I oI { s with heap := h, toks := tk } Q) E { s with heap := h, toks := tk })
    (done : ∀ m₁ nx h tk, J vs.length m₁ nx → Fr h₀ env.locals h m₁ → News h₀ env.locals h nx → Q .next { s with heap := h, toks := tk }) :
    wpAny (model prog w) A (pyIter (.ref l)) (fun it s₂ => LoopAtV prog w A h₀ env x body Q E it s₂) E s := by
  have hol : s.heap.get? l = some (tupOf vs.toArray k) := (N _ hl).1
  have hls : s.heap.IsTuple l vs.toArray := ⟨_, hol, rfl, k, rfl⟩
  have hne : l ≠ s.heap.objs.size := Nat.ne_of_lt (Heap.lt_size hol)
  refine wpAny_pyIter_tuple hls ?_
  have W := Walks.tuple (prog := prog) (w := w) hh s.heap.objs.size l hne vs.toArray
  have hI₀ := next_is_new F
  refine ⟨_, _, _, vs.toArray.size, _, _, m₀, news, (fun i m nx => (∀ p ∈ nx, p.1 ≠ s.heap.objs.size) ∧ J i m nx), rfl, W, ?_, ?_, ?_, ⟨⟨_, Heap.get?_push_size _ rfl, rfl, rfl⟩, ⟨_, Heap.get?_push_of_some _ hol, rfl, k, rfl⟩⟩, F.push _, (fun p hp => ⟨Heap.get?_push_of_some _ (N p hp).1, (N p hp).2⟩), ⟨fun p hp => Nat.ne_of_lt (Heap.lt_size (N p hp).1), hj⟩, ?_, ?_⟩
  · intro hm
    rcases List.mem_cons.mp hm with e | hm
    · exact absurd F.ns.lt (e ▸ Nat.lt_irrefl _)
    · exact (N _ hl).2.1 ((List.mem_singleton.mp hm).symm)
  · intro b hb
    rw [List.mem_singleton.mp hb]
    exact hI₀
  · intro p hp hI
    exact absurd (Heap.lt_size (N p hp).1) ((List.mem_singleton.mp hI) ▸ Nat.lt_irrefl _)
  · intro i v m₁ nx s₁ own hz0 hin hP hz1 _ hown hget hfp hst F₁ N₁
    refine hide ?_
    intro Pz kz
    obtain ⟨hh', tk', rfl⟩ := hz0
    obtain ⟨hoff, hJ⟩ := hz1
    obtain ⟨⟨oI, hoI, _⟩, _⟩ := id hst
    refine kz ?_
    clear kz Pz
    have hIown : (s.heap.objs.size, oI) ∈ own := hfp _ (List.mem_cons.mpr (.inl rfl)) hI₀ _ hoI
    have N₂ : News h₀ env.locals hh' ((s.heap.objs.size, oI) :: nx) := (all_cons (N₁ _ (List.mem_append_left _ hIown)) (fun p hp => N₁ p (List.mem_append_right _ hp)))
    have hlo : hh'.get? l = some (tupOf vs.toArray k) := (N₁ _ (List.mem_append_right _ (hJl _ _ _ hJ))).1
    refine wpAny_mono (turn i v m₁ nx _ oI hh' tk' (by simpa using hin) (by simpa using hP) hoff hJ F₁ N₂) (fun f s₂ p => ?_) fun _ _ e => e
    have fin : EndJ h₀ env.locals (J (i + 1)) s.heap.objs.size oI { s with heap := hh', toks := tk' } s₂ →
        LoopStepU h₀ env.locals [s.heap.objs.size] own (fun m nx => (∀ p ∈ nx, p.1 ≠ s.heap.objs.size) ∧ J (i + 1) m nx) { s with heap := hh', toks := tk' } .next s₂ := by
      intro hz0
      refine hide ?_
      intro Pz kz
      obtain ⟨h', tk, m', nx', e, F', N', off', hJ'⟩ := hz0
      refine kz ?_
      clear kz Pz
      refine ⟨rfl, h', tk, m', nx', e, F', fun p hp => ?_, fun p hp hI => off' p hp (List.mem_singleton.mp hI), off', hJ'⟩
      rcases List.mem_append.mp hp with h | h
      · rcases List.mem_cons.mp (hown p h) with h2 | h2
        · have h3 := hget p h
          rw [h2] at h3
          have h4 : p = (s.heap.objs.size, oI) := Prod.ext h2 (Option.some.inj (h3.symm.trans hoI))
          rw [h4]; exact N' _ List.mem_cons_self
        · have h1 : p.1 = l := List.mem_singleton.mp h2
          have h3 := hget p h
          rw [h1] at h3
          have h4 : p = (l, tupOf vs.toArray k) := Prod.ext h1 (Option.some.inj (h3.symm.trans hlo))
          rw [h4]; exact N' _ (List.mem_cons_of_mem _ (hJl _ _ _ hJ'))
      · exact N' p (List.mem_cons_of_mem _ h)
    cases f with
    | ret v => exact .ret p
    | brk => exact .brk p
    | next => exact .next (fin p)
    | cont => exact .cont (fin p)
  · intro h' tk m' nx F' N' _ hz0
    refine hide ?_
    intro Pz kz
    obtain ⟨_, hJ⟩ := hz0
    refine kz ?_
    clear kz Pz
    rw [List.size_toArray] at hJ
    exact done m' nx h' tk hJ F' N'
/-- a search through a list of the ledger's: nothing is stored -/
theorem iter_ledP {l : Addr} {vs : List Value} {k : Nat} {m₀ : Str → Option Value} {news : List (Addr × Obj)} (P : Nat → Prop)
    (hh : A.handled = none) (hl : (l, listOf vs.toArray k) ∈ news) (F : Fr h₀ env.locals s.heap m₀) (N : News h₀ env.locals s.heap news) (hj : P 0)
    (xs : List Str)
    (turn : ∀ i v (u : Str → Option Value) I oI h tk, i < vs.length → vs[i]? = some v → (∀ p ∈ news, p.1 ≠ I) → P i → Fr h₀ env.locals h (fun y => if y = x then some v else if xs.contains y then u y else m₀ y) → News h₀ env.locals h ((I, oI) :: news) →
      wpAny (model prog w) A (execs body env) (PostJ h₀ env.locals (fun m₁ nx => nx = news ∧ (∀ z, z ≠ x → xs.contains z = false → m₁ z = m₀ z) ∧ P (i + 1)) I oI { s with heap := h, toks := tk } Q) E { s with heap := h, toks := tk })
    (done : ∀ (u : Str → Option Value) h tk, P vs.length → Fr h₀ env.locals h (fun z => if z = x then u z else if xs.contains z then u z else m₀ z) → News h₀ env.locals h news → Q .next { s with heap := h, toks := tk }) :
    wpAny (model prog w) A (pyIter (.ref l)) (fun it s₂ => LoopAtV prog w A h₀ env x body Q E it s₂) E s := by
  refine iter_led (fun i m₁ nx => nx = news ∧ (∀ z, z ≠ x → xs.contains z = false → m₁ z = m₀ z) ∧ P i) hh hl F N ⟨rfl, fun _ _ _ => rfl, hj⟩ (fun i m nx h => h.1 ▸ hl) ?_ ?_
  · intro i v m₁ nx I oI h tk hi hv hoff hz0 F' N'
    refine hide ?_
    intro Pz kz
    obtain ⟨rfl, hm, hP⟩ := hz0
    refine kz ?_
    clear kz Pz
    refine turn i v m₁ I oI h tk hi hv hoff hP ?_ N'
    have e : (fun y => if y = x then some v else m₁ y) = fun y => if y = x then some v else if xs.contains y then m₁ y else m₀ y := by
      funext y
      by_cases h1 : y = x
      · simp [h1]
      · simp only [if_neg h1]
        cases h2 : xs.contains y with
        | true => simp
        | false => simp [hm y h1 h2]
    rw [← e]; exact F'
  · intro m₁ nx h tk hz0 F' N'
    refine hide ?_
    intro Pz kz
    obtain ⟨rfl, hm, hP⟩ := hz0
    refine kz ?_
    clear kz Pz
    refine done m₁ h tk hP ?_ N'
    have e : m₁ = fun z => if z = x then m₁ z else if xs.contains z then m₁ z else m₀ z := by
      funext y
      by_cases h1 : y = x
      · simp [h1]
      · simp only [if_neg h1]
        cases h2 : xs.contains y with
        | true => simp
        | false => simp [hm y h1 h2]
    rw [← e]; exact F'
/-- the same, the ledger's word apart from the frame's: of the names only those in xs may change -/
theorem iter_ledJ {l : Addr} {vs : List Value} {k : Nat} {m₀ : Str → Option Value} {news : List (Addr × Obj)} (J : Nat → List (Addr × Obj) → Prop) (xs : List Str)
    (hh : A.handled = none) (hl : (l, listOf vs.toArray k) ∈ news) (F : Fr h₀ env.locals s.heap m₀) (N : News h₀ env.locals s.heap news) (hj : J 0 news) (hJl : ∀ i nx, J i nx → (l, listOf vs.toArray k) ∈ nx)
    (turn : ∀ i v (u : Str → Option Value) nx I oI h tk, i < vs.length → vs[i]? = some v → (∀ p ∈ nx, p.1 ≠ I) → J i nx → Fr h₀ env.locals h (fun y => if y = x then some v else if xs.contains y then u y else m₀ y) → News h₀ env.locals h ((I, oI) :: nx) →
      wpAny (model prog w) A (execs body env) (PostJ h₀ env.locals (fun m₁ nx => (∀ z, z ≠ x → xs.contains z = false → m₁ z = m₀ z) ∧ J (i + 1) nx) I oI { s with heap := h, toks := tk } Q) E { s with heap := h, toks := tk })
    (done : ∀ (u : Str → Option Value) nx h tk, J vs.length nx → Fr h₀ env.locals h (fun z => if z = x then u z else if xs.contains z then u z else m₀ z) → News h₀ env.locals h nx → Q .next { s with heap := h, toks := tk }) :
    wpAny (model prog w) A (pyIter (.ref l)) (fun it s₂ => LoopAtV prog w A h₀ env x body Q E it s₂) E s := by
  refine iter_led (fun i m₁ nx => (∀ z, z ≠ x → xs.contains z = false → m₁ z = m₀ z) ∧ J i nx) hh hl F N ⟨fun _ _ _ => rfl, hj⟩ (fun i m nx h => hJl i nx h.2) ?_ ?_
  · intro i v m₁ nx I oI h tk hi hv hoff hz0 F' N'
    refine hide ?_
    intro Pz kz
    obtain ⟨hm, hJ⟩ := hz0
    refine kz ?_
    clear kz Pz
    refine turn i v m₁ nx I oI h tk hi hv hoff hJ ?_ N'
    have e : (fun y => if y = x then some v else m₁ y) = fun y => if y = x then some v else if xs.contains y then m₁ y else m₀ y := by
      funext y
      by_cases h1 : y = x
      · simp [h1]
      · simp only [if_neg h1]
        cases h2 : xs.contains y with
        | true => simp
        | false => simp [hm y h1 h2]
    rw [← e]; exact F'
  · intro m₁ nx h tk hz0 F' N'
    refine hide ?_
    intro Pz kz
    obtain ⟨hm, hJ⟩ := hz0
    refine kz ?_
    clear kz Pz
    refine done m₁ nx h tk hJ ?_ N'
    have e : m₁ = fun z => if z = x then m₁ z else if xs.contains z then m₁ z else m₀ z := by
      funext y
      by_cases h1 : y = x
      · simp [h1]
      · simp only [if_neg h1]
        cases h2 : xs.contains y with
        | true => simp
        | false => simp [hm y h1 h2]
    rw [← e]; exact F'
/-- the same, the ledger's word apart from the frame's: of the names only those in xs may change -/
theorem iter_tupJ {l : Addr} {vs : List Value} {k : Nat} {m₀ : Str → Option Value} {news : List (Addr × Obj)} (J : Nat → List (Addr × Obj) → Prop) (xs : List Str)
    (hh : A.handled = none) (hl : (l, tupOf vs.toArray k) ∈ news) (F : Fr h₀ env.locals s.heap m₀) (N : News h₀ env.locals s.heap news) (hj : J 0 news) (hJl : ∀ i nx, J i nx → (l, tupOf vs.toArray k) ∈ nx)
    (turn : ∀ i v (u : Str → Option Value) nx I oI h tk, i < vs.length → vs[i]? = some v → (∀ p ∈ nx, p.1 ≠ I) → J i nx → Fr h₀ env.locals h (fun y => if y = x then some v else if xs.contains y then u y else m₀ y) → News h₀ env.locals h ((I, oI) :: nx) →
      wpAny (model prog w) A (execs body env) (PostJ h₀ env.locals (fun m₁ nx => (∀ z, z ≠ x → xs.contains z = false → m₁ z = m₀ z) ∧ J (i + 1) nx) I oI { s with heap := h, toks := tk } Q) E { s with heap := h, toks := tk })
    (done : ∀ (u : Str → Option Value) nx h tk, J vs.length nx → Fr h₀ env.locals h (fun z => if z = x then u z else if xs.contains z then u z else m₀ z) → News h₀ env.locals h nx → Q .next { s with heap := h, toks := tk }) :
    wpAny (model prog w) A (pyIter (.ref l)) (fun it s₂ => LoopAtV prog w A h₀ env x body Q E it s₂) E s := by
  refine iter_tup (fun i m₁ nx => (∀ z, z ≠ x → xs.contains z = false → m₁ z = m₀ z) ∧ J i nx) hh hl F N ⟨fun _ _ _ => rfl, hj⟩ (fun i m nx h => hJl i nx h.2) ?_ ?_
  · intro i v m₁ nx I oI h tk hi hv hoff hz0 F' N'
    refine hide ?_
    intro Pz kz
    obtain ⟨hm, hJ⟩ := hz0
    refine kz ?_
    clear kz Pz
    refine turn i v m₁ nx I oI h tk hi hv hoff hJ ?_ N'
    have e : (fun y => if y = x then some v else m₁ y) = fun y => if y = x then some v else if xs.contains y then m₁ y else m₀ y := by
      funext y
      by_cases h1 : y = x
      · simp [h1]
      · simp only [if_neg h1]
        cases h2 : xs.contains y with
        | true => simp
        | false => simp [hm y h1 h2]
    rw [← e]; exact F'
  · intro m₁ nx h tk hz0 F' N'
    refine hide ?_
    intro Pz kz
    obtain ⟨hm, hJ⟩ := hz0
    refine kz ?_
    clear kz Pz
    refine done m₁ nx h tk hJ ?_ N'
    have e : m₁ = fun z => if z = x then m₁ z else if xs.contains z then m₁ z else m₀ z := by
      funext y
      by_cases h1 : y = x
      · simp [h1]
      · simp only [if_neg h1]
        cases h2 : xs.contains y with
        | true => simp
        | false => simp [hm y h1 h2]
    rw [← e]; exact F'
end
end Mine
end
section
theorem Mine.w_Record_0 : True := by
  k_with_none
  (k_with "memw" => first | assumption | exact List.Mem.head _ | (refine List.Mem.tail _ ?_; k_extra "memw") | fail "memw")
  (k_with "subl" => first | exact fun _ h => h | (refine sub_cons (by k_extra "memw") ?_; k_extra "subl") | (refine sub_tail ?_; k_extra "subl") | fail "subl")
  trivial
namespace Mine
theorem Mine.w_Record_1 : True := by
  (k_with "ktr_unf" => repeat' ((fail_if_success (with_reducible show LCg.CompSrc _ _ _ _ _ _ _ _ _ _ _ _ _ _)); (fail_if_success (with_reducible show LCt.CompSrcT _ _ _ _ _ _ _ _ _ _ _ _ _ _ _)); (fail_if_success (with_reducible show wpAny _ _ (pyIter _) _ _ _)); first | (k_unfold; (try dsimp only)) | tb_rel | ((fail_if_success (with_reducible show wpAny _ _ (subscriptTail _ _ (Value.ref _) (Value.int _ _)) _ _ _)); first | walk1 | (dsimp only; walk1))))
  (k_with "tb_rel" => ((with_reducible show wpAny _ _ (compareOp CmpOp.In (Value.str _ _) (Value.ref _)) _ _ _); k_dflt (refine' in_list_strs (by exact News.isList (by k_asm) (by k_mem)) (by rw [List.toList_toArray]; assumption) ?_)))
  (k_with "PostJ" => (dsimp only [PostJ]))
  (k_with "k_mem" => first | assumption | exact List.Mem.head _ | (refine' List.Mem.tail _ ?_; k_mem) | (refine' SubL.mem (by assumption) ?_; k_mem))
  (k_with "k_all" => first | assumption | exact off1_mem' (by assumption) | exact lt_ne (by assumption) (by omega) | exact allLt_ne (by assumption) (by omega))
  (k_with "tb_start" => ((with_reducible show wpAny _ _ (eval (Expr.ListComp _ _ _ _) _) _ _ _); k_dflt (refine ListComp_V (by k_asm) (by with_unfolding_all rfl) (by with_unfolding_all rfl) (by rfl) (by decide) (by rfl) ?_)))
  (k_with "tb_start" => ((with_reducible show wpAny _ _ (eval (Expr.ListComp _ _ _ _) _) _ _ _); k_dflt (refine LCg.ListComp_U (F₀ := by k_asm) (by with_unfolding_all rfl) (by decide) (by rfl) (by decide) (by rfl) ?_)))
  (k_with "tb_rel" => ((with_reducible show wpAny _ _ (subscriptTail _ _ (Value.ref _) (Value.int _ _)) _ _ _); k_dflt (refine' item_at (by k_asm) (by k_mem) (by omega) (by omega) (by assumption) ?_); (try dsimp only)))
  (k_with "ktr_rel" => (k_dflt (first
        | refine LCg.CompSrc.ledger (by rfl) (by k_asm) (by k_asm) (by k_mem) (by rw [sizeLine_eq]; simp; omega) ?_
        | refine LCg.CompSrc.range (n := 6) (by rfl) (by k_asm) (by k_asm) (by assumption) (by first | decide | rfl) (by first | rfl | decide) (by first | size_fits | exact Nat.le_of_ble_eq_true rfl) ?_); intro g'w))
  trivial
noncomputable def uaS (x : Str) (d : Int) : List Str := if d = 1 then [Str.ofString "*", x] else if d = 2 then [x, Str.ofString "*"] else [x]
noncomputable abbrev recDict (w : World) (t1 t2 t3 t4 : Tok) (ua rl : Addr) : Obj := dictOf [⟨PyData.keyHash w.params (Str.ofString "useragents"), .str (Str.ofString "useragents") t1, .ref ua⟩, ⟨PyData.keyHash w.params (Str.ofString "rulelines"), .str (Str.ofString "rulelines") t2, .ref rl⟩, ⟨PyData.keyHash w.params (Str.ofString "delay"), .str (Str.ofString "delay") t3, .none⟩, ⟨PyData.keyHash w.params (Str.ofString "req_rate"), .str (Str.ofString "req_rate") t4, .none⟩] 4
inductive IsRec (w : World) (led : List (Addr × Obj)) (r : Addr) (gs : List Str) : Prop
  | mk (dr ua rl : Addr) (t1 t2 t3 t4 : Tok) (vs : Array Value) (e : Nat) (c1 : (r, instObj 59 dr) ∈ led) (c2 : (dr, recDict w t1 t2 t3 t4 ua rl) ∈ led) (c3 : (ua, listOf vs e) ∈ led) (c4 : StrsAre vs.toList gs)
theorem IsRec.mono {w : World} {led led' : List (Addr × Obj)} {r : Addr} {gs : List Str} (h : IsRec w led r gs) (hs : ∀ p ∈ led, p ∈ led') : IsRec w led' r gs :=
  by
    obtain ⟨dr, ua, rl, t1, t2, t3, t4, vs, e, a, b, c, d⟩ := h
    exact ⟨dr, ua, rl, t1, t2, t3, t4, vs, e, hs _ a, hs _ b, hs _ c, d⟩
noncomputable def hd0 (y : Str) : Str := (Txt.split y (Str.ofString "/")).headD (Str.ofString "")
theorem nm_split : ∀ y ∈ allNames, Txt.split y (Str.ofString "/") ≠ [] ∧ (hd0 y).length ≤ 3 := by decide +kernel
theorem nm_hd0 {y : Str} (h : y ∈ allNames) : (hd0 y).length ≤ 3 := (nm_split y h).2
theorem split_at0 {y : Str} {l : List (Str × Tok)} (e : l.map (·.1) = Txt.split y (Str.ofString "/")) (hy : y ∈ allNames) : ∃ t, (strValues l).toArray[(0 : Int).toNat]? = some (.str (hd0 y) t) := by
  cases l with
  | nil => exact absurd e.symm (nm_split y hy).1
  | cons p r =>
    refine ⟨p.2, ?_⟩
    have : hd0 y = p.1 := by unfold hd0; rw [← e]; rfl
    rw [this]; simp [strValues]
noncomputable def appOne (g y : Str) : Bool := (g != Str.ofString "*") && !(Builtin.Str.occurrences (Txt.lower (hd0 y)) (Txt.lower g) 0 (Txt.lower (hd0 y)).length 1).isEmpty
theorem app_true {gs : List Str} {y g : Str} {i : Nat} (hg : gs[i]? = some g) (h1 : (g != Str.ofString "*") = true) (h2 : (Builtin.Str.occurrences (Txt.lower (hd0 y)) (Txt.lower g) 0 (Txt.lower (hd0 y)).length 1).isEmpty = false) : (gs.any (appOne · y)) = true :=
  List.any_eq_true.mpr ⟨g, List.mem_of_getElem? hg, by unfold appOne; rw [h1, h2]; rfl⟩
theorem app_false {gs : List Str} {y : Str} {n : Nat} (hn : n = gs.length) (h : ∀ k < n, ∀ g, gs[k]? = some g → appOne g y = false) : (gs.any (appOne · y)) = false :=
  List.any_eq_false.mpr fun g hg => by
    refine hide ?_
    intro Pz kz
    obtain ⟨i, hi⟩ := List.getElem?_of_mem hg
    refine kz ?_
    clear kz Pz
    rw [h i (by rw [hn]; exact (List.getElem?_eq_some_iff.mp hi).1) g hi]; exact Bool.false_ne_true
theorem app_step {gs : List Str} {y g : Str} {i : Nat} (hg : gs[i]? = some g) (hP : ∀ k < i, ∀ g, gs[k]? = some g → appOne g y = false) (h : appOne g y = false) : ∀ k < i + 1, ∀ g, gs[k]? = some g → appOne g y = false := by
  intro k hk g' hg'
  rcases Nat.lt_succ_iff_lt_or_eq.mp hk with h1 | rfl
  · exact hP k h1 g' hg'
  · rw [hg] at hg'; cases hg'; exact h
section
variable {w : World} {mean : ExcName → Option Value} {mg mb : Str → Option Value} {gd : Option (List Code)} {cn : Str} {nms : List (Str × NameKind)} {mr : List (Str × Const)} {a : Addr} {ccd : Value} {cl : List (Str × Addr)} {outer : List Env} {A₀ : Around} {base h₀ : Heap} {L : Addr} {m : Str → Option Value} {s : Shared} {Q E : Value → Shared → Prop} {news : List (Addr × Obj)}
theorem c_record (B : Below A₀ base outer h₀) (F : Fr h₀ L s.heap m) (X : (Mine.pre.heap_1_1 w.params).In h₀) (N : News h₀ L s.heap news) (T : Top Mine.pre.view_1_2 (looseW Mine.pre.view_1_2 [Str.ofString "_NodeInfo"]) mean mg mb h₀)
   (x : Str) (d : Int) (t u : Tok)
   (hQ : ∀ r led h' tk', Fr h₀ L h' m → News h₀ L h' (led ++ news) → IsRec w led r (uaS x d) → (∀ p ∈ led, ∀ q ∈ news, q.1 ≠ p.1) → Q (.ref r) { s with heap := h', toks := tk' }) :
   wpAny (model PySem.Challenge.rw_nb0264_01.row.prog w) (ktrTop 308 40 gd cn ⟨.function, nms, false, false, mr⟩ L a ccd cl outer) (call (.ref 197) [.str x t, .int d u]) Q E s := by
  ktr_unf
  (try ((with_reducible show wpAny _ _ _ _ _ _); generalize hA1 : Around.deeper _ _ = A1; revert A1; refine letEq ?_; intro A1))
  · exfalso; omega
  all_goals
    rename _ ∧ _ ∧ _ ∧ AllLt _ news => q4
    rename _ ∧ _ ∧ AllLt _ news => q3
    rename (∀ p ∈ news, p.1 < _) => q1
    rename @LT.lt _ _ _ _ => q2
    refine hQ _ [_, _, _, _] _ _ (by k_asm) (by assumption) ⟨_, _, _, _, _, _, _, _, _, by k_mem, by k_mem, by k_mem, ?_⟩ (fun p hp q hq => by
      simp only [List.mem_cons, List.not_mem_nil, or_false] at hp
      rcases hp with rfl | rfl | rfl | rfl
      · exact Nat.ne_of_lt (kst_ltOf q4.2.2.2 q hq)
      · exact Nat.ne_of_lt (kst_ltOf q3.2.2 q hq)
      · exact Nat.ne_of_lt (Nat.lt_trans (q1 q hq) q2)
      · exact Nat.ne_of_lt (q1 q hq))
  · rw [show uaS x d = [Str.ofString "*", x] by unfold uaS; rw [if_pos (by assumption)]]
    exact .cons _ _ (.cons _ _ .nil)
  · rw [show uaS x d = [x, Str.ofString "*"] by unfold uaS; rw [if_neg (by assumption), if_pos (by assumption)]]
    exact .cons _ _ (.cons _ _ .nil)
  · rw [show uaS x d = [x] by unfold uaS; rw [if_neg (by assumption), if_neg (by assumption)]]
    exact .cons _ _ .nil
theorem c_applies (B : Below A₀ base outer h₀) (F : Fr h₀ L s.heap m) (X : (Mine.pre.heap_1_1 w.params).In h₀) (T : Top Mine.pre.view_1_2 (looseW Mine.pre.view_1_2 [Str.ofString "_NodeInfo"]) mean mg mb h₀)
   (r dr ua rl : Addr) (t1 t2 t3 t4 : Tok) (vs : List Value) (e : Nat) (gs : List Str) (y : Str) (t : Tok)
   (N : News h₀ L s.heap ((r, instObj 59 dr) :: (dr, recDict w t1 t2 t3 t4 ua rl) :: (ua, listOf vs.toArray e) :: news)) (hvs : StrsAre vs gs) (hy : y ∈ allNames) (hgs : ∀ g ∈ gs, g ∈ allNames)
   (hQ : ∀ h' tk', Fr h₀ L h' m → News h₀ L h' ((r, instObj 59 dr) :: (dr, recDict w t1 t2 t3 t4 ua rl) :: (ua, listOf vs.toArray e) :: news) → Q (.bool (gs.any (appOne · y))) { s with heap := h', toks := tk' }) :
   wpAny (model PySem.Challenge.rw_nb0264_01.row.prog w) (ktrTop 308 40 gd cn ⟨.function, nms, false, false, mr⟩ L a ccd cl outer) (call (.ref 49) [.ref r, .str y t]) Q E s := by
  have hy3 : y.length ≤ 3 := nm_len hy
  ktr_unf
  (try ((with_reducible show wpAny _ _ _ _ _ _); generalize hA1 : Around.deeper _ _ = A1; revert A1; refine letEq ?_; intro A1))
  rename List.map _ _ = Txt.split _ _ => hsp
  refine hide ?_
  intro Pz kz
  obtain ⟨t0, h0⟩ := split_at0 hsp hy
  refine kz ?_
  clear kz Pz
  have hh3 : (hd0 y).length ≤ 3 := nm_hd0 hy
  ktr_unf
  (rename Fr _ _ _ _ => lF'); (rename News _ _ _ _ => lN')
  refine iter_ledP (fun i => ∀ k < i, ∀ g, gs[k]? = some g → appOne g y = false) rfl (by k_mem) lF' lN' (fun _ h => absurd h (Nat.not_lt_zero _)) [] ?_ ?_
  · intro i v u I oI h' tk' hi hv off hP F' N'
    refine hide ?_
    intro Pz kz
    obtain ⟨g, tg, hgi, rfl⟩ := strs_get hvs hv
    refine kz ?_
    clear kz Pz
    have hg3 : g.length ≤ 3 := nm_len (hgs g (List.mem_of_getElem? hgi))
    ktr_unf
    · rename (List.isEmpty _) = true => hc
      rename (g != _) = true => hb
      exact EndJ.intro (by k_asm) (by k_asm) _ (fun _ hp => hp) off ⟨rfl, fun z hz _ => by simp [hz], app_step hgi hP (by unfold appOne; rw [hb, hc]; rfl)⟩
    · rename (List.isEmpty _) = false => hc
      rename (g != _) = true => hb
      rw [app_true hgi hb hc] at hQ
      exact hQ _ _ (by k_asm) (cb_drop (by assumption) (by k_extra "subl"))
    · rename (g != _) = false => hb
      exact EndJ.intro (by k_asm) (by k_asm) _ (fun _ hp => hp) off ⟨rfl, fun z hz _ => by simp [hz], app_step hgi hP (by unfold appOne; rw [hb]; rfl)⟩
  · intro u h' tk' hP F' N'
    ktr_unf
    rw [app_false (strs_len hvs) hP] at hQ
    exact hQ _ _ (by k_asm) (cb_drop (by assumption) (fun p hp => .tail _ hp))
theorem c_appliesN (B : Below A₀ base outer h₀) (F : Fr h₀ L s.heap m) (X : (Mine.pre.heap_1_1 w.params).In h₀) (T : Top Mine.pre.view_1_2 (looseW Mine.pre.view_1_2 [Str.ofString "_NodeInfo"]) mean mg mb h₀)
   (r dr ua rl : Addr) (t1 t2 t3 t4 : Tok) (vs : List Value) (e : Nat) (gs : List Str)
   (N : News h₀ L s.heap ((r, instObj 59 dr) :: (dr, recDict w t1 t2 t3 t4 ua rl) :: (ua, listOf vs.toArray e) :: news)) (hvs : StrsAre vs gs)
   (hQ : ∀ h' tk', Fr h₀ L h' m → News h₀ L h' ((r, instObj 59 dr) :: (dr, recDict w t1 t2 t3 t4 ua rl) :: (ua, listOf vs.toArray e) :: news) → Q (.bool (gs.any (· == Str.ofString "*"))) { s with heap := h', toks := tk' }) :
   wpAny (model PySem.Challenge.rw_nb0264_01.row.prog w) (ktrTop 308 40 gd cn ⟨.function, nms, false, false, mr⟩ L a ccd cl outer) (call (.ref 49) [.ref r, .none]) Q E s := by
  ktr_unf
  (try ((with_reducible show wpAny _ _ _ _ _ _); generalize hA1 : Around.deeper _ _ = A1; revert A1; refine letEq ?_; intro A1))
  all_goals exact hQ _ _ (by k_asm) (by k_asm)
end
end Mine
end
section
namespace Mine
noncomputable abbrev theProg : Program := PySem.Challenge.rw_nb0264_01.row.prog
structure Kp (P : Prop) : Prop where
  out : P
structure Nd where
  inf : Addr
  d : Addr
  sl : Addr
  vi : Value
  vp : Value
  its : List Value
  e : Nat
noncomputable abbrev infoO (d : Addr) (vi vp : Value) (sl : Addr) : Obj := { cls := .ref 82, dict := some d, slots := #[some vi, some vp, some (.ref sl)] }
noncomputable def ndL (x : Nd) : List (Addr × Obj) := [(x.inf, infoO x.d x.vi x.vp x.sl), (x.d, dictOf [] 0), (x.sl, listOf x.its.toArray x.e)]
noncomputable def ndA (x : Nd) : List Addr := [x.inf, x.d, x.sl]
noncomputable abbrev sdict (w : World) (t1 t2 t3 t4 : Tok) (D : Addr) (r p f : Value) : Obj := dictOf [⟨PyData.keyHash w.params (Str.ofString "_node2info"), .str (Str.ofString "_node2info") t1, .ref D⟩, ⟨PyData.keyHash w.params (Str.ofString "_ready_nodes"), .str (Str.ofString "_ready_nodes") t2, r⟩, ⟨PyData.keyHash w.params (Str.ofString "_npassedout"), .str (Str.ofString "_npassedout") t3, p⟩, ⟨PyData.keyHash w.params (Str.ofString "_nfinished"), .str (Str.ofString "_nfinished") t4, f⟩] 4
noncomputable def kvs (nds : List Nd) : List (Int × Value) := nds.zipIdx.map fun p => ((p.2 : Int), .ref p.1.inf)
noncomputable def adrs (S dS D : Addr) (nds : List Nd) : List Addr := S :: dS :: D :: nds.flatMap ndA
noncomputable def sortL (w : World) (t1 t2 t3 t4 : Tok) (S dS D : Addr) (oD : Obj) (nds : List Nd) (r p f : Value) : List (Addr × Obj) :=
  (S, instObj 179 dS) :: (dS, sdict w t1 t2 t3 t4 D r p f) :: (D, oD) :: nds.flatMap ndL
/-- the ledger bears a sorter -/
inductive SAMem (w : World) (led : List (Addr × Obj)) (S dS D : Addr) (nds : List Nd) (r p f : Value) : Prop
  | mk (t1 t2 t3 t4 : Tok) (oD : Obj) (a : ∀ q ∈ sortL w t1 t2 t3 t4 S dS D oD nds r p f, q ∈ led) (b : oD.IsDictOf (intKind theProg w) (kvs nds))
structure SAt (w : World) (led : List (Addr × Obj)) (S dS D : Addr) (nds : List Nd) (r p f : Value) : Prop where
  mem : SAMem w led S dS D nds r p f
  nodup : (adrs S dS D nds).Nodup
  low : (D == sysModules) = false
theorem SAt.mono {w : World} {led led' : List (Addr × Obj)} {S dS D : Addr} {nds : List Nd} {r p f : Value} (h : SAt w led S dS D nds r p f) (hs : ∀ q ∈ led, q ∈ led') : SAt w led' S dS D nds r p f :=
  by
    obtain ⟨⟨t1, t2, t3, t4, oD, hm, hd⟩, hn, hl⟩ := h
    exact ⟨⟨t1, t2, t3, t4, oD, fun q hq => hs q (hm q hq), hd⟩, hn, hl⟩
/-- the ledger with one thing changed -/
noncomputable def updL (led : List (Addr × Obj)) (a : Addr) (o : Obj) : List (Addr × Obj) := (a, o) :: led.filter fun q => decide (q.1 ≠ a)
theorem mem_updL {led : List (Addr × Obj)} {a : Addr} {o : Obj} {q : Addr × Obj} (h : q ∈ led) (hne : q.1 ≠ a) : q ∈ updL led a o := .tail _ (List.mem_filter.mpr ⟨h, by simpa using hne⟩)
theorem self_updL {led : List (Addr × Obj)} {a : Addr} {o : Obj} : (a, o) ∈ updL led a o := .head _
theorem rest_off {led : List (Addr × Obj)} {a : Addr} : ∀ q ∈ led.filter (fun q => decide (q.1 ≠ a)), q.1 ≠ a := fun q hq => by simpa using (List.mem_filter.mp hq).2
theorem News.focus {h₀ h : Heap} {L a : Addr} {o : Obj} {led : List (Addr × Obj)} (N : News h₀ L h led) (hm : (a, o) ∈ led) : News h₀ L h ((a, o) :: led.filter fun q => decide (q.1 ≠ a)) := (all_cons (N _ hm) (fun q hq => N q (List.mem_filter.mp hq).1))
theorem mem_focus {h₀ h : Heap} {L a : Addr} {o : Obj} {led : List (Addr × Obj)} (N : News h₀ L h led) (hm : (a, o) ∈ led) {q : Addr × Obj} (hq : q ∈ led) : q ∈ (a, o) :: led.filter fun q => decide (q.1 ≠ a) := by
  by_cases e : q.1 = a
  · have h1 := (N q hq).1
    rw [e, (N _ hm).1] at h1
    have : q = (a, o) := Prod.ext e (Option.some.inj h1).symm
    rw [this]; exact .head _
  · exact .tail _ (List.mem_filter.mpr ⟨hq, by simpa using e⟩)
/-- a ledger with one thing in front -/
inductive Foc (h₀ h : Heap) (L a : Addr) (o : Obj) (led : List (Addr × Obj)) : Prop
  | mk (rest : List (Addr × Obj)) (N : News h₀ L h ((a, o) :: rest)) (b : ∀ q ∈ led, q ∈ (a, o) :: rest) (c : ∀ q ∈ rest, q.1 ≠ a) (d : ∀ q ∈ led, q.1 ≠ a → q ∈ rest) (e : ∀ q ∈ rest, q ∈ led)
inductive Foc2 (h₀ h : Heap) (L I a : Addr) (oI o : Obj) (led : List (Addr × Obj)) : Prop
  | mk (rest : List (Addr × Obj)) (N : News h₀ L h ((I, oI) :: (a, o) :: rest)) (b : ∀ q ∈ led, q ∈ (a, o) :: rest) (c : ∀ q ∈ rest, q.1 ≠ a) (d : ∀ q ∈ led, q.1 ≠ a → q ∈ rest) (e : ∀ q ∈ rest, q ∈ led)
inductive Foc3 (h₀ h : Heap) (L I J a : Addr) (oI oJ o : Obj) (led : List (Addr × Obj)) : Prop
  | mk (rest : List (Addr × Obj)) (N : News h₀ L h ((I, oI) :: (J, oJ) :: (a, o) :: rest)) (b : ∀ q ∈ led, q ∈ (a, o) :: rest) (c : ∀ q ∈ rest, q.1 ≠ a) (d : ∀ q ∈ led, q.1 ≠ a → q ∈ rest) (e : ∀ q ∈ rest, q ∈ led)
theorem focus_ex {h₀ h : Heap} {L a : Addr} {o : Obj} {led : List (Addr × Obj)} (N : News h₀ L h led) (hm : (a, o) ∈ led) : Foc h₀ h L a o led :=
  ⟨_, News.focus N hm, fun _ hq => mem_focus N hm hq, rest_off, fun _ hq hne => List.mem_filter.mpr ⟨hq, by simpa using hne⟩, fun _ hq => (List.mem_filter.mp hq).1⟩
theorem ndL_adr {x : Nd} {q : Addr × Obj} (h : q ∈ ndL x) : q.1 ∈ ndA x := by
  simp only [ndL, ndA, List.mem_cons, List.not_mem_nil, or_false] at h ⊢
  rcases h with rfl | rfl | rfl <;> simp
theorem kvs_keys (nds : List Nd) : (kvs nds).map (·.1) = nds.zipIdx.map fun p => (p.2 : Int) := by simp [kvs, Function.comp_def]
theorem kvs_get {nds : List Nd} {i : Nat} {x : Nd} (h : nds[i]? = some x) : (kvs nds)[i]? = some ((i : Int), .ref x.inf) := by
  simp [kvs, h]
theorem kvs_len (nds : List Nd) : (kvs nds).length = nds.length := by simp [kvs]
theorem kvs_snoc (nds : List Nd) (x : Nd) : kvs (nds ++ [x]) = kvs nds ++ [((nds.length : Int), .ref x.inf)] := by
  simp [kvs, List.zipIdx_append]
theorem kvs_set {nds : List Nd} {j : Nat} {x x' : Nd} (hj : nds[j]? = some x) (e : x'.inf = x.inf) : kvs (nds.set j x') = kvs nds := by
  apply List.ext_getElem?
  intro i
  by_cases hi : i = j
  · subst hi
    have hl := (List.getElem?_eq_some_iff.mp hj).1
    rw [kvs_get hj, kvs_get (x := x') (by simp [hl]), e]
  · simp only [kvs, List.getElem?_map, List.getElem?_zipIdx]
    rw [List.getElem?_set_ne (fun h => hi h.symm)]
theorem kvs_none {nds : List Nd} {i : Int} (h : ¬ (0 ≤ i ∧ i < nds.length)) : valueAt (kvs nds) i = none := by
  apply valueAt_none_of_not_mem
  rw [kvs_keys]
  intro hm
  refine hide ?_
  intro Pz kz
  obtain ⟨p, hp, rfl⟩ := List.mem_map.mp hm
  refine kz ?_
  clear kz Pz
  have := List.snd_lt_of_mem_zipIdx hp
  exact h ⟨by omega, by omega⟩
theorem SAt.value {w : World} {led : List (Addr × Obj)} {S dS D : Addr} {nds : List Nd} {r p f : Value} (_h : SAt w led S dS D nds r p f) {i : Nat} {x : Nd} (hx : nds[i]? = some x) : valueAt (kvs nds) (i : Int) = some (.ref x.inf) := by
  refine hide ?_
  intro Pz kz
  obtain ⟨⟨_, _, _, _, _, _, es, ep, _, _, _, _, hn⟩, _, _⟩ := _h
  refine kz ?_
  clear kz Pz
  exact valueAt_of_get hn (kvs_get hx)
theorem flat_set_mem {nds : List Nd} {j : Nat} {x' : Nd} {q : Addr × Obj} (h : q ∈ (nds.set j x').flatMap ndL) : q ∈ ndL x' ∨ ∃ i x, i ≠ j ∧ nds[i]? = some x ∧ q ∈ ndL x := by
  refine hide ?_
  intro Pz kz
  obtain ⟨y, hy, hq⟩ := List.mem_flatMap.mp h
  obtain ⟨i, hi⟩ := List.getElem?_of_mem hy
  refine kz ?_
  clear kz Pz
  by_cases e : i = j
  · subst e
    have hl : i < nds.length := by have := (List.getElem?_eq_some_iff.mp hi).1; simpa using this
    rw [List.getElem?_set_self hl] at hi
    cases hi
    exact .inl hq
  · rw [List.getElem?_set_ne (fun h => e h.symm)] at hi
    exact .inr ⟨i, y, e, hi, hq⟩
theorem adrs_set {S dS D : Addr} {nds : List Nd} {j : Nat} {x x' : Nd} (hj : nds[j]? = some x) (e : ndA x' = ndA x) : adrs S dS D (nds.set j x') = adrs S dS D nds := by
  unfold adrs
  have : (nds.set j x').flatMap ndA = nds.flatMap ndA := by
    rw [List.flatMap_def, List.flatMap_def, List.map_set, e]
    congr 1
    apply List.ext_getElem?
    intro i
    by_cases hi : j = i
    · subst hi
      have hl := (List.getElem?_eq_some_iff.mp hj).1
      rw [List.getElem?_set_self (by simpa using hl)]
      simp [hj]
    · rw [List.getElem?_set_ne hi]
  rw [this]
theorem mem_adrs {nds : List Nd} {i : Nat} {x : Nd} {a : Addr} (hx : nds[i]? = some x) (ha : a ∈ ndA x) : a ∈ nds.flatMap ndA := List.mem_flatMap.mpr ⟨x, List.mem_of_getElem? hx, ha⟩
/-- two nodes own nothing in common -/
theorem nd_apart : ∀ {nds : List Nd}, (nds.flatMap ndA).Nodup → ∀ {i j : Nat} {x y : Nd}, nds[i]? = some x → nds[j]? = some y → i ≠ j → ∀ {a : Addr}, a ∈ ndA x → a ∈ ndA y → False
  | [], _, i, j, x, y, hx, _, _, a, _, _ => by simp at hx
  | z :: r, hn, i, j, x, y, hx, hy, hij, a, ha, hb => by
    rw [List.flatMap_cons] at hn
    refine hide ?_
    intro Pz kz
    obtain ⟨h1, h2, h3⟩ := List.nodup_append.mp hn
    refine kz ?_
    clear kz Pz
    match i, j with
    | 0, 0 => exact hij rfl
    | 0, j + 1 =>
      simp at hx; subst hx
      exact h3 a ha a (List.mem_flatMap.mpr ⟨y, List.mem_of_getElem? (i := j) (by simpa using hy), hb⟩) rfl
    | i + 1, 0 =>
      simp at hy; subst hy
      exact h3 a hb a (List.mem_flatMap.mpr ⟨x, List.mem_of_getElem? (i := i) (by simpa using hx), ha⟩) rfl
    | i + 1, j + 1 => exact nd_apart h2 (i := i) (j := j) (by simpa using hx) (by simpa using hy) (fun e => hij (by rw [e])) ha hb
theorem nd_ne {nds : List Nd} (hn : (nds.flatMap ndA).Nodup) {j : Nat} {x : Nd} (hx : nds[j]? = some x) : x.inf ≠ x.d ∧ x.inf ≠ x.sl ∧ x.d ≠ x.sl := by
  have : (ndA x).Nodup := by
    induction nds generalizing j with
    | nil => simp at hx
    | cons y r ih =>
      rw [List.flatMap_cons] at hn
      cases j with
      | zero => simp at hx; subst hx; exact (List.nodup_append.mp hn).1
      | succ j => exact ih (List.nodup_append.mp hn).2.1 (by simpa using hx)
  simp only [ndA, List.nodup_cons, List.mem_cons, List.not_mem_nil, or_false, not_or] at this
  exact ⟨this.1.1, this.1.2, this.2.1⟩
section
variable {w : World} {led led' : List (Addr × Obj)} {S dS D : Addr} {nds : List Nd} {r p f : Value}
structure SParts (S dS D : Addr) (nds : List Nd) : Prop where
  a : (nds.flatMap ndA).Nodup
  b : ∀ a ∈ nds.flatMap ndA, a ≠ S ∧ a ≠ dS ∧ a ≠ D
  c : S ≠ dS
  d : S ≠ D
  e : dS ≠ D
theorem SAt.parts (h : SAt w led S dS D nds r p f) : SParts S dS D nds := by
  have := h.nodup
  unfold adrs at this
  simp only [List.nodup_cons, List.mem_cons, not_or] at this
  refine hide ?_
  intro Pz kz
  obtain ⟨⟨a1, a2, a3⟩, ⟨b1, b2⟩, c1, c2⟩ := this
  refine kz ?_
  clear kz Pz
  exact ⟨c2, fun a ha => ⟨fun e => a3 (e ▸ ha), fun e => b2 (e ▸ ha), fun e => c1 (e ▸ ha)⟩, a1, a2, b1⟩
/-- one thing of one node changes -/
theorem SAt.node (h : SAt w led S dS D nds r p f) {j : Nat} {x x' : Nd} (hx : nds[j]? = some x) (e : ndA x' = ndA x) {a : Addr} (ha : a ∈ ndA x)
    (hk : ∀ q ∈ led, q.1 ≠ a → q ∈ led') (hc : ∀ q ∈ ndL x', q.1 = a → q ∈ led') (ho : ∀ q ∈ ndL x', q.1 ≠ a → q ∈ ndL x) : SAt w led' S dS D (nds.set j x') r p f := by
  refine hide ?_
  intro Pz kz
  obtain ⟨hnd, hoff, hSd, hSD, hdD⟩ := h.parts
  obtain ⟨⟨t1, t2, t3, t4, oD, hm, hd⟩, hn, hl⟩ := h
  refine kz ?_
  clear kz Pz
  have haf := mem_adrs hx ha
  have ei : x'.inf = x.inf := by have := congrArg List.head? e; simpa [ndA] using this
  refine ⟨⟨t1, t2, t3, t4, oD, fun q hq => ?_, by rw [kvs_set hx ei]; exact hd⟩, by rw [adrs_set hx e]; exact hn, hl⟩
  simp only [sortL, List.mem_cons] at hq
  rcases hq with rfl | rfl | rfl | hq
  · exact hk _ (hm _ (by simp [sortL])) (Ne.symm (hoff a haf).1)
  · exact hk _ (hm _ (by simp [sortL])) (Ne.symm (hoff a haf).2.1)
  · exact hk _ (hm _ (by simp [sortL])) (Ne.symm (hoff a haf).2.2)
  · rcases flat_set_mem hq with hq | ⟨i, y, hij, hy, hq⟩
    · by_cases hqa : q.1 = a
      · exact hc q hq hqa
      · refine hk q (hm q ?_) hqa
        simp only [sortL, List.mem_cons]
        exact .inr (.inr (.inr (List.mem_flatMap.mpr ⟨x, List.mem_of_getElem? hx, ho q hq hqa⟩)))
    · refine hk q (hm q ?_) fun hqa => nd_apart hnd hx hy (Ne.symm hij) ha (hqa ▸ ndL_adr hq)
      simp only [sortL, List.mem_cons]
      exact .inr (.inr (.inr (List.mem_flatMap.mpr ⟨y, List.mem_of_getElem? hy, hq⟩)))
structure AtNd (led : List (Addr × Obj)) (x : Nd) : Prop where
  a : (x.inf, infoO x.d x.vi x.vp x.sl) ∈ led
  b : (x.d, dictOf [] 0) ∈ led
  c : (x.sl, listOf x.its.toArray x.e) ∈ led
theorem SAt.nd (h : SAt w led S dS D nds r p f) {j : Nat} {x : Nd} (hx : nds[j]? = some x) : AtNd led x := by
  refine hide ?_
  intro Pz kz
  obtain ⟨⟨t1, t2, t3, t4, oD, hm, hd⟩, hn, hl⟩ := h
  refine kz ?_
  clear kz Pz
  have k : ∀ q ∈ ndL x, q ∈ led := fun q hq => hm q (by simp only [sortL, List.mem_cons]; exact .inr (.inr (.inr (List.mem_flatMap.mpr ⟨x, List.mem_of_getElem? hx, hq⟩))))
  exact ⟨k _ (by simp [ndL]), k _ (by simp [ndL]), k _ (by simp [ndL])⟩
inductive SATop (w : World) (led : List (Addr × Obj)) (S dS D : Addr) (nds : List Nd) (r p f : Value) : Prop
  | mk (t1 t2 t3 t4 : Tok) (oD : Obj) (a : (S, instObj 179 dS) ∈ led) (b : (dS, sdict w t1 t2 t3 t4 D r p f) ∈ led) (c : (D, oD) ∈ led) (d : oD.IsDictOf (intKind theProg w) (kvs nds))
theorem SAt.top (h : SAt w led S dS D nds r p f) : SATop w led S dS D nds r p f := by
  refine hide ?_
  intro Pz kz
  obtain ⟨⟨t1, t2, t3, t4, oD, hm, hd⟩, hn, hl⟩ := h
  refine kz ?_
  clear kz Pz
  exact ⟨t1, t2, t3, t4, oD, hm _ (by simp [sortL]), hm _ (by simp [sortL]), hm _ (by simp [sortL]), hd⟩
/-- the sorter's own table changes -/
theorem SAt.attr (h : SAt w led S dS D nds r p f) {r' p' f' : Value} {t1 t2 t3 t4 : Tok} (hk : ∀ q ∈ led, q.1 ≠ dS → q ∈ led') (hc : (dS, sdict w t1 t2 t3 t4 D r' p' f') ∈ led') : SAt w led' S dS D nds r' p' f' := by
  refine hide ?_
  intro Pz kz
  obtain ⟨hnd, hoff, hSd, hSD, hdD⟩ := h.parts
  obtain ⟨⟨_, _, _, _, oD, hm, hd⟩, hn, hl⟩ := h
  refine kz ?_
  clear kz Pz
  refine ⟨⟨t1, t2, t3, t4, oD, fun q hq => ?_, hd⟩, hn, hl⟩
  simp only [sortL, List.mem_cons] at hq
  rcases hq with rfl | rfl | rfl | hq
  · exact hk _ (hm _ (by simp [sortL])) hSd
  · exact hc
  · exact hk _ (hm _ (by simp [sortL])) (Ne.symm hdD)
  · refine hk q (hm q (by simp only [sortL, List.mem_cons]; exact .inr (.inr (.inr hq)))) ?_
    refine hide ?_
    intro Pz kz
    obtain ⟨x, hx, hq'⟩ := List.mem_flatMap.mp hq
    refine kz ?_
    clear kz Pz
    exact (hoff _ (List.mem_flatMap.mpr ⟨x, hx, ndL_adr hq'⟩)).2.1
theorem SAt.adr_mem (h : SAt w led S dS D nds r p f) : ∀ a ∈ adrs S dS D nds, ∃ o, (a, o) ∈ led := by
  refine hide ?_
  intro Pz kz
  obtain ⟨⟨t1, t2, t3, t4, oD, hm, hd⟩, hn, hl⟩ := h
  refine kz ?_
  clear kz Pz
  intro a ha
  simp only [adrs, List.mem_cons] at ha
  rcases ha with rfl | rfl | rfl | ha
  · exact ⟨_, hm _ (.head _)⟩
  · exact ⟨_, hm _ (.tail _ (.head _))⟩
  · exact ⟨_, hm _ (.tail _ (.tail _ (.head _)))⟩
  · refine hide ?_
    intro Pz kz
    obtain ⟨x, hx, ha⟩ := List.mem_flatMap.mp ha
    refine kz ?_
    clear kz Pz
    have k : ∀ q ∈ ndL x, q ∈ led := fun q hq => hm q (by simp only [sortL, List.mem_cons]; exact .inr (.inr (.inr (List.mem_flatMap.mpr ⟨x, hx, hq⟩))))
    simp only [ndA, List.mem_cons, List.not_mem_nil, or_false] at ha
    rcases ha with rfl | rfl | rfl
    · exact ⟨_, k _ (.head _)⟩
    · exact ⟨_, k _ (.tail _ (.head _))⟩
    · exact ⟨_, k _ (.tail _ (.tail _ (.head _)))⟩
/-- a node more -/
theorem SAt.more (h : SAt w led S dS D nds r p f) {x : Nd} {oD' : Obj} (hlt : ∀ q ∈ led, @LT.lt Nat _ q.1 x.d) (h1 : @LT.lt Nat _ x.d x.inf) (h2 : @LT.lt Nat _ x.inf x.sl)
    (hd' : oD'.IsDictOf (intKind theProg w) (stored (kvs nds) (nds.length : Int) (.ref x.inf))) (hk : ∀ q ∈ led, q.1 ≠ D → q ∈ led') (hD : (D, oD') ∈ led') (hx : ∀ q ∈ ndL x, q ∈ led') : SAt w led' S dS D (nds ++ [x]) r p f := by
  have hmem := h.adr_mem
  refine hide ?_
  intro Pz kz
  obtain ⟨hnd, hoff, hSd, hSD, hdD⟩ := h.parts
  obtain ⟨⟨t1, t2, t3, t4, oD, hm, hd⟩, hn, hl⟩ := h
  refine kz ?_
  clear kz Pz
  rw [stored_absent (kvs_none (by omega)), ← kvs_snoc] at hd'
  refine ⟨⟨t1, t2, t3, t4, oD', fun q hq => ?_, hd'⟩, ?_, hl⟩
  · simp only [sortL, List.mem_cons, List.flatMap_append, List.mem_append, List.flatMap_cons, List.flatMap_nil, List.append_nil] at hq
    rcases hq with rfl | rfl | rfl | hq | hq
    · exact hk _ (hm _ (by simp [sortL])) hSD
    · exact hk _ (hm _ (by simp [sortL])) hdD
    · exact hD
    · refine hk q (hm q (by simp only [sortL, List.mem_cons]; exact .inr (.inr (.inr hq)))) ?_
      refine hide ?_
      intro Pz kz
      obtain ⟨y, hy, hq'⟩ := List.mem_flatMap.mp hq
      refine kz ?_
      clear kz Pz
      exact (hoff _ (List.mem_flatMap.mpr ⟨y, hy, ndL_adr hq'⟩)).2.2
    · exact hx q hq
  · have e : adrs S dS D (nds ++ [x]) = adrs S dS D nds ++ ndA x := by simp [adrs, List.flatMap_append]
    rw [e, List.nodup_append]
    refine ⟨hn, ?_, ?_⟩
    · simp only [ndA, List.nodup_cons, List.mem_cons, List.not_mem_nil, or_false, not_or, List.nodup_nil, and_true, not_false_eq_true]
      exact ⟨⟨neN (by omega), neN (by omega)⟩, neN (by omega)⟩
    · intro b hb c hc
      refine hide ?_
      intro Pz kz
      obtain ⟨o, ho⟩ := hmem b hb
      refine kz ?_
      clear kz Pz
      have := ltN (hlt _ ho)
      simp only [ndA, List.mem_cons, List.not_mem_nil, or_false] at hc
      rcases hc with rfl | rfl | rfl
      · exact neN (by omega)
      · exact neN (by omega)
      · exact neN (by omega)
theorem SAt.setNp (h : SAt w led S dS D nds r p f) {j : Nat} {x : Nd} (hx : nds[j]? = some x) {v' : Value} (hk : ∀ q ∈ led, q.1 ≠ x.inf → q ∈ led') (hc : (x.inf, infoO x.d x.vi v' x.sl) ∈ led') : SAt w led' S dS D (nds.set j { x with vp := v' }) r p f := by
  have hnd := h.parts.1
  have hin := fun a ha => mem_adrs (nds := nds) (i := j) (x := x) (a := a) hx ha
  have hne : x.inf ≠ x.d ∧ x.inf ≠ x.sl ∧ x.d ≠ x.sl := nd_ne hnd hx
  refine h.node hx rfl (a := x.inf) (by simp [ndA]) hk (fun q hq e => ?_) (fun q hq e => ?_)
  · simp only [ndL, List.mem_cons, List.not_mem_nil, or_false] at hq
    rcases hq with rfl | rfl | rfl
    · exact hc
    · exact absurd e (Ne.symm hne.1)
    · exact absurd e (Ne.symm hne.2.1)
  · simp only [ndL, List.mem_cons, List.not_mem_nil, or_false] at hq ⊢
    rcases hq with rfl | rfl | rfl
    · exact absurd rfl e
    · exact .inr (.inl rfl)
    · exact .inr (.inr rfl)
theorem SAt.setSu (h : SAt w led S dS D nds r p f) {j : Nat} {x : Nd} (hx : nds[j]? = some x) {its' : List Value} {e' : Nat} (hk : ∀ q ∈ led, q.1 ≠ x.sl → q ∈ led') (hc : (x.sl, listOf its'.toArray e') ∈ led') : SAt w led' S dS D (nds.set j { x with its := its', e := e' }) r p f := by
  have hnd := h.parts.1
  have hne : x.inf ≠ x.d ∧ x.inf ≠ x.sl ∧ x.d ≠ x.sl := nd_ne hnd hx
  refine h.node hx rfl (a := x.sl) (by simp [ndA]) hk (fun q hq e => ?_) (fun q hq e => ?_)
  · simp only [ndL, List.mem_cons, List.not_mem_nil, or_false] at hq
    rcases hq with rfl | rfl | rfl
    · exact absurd e hne.2.1
    · exact absurd e hne.2.2
    · exact hc
  · simp only [ndL, List.mem_cons, List.not_mem_nil, or_false] at hq ⊢
    rcases hq with rfl | rfl | rfl
    · exact .inl rfl
    · exact .inr (.inl rfl)
    · exact absurd rfl e
end
/-- one successor more -/
noncomputable def addSu (v : Value) (nds : List Nd) (k : Int) : List Nd := match nds[k.toNat]? with
  | some x => nds.set k.toNat { x with its := x.its ++ [v], e := x.e + 1 }
  | none => nds
theorem addSu_len (v : Value) (nds : List Nd) (k : Int) : (addSu v nds k).length = nds.length := by
  unfold addSu; split <;> simp
theorem addAll_len (v : Value) (ks : List Int) (nds : List Nd) : (ks.foldl (addSu v) nds).length = nds.length := by
  induction ks generalizing nds with
  | nil => rfl
  | cons k ks ih => rw [List.foldl_cons, ih, addSu_len]
theorem addSu_its {v : Value} {nds : List Nd} {k : Int} {n : Nat} (h : ∀ x ∈ nds, x.its.length ≤ n) : ∀ x ∈ addSu v nds k, x.its.length ≤ n + 1 := by
  intro x hx
  unfold addSu at hx
  split at hx
  · rename_i y hy
    rcases List.mem_or_eq_of_mem_set hx with hx | rfl
    · exact Nat.le_succ_of_le (h x hx)
    · have := h y (List.mem_of_getElem? hy)
      simp; omega
  · exact Nat.le_succ_of_le (h x hx)
theorem addAll_its {v : Value} {ks : List Int} {nds : List Nd} {n : Nat} (h : ∀ x ∈ nds, x.its.length ≤ n) : ∀ x ∈ ks.foldl (addSu v) nds, x.its.length ≤ n + ks.length := by
  induction ks generalizing nds n with
  | nil => exact h
  | cons k ks ih =>
    intro x hx
    have := ih (addSu_its h) x hx
    simp; omega
theorem adrs_addSu {S dS D : Addr} (v : Value) (nds : List Nd) (k : Int) : adrs S dS D (addSu v nds k) = adrs S dS D nds := by
  unfold addSu
  split
  · rename_i x hx; exact adrs_set hx rfl
  · rfl
theorem adrs_addAll {S dS D : Addr} (v : Value) (ks : List Int) (nds : List Nd) : adrs S dS D (ks.foldl (addSu v) nds) = adrs S dS D nds := by
  induction ks generalizing nds with
  | nil => rfl
  | cons k ks ih => rw [List.foldl_cons, ih, adrs_addSu]
theorem focus2 {h₀ h : Heap} {L I a : Addr} {oI o : Obj} {nx : List (Addr × Obj)} (N : News h₀ L h ((I, oI) :: nx)) (hm : (a, o) ∈ nx) : Foc2 h₀ h L I a oI o nx := by
  refine hide ?_
  intro Pz kz
  obtain ⟨rest, N', a1, a2, a3, a4⟩ := focus_ex (fun p hp => N p (.tail _ hp) : News h₀ L h nx) hm
  refine kz ?_
  clear kz Pz
  refine ⟨rest, fun p hp => ?_, a1, a2, a3, a4⟩
  revert p
  exact all_cons (N _ (.head _)) (fun p hp => N' p hp)
end Mine
end
section
theorem Mine.w_Sort1_0 : True := by
  k_with_none
  trivial
namespace Mine
theorem Mine.w_Sort1_1 : True := by
  (k_with "ktr_unf" => repeat' ((fail_if_success (with_reducible show LCg.CompSrc _ _ _ _ _ _ _ _ _ _ _ _ _ _)); (fail_if_success (with_reducible show LCt.CompSrcT _ _ _ _ _ _ _ _ _ _ _ _ _ _ _)); (fail_if_success (with_reducible show wpAny _ _ (pyIter _) _ _ _)); first | (k_unfold; (try dsimp only)) | tb_rel | ((fail_if_success (with_reducible show wpAny _ _ (subscriptTail _ _ (Value.ref _) (Value.int _ _)) _ _ _)); first | walk1 | (dsimp only; walk1))))
  (k_with "k_mem" => first | assumption | exact List.Mem.head _ | (refine' List.Mem.tail _ ?_; k_mem) | (refine' SubL.mem (by assumption) ?_; k_mem))
  (k_with "k_all" => first | assumption | exact off1_mem' (by assumption) | exact lt_ne (by assumption) (by omega) | exact allLt_ne (by assumption) (by omega))
  (k_with "tb_start" => ((with_reducible show wpAny _ _ (eval (Expr.ListComp _ _ _ _) _) _ _ _); k_dflt (refine ListComp_V (by k_asm) (by with_unfolding_all rfl) (by with_unfolding_all rfl) (by rfl) (by decide) (by rfl) ?_)))
  (k_with "tb_start" => ((with_reducible show wpAny _ _ (eval (Expr.ListComp _ _ _ _) _) _ _ _); k_dflt (refine LCg.ListComp_U (F₀ := by k_asm) (by with_unfolding_all rfl) (by decide) (by rfl) (by decide) (by rfl) ?_)))
  (k_with "tb_rel" => ((with_reducible show wpAny _ _ (subscriptTail _ _ (Value.ref _) (Value.int _ _)) _ _ _); k_dflt (refine' item_at (by k_asm) (by k_mem) (by omega) (by omega) (by assumption) ?_); (try dsimp only)))
  (k_with "ktr_rel" => (k_dflt (first
        | refine LCg.CompSrc.ledger (by rfl) (by k_asm) (by k_asm) (by k_mem) (by rw [sizeLine_eq]; simp; omega) ?_
        | refine LCg.CompSrc.range (n := 6) (by rfl) (by k_asm) (by k_asm) (by assumption) (by first | decide | rfl) (by first | rfl | decide) (by first | size_fits | exact Nat.le_of_ble_eq_true rfl) ?_); intro g'w))
  (k_with "tb_rel" => ((with_reducible show wpAny _ _ (getMethod (Value.ref _) (Str.ofString "get") _) _ _ _); k_dflt (refine' kdg_method (knd := intKind _ _) (by k_asm) (by k_mem) (by assumption) ?_); (try dsimp only)))
  (k_with "tb_rel" => ((with_reducible show wpAny _ _ (call (Value.builtin "dict.get") [Value.ref _, Value.int _ _]) _ _ _); k_dflt (refine' kdg_get1 (knd := intKind _ _) (by k_asm) (by k_mem) (by assumption) (by assumption) (intKind_is _ _ _ _) _ (by assumption) ?_); (try dsimp only [Option.getD])))
  (k_with "tb_rel" => ((with_reducible show wpAny _ _ (subscriptTail _ _ (Value.ref _) (Value.int _ _)) _ _ _); k_dflt (refine' kda_item (knd := intKind _ _) (by k_asm) (by k_mem) (by assumption) (intKind_is _ _ _ _) (by assumption) ?_); (try dsimp only)))
  (k_with "tb_rel" => ((with_reducible show wpAny _ _ (setItem (Value.ref _) (Value.int _ _) _) _ _ _); k_dflt (refine' kda_set (knd := intKind _ _) (by k_asm) (by k_asm) (by k_updF) (by assumption) (intKind_is _ _ _ _) (by assumption) ?_); intro h'w o'w F'w N'w hd'w; (try dsimp only at N'w)))
  trivial
section
variable {w : World} {mean : ExcName → Option Value} {mg mb : Str → Option Value} {gd : Option (List Code)} {cn : Str} {nms : List (Str × NameKind)} {mr : List (Str × Const)} {a : Addr} {ccd : Value} {cl : List (Str × Addr)} {outer : List Env} {A₀ : Around} {base h₀ : Heap} {L : Addr} {m : Str → Option Value} {s : Shared} {Q E : Value → Shared → Prop} {news : List (Addr × Obj)}
variable {led : List (Addr × Obj)} {S dS D : Addr} {nds : List Nd} {rv pv fv : Value}
theorem c_get (B : Below A₀ base outer h₀) (F : Fr h₀ L s.heap m) (X : (Mine.pre.heap_1_1 w.params).In h₀) (N : News h₀ L s.heap led) (T : Top Mine.pre.view_1_2 (looseW Mine.pre.view_1_2 [Str.ofString "_NodeInfo"]) mean mg mb h₀)
   (hS : SAt w led S dS D nds rv pv fv) (i : Nat) (t : Tok) (x : Nd) (hx : nds[i]? = some x)
   (hQ : ∀ h' tk', Fr h₀ L h' m → News h₀ L h' led → Q (.ref x.inf) { s with heap := h', toks := tk' }) :
   wpAny (model PySem.Challenge.rw_nb0264_01.row.prog w) (ktrTop 308 40 gd cn ⟨.function, nms, false, false, mr⟩ L a ccd cl outer) (call (.ref 122) [.ref S, .int (i : Int) t]) Q E s := by
  refine hide ?_
  intro Pz kz
  obtain ⟨t1, t2, t3, t4, oD, m1, m2, m3, hD⟩ := hS.top
  refine kz ?_
  clear kz Pz
  have hlow := hS.low
  have hval := hS.value hx
  ktr_unf
  (try ((with_reducible show wpAny _ _ _ _ _ _); generalize hA1 : Around.deeper _ _ = A1; revert A1; refine letEq ?_; intro A1))
  exact hQ _ _ (by k_asm) (by k_asm)
theorem new_close {h : Heap} {l' x' d' : Addr} {e : Nat} {i : Int} {t t0 : Tok} {oD' : Obj} {rest : List (Addr × Obj)} (hS : SAt w led S dS D nds rv pv fv) (hrest : led.filter (fun q => decide (q.1 ≠ D)) = rest) (hin : i = (nds.length : Int))
    (N : News h₀ L h ((l', listOf #[] e) :: (x', infoO d' (.int i t) (.int 0 t0) l') :: (d', dictOf [] 0) :: (D, oD') :: rest)) (q1 : @LT.lt Nat _ D d' ∧ AllLt d' rest) (q2 : @LT.lt Nat _ d' x') (q3 : @LT.lt Nat _ x' l') (hd' : oD'.IsDictOf (intKind theProg w) (stored (kvs nds) i (.ref x'))) :
    ∃ (x : Nd) (led' : List (Addr × Obj)), x.inf = x' ∧ News h₀ L h led' ∧ SAt w led' S dS D (nds ++ [x]) rv pv fv ∧ (∀ q ∈ led, q.1 ≠ D → q ∈ led') ∧ x.vi = .int i t ∧ (∃ t0, x.vp = .int 0 t0) ∧ x.its = [] ∧ ∀ q ∈ led, q.1 ≠ x.inf := by
  have hk : ∀ q ∈ led, q.1 ≠ D → q ∈ rest := fun q hq hne => by rw [← hrest]; exact List.mem_filter.mpr ⟨hq, by simpa using hne⟩
  have hlt : ∀ q ∈ led, @LT.lt Nat _ q.1 d' := fun q hq => by
    by_cases e : q.1 = D
    · exact (e ▸ q1.1)
    · exact kst_ltOf q1.2 q (hk q hq e)
  refine ⟨⟨x', d', l', .int i t, .int 0 t0, [], e⟩, _, rfl, N, hS.more hlt q2 q3 (by rw [← hin]; exact hd') (fun q hq hne => by simp [hk q hq hne]) (by simp) (fun q hq => ?_), fun q hq hne => by simp [hk q hq hne], rfl, ⟨_, rfl⟩, rfl, fun q hq => neN (by have := ltN (hlt q hq); have := ltN q2; dsimp only; omega)⟩
  simp only [ndL, List.mem_cons, List.not_mem_nil, or_false] at hq ⊢
  rcases hq with rfl | rfl | rfl
  · exact .inr (.inl rfl)
  · exact .inr (.inr (.inl rfl))
  · exact .inl rfl
theorem c_getNew (B : Below A₀ base outer h₀) (F : Fr h₀ L s.heap m) (X : (Mine.pre.heap_1_1 w.params).In h₀) (N : News h₀ L s.heap led) (T : Top Mine.pre.view_1_2 (looseW Mine.pre.view_1_2 [Str.ofString "_NodeInfo"]) mean mg mb h₀)
   (hS : SAt w led S dS D nds rv pv fv) (i : Int) (t : Tok) (hin : i = (nds.length : Int)) (hl6 : nds.length < 10)
   (hQ : ∀ (x : Nd) h' tk' led', Fr h₀ L h' m → News h₀ L h' led' → SAt w led' S dS D (nds ++ [x]) rv pv fv → (∀ q ∈ led, q.1 ≠ D → q ∈ led') → x.vi = .int i t → (∃ t0, x.vp = .int 0 t0) → x.its = [] → (∀ q ∈ led, q.1 ≠ x.inf) → Q (.ref x.inf) { s with heap := h', toks := tk' }) :
   wpAny (model PySem.Challenge.rw_nb0264_01.row.prog w) (ktrTop 308 40 gd cn ⟨.function, nms, false, false, mr⟩ L a ccd cl outer) (call (.ref 122) [.ref S, .int i t]) Q E s := by
  refine hide ?_
  intro Pz kz
  obtain ⟨t1, t2, t3, t4, oD, m1, m2, m3, hD⟩ := hS.top
  obtain ⟨-, -, hSd, hSD, hdD⟩ := hS.parts
  refine kz ?_
  clear kz Pz
  have hi : valueAt (kvs nds) i = none := kvs_none (by omega)
  have hlow := hS.low
  have hkl : (kvs nds).length ≤ sizeLine := by rw [kvs_len, sizeLine_eq]; omega
  replace m1 := (List.mem_filter (p := fun q => decide (q.1 ≠ D))).mpr ⟨m1, by simpa using hSD⟩
  replace m2 := (List.mem_filter (p := fun q => decide (q.1 ≠ D))).mpr ⟨m2, by simpa using hdD⟩
  have NF := News.focus N m3
  have hoff := rest_off (led := led) (a := D)
  generalize hrest : led.filter (fun q => decide (q.1 ≠ D)) = rest at NF m1 m2 hoff
  clear N
  ktr_unf
  (try ((with_reducible show wpAny _ _ _ _ _ _); generalize hA1 : Around.deeper _ _ = A1; revert A1; refine letEq ?_; intro A1))
  rename @LT.lt _ _ D _ ∧ AllLt _ rest => q1
  rename @LT.lt _ _ _ _ => q2
  rename @LT.lt _ _ _ _ ∧ @LT.lt _ _ _ _ ∧ @LT.lt _ _ D _ ∧ AllLt _ rest => q3
  rename Obj.IsDictOf _ _ (stored _ _ _) => hd'
  rename News h₀ L _ _ => kN
  refine hide ?_
  intro Pz kz
  obtain ⟨x, led', e0, N2, S2, k2, e1, e2, e3, e4⟩ := new_close hS hrest hin kN q1 q2 q3.1 hd'
  refine kz ?_
  clear kz Pz
  rw [← e0]
  exact hQ x _ _ led' (by k_asm) N2 S2 k2 e1 e2 e3 e4
end
end Mine
end
section
theorem Mine.w_Sort2_0 : True := by
  k_with_none
  trivial
namespace Mine
theorem Mine.w_Sort2_1 : True := by
  (k_with "ktr_unf" => repeat' ((fail_if_success (with_reducible show LCg.CompSrc _ _ _ _ _ _ _ _ _ _ _ _ _ _)); (fail_if_success (with_reducible show LCt.CompSrcT _ _ _ _ _ _ _ _ _ _ _ _ _ _ _)); (fail_if_success (with_reducible show wpAny _ _ (pyIter _) _ _ _)); first | (k_unfold; (try dsimp only)) | tb_rel | ((fail_if_success (with_reducible show wpAny _ _ (subscriptTail _ _ (Value.ref _) (Value.int _ _)) _ _ _)); first | walk1 | (dsimp only; walk1))))
  (k_with "k_mem" => first | assumption | exact List.Mem.head _ | (refine' List.Mem.tail _ ?_; k_mem) | (refine' SubL.mem (by assumption) ?_; k_mem))
  (k_with "k_all" => first | assumption | exact off1_mem' (by assumption) | exact lt_ne (by assumption) (by omega) | exact allLt_ne (by assumption) (by omega))
  (k_with "tb_start" => ((with_reducible show wpAny _ _ (eval (Expr.ListComp _ _ _ _) _) _ _ _); k_dflt (refine ListComp_V (by k_asm) (by with_unfolding_all rfl) (by with_unfolding_all rfl) (by rfl) (by decide) (by rfl) ?_)))
  (k_with "tb_start" => ((with_reducible show wpAny _ _ (eval (Expr.ListComp _ _ _ _) _) _ _ _); k_dflt (refine LCg.ListComp_U (F₀ := by k_asm) (by with_unfolding_all rfl) (by decide) (by rfl) (by decide) (by rfl) ?_)))
  (k_with "tb_rel" => ((with_reducible show wpAny _ _ (subscriptTail _ _ (Value.ref _) (Value.int _ _)) _ _ _); k_dflt (refine' item_at (by k_asm) (by k_mem) (by omega) (by omega) (by assumption) ?_); (try dsimp only)))
  (k_with "ktr_rel" => (k_dflt (first
        | refine LCg.CompSrc.ledger (by rfl) (by k_asm) (by k_asm) (by k_mem) (by rw [sizeLine_eq]; simp; omega) ?_
        | refine LCg.CompSrc.range (n := 6) (by rfl) (by k_asm) (by k_asm) (by assumption) (by first | decide | rfl) (by first | rfl | decide) (by first | size_fits | exact Nat.le_of_ble_eq_true rfl) ?_); intro g'w))
  (k_with "tb_rel" => ((with_reducible show wpAny _ _ (getMethod (Value.ref _) (Str.ofString "get") _) _ _ _); k_dflt (refine' kdg_method (knd := intKind _ _) (by k_asm) (by k_mem) (by assumption) ?_); (try dsimp only)))
  (k_with "tb_rel" => ((with_reducible show wpAny _ _ (call (Value.builtin "dict.get") [Value.ref _, Value.int _ _]) _ _ _); k_dflt (refine' kdg_get1 (knd := intKind _ _) (by k_asm) (by k_mem) (by assumption) (by assumption) (intKind_is _ _ _ _) _ (by assumption) ?_); (try dsimp only [Option.getD])))
  (k_with "tb_rel" => ((with_reducible show wpAny _ _ (subscriptTail _ _ (Value.ref _) (Value.int _ _)) _ _ _); k_dflt (refine' kda_item (knd := intKind _ _) (by k_asm) (by k_mem) (by assumption) (intKind_is _ _ _ _) (by assumption) ?_); (try dsimp only)))
  (k_with "tb_rel" => ((with_reducible show wpAny _ _ (call (Value.ref 122) _) _ _ _); k_dflt (refine' wp_upR (by exact rfl) (by exact rfl) (by exact rfl) (by exact Nat.le_of_ble_eq_true rfl) (by exact Nat.le_of_ble_eq_true rfl) (c_get (by k_asm) (by k_asm) (by k_asm) (by k_asm) (by k_asm) (by first | assumption | exact SAt.mono (by assumption) (fun _ hq => .tail _ hq) | exact SAt.mono (by assumption) (fun _ hq => .tail _ (.tail _ hq))) _ _ _ (by assumption) ?_); k_whole); intro h'w tk'w F'w N'w; (try dsimp only); (try k_fold)))
  trivial
section
open PySem.Calls
variable {prog : Program} {w : World} {A A₀ : Around} {s : Shared} {K : Frag} {L : Addr} {h₀ base : Heap} {m mg mb : Str → Option Value} {news : List (Addr × Obj)} {p : Program} {loose : List Str} {mean : ExcName → Option Value}
theorem enterRest {env : Env} {outer : List Env} {R : Result → Shared → Prop} {name qual : Str} {params : Arguments} {body : List Stmt} {scope : Scope} {dV kV doc pm cdv ct oc : Value} {an od : Option Addr} {osl : Array (Option Value)} {f : Addr} {args : Args} {vs : List Value} {binds : Addr → List (Str × Value)}
    (B : Below A₀ base outer h₀) (F : Fr h₀ L s.heap m) (X₀ : K.In h₀) (N : News h₀ L s.heap news) (T : Top p loose mean mg mb h₀) (hA : A.frames = some (env :: outer)) (hf : env.frame = some L) (hke : env.scope.kind = .function)
    (ho : K.lookup f = some ⟨oc, od, .func (fnOf name qual params body scope dV kV doc pm an cdv ct), osl⟩) (hcd : codeIn K cdv qual = true) (hroom : A.depth < recursionLimit)
    (hv : args.pos.drop (params.posonlyargs.length + params.args.length) = vs)
    (hp : ∃ g₁, peek1 K ⟨prog, w.params⟩ (bindArgs (fnOf name qual params body scope dV kV doc pm an cdv ct) args) = some (({ cls := .type "tuple", data := .seq vs.toArray } : Obj), g₁) ∧ ∀ D, g₁ D = some (binds D)) (hloc : ∀ D, ∀ y ∈ binds D, scope.names.lookup y.1 = some .local)
    (h : ∀ D g L' h₁, (∀ p ∈ news, p.1 < D) → Fr h₀ L g m → Fr g L' h₁ (fun y => (binds D).reverse.lookup y) → News g L' h₁ ((D, ({ cls := .type "tuple", data := .seq vs.toArray } : Obj)) :: news) → Below A base (env :: outer) g → K.In g → Top p loose mean mg mb g →
      wpAny (model prog w) (A.deeper (envOf qual scope L' f cdv)) (execs body (envOf qual scope L' f cdv))
        (fun fl s' => LeaveK h₀ L m g R (match fl with | .ret v => v | _ => .none) s')
        (fun e s' => wpAny (model prog w) (A.deeper (envOf qual scope L' f cdv)) (leaving (envOf qual scope L' f cdv) e) (fun _ s'' => R (.error e) s'') (fun e' s'' => R (.error e') s'') s')
        { s with heap := h₁, toks := s.toks + (binds D).length })
    (hco : scope.isCoroutine = false) (hgen : scope.isGenerator = false) (hk : scope.kind = .function)
    (hcell : ∀ x ∈ scope.names, x.2 ≠ .cell) : codeAny (model prog w) A (.call (.ref f) args) R s :=
  by
    obtain ⟨_, hp1, hp2⟩ := hp
    exact kp_rest B F X₀ N T hA hf hke ho hcd hroom hv hp1 hp2 hloc h hco hgen hk hcell
end
theorem Mine.w_Sort2_2 : True := by
  (k_with "tb_rel" => ((with_reducible show wpAny _ _ (call (Value.builtin "len") [Value.ref _]) _ _ _); k_dflt (refine' PyProof.Rows.len_tuple (by exact News.isTup (by k_asm) (by k_mem)) (by simp; omega) ?_); (try dsimp only)))
  (k_with "tb_rel" => ((with_reducible show wpAny _ _ (call (Value.builtin "list.append") [Value.ref _, _]) _ _ _); k_dflt (refine' append_K (by k_asm) (by k_asm) (by k_upd) ?_ (by (rw [sizeLine_eq]; simp; omega))); intro h'w F'w N'w))
  trivial
section
variable {w : World} {mean : ExcName → Option Value} {mg mb : Str → Option Value} {gd : Option (List Code)} {cn : Str} {nms : List (Str × NameKind)} {mr : List (Str × Const)} {a : Addr} {ccd : Value} {cl : List (Str × Addr)} {outer : List Env} {A₀ : Around} {base h₀ : Heap} {L : Addr} {m : Str → Option Value} {s : Shared} {Q E : Value → Shared → Prop} {news : List (Addr × Obj)}
variable {led : List (Addr × Obj)} {S dS D : Addr} {nds : List Nd} {rv pv fv : Value}
/-- what add changes in the sorter -/
noncomputable def bumpS (j : Nat) (t : Tok) (ks : List Int) (x : Nd) (i : Nat) : Prop := True
theorem c_addC (B : Below A₀ base outer h₀) (F : Fr h₀ L s.heap m) (X : (Mine.pre.heap_1_1 w.params).In h₀) (N : News h₀ L s.heap led) (T : Top Mine.pre.view_1_2 (looseW Mine.pre.view_1_2 [Str.ofString "_NodeInfo"]) mean mg mb h₀)
   (hS : SAt w led S dS D nds .none pv fv) (j : Nat) (t : Tok) (x : Nd) (hx : nds[j]? = some x) (np : Int) (tp : Tok) (hnp : x.vp = .int np tp) (vs : List Value) (ks : List Int) (hks : IntsAre vs ks) (hvl : vs.length ≤ 5) (hits : ∀ y ∈ nds, y.its.length ≤ 100) (hkr : ∀ k ∈ ks, 0 ≤ k ∧ k < (nds.length : Int))
   (hQ : ∀ v' h' tk' led', (∃ t', v' = .int (np + (vs.length : Int)) t') → Fr h₀ L h' m → News h₀ L h' led' → SAt w led' S dS D (ks.foldl (addSu (.int (j : Int) t)) (nds.set j { x with vp := v' })) .none pv fv → (∀ q ∈ led, q.1 ∉ adrs S dS D nds → q ∈ led') → Q .none { s with heap := h', toks := tk' }) :
   codeAny (model PySem.Challenge.rw_nb0264_01.row.prog w) (ktrTop 307 35 gd cn ⟨.function, nms, false, false, mr⟩ L a ccd cl outer) (.call (.ref 129) ⟨.ref S :: .int (j : Int) t :: vs, []⟩) (fun r s' => match r with | .ok (.ret v) => Q v s' | .ok _ => False | .error e => E e s') s := by
  have hks' : Kp (IntsAre vs ks) := ⟨hks⟩
  refine hide ?_
  intro Pz kz
  obtain ⟨inf, d, sl, vi, vp, its, e⟩ := x
  refine kz ?_
  clear kz Pz
  simp only at hnp
  subst hnp
  refine hide ?_
  intro Pz kz
  obtain ⟨rest, NF, hsub, hoff, hkeep, hback⟩ := focus_ex N (hS.nd hx).1
  dsimp only at NF hsub hoff hkeep
  replace hS := hS.mono hsub
  obtain ⟨t1, t2, t3, t4, oD, m1, m2, m3, hD⟩ := hS.top
  obtain ⟨n1, n2, n3⟩ := hS.nd hx
  refine kz ?_
  clear kz Pz
  dsimp only at n1 n2 n3
  k_dflt (refine' enterRest (vs := vs) (binds := fun D => [(Str.ofString "self", .ref S), (Str.ofString "node", .int (j : Int) t), (Str.ofString "predecessors", .ref D)]) ?k1 ?k2 ?k3 ?k4 ?k5 ?kA ?kF ?kK ?k6 ?k7 ?k8 ?kV ?kP ?kB ?_ ?c2 ?c3 ?c4 ?c5; (case kA => exact rfl); (case kF => exact rfl); (case kK => exact rfl); (case k1 => k_asm); (case k2 => k_asm); (case k3 => k_asm); (case k4 => k_asm); (case k5 => k_asm); (case k6 => k_is); (case k7 => k_is); (case k8 => k_room); (case kV => exact rfl); (case kB => exact fun _ => locs rfl); (case c5 => decide); (case c2 => exact rfl); (case c3 => exact rfl); (case c4 => exact rfl); (case kP => (rcases vs with _ | ⟨v1, _ | ⟨v2, _ | ⟨v3, _ | ⟨v4, _ | ⟨v5, _ | ⟨v6, vs⟩⟩⟩⟩⟩⟩ <;> first | exact ⟨_, rfl, fun _ => rfl⟩ | (simp at hvl))); k_whole)
  intro PT g' L' h' l1 FG' F' N' B' X' T'
  (try k_lt l1)
  (try dsimp only); (try k_lift B'); (try k_fold)
  (try ((with_reducible show wpAny _ _ _ _ _ _); generalize hA1 : Around.deeper _ _ = A1; revert A1; refine letEq ?_; intro A1))
  ktr_unf
  (rename Fr _ _ _ _ => lF'); (rename News _ _ _ _ => lN')
  generalize hv' : Value.int (np + _) _ = v' at lN'
  have hS1 : SAt w ((PT, tupOf vs.toArray 0) :: (inf, infoO d vi v' sl) :: rest) S dS D (nds.set j ⟨inf, d, sl, vi, v', its, e⟩) .none pv fv := hS.setNp hx (fun q hq hne => by
    rcases List.mem_cons.mp hq with rfl | hq
    · exact absurd rfl hne
    · exact .tail _ (.tail _ hq)) (.tail _ (.head _))
  have hlen0 : (nds.set j ⟨inf, d, sl, vi, v', its, e⟩).length = nds.length := by simp
  have hadr0 : adrs S dS D (nds.set j ⟨inf, d, sl, vi, v', its, e⟩) = adrs S dS D nds := adrs_set hx rfl
  have hinf : inf ∈ adrs S dS D nds := by simp only [adrs, List.mem_cons]; exact .inr (.inr (.inr (mem_adrs hx (by simp [ndA]))))
  have hPTa : PT ∉ adrs S dS D nds := fun hm => by
    refine hide ?_
    intro Pz kz
    obtain ⟨o, ho⟩ := hS.adr_mem PT hm
    refine kz ?_
    clear kz Pz
    rcases List.mem_cons.mp ho with e' | ho
    · have e2 : PT = inf := congrArg Prod.fst e'
      have := ltN l1.1
      rw [e2] at this
      exact Nat.lt_irrefl _ this
    · exact Nat.lt_irrefl _ (ltN (kst_ltOf l1.2 _ ho))
  refine iter_tupJ (vs := vs) (k := 0) (fun i nx => (PT, tupOf vs.toArray 0) ∈ nx ∧ SAt w nx S dS D ((ks.take i).foldl (addSu (.int (j : Int) t)) (nds.set j ⟨inf, d, sl, vi, v', its, e⟩)) .none pv fv ∧ ∀ q ∈ led, q.1 ∉ adrs S dS D nds → q ∈ nx) [Str.ofString "pred_info"] rfl (.head _) lF' lN' ⟨.head _, hS1, fun q hq hna => .tail _ (.tail _ (hkeep q hq fun e' => hna (e' ▸ hinf)))⟩ (fun i nx h => h.1) ?_ ?_
  · intro i v u nx I oI h tk hi hv off hz0 F'' N''
    refine hide ?_
    intro Pz kz
    obtain ⟨hPT, hSi, hrest⟩ := hz0
    refine kz ?_
    clear kz Pz
    (try k_fold)
    refine hide ?_
    intro Pz kz
    obtain ⟨k, tk', rfl, hki⟩ := IntsAre.at hks'.out i v hv
    obtain ⟨hk0, hk1⟩ := hkr k (List.mem_of_getElem? hki)
    obtain ⟨kn, rfl⟩ := Int.eq_ofNat_of_zero_le hk0
    generalize hcur : (ks.take i).foldl (addSu (.int (j : Int) t)) (nds.set j ⟨inf, d, sl, vi, v', its, e⟩) = cur at hSi
    have hcl : cur.length = nds.length := by rw [← hcur, addAll_len, hlen0]
    obtain ⟨xk, hxk⟩ : ∃ xk, cur[kn]? = some xk := ⟨_, List.getElem?_eq_getElem (by omega)⟩
    obtain ⟨n1, n2, n3'⟩ := hSi.nd hxk
    obtain ⟨rest2, N2, sub2, off2, keep2, back2⟩ := focus2 N'' n3'
    clear N''
    replace hSi := hSi.mono sub2
    obtain ⟨n1, n2, n3⟩ := hSi.nd hxk
    obtain ⟨t1', t2', t3', t4', oD', m1', m2', m3', hD'⟩ := hSi.top
    refine kz ?_
    clear kz Pz
    have offI : ∀ p ∈ rest2, p.1 ≠ I := fun p hp => off p (back2 p hp)
    have neI : @Ne Nat I xk.sl := fun e' => off _ n3' e'.symm
    have hx3 : xk.its.length ≤ 200 := by
      have := addAll_its (v := .int (j : Int) t) (ks := ks.take i) (n := 100) (nds := nds.set j ⟨inf, d, sl, vi, v', its, e⟩) (fun y hy => by
        rcases List.mem_or_eq_of_mem_set hy with hy | rfl
        · exact hits y hy
        · exact hits ⟨inf, d, sl, vi, .int np tp, its, e⟩ (List.mem_of_getElem? hx)) xk (by rw [hcur]; exact List.mem_of_getElem? hxk)
      have h5 : (ks.take i).length ≤ 5 := by rw [List.length_take, ← IntsAre.length hks'.out]; omega
      omega
    ktr_unf
    have hnext : (ks.take (i + 1)).foldl (addSu (.int (j : Int) t)) (nds.set j ⟨inf, d, sl, vi, v', its, e⟩) = cur.set kn { xk with its := xk.its ++ [.int (j : Int) t], e := xk.e + 1 } := by
      rw [List.take_add_one, hki, List.foldl_append, hcur]
      simp [addSu, hxk]
    have hsl : xk.sl ∈ adrs S dS D nds := by
      rw [← hadr0, ← adrs_addAll (.int (j : Int) t) (ks.take i), hcur]
      simp only [adrs, List.mem_cons]; exact .inr (.inr (.inr (mem_adrs hxk (by simp [ndA]))))
    dsimp only [PostJ]
    refine EndJ.intro (by k_asm) (by k_asm) _ (fun _ hp => hp) (fun p hp => ?_) ⟨fun z hz hc => ?_, ?_, ?_, fun q hq hna => ?_⟩
    · revert p
      exact all_cons (Ne.symm neI) (fun p hp => offI p hp)
    · have h1 : z ≠ Str.ofString "pred_info" := by rintro rfl; simp at hc
      simp [hz, h1]
    · refine .tail _ (keep2 _ hPT fun e' => hPTa ((show PT = xk.sl from e') ▸ hsl))
    · rw [hnext]
      refine hSi.setSu hxk (fun q hq hne => ?_) (by rw [← List.push_toArray]; exact .head _)
      rcases List.mem_cons.mp hq with rfl | hq
      · exact absurd rfl hne
      · exact .tail _ hq
    · exact .tail _ (keep2 q (hrest q hq hna) fun e' => hna (e' ▸ hsl))
  · intro u nx h tk hz0 F'' N''
    refine hide ?_
    intro Pz kz
    obtain ⟨hPT, hSi, hrest⟩ := hz0
    refine kz ?_
    clear kz Pz
    (try k_fold)
    rw [IntsAre.length hks'.out, List.take_length] at hSi
    dsimp only
    ktr_unf
    exact hQ v' _ _ nx ⟨_, hv'.symm⟩ (by k_asm) (by k_asm) hSi hrest
end
end Mine
end
section
namespace Mine
open PySem.Spec
theorem entry_li_ga : entryFor table "object.__getattribute__" = some Builtin.«object.__getattribute__» := by first | exact entryFor_of_fast (by kernel_rfl) | exact entryFor_of_tree (by kernel_rfl)
theorem slot_li_ga : Slot "list_iterator" "__getattribute__" "object.__getattribute__" :=
  .of (owner := "object") (n := "__getattribute__") (by rw [typeLookup_type, builtinLookup_eq_fast]; kernel_rfl) (by decide +kernel) (by decide +kernel) (by decide +kernel)
    (by first | exact .inl (by decide +kernel) | exact .inr (by decide +kernel)) (by rw [isSubtype_type]; kernel_rfl)
theorem args_li_ga (a b : Value) : argsOk "object.__getattribute__" ⟨[a, b], []⟩ := by unfold argsOk; kernel_rfl
theorem typeOf_li_next : typeOf (.builtin "list_iterator.__next__") = pure (.type "wrapper_descriptor") := by kernel_rfl
theorem slot_wd_get : Slot "wrapper_descriptor" "__get__" "wrapper_descriptor.__get__" :=
  .of (owner := "wrapper_descriptor") (n := "__get__") (by rw [typeLookup_type, builtinLookup_eq_fast]; kernel_rfl) (by decide +kernel) (by decide +kernel) (by decide +kernel)
    (by first | exact .inl (by decide +kernel) | exact .inr (by decide +kernel)) (by rw [isSubtype_type]; kernel_rfl)
theorem wd_set_none : typeLookup (.type "wrapper_descriptor") "__set__" = pure none := by rw [typeLookup_type, builtinLookup_eq_fast]; kernel_rfl
theorem wd_del_none : typeLookup (.type "wrapper_descriptor") "__delete__" = pure none := by rw [typeLookup_type, builtinLookup_eq_fast]; kernel_rfl
theorem li_getattr_none : typeLookup (.type "list_iterator") "__getattr__" = pure none := by rw [typeLookup_type, builtinLookup_eq_fast]; kernel_rfl
theorem entry_wd_get : entryFor table "wrapper_descriptor.__get__" = some Builtin.«wrapper_descriptor.__get__» := entryFor_of_tree (by kernel_rfl)
theorem args_wd_get (a b c : Value) : argsOk "wrapper_descriptor.__get__" ⟨[a, b, c], []⟩ := by unfold argsOk; kernel_rfl
theorem owner_li_next : (".".intercalate ("list_iterator.__next__".cutAt '.').dropLast) = "list_iterator" := by
  have e0 : "list_iterator.__next__".cutAt '.' = ["list_iterator", "__next__"] := by first | rfl | decide +kernel
  rw [e0]; decide +kernel
theorem sub_li0 : isSubtype (.type "list_iterator") (.type "list_iterator") = pure true := by rw [isSubtype_type]; kernel_rfl
theorem sub_li : isSubtype (.type "list_iterator") (.type (".".intercalate ("list_iterator.__next__".cutAt '.').dropLast)) = pure true := by
  rw [owner_li_next, isSubtype_type]; kernel_rfl
noncomputable abbrev mwO (it : Addr) : Obj := { cls := .type "method-wrapper", data := .fields #[.builtin "list_iterator.__next__", .ref it] }
section
variable {prog : Program} {w : World} {A : Around} {E : Value → Shared → Prop} {h : Heap} {g : Array GenState} {d : Drawn} {t : Nat} {os : OsState} {a l : Addr} {i : Nat}
noncomputable abbrev liO (l : Addr) (i : Nat) : Obj := { cls := .type "list_iterator", data := .fields #[.ref l, .int i 0] }
theorem next_get {R : Result → Shared → Prop} (hx : h.get? a = some (liO l i)) (hq : R (.ok (.ret (.ref h.objs.size))) ⟨h.push (mwO a), g, d, t, os⟩) :
    codeAny (model prog w) A (.call (.builtin "wrapper_descriptor.__get__") ⟨[.builtin "list_iterator.__next__", .ref a, .type "list_iterator"], []⟩) R ⟨h, g, d, t, os⟩ := by
  have hT : (⟨h, g, d, t, os⟩ : Shared).TypeIs (.ref a) "list_iterator" := ⟨_, hx, rfl⟩
  have hT5 : (⟨h, g, d, t, os⟩ : Shared).TypeIs (.builtin "list_iterator.__next__") "wrapper_descriptor" := typeOf_li_next
  have f8 := sub_li
  refine codeAny_call_builtin slot_wd_get.plain entry_wd_get (slot_wd_get.check _ _ _ _ _ _ _ _ hT5 (args_wd_get _ _ _) ?_)
  repeat (any_goals (first | assumption | wp_step))
theorem next_entry {tk : Tok} {Q : Fin → Shared → Prop} (hx : h.get? a = some (liO l i)) (hq : Q (.done (.ret (.ref h.objs.size))) ⟨h.push (mwO a), g, d, t, os⟩) :
    wpAny (model prog w) A (Builtin.«object.__getattribute__» ⟨[.ref a, .str "__next__" tk], []⟩) Q E ⟨h, g, d, t, os⟩ := by
  have hT : (⟨h, g, d, t, os⟩ : Shared).TypeIs (.ref a) "list_iterator" := ⟨_, hx, rfl⟩
  have hT5 : (⟨h, g, d, t, os⟩ : Shared).TypeIs (.builtin "list_iterator.__next__") "wrapper_descriptor" := typeOf_li_next
  have f4 := slot_listiter_next.lookup
  have f5 := typeOf_li_next
  have f6 := slot_wd_get.lookup
  have f7 := wd_set_none
  have f8 := wd_del_none
  repeat (any_goals (first | assumption | wp_step))
  refine next_get hx ?_
  repeat (any_goals (first | assumption | wp_step))
theorem next_call {tk : Tok} {R : Result → Shared → Prop} (hx : h.get? a = some (liO l i)) (hq : R (.ok (.ret (.ref h.objs.size))) ⟨h.push (mwO a), g, d, t, os⟩) :
    codeAny (model prog w) A (.call (.builtin "object.__getattribute__") ⟨[.ref a, .str "__next__" tk], []⟩) R ⟨h, g, d, t, os⟩ :=
  codeAny_call_builtin slot_li_ga.plain entry_li_ga (slot_li_ga.check _ _ _ _ _ _ _ _ (show (⟨h, g, d, t, os⟩ : Shared).TypeIs (.ref a) "list_iterator" from ⟨_, hx, rfl⟩) (args_li_ga _ _) (next_entry hx hq))
theorem getattr_next {Q : Value → Shared → Prop} (hx : h.get? a = some (liO l i)) (hq : Q (.ref h.objs.size) ⟨h.push (mwO a), g, d, t + 1, os⟩) : wpAny (model prog w) A (getAttr (.ref a) "__next__" true) Q E ⟨h, g, d, t, os⟩ := by
  have hT : ∀ tk', (⟨h, g, d, tk', os⟩ : Shared).TypeIs (.ref a) "list_iterator" := fun _ => ⟨_, hx, rfl⟩
  have f2 := slot_li_ga.lookup
  have f3 := slot_li_ga.bind (.ref a)
  unfold getAttr getAttrBy
  repeat (any_goals (first | assumption | exact hT _ | wp_step))
  refine next_call hx ?_
  repeat (any_goals (first | assumption | wp_step))
theorem check_mw (v : Value) : checkBoundCall "list_iterator.__next__" ⟨[v], []⟩ = pure () := by first | kernel_rfl | rfl
theorem mw_call {s : Shared} {b it : Addr} {Q : Value → Shared → Prop} (hm : s.heap.get? b = some (mwO it))
    (h : codeAny (model prog w) A (.builtin "list_iterator.__next__" ⟨[.ref it], []⟩) (fun r s' => match r with | .ok (.ret v) => Q v s' | .ok _ => False | .error e => E e s') s) :
    wpAny (model prog w) A (call (.ref b) []) Q E s := by
  refine hide ?_
  intro Pz kz
  obtain ⟨hp, g, d, tk, os⟩ := s
  refine kz ?_
  clear kz Pz
  refine wpAny_call (codeAny_of_tree ?_)
  show wpAny _ _ (callAny (.ref b) ⟨[], []⟩) _ _ _
  simp only [callAny]
  refine wpAny_bind (wpAny_load hm ?_)
  dsimp only
  rw [if_pos (by decide)]
  show wpAny _ _ (checkBoundCall "list_iterator.__next__" ⟨[.ref it], []⟩ >>= fun _ => again (.builtin "list_iterator.__next__" ⟨[.ref it], []⟩)) _ _ _
  rw [check_mw]
  refine wpAny_bind (wpAny_pure (wpAny_pure ⟨Code.quiet_builtin _ (by decide +kernel), ?_⟩))
  exact h
theorem mw_item {s : Shared} {b it l : Addr} {i : Nat} {items : Array Value} {lo : Obj} {n : Nat} {x : Value} {Q : Value → Shared → Prop} (hm : s.heap.get? b = some (mwO it)) (hi : s.heap.get? it = some (liO l i)) (hl : s.heap.get? l = some lo) (hd : lo.data = .seq items n) (hx : items[i]? = some x)
    (h : ∀ h', h'.get? it = some (liO l (i + 1)) → (∀ c o, c ≠ it → s.heap.get? c = some o → h'.get? c = some o) → Q x { s with heap := h' }) :
    wpAny (model prog w) A (call (.ref b) []) Q E s := by
  refine mw_call hm (codeAny_builtin entry_listiter_next ?_)
  have hdi : (liO l i).data = .fields #[.ref l, .int i 0] := rfl
  show wpAny _ _ (field (.ref it) 0 >>= _) _ _ s
  refine wpAny_bind (wpAny_field hi hdi (x := .ref l) rfl ?_)
  show wpAny _ _ (if (Value.ref l == Value.none) = true then _ else _) _ _ s
  rw [if_neg (show ¬ ((Value.ref l == Value.none) = true) from Bool.false_ne_true)]
  show wpAny _ _ (field (.ref it) 1 >>= _) _ _ s
  refine wpAny_bind (wpAny_field hi hdi (x := .int i 0) rfl ?_)
  show wpAny _ _ (seqItems? (.ref l) >>= _) _ _ s
  refine wpAny_bind (wpAny_seqItems hl hd ?_)
  simp only [Int.toNat_natCast, hx]
  refine wpAny_bind (wpAny_setField hi hdi (by simp) (wpAny_pure (h _ ?_ fun c o hc ho => ?_)))
  · rw [Heap.get?_update_self _ hi (Obj.isFreed_of_fields (Obj.data_mapFields hdi _))]
    simp [Obj.mapFields, rawInt]
  · rw [Heap.get?_update_other _ _ (Ne.symm hc)]; exact ho
noncomputable abbrev endO (i : Nat) : Obj := { cls := .type "list_iterator", data := .fields #[.none, .int i 0] }
theorem mw_end {s : Shared} {b it l : Addr} {i : Nat} {items : Array Value} {lo : Obj} {n : Nat} {Q : Value → Shared → Prop} (hh : A.handled = none) (hm : s.heap.get? b = some (mwO it)) (hi : s.heap.get? it = some (liO l i)) (hl : s.heap.get? l = some lo) (hd : lo.data = .seq items n) (hx : items[i]? = none)
    (h : ∀ h₁ h' e, h₁.get? it = some (endO i) → (∀ c o, c ≠ it → s.heap.get? c = some o → h₁.get? c = some o) → (∀ c, s.heap.get? c = none → h₁.get? c = none) → h₁.objs.size = s.heap.objs.size → Heap.NewExc h₁ h' e "StopIteration" → E (.ref e) { s with heap := h' }) :
    wpAny (model prog w) A (call (.ref b) []) Q E s := by
  refine mw_call hm (codeAny_builtin entry_listiter_next ?_)
  have hdi : (liO l i).data = .fields #[.ref l, .int i 0] := rfl
  show wpAny _ _ (field (.ref it) 0 >>= _) _ _ s
  refine wpAny_bind (wpAny_field hi hdi (x := .ref l) rfl ?_)
  show wpAny _ _ (if (Value.ref l == Value.none) = true then _ else _) _ _ s
  rw [if_neg (show ¬ ((Value.ref l == Value.none) = true) from Bool.false_ne_true)]
  show wpAny _ _ (field (.ref it) 1 >>= _) _ _ s
  refine wpAny_bind (wpAny_field hi hdi (x := .int i 0) rfl ?_)
  show wpAny _ _ (seqItems? (.ref l) >>= _) _ _ s
  refine wpAny_bind (wpAny_seqItems hl hd ?_)
  simp only [Int.toNat_natCast, hx]
  refine wpAny_bind (wpAny_rule (wpAny_bind (wpAny_setField hi hdi (by simp) ?_)))
  show wpAny _ _ (newExc (.type "StopIteration") [] >>= _) _ _ _
  refine wpAny_bind ?_
  simp only [newExc, newTuple]
  refine wpAny_bind (wpAny_newObj_type ?_ (by size_fits))
  refine wpAny_bind (m := firstArgMember _ _) (wpAny_of_eq (a := Value.none) (by first | rfl | (simp only [firstArgMember]; rfl)) ?_)
  refine wpAny_newObj_type ?_ (by size_fits)
  simp only [raiseNew]
  refine wpAny_bind (wpAny_handled ?_)
  rw [show (A.under (Code.builtin "list_iterator.__next__" { pos := [Value.ref it] })).handled = none from hh]
  first | (refine wpAny_bind (wpAny_pure (wpAny_throw ?_))) | refine wpAny_throw ?_
  refine h (s.heap.update it (Obj.mapFields (·.setIfInBounds 0 Value.none))) _ _ ?_ (fun c o hc ho => ?_) (fun c hc => ?_) (Heap.size_after_update ..) ⟨fun c o ho => Heap.get?_push_of_some _ (Heap.get?_push_of_some _ ho), ?_, ?_⟩
  · rw [Heap.get?_update_self _ hi (Obj.isFreed_of_fields (Obj.data_mapFields hdi _))]
    simp [Obj.mapFields]
  · rw [Heap.get?_update_other _ _ (Ne.symm hc)]; exact ho
  · have hne : c ≠ it := fun e => by rw [e, hi] at hc; cases hc
    rw [Heap.get?_update_other _ _ (Ne.symm hne)]; exact hc
  · exact Heap.get?_none_of_le (by rw [Heap.size_push]; exact Nat.le_succ _)
  · exact ⟨_, _, Heap.get?_push_size _ rfl, rfl, rfl⟩
end
end Mine
end
section
namespace Mine
open PySem.Spec PySem.Calls
section
variable {prog : Program} {w : World} {A : Around} {E : Value → Shared → Prop} {s : Shared} {h₀ : Heap} {L b it l : Addr} {m : Str → Option Value} {led : List (Addr × Obj)} {i n : Nat} {items : Array Value}
theorem fr_but {h h' : Heap} (F : Fr h₀ L h m) (hi0 : h₀.get? it = none) (hiL : it ≠ L) (hk : ∀ c o, c ≠ it → h.get? c = some o → h'.get? c = some o) : Fr h₀ L h' m := by
  refine hide ?_
  intro Pz kz
  obtain ⟨⟨oL, es, ep, hL, r⟩, hkeep, hab⟩ := F
  refine kz ?_
  clear kz Pz
  exact ⟨⟨oL, es, ep, hk _ _ (Ne.symm hiL) hL, r⟩, fun c o ho => hk c o (fun e => by rw [e, hi0] at ho; cases ho) (hkeep c o ho), hab⟩
theorem mwN_item {x : Value} {Q : Value → Shared → Prop} (F : Fr h₀ L s.heap m) (N : News h₀ L s.heap led) (hm : (b, mwO it) ∈ led) (hi : (it, liO l i) ∈ led) (hl : (l, listOf items n) ∈ led) (hx : items[i]? = some x)
    (h : ∀ h', Fr h₀ L h' m → (∀ led', (∀ q ∈ led', q = (it, liO l (i + 1)) ∨ (q ∈ led ∧ q.1 ≠ it)) → News h₀ L h' led') → Q x { s with heap := h' }) :
    wpAny (model prog w) A (call (.ref b) []) Q E s := by
  refine mw_item (N _ hm).1 (N _ hi).1 (N _ hl).1 rfl hx fun h' h1 h2 => h h' (fr_but F (N _ hi).2.2 (N _ hi).2.1 h2) fun led' hled q hq => ?_
  rcases hled q hq with rfl | ⟨hq, hne⟩
  · exact ⟨h1, (N _ hi).2⟩
  · exact ⟨h2 _ _ hne (N q hq).1, (N q hq).2⟩
theorem mwN_end {Q : Value → Shared → Prop} (hh : A.handled = none) (F : Fr h₀ L s.heap m) (N : News h₀ L s.heap led) (hm : (b, mwO it) ∈ led) (hi : (it, liO l i) ∈ led) (hl : (l, listOf items n) ∈ led) (hx : items[i]? = none)
    (h : ∀ h₁ h' e, Fr h₀ L h₁ m → (∀ led', (∀ q ∈ led', q ∈ led ∧ q.1 ≠ it) → News h₀ L h₁ led') → Heap.NewExc h₁ h' e "StopIteration" → E (.ref e) { s with heap := h' }) :
    wpAny (model prog w) A (call (.ref b) []) Q E s := by
  refine mw_end hh (N _ hm).1 (N _ hi).1 (N _ hl).1 rfl hx fun h₁ h' e h1 h2 _ _ hx => h h₁ h' e (fr_but F (N _ hi).2.2 (N _ hi).2.1 h2) (fun led' hled q hq => ?_) hx
  refine hide ?_
  intro Pz kz
  obtain ⟨hq, hne⟩ := hled q hq
  refine kz ?_
  clear kz Pz
  exact ⟨h2 _ _ hne (N q hq).1, (N q hq).2⟩
end
section
variable {prog : Program} {w : World} {A₀ : Around} {E : Value → Shared → Prop} {s' : Shared} {base g g₀ h : Heap} {outer : List Env} {L a e : Addr} {m : Str → Option Value} {name : Str} {scope : Scope} {cd : Value}
  {n : Str} {b₀ : Stmt} {suite : List Stmt} {pos np : Pos} {rest : List ExceptHandler} {Q : Flow → Shared → Prop} {news : List (Addr × Obj)} {KF : Frag}
  {p : Program} {loose : List Str} {mean : ExcName → Option Value} {mg mb : Str → Option Value} {x : Str} {X T' : String}
/-- a new exception, raised by a builtin in the frame that catches it -/
theorem caught_new (hx0 : Heap.NewExc h s'.heap e X) (F : Fr g L h m) (N : News g L h news) (K : Below A₀ base outer g) (XB : KF.In base) (TB : Top p loose mean mg mb base)
    (D : KtsDicts (outer.filterMap (·.frame)) g) (T0 : KtsTurn (outer.filterMap (·.frame)) g₀ g)
    (ex : nsIn KF mainGlobals x = some none) (hv : bootBuiltins x = some (.type T')) (hn' : x ≠ "__name__")
    (hexc : isSubtype (.type T') (.type "BaseException") = pure true) (hnt : isSubtype (.type ((Manifest.find? T').elim "type" fun y => y.metatype)) (.type "tuple") = pure false) (hsub : isSubtype (.type X) (.type T') = pure true)
    (k : ∀ h' g', KtsTurn (outer.filterMap (·.frame)) g₀ g' → Fr g' L h' m → News g' L h' news → Below A₀ base outer g' → KF.In g' → Top p loose mean mg mb g' → KtsDicts (outer.filterMap (·.frame)) g' →
      wpAny (model prog w) ((A₀.deeper (envOf name scope L a cd)).mark (some (.ref e))) (execs (b₀ :: suite) (envOf name scope L a cd)) Q E { s' with heap := h' })
    (hk : scope.kind = .function := by rfl) (hx : (envOf name scope L a cd).kindOf x = some .globalImplicit := by rfl) (hd : (x == ("__debug__" : Str)) = false := by decide)
    (hE : PassesOwnAt (model prog w) ((A₀.deeper (envOf name scope L a cd)).mark (some (.ref e))) (A₀.deeper (envOf name scope L a cd)) (envOf name scope L a cd) E := by passes_own) :
    wpAny (model prog w) (A₀.deeper (envOf name scope L a cd)) (noteFrame (.ref e) (envOf name scope L a cd))
      (fun _ s₂ => wpAny (model prog w) (A₀.deeper (envOf name scope L a cd)) (setFlight (.ref e) none) (fun _ s₃ =>
        wpAny (model prog w) (A₀.deeper (envOf name scope L a cd)) (handleBy (.ref e) (envOf name scope L a cd) (.ExceptHandler (some (.Name x np)) none (b₀ :: suite) pos :: rest)) Q E s₃) E s₂) E s' := by
  have K' := K.push (name := name) (a := a) (cd := cd) F hk
  have hin : ∀ env ∈ (envOf name scope L a cd :: outer), ∀ b, env.frame = some b → b ∈ (envOf name scope L a cd :: outer).filterMap (·.frame) := fun env he b hb => List.mem_filterMap.mpr ⟨env, he, hb⟩
  have st : base.StaysIn (hideAll h ((envOf name scope L a cd :: outer).filterMap (·.frame))) := fun b o q => hideAll_get _ (K'.stays b o q) fun hm => by
    rw [(K'.frames.mem hm).1] at q; cases q
  have hBG : ∀ b o, h.get? b = some o → b ∉ (envOf name scope L a cd :: outer).filterMap (·.frame) → (hideAll h ((envOf name scope L a cd :: outer).filterMap (·.frame))).get? b = some o := fun b o q nm => hideAll_get _ q nm
  have hl : ∀ q ∈ news, (hideAll h ((envOf name scope L a cd :: outer).filterMap (·.frame))).get? q.1 = some q.2 := fun q hq => by
    refine hideAll_get _ (N q hq).1 fun hm => ?_
    refine hide ?_
    intro Pz kz
    obtain ⟨env, he, hf⟩ := List.mem_filterMap.mp hm
    refine kz ?_
    clear kz Pz
    rcases List.mem_cons.mp he with rfl | he
    · exact (N q hq).2.1 (Option.some.inj hf).symm
    · refine hide ?_
      intro Pz kz
      obtain ⟨o, ho, _⟩ := (K.frames.mem (List.mem_filterMap.mpr ⟨env, he, hf⟩)).2
      refine kz ?_
      clear kz Pz
      rw [(N q hq).2.2] at ho; cases ho
  refine hide ?_
  intro Pz kz
  obtain ⟨ob, tp, he, hcls, hdd⟩ := hx0.there
  refine kz ?_
  clear kz Pz
  have hen : (hideAll h ((envOf name scope L a cd :: outer).filterMap (·.frame))).get? e = none := by
    cases q : (hideAll h ((envOf name scope L a cd :: outer).filterMap (·.frame))).get? e with
    | none => rfl
    | some o => have := of_hideAll _ q; rw [hx0.new] at this; cases this
  have hff := (funFrames_hide K'.frames hin).of_keeps (h' := s'.heap) fun b o hb _ => ⟨o, hx0.keeps b o hb, rfl⟩
  have hsm : h.UpToSlots s'.heap := Heap.UpToSlots.of_keeps hx0.keeps
  generalize hB : hideAll h ((envOf name scope L a cd :: outer).filterMap (·.frame)) = B at st hBG hl hen hff
  unfold noteFrame
  simp only [show (envOf name scope L a cd).frame = some L from rfl]
  refine wpAny_bind (wpAny_field he hdd (x := .none) rfl ?_)
  rw [if_neg (by decide)]
  refine wpAny_entryW (a0 := tp) (Around.frames_deeper K.stack) hff rfl he (fun b o hb => hx0.keeps b o (of_hideAll _ (by rw [hB]; exact hb))) hen hdd (by show 1 < 6; decide) rfl fun h₄ hN => ?_
  refine hide ?_
  intro Pz kz
  obtain ⟨k1, k2, k3, hsm₄'⟩ := hN
  refine kz ?_
  clear kz Pz
  have hsm₄ : s'.heap.UpToSlots h₄ := hsm₄'
  have hheld₄ : Heap.HeldW B (envOf name scope L a cd :: outer) e (.type X) tp L h₄ := ⟨k1, hen, k2, by rw [← hcls]; exact k3⟩
  have hL : B.get? L = none := by
    refine hide ?_
    intro Pz kz
    obtain ⟨_, ⟨L', _, hf, hn', _⟩, _⟩ := hheld₄.2.2.1
    refine kz ?_
    clear kz Pz
    obtain rfl : L = L' := Option.some.inj hf
    exact hn'
  refine wpAny_landsW hheld₄ fun h₅ hheld hsm₅' => ?_
  have hsm₅ := hsm₄.trans hsm₅'
  refine hide ?_
  intro Pz kz
  obtain ⟨g₅, T₅, F₅, K₅⟩ := kts_ground K F hBG hheld.1 (hsm.trans hsm₅)
  have X₅ : KF.In g₅ := XB.keeps K₅.stays
  have P₅ : TopRead p loose mg mb g₅ := topRead_of (TB.keeps K₅.stays)
  obtain ⟨ob, hob, hobc⟩ := hheld.there
  refine kz ?_
  clear kz Pz
  refine wpAny_handleBy_builtin (X := X) (T := T') (b := true) hexc hnt hsub (name_B F₅ X₅ P₅ ex hv hn' ⟨rfl, ⟨ob, hob, hobc⟩, ?_⟩ hk hx hd)
  refine lands_againW hheld fun h₆ hfl₆ hsm₆ => ?_
  refine hide ?_
  intro Pz kz
  obtain ⟨g₆, T₆, F₆, K₆⟩ := kts_ground K F hBG hfl₆.1 ((hsm.trans hsm₅).trans hsm₆)
  refine kz ?_
  clear kz Pz
  have Nl : News g₆ L h₆ news := fun q hq => ⟨hfl₆.1 _ _ (hl q hq), (fun z => by have := hl q hq; rw [z, hL] at this; cases this), T₆.none_ _ (N q hq).2.2⟩
  have X₆ : KF.In g₆ := XB.keeps K₆.stays
  have P₆ : Top p loose mean mg mb g₆ := TB.keeps K₆.stays
  have D₆ : KtsDicts (outer.filterMap (·.frame)) g₆ := D.turn T₆
  exact wpAny_passesOwnAt hE (k h₆ g₆ (T0.trans T₆) F₆ Nl K₆ X₆ P₆ D₆)
end
end Mine
end
section
namespace Mine
open PySem.Spec PySem.Calls
/-- a return out of a call in which the frames below may have been noted -/
noncomputable def LeaveT (A₀ : Around) (base : Heap) (outer : List Env) (env : Env) (h₀ : Heap) (L : Addr) (m : Str → Option Value) (g : Heap) (R : Result → Shared → Prop) (v : Value) (s' : Shared) : Prop :=
  ∃ g' L' m' news', KtsTurn ((env :: outer).filterMap (·.frame)) g g' ∧ Fr g' L' s'.heap m' ∧ News g' L' s'.heap news' ∧ ∀ h₀', KtsTurn (outer.filterMap (·.frame)) h₀ h₀' → Fr h₀' L s'.heap m → News h₀' L s'.heap news' → Below A₀ base outer h₀' →
    KtsDicts (outer.filterMap (·.frame)) h₀' → R (.ok (.ret v)) s'
section
variable {prog : Program} {w : World} {A₀ A : Around} {s : Shared} {base h₀ : Heap} {outer : List Env} {env : Env} {L : Addr} {m : Str → Option Value} {news : List (Addr × Obj)} {K : Frag} {p : Program} {loose : List Str} {mean : ExcName → Option Value} {mg mb : Str → Option Value}
    {R : Result → Shared → Prop} {name qual : Str} {params : Arguments} {body : List Stmt} {scope : Scope} {dV kV doc pm cdv ct oc : Value} {an od : Option Addr} {osl : Array (Option Value)} {f : Addr} {args : Args} {binds : List (Str × Value)}
theorem mem_fr (hf : env.frame = some L) {b : Addr} (hm : b ∈ (env :: outer).filterMap (·.frame)) : b = L ∨ b ∈ outer.filterMap (·.frame) := by
  refine hide ?_
  intro Pz kz
  obtain ⟨env', he, hf'⟩ := List.mem_filterMap.mp hm
  refine kz ?_
  clear kz Pz
  rcases List.mem_cons.mp he with rfl | he
  · exact .inl (Option.some.inj (hf'.symm.trans hf))
  · exact .inr (List.mem_filterMap.mpr ⟨env', he, hf'⟩)
theorem enterS (B : Below A₀ base outer h₀) (F : Fr h₀ L s.heap m) (X₀ : K.In h₀) (N : News h₀ L s.heap news) (T : Top p loose mean mg mb h₀) (D : KtsDicts (outer.filterMap (·.frame)) h₀)
    (hA : A.frames = some (env :: outer)) (hf : env.frame = some L) (hke : env.scope.kind = .function)
    (ho : K.lookup f = some ⟨oc, od, .func (fnOf name qual params body scope dV kV doc pm an cdv ct), osl⟩) (hcd : codeIn K cdv qual = true) (hroom : A.depth < recursionLimit)
    (hbind : BindsTo s (fnOf name qual params body scope dV kV doc pm an cdv ct) args binds) (hloc : ∀ y ∈ binds, scope.names.lookup y.1 = some .local)
    (h : ∀ g L' h₁, Fr h₀ L g m → Fr g L' h₁ (fun y => binds.reverse.lookup y) → News g L' h₁ news → Below A base (env :: outer) g → K.In g → Top p loose mean mg mb g → KtsDicts ((env :: outer).filterMap (·.frame)) g →
      wpAny (model prog w) (A.deeper (envOf qual scope L' f cdv)) (execs body (envOf qual scope L' f cdv))
        (fun fl s' => LeaveT A₀ base outer env h₀ L m g R (match fl with | .ret v => v | _ => .none) s')
        (fun e s' => wpAny (model prog w) (A.deeper (envOf qual scope L' f cdv)) (leaving (envOf qual scope L' f cdv) e) (fun _ s'' => R (.error e) s'') (fun e' s'' => R (.error e') s'') s')
        { s with heap := h₁, toks := s.toks + binds.length })
    (hco : scope.isCoroutine = false) (hgen : scope.isGenerator = false) (hk : scope.kind = .function)
    (hcell : ∀ x ∈ scope.names, x.2 ≠ .cell) : codeAny (model prog w) A (.call (.ref f) args) R s := by
  have X := X₀.keeps F.keep
  refine codeAny_call_def (fd := fnOf name qual params body scope dV kV doc pm an cdv ct) (body := body) (binds := binds) hroom (X _ _ ho) rfl (T.nolimit.keeps F.keep) (codeRec_of X hcd) rfl hbind hcell hloc (fun h₁ hns hk₁ => ?_) hco hgen hk
  refine hide ?_
  intro Pz kz
  obtain ⟨FG, BG, st, -⟩ := groundX (R := R) B F N hA hf hke
  obtain ⟨oL, es, ep, hLg, hLd, hLk, hLf⟩ := id FG.ns
  refine kz ?_
  clear kz Pz
  have nL₀ : h₀.get? L = none := kts_self F
  refine wpAny_mono (h _ s.heap.objs.size h₁ FG ⟨hns, fun b o e => hk₁ b o (of_hideAll _ e), Nat.le_of_eq (hideAll_size _ _)⟩
    (fun p hp => ⟨hk₁ _ _ (N p hp).1, Nat.ne_of_lt (Heap.lt_size (N p hp).1), hideAll_none _ (List.mem_map_of_mem hp)⟩) BG (X₀.keeps st) (T.keeps st) (fun b hb => by
      rcases mem_fr hf hb with rfl | hb
      · exact ⟨oL, es, ep, hLg, hLd⟩
      · refine hide ?_
        intro Pz kz
        obtain ⟨o, es', n', ho', hd'⟩ := D b hb
        refine kz ?_
        clear kz Pz
        exact ⟨o, es', n', st b o ho', hd'⟩)) (fun fl s' hl => ?_) fun _ _ y => y
  refine hide ?_
  intro Pz kz
  obtain ⟨g', L', m', news', T', F', N', k⟩ := hl
  obtain ⟨sl, hs⟩ := T'.up hLg
  refine kz ?_
  clear kz Pz
  obtain ⟨T₁, S₁⟩ := kts_turn_at (h := s'.heap) (fs := outer.filterMap (·.frame)) (g := h₀)
    (fun b hb => by
      refine hide ?_
      intro Pz kz
      obtain ⟨_, o, ho', _⟩ := B.frames.mem hb
      refine kz ?_
      clear kz Pz
      exact ⟨o, ho'⟩)
    (fun b o e nmem => F'.keep b o (T'.other b o (st b o e) (fun q => by
      rcases mem_fr hf q with z | z
      · rw [z, nL₀] at e
        cases e
      · exact nmem z)))
    (fun b o e hm => by
      refine hide ?_
      intro Pz kz
      obtain ⟨sl', hs'⟩ := T'.up (st b o e)
      refine kz ?_
      clear kz Pz
      exact ⟨sl', F'.keep _ _ hs'⟩)
  have B₃ : Below A₀ base outer (ktsHeap s'.heap (outer.filterMap (·.frame)) h₀) := ⟨B.stack, fun b o e => T₁.other b o (B.stays b o e) (fun hm => by
    rw [(B.frames.mem hm).1] at e
    cases e), B.frames.of_keeps fun b o e _ => by
    refine hide ?_
    intro Pz kz
    obtain ⟨sl', hs'⟩ := T₁.up e
    refine kz ?_
    clear kz Pz
    exact ⟨_, hs', rfl⟩⟩
  refine k _ T₁ ⟨⟨_, es, ep, F'.keep _ _ hs, hLd, hLk, hLf⟩, S₁, by rw [T₁.size]; exact F.above⟩ (fun p hp => ⟨(N' p hp).1, fun q => ?_, ?_⟩) B₃ (D.turn T₁)
  · have := (N' p hp).2.2; rw [q, hs] at this; cases this
  · refine T₁.none_ _ ?_
    cases q : h₀.get? p.1 with
    | none => rfl
    | some o =>
      refine hide ?_
      intro Pz kz
      obtain ⟨sl', hs'⟩ := T'.up (st _ _ q)
      refine kz ?_
      clear kz Pz
      have := (N' p hp).2.2
      rw [hs'] at this
      cases this
end
end Mine
end
section
namespace Mine
open PySem.Spec PySem.Calls
section
variable {prog : Program} {w : World} {A : Around} {E : Value → Shared → Prop} {s : Shared} {env : Env} {test : PySem.Expr} {body orelse : List Stmt} {Q : Flow → Shared → Prop}
/-- a while by an invariant and a measure -/
theorem while_inv (hE : PassesOwn (model prog w) A env E) (I : Nat → Shared → Prop) {pos : Pos}
    (turn : ∀ n s, I n s → wpAny (model prog w) A (isTrue test env (eval test env)) (fun b s₂ => WhlIf b (wpAny (model prog w) A (execs body env) (fun f s₃ => match f with
        | .next => ∃ k, k < n ∧ I k s₃
        | .cont => ∃ k, k < n ∧ I k s₃
        | .brk => Q .next s₃
        | .ret v => Q (.ret v) s₃) E s₂) (wpAny (model prog w) A (execs orelse env) Q E s₂)) E s)
    (n : Nat) (h : I n s) : wpAny (model prog w) A (exec (.While test body orelse pos) env) Q E s := by
  have main : ∀ n s, I n s → WhlRest prog w A E env test body orelse Q 1 s := by
    intro n
    induction n using Nat.strongRecOn with
    | ind n ih =>
      intro s hI
      refine whl_turn (k := 0) hE (wpAny_mono (turn n s hI) (fun b s₂ h₂ => ?_) fun _ _ e => e)
      cases b with
      | false => exact h₂
      | true =>
        refine WhlIf.yes rfl (wpAny_mono (show wpAny _ _ _ _ _ _ from h₂) (fun f s₃ h₃ => ?_) fun _ _ e => e)
        cases f with
        | next => obtain ⟨k, hk, hI'⟩ := h₃; exact ih k hk s₃ hI'
        | cont => obtain ⟨k, hk, hI'⟩ := h₃; exact ih k hk s₃ hI'
        | brk => exact h₃
        | ret v => exact h₃
  exact whl_start 1 (main n s h)
end
theorem intKind_val {prog : Program} {w : World} {k : Int} {v : Value} (h : (intKind prog w).is k v = true) : ∃ t, v = .int k t := by
  cases v <;> simp [intKind, Value.isInt] at h
  subst h; exact ⟨_, rfl⟩
section
variable {prog : Program} {w : World} {A : Around} {E : Value → Shared → Prop} {s : Shared} {env : Env} {h₀ : Heap} {x : Str} {body : List Stmt} {Q : Flow → Shared → Prop}
inductive EndG (L : Addr) (J : Heap → (Str → Option Value) → List (Addr × Obj) → Prop) (I : Addr) (oI : Obj) (s₁ s₂ : Shared) : Prop
  | mk (g h' : Heap) (tk : Nat) (m' : Str → Option Value) (nx : List (Addr × Obj)) (e : s₂ = { s₁ with heap := h', toks := tk }) (F : Fr g L h' m') (N : News g L h' ((I, oI) :: nx)) (off : ∀ p ∈ nx, p.1 ≠ I) (hJ : J g m' nx)
inductive KGI (prog : Program) (w : World) (s : Shared) (I D L : Addr) (kv : List (Int × Value)) (ep : Nat) (J : Nat → Heap → (Str → Option Value) → List (Addr × Obj) → Prop) (k : Nat) (s' : Shared) : Prop
  | mk (g h' : Heap) (tk : Nat) (m' : Str → Option Value) (nx : List (Addr × Obj)) (i : Nat) (oI : Obj) (e : s' = { s with heap := h', toks := tk }) (st : h'.IsKeyIter I D i kv.length ep ∧ h'.DictAt (intKind prog w) D kv ep) (F : Fr g L h' m') (N : News g L h' ((I, oI) :: nx)) (off : ∀ p ∈ nx, p.1 ≠ I) (hJ : J i g m' nx) (hi : i ≤ kv.length) (hk : k = kv.length + 1 - i)
noncomputable def PostG (L : Addr) (J : Heap → (Str → Option Value) → List (Addr × Obj) → Prop) (I : Addr) (oI : Obj) (s₁ : Shared) (Q : Flow → Shared → Prop) (f : Flow) (s₂ : Shared) : Prop :=
  match f with
  | .ret v => Q (.ret v) s₂
  | .brk => Q .next s₂
  | _ => EndG L J I oI s₁ s₂
theorem EndG.intro {L I : Addr} {oI : Obj} {J : Heap → (Str → Option Value) → List (Addr × Obj) → Prop} {g : Heap} {m' : Str → Option Value} {all : List (Addr × Obj)} {s₁ : Shared} {h' : Heap} {tk : Nat} (F : Fr g L h' m') (N : News g L h' all) (nx : List (Addr × Obj))
    (sub : ∀ p ∈ (I, oI) :: nx, p ∈ all) (off : ∀ p ∈ nx, p.1 ≠ I) (hj : J g m' nx) : EndG L J I oI s₁ { s₁ with heap := h', toks := tk } := ⟨g, h', tk, m', nx, rfl, F, fun p hp => N p (sub p hp), off, hj⟩
/-- a for over a dict's keys, in which the frames below may be noted -/
theorem keysG {D : Addr} {oD : Obj} {kv : List (Int × Value)} {m₀ : Str → Option Value} {news : List (Addr × Obj)} {px : Pos} (J : Nat → Heap → (Str → Option Value) → List (Addr × Obj) → Prop)
    (hh : A.handled = none) (hE : PassesOwn (model prog w) A env E) (hx : env.kindOf x = some .local) (hp : (env.scope.kind == .class || (env.scope.kind == .module && env.locals != env.globals)) = false)
    (hD : (D, oD) ∈ news) (hd : oD.IsDictOf (intKind prog w) kv) (hlow : (D == sysModules) = false) (F : Fr h₀ env.locals s.heap m₀) (N : News h₀ env.locals s.heap news) (hj : J 0 h₀ m₀ news) (hJD : ∀ i g m nx, J i g m nx → (D, oD) ∈ nx)
    (turn : ∀ i k t v g m₁ nx I oI h tk, i < kv.length → kv[i]? = some (k, v) → (∀ p ∈ nx, p.1 ≠ I) → J i g m₁ nx → Fr g env.locals h (fun y => if y = x then some (.int k t) else m₁ y) → News g env.locals h ((I, oI) :: nx) →
      wpAny (model prog w) A (execs body env) (PostG env.locals (J (i + 1)) I oI { s with heap := h, toks := tk } Q) E { s with heap := h, toks := tk })
    (done : ∀ g m₁ nx h tk, J kv.length g m₁ nx → Fr g env.locals h m₁ → News g env.locals h nx → Q .next { s with heap := h, toks := tk }) :
    wpAny (model prog w) A (pyIter (.ref D)) (fun it s₂ => codeAny (model prog w) A (.forLoop (.Name x px) it body [] env) (fun r s' => match r with | .ok f => Q f s' | .error e => cameBackBy (model prog w) A env E e s') s₂) E s := by
  refine hide ?_
  intro Pz kz
  obtain ⟨es, ep, hdd⟩ := hd
  refine kz ?_
  clear kz Pz
  have hat : s.heap.DictAt (intKind prog w) D kv ep := ⟨oD, es, (N _ hD).1, hdd⟩
  have hne : D ≠ s.heap.objs.size := Nat.ne_of_lt hat.lt_size
  have hI₀ := next_is_new F
  refine wpAny_pyIter_dict hlow hat ?_
  generalize hI : s.heap.objs.size = I at hne hI₀
  have W := Walks.dictKeys (prog := prog) (w := w) (knd := intKind prog w) hh I D hne kv ep
  have hLI : env.locals ≠ I := fun e => absurd F.ns.lt (by rw [e, hI]; exact Nat.lt_irrefl _)
  refine codeAny_forLoop
    (KGI prog w s I D env.locals kv ep J) ?_ (kv.length + 1)
    ⟨h₀, _, s.toks, m₀, news, 0, { cls := .type "dict_keyiterator", data := .fields #[.ref D, .int 0 0, .int kv.length 0, .int ep 0] }, rfl, ⟨⟨_, by rw [← hI]; exact Heap.get?_push_size _ rfl, rfl, rfl⟩, hat.push _⟩, F.push _, ?_, fun p hp => ?_, hj, Nat.zero_le _, rfl⟩
  · intro k s' hz0
    refine hide ?_
    intro Pz kz
    obtain ⟨g, h', tk, m', nx, i, oI, rfl, hst', F', N', off', hJ, hi, rfl⟩ := hz0
    refine kz ?_
    clear kz Pz
    have hgI : g.get? I = none := (N' _ (.head _)).2.2
    have hDn := hJD _ _ _ _ hJ
    have hDI : D ≠ I := hne
    by_cases hlt : i < kv.length
    · refine W.item i _ _ _ hlt hst' fun v h₁ tk₁ hP hst₁ hk₁ => ?_
      refine hide ?_
      intro Pz kz
      obtain ⟨k, xv, hkx, hkv⟩ := hP
      obtain ⟨t, rfl⟩ : ∃ t, v = .int k t := intKind_val hkv
      have hk₂ : ∀ c o, c ≠ I → h'.get? c = some o → h₁.get? c = some o := fun c o hc ho => hk₁ c o (fun hm => hc (List.mem_singleton.mp hm)) ho
      have F₁ : Fr g env.locals h₁ m' := fr_but F' hgI (Ne.symm hLI) hk₂
      obtain ⟨oI', hoI', _⟩ := id hst₁.1
      refine kz ?_
      clear kz Pz
      have N₁ : News g env.locals h₁ ((I, oI') :: nx) := (all_cons (⟨hoI', Ne.symm hLI, hgI⟩) (fun p hp => ⟨hk₂ _ _ (off' p hp) (N' p (.tail _ hp)).1, (N' p (.tail _ hp)).2⟩))
      refine wpAny_assign_Name (wpAny_storeName_local hx F₁.ns (fun h₂ hn₂ hs₂ => ?_) hp)
      have F₂ := F₁.set hn₂ hs₂
      have N₂ := N₁.set hs₂
      have fin : ∀ {s₃}, EndG env.locals (J (i + 1)) I oI' { s with heap := h₂, toks := tk₁ + 1 } s₃ → ∃ n', n' < kv.length + 1 - i ∧ KGI prog w s I D env.locals kv ep J n' s₃ := by
        intro s₃ hz0
        refine hide ?_
        intro Pz kz
        obtain ⟨g₃, h₃, tk₃, m₃, nx₃, rfl, F₃, N₃, off₃, hJ₃⟩ := hz0
        refine kz ?_
        clear kz Pz
        refine ⟨kv.length + 1 - (i + 1), by omega, g₃, h₃, tk₃, m₃, nx₃, i + 1, oI', rfl, ?_, F₃, N₃, off₃, hJ₃, hlt, rfl⟩
        refine W.frame _ _ _ hst₁ fun b hb o e => ?_
        have hb' : b = I ∨ b = D := by simpa using hb
        rcases hb' with rfl | rfl
        · have : o = oI' := Option.some.inj (e.symm.trans hoI')
          rw [this]; exact (N₃ _ (.head _)).1
        · have h1 : h₁.get? b = some oD := (N₁ _ (.tail _ hDn)).1
          have : o = oD := Option.some.inj (e.symm.trans h1)
          rw [this]; exact (N₃ _ (.tail _ (hJD _ _ _ _ hJ₃))).1
      refine wpAny_passesOwn hE (wpAny_mono (turn i k t xv g m' nx I oI' h₂ _ hlt hkx off' hJ F₂ N₂) (fun f s₃ h₃ => ?_) fun _ _ e => e)
      cases f with
      | ret v => exact h₃
      | brk => exact h₃
      | next => exact fin h₃
      | cont => exact fin h₃
    · have hin : i = kv.length := by omega
      subst hin
      refine W.done _ _ _ hst' fun h₁ tk₁ hk₁ => ?_
      have hk₂ : ∀ c o, c ≠ I → h'.get? c = some o → h₁.get? c = some o := fun c o hc ho => hk₁ c o (fun hm => hc (List.mem_singleton.mp hm)) ho
      exact wpAny_execs_nil (done g m' nx h₁ tk₁ hJ (fr_but F' hgI (Ne.symm hLI) hk₂) fun p hp => ⟨hk₂ _ _ (off' p hp) (N' p (.tail _ hp)).1, (N' p (.tail _ hp)).2⟩)
  · intro p hp
    rcases List.mem_cons.mp hp with rfl | hp
    · exact ⟨by rw [← hI]; exact Heap.get?_push_size _ rfl, Ne.symm hLI, hI₀⟩
    · exact ⟨Heap.get?_push_of_some _ (N p hp).1, (N p hp).2⟩
  · rw [← hI]; exact Nat.ne_of_lt (Heap.lt_size (N p hp).1)
end
end Mine
namespace Mine
open PySem.Spec PySem.Calls
section
variable {prog : Program} {w : World} {A : Around} {E : Value → Shared → Prop} {s : Shared} {env : Env} {h₀ : Heap} {x : Str} {body : List Stmt} {Q : Flow → Shared → Prop}
/-- the same where the turns set no local but the target -/
theorem keysG1 {D : Addr} {oD : Obj} {kv : List (Int × Value)} {m₀ : Str → Option Value} {news : List (Addr × Obj)} {px : Pos} (J : Nat → Heap → List (Addr × Obj) → Prop)
    (hh : A.handled = none) (hE : PassesOwn (model prog w) A env E) (hx : env.kindOf x = some .local) (hp : (env.scope.kind == .class || (env.scope.kind == .module && env.locals != env.globals)) = false)
    (hD : (D, oD) ∈ news) (hd : oD.IsDictOf (intKind prog w) kv) (hlow : (D == sysModules) = false) (F : Fr h₀ env.locals s.heap m₀) (N : News h₀ env.locals s.heap news) (hj : J 0 h₀ news) (hJD : ∀ i g nx, J i g nx → (D, oD) ∈ nx)
    (turn : ∀ i k t v g nx I oI h tk, i < kv.length → kv[i]? = some (k, v) → (∀ p ∈ nx, p.1 ≠ I) → J i g nx → Fr g env.locals h (fun y => if y = x then some (.int k t) else m₀ y) → News g env.locals h ((I, oI) :: nx) →
      wpAny (model prog w) A (execs body env) (PostG env.locals (fun g m nx => (∃ u, m = fun y => if y = x then u else m₀ y) ∧ J (i + 1) g nx) I oI { s with heap := h, toks := tk } Q) E { s with heap := h, toks := tk })
    (done : ∀ u g nx h tk, J kv.length g nx → Fr g env.locals h (fun y => if y = x then u else m₀ y) → News g env.locals h nx → Q .next { s with heap := h, toks := tk }) :
    wpAny (model prog w) A (pyIter (.ref D)) (fun it s₂ => codeAny (model prog w) A (.forLoop (.Name x px) it body [] env) (fun r s' => match r with | .ok f => Q f s' | .error e => cameBackBy (model prog w) A env E e s') s₂) E s := by
  refine keysG (fun i g m nx => (∃ u, m = fun y => if y = x then u else m₀ y) ∧ J i g nx) hh hE hx hp hD hd hlow F N ⟨⟨m₀ x, by funext y; by_cases e : y = x <;> simp [e]⟩, hj⟩ (fun i g m nx h => hJD i g nx h.2) ?_ ?_
  · intro i k t v g m₁ nx I oI h tk hi hkv off hz0 F' N'
    refine hide ?_
    intro Pz kz
    obtain ⟨⟨u, rfl⟩, hJ⟩ := hz0
    refine kz ?_
    clear kz Pz
    refine turn i k t v g nx I oI h tk hi hkv off hJ ?_ N'
    have e : (fun y => if y = x then some (Value.int k t) else (fun y => if y = x then u else m₀ y) y) = fun y => if y = x then some (.int k t) else m₀ y := by
      funext y; by_cases e : y = x <;> simp [e]
    rw [e] at F'; exact F'
  · intro g m₁ nx h tk hz0 F' N'
    refine hide ?_
    intro Pz kz
    obtain ⟨⟨u, rfl⟩, hJ⟩ := hz0
    refine kz ?_
    clear kz Pz
    exact done u g nx h tk hJ F' N'
inductive EndWI (L : Addr) (x : Str) (m₀ : Str → Option Value) (n : Nat) (J : Nat → Heap → Option Value → List (Addr × Obj) → Prop) (s₁ : Nat → Heap → Shared) (s₂ : Shared) : Prop
  | mk (k : Nat) (g h' : Heap) (tk : Nat) (u : Option Value) (nx : List (Addr × Obj)) (hk : k < n) (e : s₂ = s₁ tk h') (F : Fr g L h' (fun y => if y = x then u else m₀ y)) (N : News g L h' nx) (hJ : J k g u nx)
noncomputable def EndW (L : Addr) (x : Str) (m₀ : Str → Option Value) (n : Nat) (J : Nat → Heap → Option Value → List (Addr × Obj) → Prop) (s₁ s₂ : Shared) : Prop := EndWI L x m₀ n J (fun tk h' => { s₁ with heap := h', toks := tk }) s₂
inductive WGI (s : Shared) (L : Addr) (x : Str) (m₀ : Str → Option Value) (J : Nat → Heap → Option Value → List (Addr × Obj) → Prop) (n : Nat) (s' : Shared) : Prop
  | mk (g h' : Heap) (tk : Nat) (u : Option Value) (nx : List (Addr × Obj)) (e : s' = { s with heap := h', toks := tk }) (F : Fr g L h' (fun y => if y = x then u else m₀ y)) (N : News g L h' nx) (hJ : J n g u nx)
noncomputable def PostW (L : Addr) (x : Str) (m₀ : Str → Option Value) (n : Nat) (J : Nat → Heap → Option Value → List (Addr × Obj) → Prop) (s₁ : Shared) (Q : Flow → Shared → Prop) (f : Flow) (s₂ : Shared) : Prop :=
  match f with
  | .ret v => Q (.ret v) s₂
  | .brk => Q .next s₂
  | _ => EndW L x m₀ n J s₁ s₂
theorem EndW.intro {L : Addr} {m₀ : Str → Option Value} {n k : Nat} {J : Nat → Heap → Option Value → List (Addr × Obj) → Prop} {g : Heap} {u : Option Value} {m' : Str → Option Value} {all : List (Addr × Obj)} {s₁ : Shared} {h' : Heap} {tk : Nat} (F : Fr g L h' m') (N : News g L h' all)
    (hm : m' = fun y => if y = x then u else m₀ y) (nx : List (Addr × Obj)) (sub : ∀ p ∈ nx, p ∈ all) (hk : k < n) (hj : J k g u nx) : EndW L x m₀ n J s₁ { s₁ with heap := h', toks := tk } := ⟨k, g, h', tk, u, nx, hk, rfl, hm ▸ F, fun p hp => N p (sub p hp), hj⟩
/-- a while in which one local is set and the frames below may be noted -/
theorem whileG {test : PySem.Expr} {orelse : List Stmt} {pos : Pos} {m₀ : Str → Option Value} {u : Option Value} {news : List (Addr × Obj)} (J : Nat → Heap → Option Value → List (Addr × Obj) → Prop) (x : Str) (n : Nat)
    (hE : PassesOwn (model prog w) A env E) (F : Fr h₀ env.locals s.heap (fun y => if y = x then u else m₀ y)) (N : News h₀ env.locals s.heap news) (hj : J n h₀ u news)
    (turn : ∀ n g u nx h tk, J n g u nx → Fr g env.locals h (fun y => if y = x then u else m₀ y) → News g env.locals h nx →
      wpAny (model prog w) A (isTrue test env (eval test env)) (fun b s₂ => WhlIf b (wpAny (model prog w) A (execs body env) (PostW env.locals x m₀ n J s Q) E s₂) (wpAny (model prog w) A (execs orelse env) Q E s₂)) E { s with heap := h, toks := tk }) :
    wpAny (model prog w) A (exec (.While test body orelse pos) env) Q E s := by
  refine while_inv hE (WGI s env.locals x m₀ J) ?_ n ⟨h₀, s.heap, s.toks, u, news, rfl, F, N, hj⟩
  intro n s' hz0
  refine hide ?_
  intro Pz kz
  obtain ⟨g, h', tk, u, nx, rfl, F', N', hJ⟩ := hz0
  refine kz ?_
  clear kz Pz
  refine wpAny_mono (turn n g u nx h' tk hJ F' N') (fun b s₂ h₂ => ?_) fun _ _ e => e
  cases b with
  | false => exact h₂
  | true =>
    refine WhlIf.yes rfl (wpAny_mono (show wpAny _ _ _ _ _ _ from h₂) (fun f s₃ h₃ => ?_) fun _ _ e => e)
    have fin : EndW env.locals x m₀ n J s s₃ → ∃ k, k < n ∧ WGI s env.locals x m₀ J k s₃ := by
      intro hz0
      refine hide ?_
      intro Pz kz
      obtain ⟨k, g, h', tk, u, nx, hk, e, a, b, c⟩ := hz0
      refine kz ?_
      clear kz Pz
      exact ⟨k, hk, g, h', tk, u, nx, e, a, b, c⟩
    cases f with
    | next => exact fin h₃
    | cont => exact fin h₃
    | brk => exact h₃
    | ret v => exact h₃
theorem whileG2 {s₀ : Shared} {h₁ : Heap} {t₁ : Nat} {test : PySem.Expr} {orelse : List Stmt} {pos : Pos} {m₀ : Str → Option Value} {u : Option Value} {news : List (Addr × Obj)} (J : Nat → Heap → Option Value → List (Addr × Obj) → Prop) (x : Str) (n : Nat)
    (hE : PassesOwn (model prog w) A env E) (F : Fr h₀ env.locals h₁ (fun y => if y = x then u else m₀ y)) (N : News h₀ env.locals h₁ news) (hj : J n h₀ u news)
    (turn : ∀ n g u nx h tk, J n g u nx → Fr g env.locals h (fun y => if y = x then u else m₀ y) → News g env.locals h nx →
      wpAny (model prog w) A (isTrue test env (eval test env)) (fun b s₂ => WhlIf b (wpAny (model prog w) A (execs body env) (PostW env.locals x m₀ n J s₀ Q) E s₂) (wpAny (model prog w) A (execs orelse env) Q E s₂)) E { s₀ with heap := h, toks := tk }) :
    wpAny (model prog w) A (exec (.While test body orelse pos) env) Q E { s₀ with heap := h₁, toks := t₁ } :=
  whileG (s := { s₀ with heap := h₁, toks := t₁ }) J x n hE F N hj turn
end
end Mine
end
section
namespace Mine
section
variable {succ : Nat → List Nat} {n : Nat} {stk fin : List Nat} {pf : Nat → Nat} {c x : Nat}
structure DInv (succ : Nat → List Nat) (n : Nat) (stk fin : List Nat) (pf : Nat → Nat) : Prop where
  nd : (stk ++ fin).Nodup
  lt : ∀ x ∈ stk ++ fin, x < n
  chain : ∀ k x y, stk[k]? = some x → stk[k + 1]? = some y → ∃ q, pf x = q + 1 ∧ (succ x)[q]? = some y ∧ ∀ j s, j < q → (succ x)[j]? = some s → s ∈ fin
  ord : ∀ a x b, fin = a ++ x :: b → ∀ s ∈ succ x, s ∈ a
  fresh : ∀ x, x ∉ stk → x ∉ fin → pf x = 0
noncomputable def TClean (succ : Nat → List Nat) (stk fin : List Nat) (pf : Nat → Nat) : Prop := ∀ x, stk.getLast? = some x → ∀ j s, j < pf x → (succ x)[j]? = some s → s ∈ fin
noncomputable def TCand (succ : Nat → List Nat) (stk fin : List Nat) (pf : Nat → Nat) (c : Nat) : Prop := ∀ x, stk.getLast? = some x → ∃ q, pf x = q + 1 ∧ (succ x)[q]? = some c ∧ ∀ j s, j < q → (succ x)[j]? = some s → s ∈ fin
noncomputable def remE (succ : Nat → List Nat) (n : Nat) (pf : Nat → Nat) : Nat := ((List.range n).map fun v => (succ v).length - pf v).sum
noncomputable def bump (pf : Nat → Nat) (x : Nat) : Nat → Nat := fun y => if y = x then pf x + 1 else pf y
theorem getLast?_eq {l : List Nat} {x : Nat} (h : l.getLast? = some x) : l ≠ [] ∧ l[l.length - 1]? = some x := by
  rw [List.getLast?_eq_getElem?] at h
  refine ⟨?_, h⟩
  rintro rfl
  simp at h
theorem DInv.push (h : DInv succ n stk fin pf) (hc : TCand succ stk fin pf c) (h1 : c ∉ stk) (h2 : c ∉ fin) (hn : c < n) : DInv succ n (stk ++ [c]) fin pf ∧ TClean succ (stk ++ [c]) fin pf := by
  have h0 := h.fresh c h1 h2
  refine ⟨⟨?_, ?_, ?_, h.ord, fun y hy1 hy2 => h.fresh y (fun hm => hy1 (List.mem_append_left _ hm)) hy2⟩, ?_⟩
  · have := h.nd
    rw [List.append_assoc, List.nodup_append] at *
    refine hide ?_
    intro Pz kz
    obtain ⟨a1, a2, a3⟩ := this
    refine kz ?_
    clear kz Pz
    refine ⟨a1, ?_, ?_⟩
    · exact List.nodup_cons.mpr ⟨h2, a2⟩
    · intro a ha b hb
      rcases List.mem_cons.mp hb with rfl | hb
      · exact fun e => h1 (e ▸ ha)
      · exact a3 a ha b hb
  · intro y hy
    simp only [List.mem_append, List.mem_singleton] at hy
    rcases hy with (hy | rfl) | hy
    · exact h.lt y (List.mem_append_left _ hy)
    · exact hn
    · exact h.lt y (List.mem_append_right _ hy)
  · intro k x y hx hy
    by_cases hk : k + 1 < stk.length
    · rw [List.getElem?_append_left hk] at hy
      rw [List.getElem?_append_left (by omega)] at hx
      exact h.chain k x y hx hy
    · by_cases hk' : k + 1 = stk.length
      · rw [List.getElem?_append_left (by omega)] at hx
        rw [List.getElem?_append_right (by omega)] at hy
        have : y = c := by simp [hk'] at hy; exact hy.symm
        subst this
        refine hc x ?_
        rw [List.getLast?_eq_getElem?]
        rw [show stk.length - 1 = k by omega]; exact hx
      · have : (stk ++ [c])[k + 1]? = none := List.getElem?_eq_none (by simp; omega)
        rw [this] at hy; cases hy
  · intro y hy j s hj
    simp at hy
    subst hy
    rw [h0] at hj
    exact absurd hj (Nat.not_lt_zero _)
theorem TCand.clean (hc : TCand succ stk fin pf c) (h : c ∈ fin) : TClean succ stk fin pf := by
  intro x hx j s hj hs
  refine hide ?_
  intro Pz kz
  obtain ⟨q, h1, h2, h3⟩ := hc x hx
  refine kz ?_
  clear kz Pz
  rw [h1] at hj
  rcases Nat.lt_succ_iff_lt_or_eq.mp hj with h4 | rfl
  · exact h3 j s h4 hs
  · rw [h2] at hs; cases hs; exact h
theorem nodup_last {l : List Nat} (hn : l.Nodup) {x : Nat} (hx : l.getLast? = some x) {k : Nat} (hk : l[k]? = some x) : k = l.length - 1 := by
  refine hide ?_
  intro Pz kz
  obtain ⟨h1, h2⟩ := getLast?_eq hx
  refine kz ?_
  clear kz Pz
  have e1 := List.getElem?_eq_some_iff.mp hk
  have e2 := List.getElem?_eq_some_iff.mp h2
  have e3 := e1.2.trans e2.2.symm
  rw [List.nodup_iff_pairwise_ne, List.pairwise_iff_getElem] at hn
  rcases Nat.lt_trichotomy k (l.length - 1) with h | h | h
  · exact absurd e3 (hn _ _ e1.1 e2.1 h)
  · exact h
  · exact absurd e3.symm (hn _ _ e2.1 e1.1 h)
theorem DInv.eat (h : DInv succ n stk fin pf) (hc : TClean succ stk fin pf) (hx : stk.getLast? = some x) (hs : (succ x)[pf x]? = some c) : DInv succ n stk fin (bump pf x) ∧ TCand succ stk fin (bump pf x) c ∧ remE succ n (bump pf x) < remE succ n pf := by
  have hxs : x ∈ stk := List.mem_of_getLast? hx
  have hns : stk.Nodup := (List.nodup_append.mp h.nd).1
  refine ⟨⟨h.nd, h.lt, ?_, h.ord, ?_⟩, ?_, ?_⟩
  · intro k y z hy hz
    have hne : y ≠ x := by
      rintro rfl
      have := nodup_last hns hx hy
      have := (List.getElem?_eq_some_iff.mp hz).1
      omega
    refine hide ?_
    intro Pz kz
    obtain ⟨q, a, b⟩ := h.chain k y z hy hz
    refine kz ?_
    clear kz Pz
    exact ⟨q, by simp [bump, hne, a], b⟩
  · intro y h1 h2
    have hne : y ≠ x := fun e => h1 (e ▸ hxs)
    simp [bump, hne, h.fresh y h1 h2]
  · intro y hy
    rw [hx] at hy
    cases hy
    exact ⟨pf x, by simp [bump], hs, fun j s hj => hc x hx j s hj⟩
  · have hxn : x < n := h.lt x (List.mem_append_left _ hxs)
    have hl : pf x < (succ x).length := (List.getElem?_eq_some_iff.mp hs).1
    unfold remE
    have key : ∀ l : List Nat, l.Nodup → x ∈ l → (l.map fun v => (succ v).length - bump pf x v).sum < (l.map fun v => (succ v).length - pf v).sum := by
      intro l
      induction l with
      | nil => intro _ h; cases h
      | cons y r ih =>
        intro hn hm
        refine hide ?_
        intro Pz kz
        obtain ⟨hn1, hn2⟩ := List.nodup_cons.mp hn
        refine kz ?_
        clear kz Pz
        simp only [List.map_cons, List.sum_cons]
        by_cases e : y = x
        · subst e
          have : (r.map fun v => (succ v).length - bump pf y v) = r.map fun v => (succ v).length - pf v := by
            apply List.map_congr_left
            intro v hv
            have : v ≠ y := fun e => hn1 (e ▸ hv)
            simp [bump, this]
          rw [this]
          simp [bump]
          omega
        · have := ih hn2 (by rcases List.mem_cons.mp hm with h | h; exact absurd h.symm e; exact h)
          simp [bump, e]
          exact this
    exact key _ List.nodup_range (List.mem_range.mpr hxn)
theorem DInv.pop (h : DInv succ n (stk ++ [x]) fin pf) (hc : TClean succ (stk ++ [x]) fin pf) (hs : (succ x)[pf x]? = none) : DInv succ n stk (fin ++ [x]) pf ∧ TClean succ stk (fin ++ [x]) pf := by
  have hall : ∀ s ∈ succ x, s ∈ fin := by
    intro s hm
    refine hide ?_
    intro Pz kz
    obtain ⟨j, hj⟩ := List.getElem?_of_mem hm
    refine kz ?_
    clear kz Pz
    refine hc x (by simp) j s ?_ hj
    have h1 := (List.getElem?_eq_some_iff.mp hj).1
    have h2 := List.getElem?_eq_none_iff.mp hs
    omega
  have hns : (stk ++ [x]).Nodup := (List.nodup_append.mp h.nd).1
  refine ⟨⟨?_, ?_, ?_, ?_, ?_⟩, ?_⟩
  · have := h.nd
    rw [List.append_assoc] at this
    refine (List.Perm.nodup_iff ?_).mp this
    exact List.Perm.append_left stk (by simpa using List.perm_append_comm (l₁ := [x]) (l₂ := fin))
  · intro y hy
    apply h.lt y
    simp only [List.mem_append, List.mem_singleton] at hy ⊢
    rcases hy with hy | hy | hy
    · exact .inl (.inl hy)
    · exact .inr hy
    · exact .inl (.inr hy)
  · intro k y z hy hz
    have hk : k + 1 < stk.length := (List.getElem?_eq_some_iff.mp hz).1
    refine hide ?_
    intro Pz kz
    obtain ⟨q, a, b, d⟩ := h.chain k y z (by rw [List.getElem?_append_left (by omega)]; exact hy) (by rw [List.getElem?_append_left hk]; exact hz)
    refine kz ?_
    clear kz Pz
    exact ⟨q, a, b, fun j s hj hjs => List.mem_append_left _ (d j s hj hjs)⟩
  · intro a y b e s hsy
    rcases List.eq_nil_or_concat b with rfl | ⟨b', z, rfl⟩
    · have e2 := List.append_inj' (t₁ := [x]) (t₂ := [y]) e rfl
      refine hide ?_
      intro Pz kz
      obtain ⟨rfl, e3⟩ := e2
      refine kz ?_
      clear kz Pz
      cases e3
      exact hall s hsy
    · have e' : fin ++ [x] = (a ++ y :: b') ++ [z] := by simpa using e
      have e2 := List.append_inj' (t₁ := [x]) (t₂ := [z]) e' rfl
      exact h.ord a y b' e2.1 s hsy
  · intro y h1 h2
    exact h.fresh y (fun hm => by
      rcases List.mem_append.mp hm with hm | hm
      · exact h1 hm
      · exact h2 (List.mem_append_right _ hm)) (fun hm => h2 (List.mem_append_left _ hm))
  · intro y hy j s hj hjs
    refine hide ?_
    intro Pz kz
    obtain ⟨hne, hg⟩ := getLast?_eq hy
    have hl : 0 < stk.length := List.length_pos_iff.mpr hne
    obtain ⟨q, a, b, d⟩ := h.chain (stk.length - 1) y x (by rw [List.getElem?_append_left (by omega)]; exact hg) (by rw [List.getElem?_append_right (by omega)]; simp [show stk.length - 1 + 1 - stk.length = 0 by omega])
    refine kz ?_
    clear kz Pz
    rw [a] at hj
    rcases Nat.lt_succ_iff_lt_or_eq.mp hj with h4 | rfl
    · exact List.mem_append_left _ (d j s h4 hjs)
    · rw [b] at hjs; cases hjs; exact List.mem_append_right _ (by simp)
/-- what the search says -/
noncomputable def NoRing (succ : Nat → List Nat) (n : Nat) : Prop := ∃ fin : List Nat, (∀ x, x < n → x ∈ fin) ∧ fin.Nodup ∧ ∀ a x b, fin = a ++ x :: b → ∀ s ∈ succ x, s ∈ a
noncomputable def IsRing (succ : Nat → List Nat) (n : Nat) (ring : List Nat) : Prop := ∃ body c, ring = body ++ [c] ∧ body.head? = some c ∧ body.Nodup ∧ (∀ x ∈ body, x < n) ∧ ∀ k x y, ring[k]? = some x → ring[k + 1]? = some y → y ∈ succ x
theorem DInv.noRing (h : DInv succ n [] fin pf) (ha : ∀ x, x < n → x ∈ fin) : NoRing succ n := ⟨fin, ha, by simpa using h.nd, h.ord⟩
theorem DInv.ring (h : DInv succ n stk fin pf) (hc : TCand succ stk fin pf c) {k : Nat} (hk : stk[k]? = some c) : IsRing succ n (stk.drop k ++ [c]) := by
  have hkl := (List.getElem?_eq_some_iff.mp hk).1
  have hns : stk.Nodup := (List.nodup_append.mp h.nd).1
  refine ⟨stk.drop k, c, rfl, ?_, ?_, ?_, ?_⟩
  · rw [List.head?_drop]; exact hk
  · exact List.Nodup.sublist (List.drop_sublist k stk) hns
  · intro x hx
    exact h.lt x (List.mem_append_left _ (List.mem_of_mem_drop hx))
  · intro j x y hx hy
    by_cases hj : j + 1 < (stk.drop k).length
    · rw [List.getElem?_append_left hj, List.getElem?_drop] at hy
      rw [List.getElem?_append_left (by omega), List.getElem?_drop] at hx
      refine hide ?_
      intro Pz kz
      obtain ⟨q, _, b, _⟩ := h.chain (k + j) x y hx (by rw [show k + j + 1 = k + (j + 1) by omega]; exact hy)
      refine kz ?_
      clear kz Pz
      exact List.mem_of_getElem? b
    · by_cases hj' : j + 1 = (stk.drop k).length
      · rw [List.getElem?_append_right (by omega)] at hy
        have : y = c := by simp [hj'] at hy; exact hy.symm
        subst this
        rw [List.getElem?_append_left (by omega), List.getElem?_drop] at hx
        have hd : (stk.drop k).length = stk.length - k := List.length_drop
        refine hide ?_
        intro Pz kz
        obtain ⟨q, _, b, _⟩ := hc x (by rw [List.getLast?_eq_getElem?, show stk.length - 1 = k + j by omega]; exact hx)
        refine kz ?_
        clear kz Pz
        exact List.mem_of_getElem? b
      · have : (stk.drop k ++ [c])[j + 1]? = Option.none := List.getElem?_eq_none (by rw [List.length_append, List.length_singleton]; omega)
        rw [this] at hy; cases hy
end
end Mine
end
section
theorem Mine.w_Find_0 : True := by
  k_with_none
  (k_with "memw" => first | assumption | exact List.Mem.head _ | (refine List.Mem.tail _ ?_; k_extra "memw") | fail "memw")
  (k_with "subl" => first | exact fun _ h => h | (refine sub_cons (by k_extra "memw") ?_; k_extra "subl") | (refine sub_tail ?_; k_extra "subl") | fail "subl")
  trivial
namespace Mine
theorem Mine.w_Find_1 : True := by
  (k_with "ktr_unf" => repeat' ((fail_if_success (with_reducible show LCg.CompSrc _ _ _ _ _ _ _ _ _ _ _ _ _ _)); (fail_if_success (with_reducible show LCt.CompSrcT _ _ _ _ _ _ _ _ _ _ _ _ _ _ _)); (fail_if_success (with_reducible show wpAny _ _ (pyIter _) _ _ _)); (fail_if_success (with_reducible show wpAny _ _ (exec (Stmt.While _ _ _ _) _) _ _ _)); (fail_if_success (with_reducible show wpAny _ _ (exec (Stmt.For _ _ _ _ _) _) _ _ _)); (fail_if_success (with_reducible show LeaveT _ _ _ _ _ _ _ _ _ _ _)); (fail_if_success (with_reducible show EndW _ _ _ _ _ _ _)); (fail_if_success (with_reducible show EndG _ _ _ _ _ _)); (fail_if_success (with_reducible show wpAny _ _ (call (Value.ref _) []) _ _ _)); (fail_if_success (with_reducible show wpAny _ _ (noteFrame _ _) _ _ _)); first | (k_unfold; (try dsimp only)) | tb_rel | ((fail_if_success (with_reducible show wpAny _ _ (subscriptTail _ _ (Value.ref _) (Value.int _ _)) _ _ _)); first | walk1 | (dsimp only; walk1))))
  (k_with "k_mem" => first | assumption | exact List.Mem.head _ | (refine' List.Mem.tail _ ?_; k_mem) | (refine' SubL.mem (by assumption) ?_; k_mem))
  (k_with "k_all" => first | assumption | exact off1_mem' (by assumption) | exact lt_ne (by assumption) (by omega) | exact allLt_ne (by assumption) (by omega))
  (k_with "tb_start" => ((with_reducible show wpAny _ _ (eval (Expr.ListComp _ _ _ _) _) _ _ _); k_dflt (refine ListComp_V (by k_asm) (by with_unfolding_all rfl) (by with_unfolding_all rfl) (by rfl) (by decide) (by rfl) ?_)))
  (k_with "tb_start" => ((with_reducible show wpAny _ _ (eval (Expr.ListComp _ _ _ _) _) _ _ _); k_dflt (refine LCg.ListComp_U (F₀ := by k_asm) (by with_unfolding_all rfl) (by decide) (by rfl) (by decide) (by rfl) ?_)))
  (k_with "tb_rel" => ((with_reducible show wpAny _ _ (subscriptTail _ _ (Value.ref _) (Value.int _ _)) _ _ _); k_dflt (refine' item_at (by k_asm) (by k_mem) (by omega) (by omega) (by assumption) ?_); (try dsimp only)))
  (k_with "ktr_rel" => (k_dflt (first
        | refine LCg.CompSrc.ledger (by rfl) (by k_asm) (by k_asm) (by k_mem) (by rw [sizeLine_eq]; simp; omega) ?_
        | refine LCg.CompSrc.range (n := 6) (by rfl) (by k_asm) (by k_asm) (by assumption) (by first | decide | rfl) (by first | rfl | decide) (by first | size_fits | exact Nat.le_of_ble_eq_true rfl) ?_); intro g'w))
  (k_with "tb_rel" => ((with_reducible show wpAny _ _ (getMethod (Value.ref _) (Str.ofString "get") _) _ _ _); k_dflt (refine' kdg_method (knd := intKind _ _) (by k_asm) (by k_mem) (by assumption) ?_); (try dsimp only)))
  (k_with "tb_rel" => ((with_reducible show wpAny _ _ (call (Value.builtin "dict.get") [Value.ref _, Value.int _ _]) _ _ _); k_dflt (refine' kdg_get1 (knd := intKind _ _) (by k_asm) (by k_mem) (by assumption) (by assumption) (intKind_is _ _ _ _) _ (by assumption) ?_); (try dsimp only [Option.getD])))
  (k_with "tb_rel" => ((with_reducible show wpAny _ _ (subscriptTail _ _ (Value.ref _) (Value.int _ _)) _ _ _); k_dflt (refine' kda_item (knd := intKind _ _) (by k_asm) (by k_mem) (by assumption) (intKind_is _ _ _ _) (by assumption) ?_); (try dsimp only)))
  trivial
noncomputable abbrev frs (outer : List Env) : List Addr := outer.filterMap (·.frame)
noncomputable def FcRes (succ : Nat → List Nat) (n : Nat) (v : Value) (led : List (Addr × Obj)) : Prop :=
  (v = .none ∧ NoRing succ n) ∨ ∃ r vs e ring, v = .ref r ∧ (r, listOf vs.toArray e) ∈ led ∧ IntsAre vs (ring.map Int.ofNat) ∧ IsRing succ n ring
/-- the search's own things over the ledger's rest -/
inductive FSo (prog : Program) (w : World) (so : Obj) (stk fin : List Nat) : Prop
  | mk (Sf : Int → Bool) (c : Nat) (a : so.SetObjOf (intKind prog w) Sf c) (b : c ≤ 6) (d : c = (stk ++ fin).length) (e : ∀ x : Nat, Sf (x : Int) = decide (x ∈ stk ∨ x ∈ fin))
inductive FOd (prog : Program) (w : World) (od : Obj) (stk : List Nat) : Prop
  | mk (kv : List (Int × Value)) (a : od.IsDictOf (intKind prog w) kv) (b : kv.map (·.1) = stk.map Int.ofNat) (c : ∀ (k x : Nat), stk[k]? = some x → ∃ t, valueAt kv (x : Int) = some (.int (k : Int) t))
inductive FIt (nds : List Nd) (led rest : List (Addr × Obj)) (iv : List Value) (stk : List Nat) (pf : Nat → Nat) : Prop
  | mk (its : List (Addr × Addr)) (a : iv = its.map (fun p => .ref p.1)) (b : its.length = stk.length) (c : (its.map (·.2)).Nodup) (d : ∀ (k : Nat) (b it : Addr) (x : Nat), its[k]? = some (b, it) → stk[k]? = some x → (b, mwO it) ∈ rest ∧ (∀ q ∈ led, q.1 ≠ it) ∧ ∃ nd, nds[x]? = some nd ∧ (it, liO nd.sl (pf x)) ∈ rest)
structure FSt (prog : Program) (w : World) (succ : Nat → List Nat) (nds : List Nd) (led rest : List (Addr × Obj)) (sv iv : List Value) (so od : Obj) (stk fin : List Nat) (pf : Nat → Nat) : Prop where
  inv : DInv succ nds.length stk fin pf
  sv : IntsAre sv (stk.map Int.ofNat)
  so : FSo prog w so stk fin
  od : FOd prog w od stk
  its : FIt nds led rest iv stk pf
structure Gnd (A : Around) (base : Heap) (l : List Env) (g₁ g : Heap) : Prop where
  turn : KtsTurn (frs l) g₁ g
  below : Below A base l g
  dicts : KtsDicts (frs l) g
structure FL (w : World) (succ : Nat → List Nat) (nds : List Nd) (led : List (Addr × Obj)) (ND SE IT ST : Addr) (rest : List (Addr × Obj)) (sv iv : List Value) (so od : Obj) (stk fin : List Nat) (pf : Nat → Nat) : Prop where
  st : FSt theProg w succ nds led rest sv iv so od stk fin pf
  sub : ∀ q ∈ led, q ∈ rest
  oND : ∀ p ∈ rest, p.1 ≠ ND
  oSE : ∀ p ∈ rest, p.1 ≠ SE
  oIT : ∀ p ∈ rest, p.1 ≠ IT
  oST : ∀ p ∈ rest, p.1 ≠ ST
noncomputable abbrev fled (ND SE IT ST : Addr) (rest : List (Addr × Obj)) (sv iv : List Value) (e1 e2 : Nat) (so od : Obj) : List (Addr × Obj) := (ND, od) :: (SE, so) :: (IT, listOf iv.toArray e2) :: (ST, listOf sv.toArray e1) :: rest
theorem nodup_len : ∀ (n : Nat) (l : List Nat), l.Nodup → (∀ x ∈ l, x < n) → l.length ≤ n
  | 0, l, _, h => by
    cases l with
    | nil => simp
    | cons x r => exact absurd (h x (by simp)) (Nat.not_lt_zero _)
  | n + 1, l, hn, h => by
    by_cases hm : n ∈ l
    · have := nodup_len n (l.erase n) (hn.erase n) (fun x hx => by
        refine hide ?_
        intro Pz kz
        obtain ⟨h1, h2⟩ := (List.Nodup.mem_erase_iff hn).mp hx
        refine kz ?_
        clear kz Pz
        have := h x h2
        omega)
      rw [List.length_erase_of_mem hm] at this
      omega
    · have := nodup_len n l hn (fun x hx => by
        have := h x hx
        have : x ≠ n := fun e => hm (e ▸ hx)
        omega)
      omega
theorem va_none {kv : List (Int × Value)} {stk : List Nat} (hkk : kv.map (·.1) = stk.map Int.ofNat) {y : Nat} (hy : y ∉ stk) : valueAt kv (y : Int) = none := by
  apply valueAt_none_of_not_mem
  rw [hkk]
  intro hm
  refine hide ?_
  intro Pz kz
  obtain ⟨z, hz, e⟩ := List.mem_map.mp hm
  refine kz ?_
  clear kz Pz
  have : z = y := by have : (z : Int) = (y : Int) := e; omega
  exact hy (this ▸ hz)
theorem va_snoc_ne {kv : List (Int × Value)} {c y : Int} {v : Value} (h : ¬ (y = c)) : valueAt (kv ++ [(c, v)]) y = valueAt kv y := by
  unfold valueAt
  rw [List.find?_append]
  have : ¬ (c = y) := fun e => h e.symm
  simp [this]
theorem va_snoc_self {kv : List (Int × Value)} {c : Int} {v : Value} (h : valueAt kv c = none) : valueAt (kv ++ [(c, v)]) c = some v := by
  unfold valueAt at h ⊢
  rw [List.find?_append]
  have : (kv.find? fun q => decide (q.1 = c)) = none := by simpa using h
  rw [this]
  simp
theorem va_without_ne {kv : List (Int × Value)} {c y : Int} (h : ¬ (y = c)) : valueAt (without kv c) y = valueAt kv y := by
  unfold valueAt without
  rw [List.find?_filter]
  congr 1
  congr 1
  funext q
  by_cases e : q.1 = y
  · have : ¬ (q.1 = c) := fun e' => h (e ▸ e')
    simp [e]; exact fun e' => h e'
  · simp [e]
theorem without_keys {kv : List (Int × Value)} {stk : List Nat} {x : Nat} (hkk : kv.map (·.1) = (stk ++ [x]).map Int.ofNat) (hn : (stk ++ [x]).Nodup) : (without kv (x : Int)).map (·.1) = stk.map Int.ofNat := by
  unfold without
  have e : (kv.filter fun q => decide (q.1 ≠ (x : Int))).map (·.1) = (kv.map (·.1)).filter fun k => decide (k ≠ (x : Int)) := by
    rw [List.filter_map]; rfl
  rw [e, hkk, List.map_append, List.filter_append]
  have hx : x ∉ stk := by
    intro hm
    have := (List.nodup_append.mp hn).2.2 x hm x (by simp)
    exact this rfl
  have e1 : (stk.map Int.ofNat).filter (fun k => decide (k ≠ (x : Int))) = stk.map Int.ofNat := by
    rw [List.filter_eq_self]
    intro k hk
    refine hide ?_
    intro Pz kz
    obtain ⟨z, hz, rfl⟩ := List.mem_map.mp hk
    refine kz ?_
    clear kz Pz
    have : z ≠ x := fun e => hx (e ▸ hz)
    simp; omega
  rw [e1]
  simp
theorem kvs_at {nds : List Nd} {i : Nat} {k : Int} {v : Value} (h : (kvs nds)[i]? = some (k, v)) : k = (i : Int) ∧ i < nds.length := by
  have hl : i < nds.length := by have := (List.getElem?_eq_some_iff.mp h).1; rwa [kvs_len] at this
  rw [kvs_get (List.getElem?_eq_getElem hl)] at h
  cases h; exact ⟨rfl, hl⟩
theorem fl_init {prog : Program} {w : World} {succ : Nat → List Nat} {nds : List Nd} {led rest : List (Addr × Obj)} {so od : Obj} {Sf : Int → Bool} (h1 : so.SetObjOf (intKind prog w) Sf 0) (h1' : ∀ x, Sf x = false) (h2 : od.IsDictOf (intKind prog w) []) : FSt prog w succ nds led rest [] [] so od [] [] (fun _ => 0) where
  inv := ⟨by simp, by simp, fun k x y h => by simp at h, fun a x b e => by simp at e, fun _ _ _ => rfl⟩
  sv := .nil
  so := ⟨Sf, 0, h1, by omega, rfl, fun x => by simp [h1']⟩
  od := ⟨[], h2, rfl, fun k x h => by simp at h⟩
  its := ⟨[], rfl, rfl, by simp, fun k b it x h => by simp at h⟩
section
variable {w : World} {succ : Nat → List Nat} {nds : List Nd} {led rest : List (Addr × Obj)} {ND SE IT ST : Addr} {sv iv : List Value} {so od so' od' : Obj} {stk fin : List Nat} {pf : Nat → Nat} {x : Nat}
theorem FL.pushL (h : FL w succ nds led ND SE IT ST rest sv iv so od stk fin pf) {c : Nat} {t tt : Tok} {x : Nd} {b it : Addr} {Sf : Int → Bool} {cnt : Nat} {kv : List (Int × Value)} (hc : TCand succ stk fin pf c) (h1 : c ∉ stk) (h2 : c ∉ fin) (hn : c < nds.length) (hn6 : nds.length ≤ 6) (hx : nds[c]? = some x)
    (hcn : cnt = (stk ++ fin).length) (hSf : ∀ x : Nat, Sf (x : Int) = decide (x ∈ stk ∨ x ∈ fin)) (hso : so'.SetObjOf (intKind theProg w) (fun k' => Sf k' || decide (k' = (c : Int))) (if Sf (c : Int) then cnt else cnt + 1))
    (hkv1 : ∀ (k x : Nat), stk[k]? = some x → ∃ t, valueAt kv (x : Int) = some (.int (k : Int) t)) (hkk : kv.map (·.1) = stk.map Int.ofNat) (hod : od'.IsDictOf (intKind theProg w) (stored kv (c : Int) (.int (sv.length : Int) tt)))
    (lND : @LT.lt Nat _ ND it) (lSE : @LT.lt Nat _ SE it) (lIT : @LT.lt Nat _ IT it) (lST : @LT.lt Nat _ ST it) (lr : ∀ p ∈ rest, p.1 < it) (lb : @LT.lt Nat _ it b) :
    FL w succ nds led ND SE IT ST ((b, mwO it) :: (it, liO x.sl 0) :: rest) (sv ++ [.int (c : Int) t]) (iv ++ [.ref b]) so' od' (stk ++ [c]) fin pf ∧ TClean succ (stk ++ [c]) fin pf := by
  refine hide ?_
  intro Pz kz
  obtain ⟨hi, hcl⟩ := h.st.inv.push hc h1 h2 hn
  refine kz ?_
  clear kz Pz
  have h0 := h.st.inv.fresh c h1 h2
  have hsvl : sv.length = stk.length := by rw [IntsAre.length h.st.sv]; simp
  have off : ∀ {Z : Addr}, (∀ p ∈ rest, p.1 ≠ Z) → @LT.lt Nat _ Z it → ∀ p ∈ (b, mwO it) :: (it, liO x.sl 0) :: rest, p.1 ≠ Z := by
    intro Z hz hl p hp
    rcases List.mem_cons.mp hp with rfl | hp
    · exact neN (by have := ltN hl; have := ltN lb; omega)
    · rcases List.mem_cons.mp hp with rfl | hp
      · exact neN (by have := ltN hl; omega)
      · exact hz p hp
  refine ⟨⟨⟨hi, ?_, ?_, ?_, ?_⟩, fun q hq => .tail _ (.tail _ (h.sub q hq)), off h.oND lND, off h.oSE lSE, off h.oIT lIT, off h.oST lST⟩, hcl⟩
  · rw [List.map_append]; exact IntsAre.append h.st.sv (.cons _ _ .nil)
  · have hSc : Sf (c : Int) = false := by rw [hSf]; simp [h1, h2]
    rw [hSc] at hso
    have hlen : ((stk ++ [c]) ++ fin).length ≤ nds.length := nodup_len _ _ hi.nd hi.lt
    refine ⟨_, _, hso, ?_, ?_, fun y => ?_⟩
    · simp only [Bool.false_eq_true, if_false]
      simp only [List.length_append, List.length_singleton] at hlen hcn
      omega
    · simp only [Bool.false_eq_true, if_false, List.length_append, List.length_singleton] at hcn ⊢
      omega
    · rw [hSf]
      by_cases e : y = c
      · simp [e]
      · have e' : ¬ ((y : Int) = (c : Int)) := by omega
        simp [e, e']
  · have hab := va_none hkk h1
    rw [stored_absent hab] at hod
    refine ⟨_, hod, by rw [List.map_append, List.map_append, hkk]; rfl, ?_⟩
    intro k y hk
    by_cases hkl' : k < stk.length
    · rw [List.getElem?_append_left hkl'] at hk
      refine hide ?_
      intro Pz kz
      obtain ⟨t', ht'⟩ := hkv1 k y hk
      refine kz ?_
      clear kz Pz
      have hne : ¬ ((y : Int) = (c : Int)) := by
        intro e
        have : y = c := by omega
        exact h1 (this ▸ List.mem_of_getElem? hk)
      exact ⟨t', by rw [va_snoc_ne hne]; exact ht'⟩
    · rw [List.getElem?_append_right (by omega)] at hk
      have hk0 : k = stk.length := by
        have := (List.getElem?_eq_some_iff.mp hk).1
        simp at this; omega
      subst hk0
      simp at hk
      subst hk
      exact ⟨tt, by rw [va_snoc_self hab, hsvl]⟩
  · refine hide ?_
    intro Pz kz
    obtain ⟨its, e1, e2, e3, e4⟩ := h.st.its
    refine kz ?_
    clear kz Pz
    have hfr : ∀ p ∈ its, p.2 ≠ it := by
      intro p hp
      refine hide ?_
      intro Pz kz
      obtain ⟨k, hk⟩ := List.getElem?_of_mem hp
      have hkl' : k < stk.length := by have := (List.getElem?_eq_some_iff.mp hk).1; omega
      obtain ⟨_, _, nd, _, hm⟩ := e4 k p.1 p.2 _ hk (List.getElem?_eq_getElem hkl')
      refine kz ?_
      clear kz Pz
      have := ltN (lr _ hm)
      exact neN (by omega)
    refine ⟨its ++ [(b, it)], by rw [e1, List.map_append]; rfl, by simp [e2], ?_, ?_⟩
    · rw [List.map_append, List.nodup_append]
      refine ⟨e3, by simp, ?_⟩
      intro a ha b' hb'
      simp at hb'
      subst hb'
      refine hide ?_
      intro Pz kz
      obtain ⟨p, hp, rfl⟩ := List.mem_map.mp ha
      refine kz ?_
      clear kz Pz
      exact hfr p hp
    · intro k b' it' y hk hy
      by_cases hkl' : k < stk.length
      · rw [List.getElem?_append_left (by omega)] at hk
        rw [List.getElem?_append_left hkl'] at hy
        refine hide ?_
        intro Pz kz
        obtain ⟨a1, a2, nd, a3, a4⟩ := e4 k b' it' y hk hy
        refine kz ?_
        clear kz Pz
        exact ⟨.tail _ (.tail _ a1), a2, nd, a3, .tail _ (.tail _ a4)⟩
      · have hk0 : k = stk.length := by
          have := (List.getElem?_eq_some_iff.mp hy).1
          simp at this; omega
        subst hk0
        rw [List.getElem?_append_right (by omega)] at hk hy
        simp [e2] at hk hy
        refine hide ?_
        intro Pz kz
        obtain ⟨rfl, rfl⟩ := hk
        refine kz ?_
        clear kz Pz
        subst hy
        refine ⟨.head _, fun q hq => ?_, x, hx, ?_⟩
        · have := ltN (lr _ (h.sub q hq))
          exact neN (by omega)
        · rw [h0]; exact .tail _ (.head _)
theorem push_init {g hh : Heap} {L' I : Addr} {oI : Obj} {c : Nat} {t tt : Tok} {x : Nd} {b it : Addr} {e1 e2 : Nat} {Sf : Int → Bool} {cnt : Nat} {kv : List (Int × Value)}
    (N : News g L' hh ((b, mwO it) :: (it, liO x.sl 0) :: (I, oI) :: (ND, od') :: (SE, so') :: (IT, listOf (iv.toArray.push (.ref b)) e2) :: (ST, listOf (sv.toArray.push (.int (c : Int) t)) e1) :: rest))
    (h : FL w succ nds led ND SE IT ST rest sv iv so od stk fin pf) (hc : TCand succ stk fin pf c) (h1 : c ∉ stk) (h2 : c ∉ fin) (hn : c < nds.length) (hn6 : nds.length ≤ 6) (hx : nds[c]? = some x)
    (hcn : cnt = (stk ++ fin).length) (hSf : ∀ x : Nat, Sf (x : Int) = decide (x ∈ stk ∨ x ∈ fin)) (hso : so'.SetObjOf (intKind theProg w) (fun k' => Sf k' || decide (k' = (c : Int))) (if Sf (c : Int) then cnt else cnt + 1))
    (hkv1 : ∀ (k x : Nat), stk[k]? = some x → ∃ t, valueAt kv (x : Int) = some (.int (k : Int) t)) (hkk : kv.map (·.1) = stk.map Int.ofNat) (hod : od'.IsDictOf (intKind theProg w) (stored kv (c : Int) (.int (sv.length : Int) tt)))
    (l1 : @LT.lt Nat _ I it ∧ @LT.lt Nat _ ND it ∧ @LT.lt Nat _ SE it ∧ @LT.lt Nat _ IT it ∧ @LT.lt Nat _ ST it ∧ AllLt it rest) (l2 : @LT.lt Nat _ it b) (offI : ∀ p ∈ rest, p.1 ≠ I) :
    ∃ rest2, News g L' hh ((I, oI) :: fled ND SE IT ST rest2 (sv ++ [.int (c : Int) t]) (iv ++ [.ref b]) e1 e2 so' od') ∧ FL w succ nds led ND SE IT ST rest2 (sv ++ [.int (c : Int) t]) (iv ++ [.ref b]) so' od' (stk ++ [c]) fin pf ∧ TClean succ (stk ++ [c]) fin pf ∧ ∀ p ∈ rest2, p.1 ≠ I := by
  refine hide ?_
  intro Pz kz
  obtain ⟨i1, i2, i3, i4, i5, i6⟩ := l1
  obtain ⟨a1, a2⟩ := h.pushL (t := t) hc h1 h2 hn hn6 hx hcn hSf hso hkv1 hkk hod i2 i3 i4 i5 (kst_ltOf i6) l2
  refine kz ?_
  clear kz Pz
  rw [List.push_toArray, List.push_toArray] at N
  refine ⟨_, fun p hp => N p ?_, a1, a2, ?_⟩
  · revert p
    k_extra "subl"
  · intro p hp
    revert p
    exact all_cons (neN (by have := ltN i1; have := ltN l2; omega)) (all_cons (neN (by have := ltN i1; omega)) (fun p hp => offI p hp))
theorem nil_or_snoc {α : Type} (l : List α) : l = [] ∨ ∃ l' x, l = l' ++ [x] := by
  rcases List.eq_nil_or_concat l with h | ⟨l', x, h⟩
  · exact .inl h
  · exact .inr ⟨l', x, by rw [h, List.concat_eq_append]⟩
theorem FL.topL (h : FL w succ nds led ND SE IT ST rest sv iv so od (stk ++ [x]) fin pf) : ∃ iv' b it sv' tx nd, iv = iv' ++ [.ref b] ∧ sv = sv' ++ [.int (x : Int) tx] ∧ (b, mwO it) ∈ rest ∧ nds[x]? = some nd ∧ (it, liO nd.sl (pf x)) ∈ rest ∧ (∀ q ∈ led, q.1 ≠ it) := by
  refine hide ?_
  intro Pz kz
  obtain ⟨its, e1, e2, e3, e4⟩ := h.st.its
  refine kz ?_
  clear kz Pz
  rcases nil_or_snoc its with rfl | ⟨its', p, rfl⟩
  · simp at e2
  refine hide ?_
  intro Pz kz
  obtain ⟨b, it⟩ := p
  have hl : its'.length = stk.length := by simpa using e2
  obtain ⟨a1, a2, nd, a3, a4⟩ := e4 its'.length b it x (by simp) (by rw [hl]; simp)
  refine kz ?_
  clear kz Pz
  have hsv := h.st.sv
  rcases nil_or_snoc sv with rfl | ⟨sv', v, rfl⟩
  · have := IntsAre.length hsv; simp at this
  have hsl : (sv' ++ [v]).length = (stk ++ [x]).length := by rw [IntsAre.length hsv]; simp
  have hsl' : sv'.length = stk.length := by simpa using hsl
  refine hide ?_
  intro Pz kz
  obtain ⟨k, t, rfl, hk⟩ := IntsAre.at hsv sv'.length v (by simp)
  refine kz ?_
  clear kz Pz
  have hkx : k = (x : Int) := by
    rw [hsl'] at hk
    simp at hk
    exact hk.symm
  subst hkx
  exact ⟨its'.map (fun p => .ref p.1), b, it, sv', t, nd, by rw [e1]; simp, rfl, a1, a3, a4, a2⟩
theorem ints_init {sv : List Value} {v : Value} {l : List Int} {k : Int} (h : IntsAre (sv ++ [v]) (l ++ [k])) : IntsAre sv l := by
  have hl := IntsAre.length h
  have h1 := IntsAre.take h sv.length
  simp at hl
  rw [List.take_left, hl, List.take_left] at h1
  exact h1
theorem FL.its_last (h : FL w succ nds led ND SE IT ST rest sv iv so od (stk ++ [x]) fin pf) (hu : ∀ p ∈ rest, ∀ q ∈ rest, p.1 = q.1 → p = q) {iv' : List Value} {b it : Addr} (hiv : iv = iv' ++ [.ref b]) (hb : (b, mwO it) ∈ rest) :
    ∃ its' : List (Addr × Addr), iv' = its'.map (fun p => .ref p.1) ∧ its'.length = stk.length ∧ (its'.map (·.2)).Nodup ∧ (∀ p ∈ its', p.2 ≠ it) ∧
      (∀ (k : Nat) (b' it' : Addr) (y : Nat), its'[k]? = some (b', it') → stk[k]? = some y → (b', mwO it') ∈ rest ∧ (∀ q ∈ led, q.1 ≠ it') ∧ ∃ nd, nds[y]? = some nd ∧ (it', liO nd.sl (pf y)) ∈ rest) ∧ (∀ q ∈ led, q.1 ≠ it) ∧ ∃ nd, nds[x]? = some nd ∧ (it, liO nd.sl (pf x)) ∈ rest := by
  refine hide ?_
  intro Pz kz
  obtain ⟨its, e1, e2, e3, e4⟩ := h.st.its
  refine kz ?_
  clear kz Pz
  rcases nil_or_snoc its with rfl | ⟨its', p, rfl⟩
  · simp at e2
  refine hide ?_
  intro Pz kz
  obtain ⟨b0, it0⟩ := p
  have hl : its'.length = stk.length := by simpa using e2
  have e5 : iv' ++ [Value.ref b] = its'.map (fun p => .ref p.1) ++ [.ref b0] := by rw [← hiv, e1]; simp
  obtain ⟨e6, e7⟩ := List.append_inj' e5 rfl
  refine kz ?_
  clear kz Pz
  have e8 : b = b0 := by simpa using e7
  subst e8
  refine hide ?_
  intro Pz kz
  obtain ⟨a1, a2, nd, a3, a4⟩ := e4 its'.length b it0 x (by simp) (by rw [hl]; simp)
  refine kz ?_
  clear kz Pz
  have e9 := hu _ hb _ a1 rfl
  have e10 : it = it0 := by
    have := congrArg (fun p => p.2.data) e9
    simp at this
    exact this
  subst e10
  rw [List.map_append, List.nodup_append] at e3
  refine ⟨its', e6, hl, e3.1, fun p hp => e3.2.2 p.2 (List.mem_map_of_mem hp) it (by simp), fun k b' it' y hk hy => ?_, a2, nd, a3, a4⟩
  have hkl : k < stk.length := (List.getElem?_eq_some_iff.mp hy).1
  exact e4 k b' it' y (by rw [List.getElem?_append_left (by omega)]; exact hk) (by rw [List.getElem?_append_left hkl]; exact hy)
theorem FL.eatL (h : FL w succ nds led ND SE IT ST rest sv iv so od (stk ++ [x]) fin pf) (hu : ∀ p ∈ rest, ∀ q ∈ rest, p.1 = q.1 → p = q) (hcl : TClean succ (stk ++ [x]) fin pf) {c : Nat} (hs : (succ x)[pf x]? = some c) {iv' : List Value} {b it : Addr} {nd : Nd} (hiv : iv = iv' ++ [.ref b]) (hb : (b, mwO it) ∈ rest) (hnd : nds[x]? = some nd) (hi : (it, liO nd.sl (pf x)) ∈ rest) :
    FL w succ nds led ND SE IT ST (updL rest it (liO nd.sl (pf x + 1))) sv iv so od (stk ++ [x]) fin (bump pf x) := by
  refine hide ?_
  intro Pz kz
  obtain ⟨its', f1, f2, f3, f4, f5, f6, -⟩ := h.its_last hu hiv hb
  obtain ⟨hinv, -, -⟩ := h.st.inv.eat hcl (by simp) hs
  refine kz ?_
  clear kz Pz
  have hns : (stk ++ [x]).Nodup := (List.nodup_append.mp h.st.inv.nd).1
  have hxs : x ∉ stk := fun hm => (List.nodup_append.mp hns).2.2 x hm x (by simp) rfl
  have hbit : ∀ {b' it' : Addr}, (b', mwO it') ∈ rest → b' ≠ it := by
    intro b' it' hm e
    have := hu _ hm _ hi e
    have := congrArg (fun p => p.2.cls) this
    simp at this
  have off : ∀ {Z : Addr}, (∀ p ∈ rest, p.1 ≠ Z) → ∀ p ∈ updL rest it (liO nd.sl (pf x + 1)), p.1 ≠ Z := by
    intro Z hz p hp
    revert p
    exact all_cons (fun e => hz _ hi e) (fun p hp => hz p (List.mem_filter.mp hp).1)
  refine ⟨⟨hinv, h.st.sv, h.st.so, h.st.od, ?_⟩, fun q hq => mem_updL (h.sub q hq) (f6 q hq), off h.oND, off h.oSE, off h.oIT, off h.oST⟩
  refine ⟨its' ++ [(b, it)], by rw [hiv, f1]; simp, by simp [f2], ?_, ?_⟩
  · rw [List.map_append, List.nodup_append]
    refine ⟨f3, by simp, ?_⟩
    intro a ha c' hc'
    simp at hc'
    subst hc'
    refine hide ?_
    intro Pz kz
    obtain ⟨p, hp, rfl⟩ := List.mem_map.mp ha
    refine kz ?_
    clear kz Pz
    exact f4 p hp
  · intro k b' it' y hk hy
    by_cases hkl' : k < stk.length
    · rw [List.getElem?_append_left (by omega)] at hk
      rw [List.getElem?_append_left hkl'] at hy
      refine hide ?_
      intro Pz kz
      obtain ⟨a1, a2, nd', a3, a4⟩ := f5 k b' it' y hk hy
      refine kz ?_
      clear kz Pz
      have hyx : y ≠ x := fun e => hxs (e ▸ List.mem_of_getElem? hy)
      refine ⟨mem_updL a1 (hbit a1), a2, nd', a3, mem_updL ?_ (f4 _ (List.mem_of_getElem? hk))⟩
      simp only [bump, if_neg hyx]; exact a4
    · have hk0 : k = stk.length := by
        have := (List.getElem?_eq_some_iff.mp hy).1
        simp at this; omega
      subst hk0
      rw [List.getElem?_append_right (by omega)] at hk hy
      simp [f2] at hk hy
      refine hide ?_
      intro Pz kz
      obtain ⟨rfl, rfl⟩ := hk
      refine kz ?_
      clear kz Pz
      subst hy
      refine ⟨mem_updL hb (hbit hb), f6, nd, hnd, ?_⟩
      simp only [bump, if_pos]; exact self_updL
theorem FL.popL (h : FL w succ nds led ND SE IT ST rest sv iv so od (stk ++ [x]) fin pf) (hu : ∀ p ∈ rest, ∀ q ∈ rest, p.1 = q.1 → p = q) (hcl : TClean succ (stk ++ [x]) fin pf) (hs : (succ x)[pf x]? = none) {sv' iv' : List Value} {v : Value} {b it : Addr} (hsv : sv = sv' ++ [v]) (hiv : iv = iv' ++ [.ref b]) (hb : (b, mwO it) ∈ rest)
    {kv : List (Int × Value)} (hkk : kv.map (·.1) = (stk ++ [x]).map Int.ofNat) (hkv1 : ∀ (k x' : Nat), (stk ++ [x])[k]? = some x' → ∃ t, valueAt kv (x' : Int) = some (.int (k : Int) t)) (hod : od'.IsDictOf (intKind theProg w) (without kv (x : Int))) :
    FL w succ nds led ND SE IT ST (rest.filter fun q => decide (q.1 ≠ it)) sv' iv' so od' stk (fin ++ [x]) pf ∧ TClean succ stk (fin ++ [x]) pf := by
  refine hide ?_
  intro Pz kz
  obtain ⟨its', f1, f2, f3, f4, f5, f6, nd, hnd, hi⟩ := h.its_last hu hiv hb
  obtain ⟨hinv, hcl'⟩ := h.st.inv.pop hcl hs
  refine kz ?_
  clear kz Pz
  have hns : (stk ++ [x]).Nodup := (List.nodup_append.mp h.st.inv.nd).1
  have hxs : x ∉ stk := fun hm => (List.nodup_append.mp hns).2.2 x hm x (by simp) rfl
  have keep : ∀ {q : Addr × Obj}, q ∈ rest → q.1 ≠ it → q ∈ rest.filter fun q => decide (q.1 ≠ it) := fun hq hne => List.mem_filter.mpr ⟨hq, by simpa using hne⟩
  have hbit : ∀ {b' it' : Addr}, (b', mwO it') ∈ rest → b' ≠ it := by
    intro b' it' hm e
    have := hu _ hm _ hi e
    have := congrArg (fun p => p.2.cls) this
    simp at this
  have off : ∀ {Z : Addr}, (∀ p ∈ rest, p.1 ≠ Z) → ∀ p ∈ rest.filter fun q => decide (q.1 ≠ it), p.1 ≠ Z := fun hz p hp => hz p (List.mem_filter.mp hp).1
  refine ⟨⟨⟨hinv, ?_, ?_, ?_, ?_⟩, fun q hq => keep (h.sub q hq) (f6 q hq), off h.oND, off h.oSE, off h.oIT, off h.oST⟩, hcl'⟩
  · have := h.st.sv
    rw [hsv, List.map_append] at this
    exact ints_init this
  · refine hide ?_
    intro Pz kz
    obtain ⟨Sf, c, h1, h2, h3, h4⟩ := h.st.so
    refine kz ?_
    clear kz Pz
    refine ⟨Sf, c, h1, h2, by rw [h3]; simp <;> omega, fun y => ?_⟩
    rw [h4]
    simp only [List.mem_append, List.mem_singleton, decide_eq_decide]
    constructor
    · rintro ((h | h) | h)
      · exact .inl h
      · exact .inr (.inr h)
      · exact .inr (.inl h)
    · rintro (h | h | h)
      · exact .inl (.inl h)
      · exact .inr h
      · exact .inl (.inr h)
  · refine ⟨_, hod, without_keys hkk hns, fun k y hk => ?_⟩
    have hkl : k < stk.length := (List.getElem?_eq_some_iff.mp hk).1
    refine hide ?_
    intro Pz kz
    obtain ⟨t, ht⟩ := hkv1 k y (by rw [List.getElem?_append_left hkl]; exact hk)
    refine kz ?_
    clear kz Pz
    have hne : ¬ ((y : Int) = (x : Int)) := by
      intro e
      have : y = x := by omega
      exact hxs (this ▸ List.mem_of_getElem? hk)
    exact ⟨t, by rw [va_without_ne hne]; exact ht⟩
  · refine ⟨its', f1, f2, f3, fun k b' it' y hk hy => ?_⟩
    refine hide ?_
    intro Pz kz
    obtain ⟨a1, a2, nd', a3, a4⟩ := f5 k b' it' y hk hy
    refine kz ?_
    clear kz Pz
    exact ⟨keep a1 (hbit a1), a2, nd', a3, keep a4 (f4 _ (List.mem_of_getElem? hk))⟩
end
section
open PySem.Calls
theorem kse_inB {prog : Program} {w : World} {A : Around} {E : Value → Shared → Prop} {s : Shared} {h₀ : Heap} {L sa : Addr} {news : List (Addr × Obj)} {g : Obj → List (Addr × Obj)} {so : Obj} {Sf : Int → Bool} {n : Nat} {k : Int} {t : Tok} {Q : Value → Shared → Prop} (N : News h₀ L s.heap news) (U : UpdF sa so news g) (hso : so.SetObjOf (intKind prog w) Sf n) (hb : n ≤ 6) (b : Bool) (hv : Sf k = b) (h : Q (.bool b) { s with toks := s.toks + 1 }) :
    wpAny (model prog w) A (compareOp .In (.int k t) (.ref sa)) Q E s := kse_in (knd := intKind prog w) N U hso (by unfold scanBound; omega) (intKind_is _ _ _ _) rfl (by rw [hv]; exact h)
variable {prog : Program} {w : World} {A : Around} {E : Value → Shared → Prop} {s : Shared} {h₀ : Heap} {L it l : Addr} {m : Str → Option Value} {news : List (Addr × Obj)} {i n : Nat} {items : Array Value}
theorem iter_listN {Q : Value → Shared → Prop} (F : Fr h₀ L s.heap m) (N : News h₀ L s.heap news) (hl : (l, listOf items n) ∈ news)
    (h : ∀ (I : Addr) h', Fr h₀ L h' m → News h₀ L h' ((I, liO l 0) :: news) → (∀ p ∈ news, p.1 < I) → Q (.ref I) { s with heap := h' }) : wpAny (model prog w) A (call (.builtin "iter") [.ref l]) Q E s := by
  refine call_function_entry (by decide +kernel) (by decide +kernel) kdk_entry_iter (kdk_args_iter _) ?_
  unfold Builtin.«iter»
  refine wpAny_bind (m := someArgs "iter" 1 2 _) (wpAny_of_eq (a := [Value.ref l]) (by first | rfl | kernel_rfl!) ?_)
  show wpAny _ _ (pyIter (.ref l) >>= _) _ _ _
  refine wpAny_bind (wpAny_pyIter_list ⟨_, (N _ hl).1, rfl, _, rfl⟩ ?_)
  exact wpAny_pure ⟨_, rfl, h _ _ (F.push _) (News.push F N _ rfl) (fun q hq => Heap.lt_size (N q hq).1)⟩
theorem slice_fromN {value slice : PySem.Expr} {sv : List Value} {k e : Nat} {t : Tok} {Q : Value → Shared → Prop} (F : Fr h₀ L s.heap m) (N : News h₀ L s.heap news) (hl : (l, listOf sv.toArray e) ∈ news) (hk : k < sv.length) (hz : sv.length ≤ 6)
    (h : ∀ (r : Addr) h', Fr h₀ L h' m → News h₀ L h' ((r, listOf (sv.drop k).toArray 0) :: news) → (∀ p ∈ news, p.1 < r) → Q (.ref r) { s with heap := h' })
    (hs : subscripted slice false (.ref l) (.ref s.heap.objs.size) = operate [.ref s.heap.objs.size, .ref l] (getItem (.ref l) (.ref s.heap.objs.size)) := by with_unfolding_all rfl)
    (ht : ∀ r, letTemporaryGo value (.ref l) r = pure () := by intro _; with_unfolding_all rfl) :
    wpAny (model prog w) A (subscriptTail value slice (.ref l) (.ref s.heap.objs.size)) Q E { s with heap := s.heap.push { cls := .type "slice", data := .fields #[.int (k : Int) t, .none, .none] } } := by
  have e1 : slicePick sv.toArray (some (k : Int)) none none = (sv.drop k).toArray := by rw [slicePick_from _ _ (by simp; omega)]
  refine slice_list F N (News.isList N hl) (.int _ _) .none (fun h' F' N' => ?_) hs ht (by rw [sizeLine_eq]; simp; omega)
  rw [e1] at N'
  exact h _ h' F' N' fun p hp => Nat.lt_succ_of_lt (Heap.lt_size (N p hp).1)
theorem add_listsN {b : Addr} {vs ws : List Value} {n1 n2 : Nat} {Q : Value → Shared → Prop} (F : Fr h₀ L s.heap m) (N : News h₀ L s.heap news) (hl : (l, listOf vs.toArray n1) ∈ news) (hb : (b, listOf ws.toArray n2) ∈ news) (hz : vs.length + ws.length ≤ 100)
    (h : ∀ (r : Addr) h', Fr h₀ L h' m → News h₀ L h' ((r, listOf (vs ++ ws).toArray 0) :: news) → (∀ p ∈ news, p.1 < r) → Q (.ref r) { s with heap := h' }) :
    wpAny (model prog w) A (binaryOp .Add (.ref l) (.ref b)) Q E s :=
  add_lists F N (News.isList N hl) (News.isList N hb) (fun h' F' N' => h _ h' F' N' fun p hp => Heap.lt_size (N p hp).1) (by rw [sizeLine_eq]; omega)
theorem item_last {value slice : PySem.Expr} {pre : List Value} {v : Value} {vs : List Value} {k : Nat} {u : Tok} {Q : Value → Shared → Prop} (N : News h₀ L s.heap news) (hm : (l, listOf vs.toArray k) ∈ news) (hx : vs = pre ++ [v]) (hz : vs.length ≤ 6) (h : Q v s)
    (hs : subscripted slice false (.ref l) (.int (-1) u) = operate [.ref l, .int (-1) u] (getItem (.ref l) (.int (-1) u)) := by with_unfolding_all rfl) :
    wpAny (model prog w) A (subscriptTail value slice (.ref l) (.int (-1) u)) Q E s := by
  have hl : s.heap.IsList l vs.toArray := News.isList N hm
  subst hx
  exact tail_any hl.typeIs slot_list_getitem.lookup (wpAny_getItem_list_neg hl (by omega) (by simp; omega) (by omega) (by simp; rw [show (-1 + ((pre.length : Int) + 1)).toNat = pre.length by omega]; simp) h) hs
theorem truthy_listN {vs : List Value} {e : Nat} {Q : Bool → Shared → Prop} (N : News h₀ L s.heap news) (hl : (l, listOf vs.toArray e) ∈ news) (hz : vs.length ≤ 6) (b : Bool) (hb : (!vs.isEmpty) = b) (h : ∀ tk, Q b { s with toks := tk }) : wpAny (model prog w) A (truthy (.ref l)) Q E s := by
  refine wpAny_truthy_list (News.isList N hl) (by simp; omega) ?_
  have e : (!vs.toArray.isEmpty) = b := by rw [← hb]; cases vs <;> simp
  rw [e]; exact h _
theorem callWith_mw {pos : Pos} {b : Addr} {env : Env} {Q : Value → Shared → Prop} (N : News h₀ L s.heap news) (hm : (b, mwO it) ∈ news) (h : wpAny (model prog w) A (call (.ref b) []) Q E s) : wpAny (model prog w) A (callWith pos (.ref b) [] (backTo pos (starEach [] env)) []) Q E s := by
  show wpAny _ _ (callWith pos (.ref b) [] [] []) _ _ _
  unfold callWith
  refine wpAny_bind (wpAny_holding (evalArgs_nil3 (wpAny_bind (wpAny_standAt ?_))))
  refine wpAny_bind (m := keeperOf (.ref b)) ?_
  unfold keeperOf
  refine wpAny_bind (wpAny_load (N _ hm).1 ?_)
  dsimp only
  rw [if_pos (by decide)]
  refine wpAny_pure ?_
  exact wpAny_bind (wpAny_mono h (fun r s₂ hr => wpAny_bind (wpAny_holding (wpAny_point (wpAny_pure hr)))) fun _ _ x => x)
theorem pop_last {D : Addr} {p : List Value} {y : Value} {e : Nat} {news' : List (Addr × Obj)} {Q : Value → Shared → Prop} (F : Fr h₀ L s.heap m) (N : News h₀ L s.heap news) (U : Upd D (listOf (p ++ [y]).toArray e) (listOf p.toArray (e + 1)) news news') (hz : (p ++ [y]).length ≤ 6)
    (h : ∀ h', Fr h₀ L h' m → News h₀ L h' news' → Q y { s with heap := h' }) : wpAny (model prog w) A (call (.builtin "list.pop") [.ref D]) Q E s :=
  kl_pop F N (p := p) (y := y) (by simpa using kpa_last y p) U (by rw [sizeLine_eq]; simp at hz ⊢; omega) h
theorem notTuple_stop : isSubtype (.type ((Manifest.find? "StopIteration").elim "type" fun x => x.metatype)) (.type "tuple") = pure false := by
  rw [isSubtype_type]; kernel_rfl
theorem getattr_nextN {Q : Value → Shared → Prop} (F : Fr h₀ L s.heap m) (N : News h₀ L s.heap news) (hi : (it, liO l i) ∈ news)
    (h : ∀ (b : Addr) h', Fr h₀ L h' m → News h₀ L h' ((b, mwO it) :: news) → (∀ p ∈ news, p.1 < b) → Q (.ref b) { s with heap := h', toks := s.toks + 1 }) : wpAny (model prog w) A (getAttr (.ref it) "__next__" true) Q E s := by
  refine hide ?_
  intro Pz kz
  obtain ⟨hp, g, d, tk, os⟩ := s
  refine kz ?_
  clear kz Pz
  exact getattr_next (N _ hi).1 (h _ _ (F.push _) (News.push F N _ rfl) (fun q hq => Heap.lt_size (N q hq).1))
end
theorem Mine.w_Find_2 : True := by
  (k_with "tb_rel" => ((with_reducible show wpAny _ _ (call (Value.builtin "iter") [Value.ref _]) _ _ _); k_dflt (refine' iter_listN (by k_asm) (by k_asm) (by k_mem) ?_); intro i'w h'w F'w N'w l1w; (try k_lt l1w)))
  (k_with "tb_rel" => ((with_reducible show wpAny _ _ (getAttr (Value.ref _) (Str.ofString "__next__") _) _ _ _); k_dflt (refine' getattr_nextN (by k_asm) (by k_asm) (by k_mem) ?_); intro i'w h'w F'w N'w l1w; (try k_lt l1w)))
  (k_with "tb_rel" => ((with_reducible show wpAny _ _ (compareOp CmpOp.In (Value.int _ _) (Value.ref _)) _ _ _); k_dflt (refine' kda_in (knd := intKind _ _) (by k_asm) (by k_mem) (by assumption) (by assumption) (intKind_is _ _ _ _) _ (by assumption) ?_); (try dsimp only)))
  (k_with "tb_rel" => ((with_reducible show wpAny _ _ (compareOp CmpOp.In (Value.int _ _) (Value.ref _)) _ _ _); k_dflt (refine' kse_inB (by k_asm) (by k_updF) (by assumption) (by assumption) _ (by assumption) ?_); (try dsimp only)))
  (k_with "tb_rel" => ((with_reducible show wpAny _ _ (call (Value.builtin "list.append") [Value.ref _, _]) _ _ _); k_dflt (refine' append_K (by k_asm) (by k_asm) (by k_upd) ?_ (by (rw [sizeLine_eq]; simp; omega))); intro h'w F'w N'w))
  (k_with "tb_rel" => ((with_reducible show wpAny _ _ (call (Value.builtin "len") [Value.ref _]) _ _ _); k_dflt (refine' PyProof.Rows.len_list (by exact News.isList (by k_asm) (by k_mem)) (by simp; omega) ?_); (try dsimp only)))
  (k_with "tb_rel" => ((with_reducible show wpAny _ _ (setItem (Value.ref _) (Value.int _ _) _) _ _ _); k_dflt (refine' kda_set (knd := intKind _ _) (by k_asm) (by k_asm) (by k_updF) (by assumption) (intKind_is _ _ _ _) (by (rw [sizeLine_eq]; omega)) ?_); intro h'w o'w F'w N'w hd'w; (try dsimp only at N'w)))
  (k_with "tb_rel" => ((with_reducible show wpAny _ _ (subscriptTail _ _ (Value.ref _) (Value.ref _)) _ _ _); k_dflt (refine' slice_fromN (by k_asm) (by k_asm) (by k_mem) (by assumption) (by assumption) ?_); intro r'w h'w F'w N'w l1w; (try k_lt l1w)))
  (k_with "tb_rel" => ((with_reducible show wpAny _ _ (binaryOp Operator.Add (Value.ref _) (Value.ref _)) _ _ _); k_dflt (refine' add_listsN (by k_asm) (by k_asm) (by k_mem) (by k_mem) (by (simp; omega)) ?_); intro r'w h'w F'w N'w l1w; (try k_lt l1w)))
  (k_with "tb_rel" => ((with_reducible show wpAny _ _ (subscriptTail _ _ (Value.ref _) (Value.int (-1) _)) _ _ _); k_dflt (refine' item_last (by k_asm) (by k_mem) (by assumption) (by assumption) ?_); (try dsimp only)))
  (k_with "PostW" => (dsimp only [PostW]))
  (k_with "PostG" => (dsimp only [PostG]))
  (k_with "tb_rel" => ((with_reducible show wpAny _ _ (truthy (Value.ref _)) _ _ _); k_dflt (refine' truthy_listN (by k_asm) (by k_mem) (by assumption) _ (by assumption) ?_); intro tk'w; (try dsimp only)))
  (k_with "tb_rel" => ((with_reducible show wpAny _ _ (callWith _ (Value.ref _) [] _ []) _ _ _); k_dflt (refine' callWith_mw (by k_asm) (by k_mem) ?_)))
  (k_with "tb_rel" => ((with_reducible show wpAny _ _ (call (Value.builtin "list.pop") [Value.ref _]) _ _ _); k_dflt (refine' pop_last (by k_asm) (by k_asm) (by k_upd) (by assumption) ?_); intro h'w F'w N'w))
  (k_with "tb_rel" => ((with_reducible show wpAny _ _ (delItem (Value.ref _) (Value.int _ _)) _ _ _); k_dflt (refine' kob_del (knd := intKind _ _) (by k_asm) (by k_asm) (by k_updF) (by assumption) (intKind_is _ _ _ _) (by assumption) (by (rw [sizeLine_eq]; omega)) ?_); intro h'w o'w F'w N'w hd'w; (try dsimp only at N'w)))
  trivial
/-- what holds between the turns of the search's three loops -/
inductive JF1 (w : World) (succ : Nat → List Nat) (nds : List Nd) (led : List (Addr × Obj)) (ND SE IT ST : Addr) (Gd : Heap → Prop) (i : Nat) (g : Heap) (nx : List (Addr × Obj)) : Prop
  | mk (sv : List Value) (e1 : Nat) (iv : List Value) (e2 : Nat) (so od : Obj) (rest : List (Addr × Obj)) (fin : List Nat) (pf : Nat → Nat) (e : nx = fled ND SE IT ST rest sv iv e1 e2 so od) (hfl : FL w succ nds led ND SE IT ST rest sv iv so od [] fin pf) (hfin : ∀ j, j < i → j ∈ fin) (G : Gd g)
inductive JF2 (w : World) (succ : Nat → List Nat) (nds : List Nd) (led : List (Addr × Obj)) (ND SE IT ST I : Addr) (oI : Obj) (Gd : Heap → Prop) (i n : Nat) (g : Heap) (u : Option Value) (nx : List (Addr × Obj)) : Prop
  | mk (c : Nat) (t : Tok) (sv : List Value) (e1 : Nat) (iv : List Value) (e2 : Nat) (so od : Obj) (rest : List (Addr × Obj)) (stk fin : List Nat) (pf : Nat → Nat) (hu : u = some (.int (c : Int) t)) (e : nx = (I, oI) :: fled ND SE IT ST rest sv iv e1 e2 so od) (hfl : FL w succ nds led ND SE IT ST rest sv iv so od stk fin pf) (hc : TCand succ stk fin pf c) (hl : c < nds.length) (hs : stk = [] → c ∉ fin) (hn : n = remE succ nds.length pf) (hfin : ∀ j, j < i → j ∈ fin) (hi : i ∈ fin ∨ i ∈ stk ∨ (stk = [] ∧ c = i)) (off : ∀ p ∈ rest, p.1 ≠ I) (G : Gd g)
inductive JF3 (w : World) (succ : Nat → List Nat) (nds : List Nd) (led : List (Addr × Obj)) (ND SE IT ST I : Addr) (oI : Obj) (Gd : Heap → Prop) (i R n : Nat) (g : Heap) (u : Option Value) (nx : List (Addr × Obj)) : Prop
  | mk (sv : List Value) (e1 : Nat) (iv : List Value) (e2 : Nat) (so od : Obj) (rest : List (Addr × Obj)) (stk fin : List Nat) (pf : Nat → Nat) (e : nx = (I, oI) :: fled ND SE IT ST rest sv iv e1 e2 so od) (hfl : FL w succ nds led ND SE IT ST rest sv iv so od stk fin pf) (hc : TClean succ stk fin pf) (hn : n = stk.length) (hR : remE succ nds.length pf ≤ R) (hfin : ∀ j, j < i → j ∈ fin) (hi : i ∈ fin ∨ i ∈ stk) (off : ∀ p ∈ rest, p.1 ≠ I) (G : Gd g)
section
variable {w : World} {mean : ExcName → Option Value} {mg mb : Str → Option Value} {gd : Option (List Code)} {cn : Str} {nms : List (Str × NameKind)} {mr : List (Str × Const)} {a : Addr} {ccd : Value} {cl : List (Str × Addr)} {outer : List Env} {A₀ : Around} {base h₀ : Heap} {L : Addr} {m : Str → Option Value} {s : Shared} {Q E : Value → Shared → Prop} {news : List (Addr × Obj)}
variable {led : List (Addr × Obj)} {S dS D : Addr} {nds : List Nd} {rv pv fv : Value}
theorem c_find (B : Below A₀ base outer h₀) (F : Fr h₀ L s.heap m) (X : (Mine.pre.heap_1_1 w.params).In h₀) (N : News h₀ L s.heap led) (T : Top Mine.pre.view_1_2 (looseW Mine.pre.view_1_2 [Str.ofString "_NodeInfo"]) mean mg mb h₀)
   (D₀ : KtsDicts (frs outer) h₀) (XB : (Mine.pre.heap_1_1 w.params).In base) (TB : Top Mine.pre.view_1_2 (looseW Mine.pre.view_1_2 [Str.ofString "_NodeInfo"]) mean mg mb base)
   (hS : SAt w led S dS D nds rv pv fv) (succ : Nat → List Nat) (hsu : ∀ i x, nds[i]? = some x → IntsAre x.its ((succ i).map Int.ofNat)) (hlt : ∀ i, i < nds.length → ∀ j ∈ succ i, j < nds.length) (h6 : nds.length ≤ 6)
   (hQ : ∀ v h₀' h' tk' led', KtsTurn (frs outer) h₀ h₀' → Fr h₀' L h' m → News h₀' L h' led' → (∀ q ∈ led, q ∈ led') → Below A₀ base outer h₀' → KtsDicts (frs outer) h₀' → FcRes succ nds.length v led' → Q v { s with heap := h', toks := tk' }) :
   wpAny (model PySem.Challenge.rw_nb0264_01.row.prog w) (ktrTop 308 40 gd cn ⟨.function, nms, false, false, mr⟩ L a ccd cl outer) (call (.ref 169) [.ref S]) Q E s := by
  refine hide ?_
  intro Pz kz
  obtain ⟨t1, t2, t3, t4, oD, m1, m2, m3, hD⟩ := hS.top
  refine kz ?_
  clear kz Pz
  have hlow := hS.low
  refine wpAny_call ?_
  k_dflt (refine' enterS ?k1 ?k2 ?k3 ?k4 ?k5 ?kT ?kA ?kF ?kK ?k6 ?k7 ?k8 ?k9 ?kB ?_ ?c2 ?c3 ?c4 ?c5; (case kA => exact rfl); (case kF => exact rfl); (case kK => exact rfl); (case k1 => k_asm); (case k2 => k_asm); (case k3 => k_asm); (case k4 => k_asm); (case k5 => k_asm); (case kT => assumption); (case k6 => k_is); (case k7 => k_is); (case k8 => k_room); (case k9 => first | exact BindsTo.of_eq rfl | exact binds_K (by k_in) rfl (by k_is) rfl rfl rfl); (case kB => exact locs rfl); (case c5 => decide); (case c2 => exact rfl); (case c3 => exact rfl); (case c4 => exact rfl); k_whole)
  intro g₁ L' h₁ FG' F' N' B' X' T' D'
  clear N F X T
  (try dsimp only); (try k_lift B'); (try k_fold)
  (try ((with_reducible show wpAny _ _ _ _ _ _); generalize hA1 : Around.deeper _ _ = A1; revert A1; refine letEq ?_; intro A1))
  ktr_unf
  rename_i ST ha l1a hb tka IT hc l1b hd' SE he ledb hsA hz l1c hf ND hg oND loN hsB fs hi fi l1d Fx Nx hh
  refine wpAny_For ?_
  ktr_unf
  (rename Fr _ _ _ _ => lF'); (rename News _ _ _ _ => lN')
  have lab : @LT.lt Nat _ ST IT := l1b.1
  have lbc : @LT.lt Nat _ IT SE := l1c.1
  have lcd : @LT.lt Nat _ SE ND := l1d.1
  have G₁ : Gnd (ktrTop 308 40 gd cn ⟨.function, nms, false, false, mr⟩ L a ccd cl outer) base (envX cn ⟨.function, nms, false, false, mr⟩ L a ccd cl :: outer) g₁ g₁ := ⟨KtsTurn.refl, B', D'⟩
  refine hide ?_
  intro Pz kz
  obtain ⟨Gd, hGd⟩ : ∃ Gd : Heap → Prop, ∀ g, Gd g ↔ Gnd (ktrTop 308 40 gd cn ⟨.function, nms, false, false, mr⟩ L a ccd cl outer) base (envX cn ⟨.function, nms, false, false, mr⟩ L a ccd cl :: outer) g₁ g := ⟨fun g => Gnd (ktrTop 308 40 gd cn ⟨.function, nms, false, false, mr⟩ L a ccd cl outer) base (envX cn ⟨.function, nms, false, false, mr⟩ L a ccd cl :: outer) g₁ g, fun _ => Iff.rfl⟩
  replace G₁ := (hGd _).mpr G₁
  refine kz ?_
  clear kz Pz
  clear B' X' T' D' D₀
  refine keysG1 (D := D) (oD := oD) (kv := kvs nds) (JF1 w succ nds led ND SE IT ST Gd) rfl ?hE rfl rfl ?hD hD hlow lF' lN' ?hj ?hJD ?turn ?done
  case hE => first | passes_own | with_unfolding_all passes_own
  case hD => k_mem
  case hj => exact ⟨[], 0, [], 0, _, _, led, [], fun _ => 0, rfl, ⟨fl_init hsA (fun _ => rfl) hi, fun _ h => h, lt_ne l1a (by omega), lt_ne l1a (by omega), lt_ne l1a (by omega), lt_ne l1a (by omega)⟩, fun j hj => absurd hj (Nat.not_lt_zero _), G₁⟩
  case hJD => rintro i g nx ⟨sv, e1, iv, e2, so, od, rest, fin, pf, rfl, hfl, -, -⟩; exact .tail _ (.tail _ (.tail _ (.tail _ (hfl.sub _ m3))))
  · intro i k t v g nx I oI h tk hik hkv off hz0 F2 N2
    refine hide ?_
    intro Pz kz
    obtain ⟨sv, e1, iv, e2, so, od, rest, fin, pf, rfl, hfl, hfin, G⟩ := hz0
    refine kz ?_
    clear kz Pz
    (try k_fold)
    refine hide ?_
    intro Pz kz
    obtain ⟨rfl, hin⟩ := kvs_at hkv
    obtain ⟨Sf, cnt, hso, hc6, hcn, hSf⟩ := hfl.st.so
    obtain ⟨kv, hod, hkk, hkv1⟩ := hfl.st.od
    refine kz ?_
    clear kz Pz
    have nIND : @Ne Nat I ND := fun e => off _ (.head _) e.symm
    have nISE : @Ne Nat I SE := fun e => off _ (.tail _ (.head _)) e.symm
    have nIIT : @Ne Nat I IT := fun e => off _ (.tail _ (.tail _ (.head _))) e.symm
    have nIST : @Ne Nat I ST := fun e => off _ (.tail _ (.tail _ (.tail _ (.head _)))) e.symm
    have offI : ∀ p ∈ rest, p.1 ≠ I := fun p hp => off p (.tail _ (.tail _ (.tail _ (.tail _ hp))))
    have oND := hfl.oND
    have oSE := hfl.oSE
    have oIT := hfl.oIT
    have oST := hfl.oST
    ktr_unf
    · rename Sf _ = true => hseen
      rw [hSf] at hseen
      have hseen' : i ∈ fin := by simpa using hseen
      (try dsimp only [PostG])
      refine EndG.intro (by k_asm) (by k_asm) _ (fun _ hp => hp) off ⟨⟨_, rfl⟩, sv, e1, iv, e2, so, od, rest, fin, pf, rfl, hfl, fun j hj => ?_, G⟩
      rcases Nat.lt_succ_iff_lt_or_eq.mp hj with h4 | rfl
      · exact hfin j h4
      · exact hseen'
    rename Sf _ = false => hseen
    rw [hSf] at hseen
    have hseen' : i ∉ fin := by simpa using hseen
    clear hsA hz hso hSf hseen hod hkv1 hkk hi fi hsB fs
    (rename Fr _ _ _ _ => lF'); (rename News _ _ _ _ => lN')
    refine whileG (JF2 w succ nds led ND SE IT ST I oI Gd i) (Str.ofString "node") _ ?hE2 lF' lN' ⟨i, t, sv, e1, iv, e2, so, od, rest, [], fin, pf, rfl, rfl, hfl, fun x hx => by simp at hx, hin, fun _ => hseen', rfl, hfin, .inr (.inr ⟨rfl, rfl⟩), offI, G⟩ ?turn2
    case hE2 => first | passes_own | with_unfolding_all passes_own
    clear lN' lF' hfl hfin hseen' oND oSE oIT oST offI G hkv off
    clear hcn hc6
    clear sv e1 iv e2 so od rest fin pf kv cnt
    intro n g u nx h tk hz0 F2 N2
    refine hide ?_
    intro Pz kz
    obtain ⟨c, t, sv, e1, iv, e2, so, od, rest, stk, fin, pf, rfl, rfl, hfl, hcand, hcn, hsf, rfl, hfin, hi3, offI, G⟩ := hz0
    refine kz ?_
    clear kz Pz
    generalize hR : remE succ nds.length pf = R
    (try k_fold)
    refine hide ?_
    intro Pz kz
    obtain ⟨Sf, cnt, hso, hc6, hcnt, hSf⟩ := hfl.st.so
    obtain ⟨kv, hod, hkk, hkv1⟩ := hfl.st.od
    have hkv2 : ∀ y : Nat, y ∉ stk → valueAt kv (y : Int) = none := fun y hy => va_none hkk hy
    have hkl : kv.length = stk.length := by have := congrArg List.length hkk; simpa using this
    have oND := hfl.oND
    have oSE := hfl.oSE
    have oIT := hfl.oIT
    have oST := hfl.oST
    have Xg := XB.keeps ((hGd _).mp G).below.stays
    have Tg := TB.keeps ((hGd _).mp G).below.stays
    obtain ⟨x, hx⟩ : ∃ x, nds[c]? = some x := ⟨_, List.getElem?_eq_getElem hcn⟩
    have hSr : SAt w rest S dS D nds rv pv fv := hS.mono hfl.sub
    have hval := hSr.value hx
    obtain ⟨n1, n2, n3⟩ := hSr.nd hx
    have m3' := hfl.sub _ m3
    have hsvl : sv.length = stk.length := by rw [IntsAre.length hfl.st.sv]; simp
    have hsk6 : stk.length ≤ 6 := by have := hcnt ▸ hc6; rw [List.length_append] at this; omega
    have hsv6 : sv.length ≤ 6 := by omega
    obtain ⟨its, hiv, hitl, hitn, hits⟩ := hfl.st.its
    refine kz ?_
    clear kz Pz
    have hiv6 : iv.length ≤ 6 := by rw [hiv, List.length_map]; omega
    by_cases hcs : c ∈ stk
    · refine hide ?_
      intro Pz kz
      obtain ⟨k, hk⟩ := List.getElem?_of_mem hcs
      obtain ⟨tv, hvk⟩ := hkv1 k c hk
      refine kz ?_
      clear kz Pz
      have hSc : Sf (c : Int) = true := by rw [hSf]; simp [hcs]
      have hIc : (valueAt kv (c : Int)).isSome = true := by rw [hvk]; rfl
      have hkl' : k < sv.length := by have := (List.getElem?_eq_some_iff.mp hk).1; rw [IntsAre.length hfl.st.sv]; simpa using this
      ktr_unf
      refine ⟨g, L', _, _, ((hGd _).mp G).turn, by assumption, by assumption, fun h₀' T2 F3 N3 B3 D3 => hQ _ h₀' _ _ _ T2 F3 N3 (fun q hq => ?_) B3 D3 (.inr ⟨_, sv.drop k ++ [.int (c : Int) t], 0, stk.drop k ++ [c], rfl, ?_, ?_, hfl.st.inv.ring hcand hk⟩)⟩
      · simp [hfl.sub q hq]
      · simp
      · rw [List.map_append, List.map_drop]; exact IntsAre.append (IntsAre.drop hfl.st.sv k) (.cons _ _ .nil)
    have hIc : (valueAt kv (c : Int)).isSome = false := by rw [hkv2 c hcs]; rfl
    have hi3a : stk ≠ [] → (i ∈ fin ∨ i ∈ stk) := fun hne => by
      rcases hi3 with h | h | h
      · exact .inl h
      · exact .inr h
      · exact absurd h.1 hne
    have hi3b : i ∈ fin ∨ i ∈ stk ++ [c] := by
      rcases hi3 with h | h | h
      · exact .inl h
      · exact .inr (List.mem_append_left _ h)
      · exact .inr (by rw [h.2]; simp)
    refine' later (fun turn => ?mainB) ?turnB
    case mainB =>
      by_cases hcf : c ∈ fin
      · have hSc : Sf (c : Int) = true := by rw [hSf]; simp [hcf]
        have hne : stk ≠ [] := fun e => hsf e hcf
        have hi3' := hi3a hne
        ktr_unf
        (rename Fr _ _ _ _ => lF'); (rename News _ _ _ _ => lN')
        have NN := lN'
        refine whileG2 (s₀ := s) (JF3 w succ nds led ND SE IT ST I oI Gd i R) (Str.ofString "node") _ ?hE3 lF' NN ⟨sv, e1, iv, e2, so, od, rest, stk, fin, pf, rfl, hfl, hcand.clean hcf, rfl, Nat.le_of_eq hR, hfin, hi3', offI, G⟩ turn.out
        case hE3 => first | passes_own | with_unfolding_all passes_own
      · have hSc : Sf (c : Int) = false := by rw [hSf]; simp [hcf, hcs]
        have hi3' := hi3b
        ktr_unf
        (rename Fr _ _ _ _ => lF'); (rename News _ _ _ _ => lN')
        rename Obj.IsDictOf _ _ (stored _ _ _) => hod'
        rename Obj.SetObjOf _ _ _ _ => hso'
        rename @LT.lt _ _ I _ ∧ _ => lit
        rename @LT.lt _ _ _ _ ∧ @LT.lt _ _ I _ ∧ _ => lbt
        refine hide ?_
        intro Pz kz
        obtain ⟨rest2, NN, hfl2, hcl2, offI2⟩ := push_init lN' hfl hcand hcs hcf hcn h6 hx hcnt hSf hso' hkv1 hkk hod' lit lbt.1 offI
        refine kz ?_
        clear kz Pz
        refine whileG2 (s₀ := s) (JF3 w succ nds led ND SE IT ST I oI Gd i R) (Str.ofString "node") _ ?hE4 lF' NN ⟨_, _, _, _, _, _, rest2, stk ++ [c], fin, pf, rfl, hfl2, hcl2, rfl, Nat.le_of_eq hR, hfin, hi3', offI2, G⟩ turn.out
        case hE4 => first | passes_own | with_unfolding_all passes_own
    case turnB =>
      clear hi3a hi3b hfl hfin hcand hsf hi3 offI G oND oSE oIT oST Xg Tg hSr hval n1 n2 n3 m3' hx hsvl hsk6 hsv6 hiv hitl hitn hits hiv6 hcs hIc hso hc6 hcnt hSf hod hkk hkv1 hkv2 hkl
      intro n g u nx h tk hz0 F2 N2
      refine hide ?_
      intro Pz kz
      obtain ⟨sv, e1, iv, e2, so, od, rest, stk, fin, pf, rfl, hfl, hcl, rfl, hR, hfin, hi3, offI, G⟩ := hz0
      refine kz ?_
      clear kz Pz
      (try k_fold)
      have oND := hfl.oND
      have oSE := hfl.oSE
      have oIT := hfl.oIT
      have oST := hfl.oST
      have Xg := XB.keeps ((hGd _).mp G).below.stays
      have Tg := TB.keeps ((hGd _).mp G).below.stays
      rcases nil_or_snoc stk with rfl | ⟨stk, x, rfl⟩
      · have hsv0 : sv = [] := by have := IntsAre.length hfl.st.sv; simpa using this
        subst hsv0
        have hz0 : ([] : List Value).length ≤ 6 := by simp
        have hz1 : (!([] : List Value).isEmpty) = false := rfl
        ktr_unf
        refine EndG.intro (by k_asm) (by k_asm) _ (fun _ hp => hp) ?_ ⟨⟨_, rfl⟩, [], e1, iv, e2, so, od, rest, fin, pf, rfl, hfl, fun j hj => ?_, G⟩
        · intro p hp
          revert p
          exact all_cons (fun e => nIND e.symm) (all_cons (fun e => nISE e.symm) (all_cons (fun e => nIIT e.symm) (all_cons (fun e => nIST e.symm) (fun p hp => offI p hp))))
        · rcases Nat.lt_succ_iff_lt_or_eq.mp hj with h4 | rfl
          · exact hfin j h4
          · simpa using hi3
      · refine hide ?_
        intro Pz kz
        obtain ⟨iv', b, it, sv', tx, nd, rfl, rfl, hb, hnd, hit, hlit⟩ := hfl.topL
        obtain ⟨Sf, cnt, hso, hc6, hcnt, hSf⟩ := hfl.st.so
        obtain ⟨kv, hod, hkk, hkv1⟩ := hfl.st.od
        have hz1 : (!(sv' ++ [Value.int (x : Int) tx]).isEmpty) = true := by simp
        have hsvl : (sv' ++ [Value.int (x : Int) tx]).length = (stk ++ [x]).length := by rw [IntsAre.length hfl.st.sv]; simp
        have hz0 : (sv' ++ [Value.int (x : Int) tx]).length ≤ 6 := by
          have := hcnt ▸ hc6
          rw [List.length_append] at this
          omega
        obtain ⟨its, hitv, hitl, hitn, hits⟩ := hfl.st.its
        have hiv6 : (iv' ++ [Value.ref b]).length ≤ 6 := by rw [hitv, List.length_map]; omega
        have hlast : iv' ++ [Value.ref b] = iv' ++ [Value.ref b] := rfl
        have hu : ∀ p ∈ rest, ∀ q ∈ rest, p.1 = q.1 → p = q := fun p hp q hq e => by
          have h1 := (N2 p (by simp [hp])).1
          have h2 := (N2 q (by simp [hq])).1
          rw [e, h2] at h1
          exact Prod.ext e (Option.some.inj h1).symm
        have hSr : SAt w rest S dS D nds rv pv fv := hS.mono hfl.sub
        obtain ⟨n1, n2, n3⟩ := hSr.nd hnd
        refine kz ?_
        clear kz Pz
        have hiN : (it, liO nd.sl (pf x)) ∈ (I, oI) :: fled ND SE IT ST rest (sv' ++ [Value.int (x : Int) tx]) (iv' ++ [Value.ref b]) e1 e2 so od := by simp [hit]
        have hlN : (nd.sl, listOf nd.its.toArray nd.e) ∈ (I, oI) :: fled ND SE IT ST rest (sv' ++ [Value.int (x : Int) tx]) (iv' ++ [Value.ref b]) e1 e2 so od := by simp [n3]
        have hbN : (b, mwO it) ∈ (I, oI) :: fled ND SE IT ST rest (sv' ++ [Value.int (x : Int) tx]) (iv' ++ [Value.ref b]) e1 e2 so od := by simp [hb]
        have hits' := hsu x nd hnd
        ktr_unf
        (rename Fr _ _ _ _ => lF'); (rename News _ _ _ _ => lN')
        cases hsx : (succ x)[pf x]? with
        | some c' =>
          have hil : pf x < nd.its.length := by rw [IntsAre.length hits']; simpa using (List.getElem?_eq_some_iff.mp hsx).1
          refine hide ?_
          intro Pz kz
          obtain ⟨kc, tc, hvc, hkc⟩ := IntsAre.at hits' (pf x) _ (List.getElem?_eq_getElem hil)
          refine kz ?_
          clear kz Pz
          have hkc' : kc = (c' : Int) := by rw [List.getElem?_map, hsx] at hkc; simpa using hkc.symm
          subst hkc'
          refine mwN_item lF' lN' hbN hiN hlN (x := .int (c' : Int) tc) (by simp [hil, hvc]) fun h' F3 N3f => ?_
          have N3 := N3f ((I, oI) :: fled ND SE IT ST (updL rest it (liO nd.sl (pf x + 1))) (sv' ++ [Value.int (x : Int) tx]) (iv' ++ [Value.ref b]) e1 e2 so od) (by
            intro q hq
            rcases List.mem_cons.mp hq with rfl | hq
            · exact .inr ⟨by simp, fun e => offI _ hit e.symm⟩
            rcases List.mem_cons.mp hq with rfl | hq
            · exact .inr ⟨by simp, fun e => oND _ hit e.symm⟩
            rcases List.mem_cons.mp hq with rfl | hq
            · exact .inr ⟨by simp, fun e => oSE _ hit e.symm⟩
            rcases List.mem_cons.mp hq with rfl | hq
            · exact .inr ⟨by simp, fun e => oIT _ hit e.symm⟩
            rcases List.mem_cons.mp hq with rfl | hq
            · exact .inr ⟨by simp, fun e => oST _ hit e.symm⟩
            rcases List.mem_cons.mp hq with rfl | hq
            · exact .inl rfl
            · have h5 := List.mem_filter.mp hq
              exact .inr ⟨by simp [h5.1], by simpa using h5.2⟩)
          clear N3f
          have hxn : x < nds.length := hfl.st.inv.lt x (by simp)
          refine hide ?_
          intro Pz kz
          obtain ⟨-, hcand', hrem⟩ := hfl.st.inv.eat hcl (by simp) hsx
          refine kz ?_
          clear kz Pz
          have hfl' := hfl.eatL hu hcl hsx rfl hb hnd hit
          ktr_unf
          refine EndW.intro (k := remE succ nds.length (bump pf x)) (u := some (.int (c' : Int) tc)) (by k_asm) (by k_asm) (by funext y; by_cases e : y = Str.ofString "node" <;> simp [e]) _ (fun _ hp => hp) (Nat.lt_of_lt_of_le hrem hR) ⟨c', tc, _, _, _, _, _, _, _, _, fin, bump pf x, rfl, rfl, hfl', hcand', hlt x hxn c' (List.mem_of_getElem? hsx), fun e => by simp at e, rfl, hfin, ?_, ?_, G⟩
          · rcases hi3 with h5 | h5
            · exact .inl h5
            · exact .inr (.inl h5)
          · intro p hp
            revert p
            exact all_cons (fun e => offI _ hit e) (fun p hp => offI p (List.mem_filter.mp hp).1)
        | none =>
          refine mwN_end rfl lF' lN' hbN hiN hlN ?_ fun h₁ h' e F3 N3f hx3 => ?_
          · have := List.getElem?_eq_none_iff.mp hsx
            have hl := IntsAre.length hits'
            simp at hl ⊢
            omega
          have hsub : ∀ p ∈ rest.filter (fun q => decide (q.1 ≠ it)), p ∈ rest ∧ p.1 ≠ it := fun p hp => by
            have h5 := List.mem_filter.mp hp
            exact ⟨h5.1, by simpa using h5.2⟩
          have N3 := N3f ((I, oI) :: fled ND SE IT ST (rest.filter fun q => decide (q.1 ≠ it)) (sv' ++ [Value.int (x : Int) tx]) (iv' ++ [Value.ref b]) e1 e2 so od) (by
            intro q hq
            rcases List.mem_cons.mp hq with rfl | hq
            · exact ⟨by simp, fun e => offI _ hit e.symm⟩
            rcases List.mem_cons.mp hq with rfl | hq
            · exact ⟨by simp, fun e => oND _ hit e.symm⟩
            rcases List.mem_cons.mp hq with rfl | hq
            · exact ⟨by simp, fun e => oSE _ hit e.symm⟩
            rcases List.mem_cons.mp hq with rfl | hq
            · exact ⟨by simp, fun e => oIT _ hit e.symm⟩
            rcases List.mem_cons.mp hq with rfl | hq
            · exact ⟨by simp, fun e => oST _ hit e.symm⟩
            · have h5 := hsub q hq
              exact ⟨by simp [h5.1], h5.2⟩)
          clear N3f
          have hvx : (valueAt kv (x : Int)).isSome = true := by
            refine hide ?_
            intro Pz kz
            obtain ⟨t5, h5⟩ := hkv1 stk.length x (by simp)
            refine kz ?_
            clear kz Pz
            rw [h5]; rfl
          have hkl6 : kv.length ≤ 6 := by
            have := congrArg List.length hkk
            simp at this hsvl hz0
            omega
          have hpop := fun (od' : Obj) (hod' : od'.IsDictOf (intKind theProg w) (without kv (x : Int))) => hfl.popL hu hcl hsx rfl rfl hb hkk hkv1 hod'
          have oND' : ∀ p ∈ rest.filter (fun q => decide (q.1 ≠ it)), p.1 ≠ ND := fun p hp => oND p (hsub p hp).1
          have oSE' : ∀ p ∈ rest.filter (fun q => decide (q.1 ≠ it)), p.1 ≠ SE := fun p hp => oSE p (hsub p hp).1
          have oIT' : ∀ p ∈ rest.filter (fun q => decide (q.1 ≠ it)), p.1 ≠ IT := fun p hp => oIT p (hsub p hp).1
          have oST' : ∀ p ∈ rest.filter (fun q => decide (q.1 ≠ it)), p.1 ≠ ST := fun p hp => oST p (hsub p hp).1
          have offI' : ∀ p ∈ rest.filter (fun q => decide (q.1 ≠ it)), p.1 ≠ I := fun p hp => offI p (hsub p hp).1
          k_dflt (refine' caught_new (T' := "StopIteration") hx3 F3 N3 ((hGd _).mp G).below XB TB ((hGd _).mp G).dicts ((hGd _).mp G).turn ?ex PyProof.Rows.Boot.«StopIteration» ?hn owsi_raise.isExc ?hnt isSubtype_stop ?_; (case ex => k_is); (case hn => decide); (case hnt => exact notTuple_stop); k_whole)
          intro h6 g6 T6 F6 N6 K6 X6 P6 D6
          clear lF' lN' F3 N3 Xg Tg hx3 hsub oND oSE oIT oST offI
          generalize hrr : rest.filter (fun q => decide (q.1 ≠ it)) = rr at N6 oND' oSE' oIT' oST' offI' hpop
          ktr_unf
          rename Obj.IsDictOf _ _ (without _ _) => hod'
          refine hide ?_
          intro Pz kz
          obtain ⟨hflp, hclp⟩ := hpop _ hod'
          refine kz ?_
          clear kz Pz
          refine EndW.intro (k := stk.length) (by k_asm) (by k_asm) rfl _ (fun _ hp => hp) (by simp) ⟨sv', _, iv', _, so, _, rr, stk, fin ++ [x], pf, rfl, hflp, hclp, rfl, hR, fun j hj => List.mem_append_left _ (hfin j hj), ?_, offI', (hGd _).mpr ⟨T6, K6, D6⟩⟩
          rcases hi3 with h5 | h5
          · exact .inl (List.mem_append_left _ h5)
          · rcases List.mem_append.mp h5 with h5 | h5
            · exact .inr h5
            · exact .inl (List.mem_append_right _ h5)
  · intro u g nx h tk hz0 F2 N2
    refine hide ?_
    intro Pz kz
    obtain ⟨sv, e1, iv, e2, so, od, rest, fin, pf, rfl, hfl, hfin, G⟩ := hz0
    refine kz ?_
    clear kz Pz
    (try k_fold)
    dsimp only
    ktr_unf
    refine ⟨g, L', _, _, ((hGd _).mp G).turn, by assumption, by assumption, fun h₀' T2 F3 N3 B3 D3 => hQ _ h₀' _ _ _ T2 F3 N3 (fun q hq => ?_) B3 D3 (.inl ⟨rfl, hfl.st.inv.noRing fun x hx => hfin x (by rw [kvs_len]; exact hx)⟩)⟩
    exact .tail _ (.tail _ (.tail _ (.tail _ (hfl.sub q hq))))
end
end Mine
end
section
theorem Mine.w_Sort3_0 : True := by
  k_with_none
  trivial
namespace Mine
theorem Mine.w_Sort3_1 : True := by
  (k_with "ktr_unf" => repeat' ((fail_if_success (with_reducible show LCg.CompSrc _ _ _ _ _ _ _ _ _ _ _ _ _ _)); (fail_if_success (with_reducible show LCt.CompSrcT _ _ _ _ _ _ _ _ _ _ _ _ _ _ _)); (fail_if_success (with_reducible show wpAny _ _ (pyIter _) _ _ _)); (fail_if_success (with_reducible show wpAny _ _ (call (Value.ref 122) _) _ _ _)); first | (k_unfold; (try dsimp only)) | tb_rel | ((fail_if_success (with_reducible show wpAny _ _ (subscriptTail _ _ (Value.ref _) (Value.int _ _)) _ _ _)); first | walk1 | (dsimp only; walk1))))
  (k_with "k_mem" => first | assumption | exact List.Mem.head _ | (refine' List.Mem.tail _ ?_; k_mem) | (refine' SubL.mem (by assumption) ?_; k_mem))
  (k_with "k_all" => first | assumption | exact off1_mem' (by assumption) | exact lt_ne (by assumption) (by omega) | exact allLt_ne (by assumption) (by omega))
  (k_with "tb_start" => ((with_reducible show wpAny _ _ (eval (Expr.ListComp _ _ _ _) _) _ _ _); k_dflt (refine ListComp_V (by k_asm) (by with_unfolding_all rfl) (by with_unfolding_all rfl) (by rfl) (by decide) (by rfl) ?_)))
  (k_with "tb_start" => ((with_reducible show wpAny _ _ (eval (Expr.ListComp _ _ _ _) _) _ _ _); k_dflt (refine LCg.ListComp_U (F₀ := by k_asm) (by with_unfolding_all rfl) (by decide) (by rfl) (by decide) (by rfl) ?_)))
  (k_with "tb_rel" => ((with_reducible show wpAny _ _ (subscriptTail _ _ (Value.ref _) (Value.int _ _)) _ _ _); k_dflt (refine' item_at (by k_asm) (by k_mem) (by omega) (by omega) (by assumption) ?_); (try dsimp only)))
  (k_with "ktr_rel" => (k_dflt (first
        | refine LCg.CompSrc.ledger (by rfl) (by k_asm) (by k_asm) (by k_mem) (by rw [sizeLine_eq]; simp; omega) ?_
        | refine LCg.CompSrc.range (n := 6) (by rfl) (by k_asm) (by k_asm) (by assumption) (by first | decide | rfl) (by first | rfl | decide) (by first | size_fits | exact Nat.le_of_ble_eq_true rfl) ?_); intro g'w))
  (k_with "tb_rel" => ((with_reducible show wpAny _ _ (getMethod (Value.ref _) (Str.ofString "get") _) _ _ _); k_dflt (refine' kdg_method (knd := intKind _ _) (by k_asm) (by k_mem) (by assumption) ?_); (try dsimp only)))
  (k_with "tb_rel" => ((with_reducible show wpAny _ _ (call (Value.builtin "dict.get") [Value.ref _, Value.int _ _]) _ _ _); k_dflt (refine' kdg_get1 (knd := intKind _ _) (by k_asm) (by k_mem) (by assumption) (by assumption) (intKind_is _ _ _ _) _ (by assumption) ?_); (try dsimp only [Option.getD])))
  (k_with "tb_rel" => ((with_reducible show wpAny _ _ (subscriptTail _ _ (Value.ref _) (Value.int _ _)) _ _ _); k_dflt (refine' kda_item (knd := intKind _ _) (by k_asm) (by k_mem) (by assumption) (intKind_is _ _ _ _) (by assumption) ?_); (try dsimp only)))
  (k_with "tb_rel" => ((with_reducible show wpAny _ _ (call (Value.builtin "list.append") [Value.ref _, _]) _ _ _); k_dflt (refine' append_K (by k_asm) (by k_asm) (by k_upd) ?_ (by (rw [sizeLine_eq]; simp; omega))); intro h'w F'w N'w))
  (k_with "tb_rel" => ((with_reducible show wpAny _ _ (call (Value.builtin "len") [Value.ref _]) _ _ _); k_dflt (refine' PyProof.Rows.len_tuple (by exact News.isTup (by k_asm) (by k_mem)) (by simp; omega) ?_); (try dsimp only)))
  trivial
theorem new_sat {w : World} {h₀ h : Heap} {L S dS D : Addr} {oD : Obj} {t1 t2 t3 t4 : Tok} {r p f : Value} {led : List (Addr × Obj)} (_N : News h₀ L h ((D, oD) :: (S, instObj 179 dS) :: (dS, sdict w t1 t2 t3 t4 D r p f) :: led)) (hi : oD.IsDictOf (intKind theProg w) []) (lo : (D == sysModules) = false)
    (q1 : @LT.lt Nat _ S D) (q2 : @LT.lt Nat _ dS D) (q3 : @LT.lt Nat _ dS S) : SAt w ((D, oD) :: (S, instObj 179 dS) :: (dS, sdict w t1 t2 t3 t4 D r p f) :: led) S dS D [] r p f := by
  refine ⟨⟨t1, t2, t3, t4, oD, fun q hq => ?_, hi⟩, ?_, lo⟩
  · simp only [sortL, List.flatMap_nil, List.mem_cons, List.not_mem_nil, or_false] at hq ⊢
    rcases hq with h | h | h
    · exact .inr (.inl h)
    · exact .inr (.inr (.inl h))
    · exact .inl h
  · have := ltN q1
    have := ltN q2
    have := ltN q3
    simp only [adrs, List.flatMap_nil, List.nodup_cons, List.mem_cons, List.not_mem_nil, or_false, not_or, List.nodup_nil, and_true, not_false_eq_true]
    exact ⟨⟨neN (by omega), neN (by omega)⟩, neN (by omega)⟩
theorem meets_bool_list (l : Addr) (items : Array Value) (hfit : (items.size : Int) < 2 ^ 63) :
    Meets (Builtin.«bool.__new__» ⟨[.type "bool", .ref l], []⟩) (fun _ R s => s.heap.IsList l items ∧ R (.ok (.ret (.bool (!items.isEmpty)))) { s with toks := s.toks + 1 + 1 }) :=
  Meets.of_wp fun prog w A R s hs => by
    refine hide ?_
    intro Pz kz
    obtain ⟨hp, g, d, tk, os⟩ := s
    obtain ⟨hl, hs⟩ := hs
    refine kz ?_
    clear kz Pz
    have f1 := PySem.F.conv_sub_bool
    repeat (any_goals (first | assumption | (with_reducible refine wpAny_truthy_list hl hfit ?_) | wp_step))
    all_goals first | exact ⟨_, rfl, hs⟩ | exact hs | skip
theorem bool_listN {prog : Program} {w : World} {A : Around} {E : Value → Shared → Prop} {s : Shared} {h₀ : Heap} {L l : Addr} {news : List (Addr × Obj)} {vs : List Value} {e : Nat} {Q : Value → Shared → Prop} (N : News h₀ L s.heap news) (hl : (l, listOf vs.toArray e) ∈ news) (hz : vs.length ≤ 6) (h : ∀ tk, Q (.bool (!vs.isEmpty)) { s with toks := tk }) :
    wpAny (model prog w) A (call (.type "bool") [.ref l]) Q E s := by
  refine call_bool_1 (meets_bool_list l vs.toArray (by simp; omega)) ⟨News.isList N hl, ?_⟩
  have e : (!vs.toArray.isEmpty) = !vs.isEmpty := by cases vs <;> simp
  rw [e]
  exact ⟨rfl, h _⟩
theorem Mine.w_Sort3_2 : True := by
  (k_with "tb_rel" => ((with_reducible show wpAny _ _ (call (Value.type "bool") [Value.ref _]) _ _ _); k_dflt (refine' bool_listN (by k_asm) (by k_mem) (by assumption) ?_); intro tk'w))
  trivial
section
variable {w : World} {mean : ExcName → Option Value} {mg mb : Str → Option Value} {gd : Option (List Code)} {cn : Str} {nms : List (Str × NameKind)} {mr : List (Str × Const)} {a : Addr} {ccd : Value} {cl : List (Str × Addr)} {outer : List Env} {A₀ : Around} {base h₀ : Heap} {L : Addr} {m : Str → Option Value} {s : Shared} {Q E : Value → Shared → Prop} {news : List (Addr × Obj)}
variable {led : List (Addr × Obj)} {S dS D : Addr} {nds : List Nd} {rv pv fv : Value}
theorem c_new (B : Below A₀ base outer h₀) (F : Fr h₀ L s.heap m) (X : (Mine.pre.heap_1_1 w.params).In h₀) (N : News h₀ L s.heap led) (T : Top Mine.pre.view_1_2 (looseW Mine.pre.view_1_2 [Str.ofString "_NodeInfo"]) mean mg mb h₀)
   (hQ : ∀ S dS D tp tf h' tk' led', Fr h₀ L h' m → News h₀ L h' led' → SAt w led' S dS D [] .none (.int 0 tp) (.int 0 tf) → (∀ q ∈ led, q ∈ led') → Q (.ref S) { s with heap := h', toks := tk' }) :
   wpAny (model PySem.Challenge.rw_nb0264_01.row.prog w) (ktrTop 307 35 gd cn ⟨.function, nms, false, false, mr⟩ L a ccd cl outer) (call (.ref 179) []) Q E s := by
  ktr_unf
  (try ((with_reducible show wpAny _ _ _ _ _ _); generalize hA1 : Around.deeper _ _ = A1; revert A1; refine letEq ?_; intro A1))
  rename (_ == sysModules) = false => lo
  rename Obj.IsDictOf (intKind _ _) _ _ => hi
  rename @LT.lt _ _ _ _ ∧ @LT.lt _ _ _ _ ∧ AllLt _ led => q1
  rename @LT.lt _ _ _ _ => q3
  rename News _ _ _ _ => lN
  exact hQ _ _ _ _ _ _ _ _ (by k_asm) lN (new_sat lN hi lo q1.1 q1.2.1 q3) (fun q hq => by simp [hq])
theorem c_active (B : Below A₀ base outer h₀) (F : Fr h₀ L s.heap m) (X : (Mine.pre.heap_1_1 w.params).In h₀) (N : News h₀ L s.heap led) (T : Top Mine.pre.view_1_2 (looseW Mine.pre.view_1_2 [Str.ofString "_NodeInfo"]) mean mg mb h₀)
   (RL : Addr) (rs : List Value) (e : Nat) (np nf : Int) (tp tf : Tok) (hr : (RL, listOf rs.toArray e) ∈ led) (hS : SAt w led S dS D nds (.ref RL) (.int np tp) (.int nf tf)) (hrl : rs.length ≤ 6)
   (hQ : ∀ h' tk', Fr h₀ L h' m → News h₀ L h' led → Q (.bool (decide (nf < np) || !rs.isEmpty)) { s with heap := h', toks := tk' }) :
   wpAny (model PySem.Challenge.rw_nb0264_01.row.prog w) (ktrTop 308 40 gd cn ⟨.function, nms, false, false, mr⟩ L a ccd cl outer) (call (.ref 148) [.ref S]) Q E s := by
  refine hide ?_
  intro Pz kz
  obtain ⟨t1, t2, t3, t4, oD, m1, m2, m3, hD⟩ := hS.top
  refine kz ?_
  clear kz Pz
  ktr_unf
  (try ((with_reducible show wpAny _ _ _ _ _ _); generalize hA1 : Around.deeper _ _ = A1; revert A1; refine letEq ?_; intro A1))
  · have hb : nf < np := by first | assumption | omega | (simp_all)
    have e1 : decide (nf < np) = true := by simp [hb]
    rw [e1] at hQ ⊢
    exact hQ _ _ (by k_asm) (by k_asm)
  · have hb : ¬ nf < np := by first | assumption | omega | (simp_all)
    have e1 : decide (nf < np) = false := by simp [hb]
    rw [e1] at hQ
    exact hQ _ _ (by k_asm) (by k_asm)
theorem c_getNewF (B : Below A₀ base outer h₀) (F : Fr h₀ L s.heap m) (X : (Mine.pre.heap_1_1 w.params).In h₀) (N : News h₀ L s.heap led) (T : Top Mine.pre.view_1_2 (looseW Mine.pre.view_1_2 [Str.ofString "_NodeInfo"]) mean mg mb h₀)
   (hS : SAt w led S dS D nds rv pv fv) (i : Int) (t : Tok) (hin : i = (nds.length : Int)) (hl6 : nds.length < 10)
   (hQ : ∀ (x : Nd) t0 h' tk' rest, Fr h₀ L h' m → News h₀ L h' ((x.inf, infoO x.d x.vi (.int 0 t0) x.sl) :: rest) → (∀ p ∈ rest, p.1 ≠ x.inf) → SAt w ((x.inf, infoO x.d x.vi (.int 0 t0) x.sl) :: rest) S dS D (nds ++ [x]) rv pv fv → (∀ q ∈ led, q.1 ≠ D → q ∈ (x.inf, infoO x.d x.vi (.int 0 t0) x.sl) :: rest) → x.vi = .int i t → x.vp = .int 0 t0 → x.its = [] → (x.d, dictOf [] 0) ∈ rest → (∀ q ∈ led, q.1 ≠ x.inf) → Q (.ref x.inf) { s with heap := h', toks := tk' }) :
   wpAny (model PySem.Challenge.rw_nb0264_01.row.prog w) (ktrTop 308 40 gd cn ⟨.function, nms, false, false, mr⟩ L a ccd cl outer) (call (.ref 122) [.ref S, .int i t]) Q E s := by
  refine c_getNew B F X N T hS i t hin hl6 fun x h' tk' led' F' N' S' k' e1 ⟨t0, e2⟩ e3 e4 => ?_
  have hm := (S'.nd (j := nds.length) (x := x) (by simp)).1
  rw [e2] at hm
  refine hide ?_
  intro Pz kz
  obtain ⟨rest, N2, sub, off, keep, back⟩ := focus_ex N' hm
  refine kz ?_
  clear kz Pz
  refine hQ x t0 h' tk' rest F' N2 off (S'.mono sub) (fun q hq h1 => sub q (k' q hq h1)) e1 e2 e3 (keep _ (S'.nd (j := nds.length) (x := x) (by simp)).2 ?_) e4
  exact fun e => (nd_ne S'.parts.1 (j := nds.length) (x := x) (by simp)).1 e.symm
end
section
variable {w : World} {mean : ExcName → Option Value} {mg mb : Str → Option Value} {gd : Option (List Code)} {cn : Str} {nms : List (Str × NameKind)} {mr : List (Str × Const)} {a : Addr} {ccd : Value} {cl : List (Str × Addr)} {outer : List Env} {A₀ : Around} {base h₀ : Heap} {L : Addr} {m : Str → Option Value} {s : Shared} {Q E : Value → Shared → Prop} {news : List (Addr × Obj)}
variable {led : List (Addr × Obj)} {S dS D : Addr} {nds : List Nd} {rv pv fv : Value}
theorem c_add0 (B : Below A₀ base outer h₀) (F : Fr h₀ L s.heap m) (X : (Mine.pre.heap_1_1 w.params).In h₀) (N : News h₀ L s.heap led) (T : Top Mine.pre.view_1_2 (looseW Mine.pre.view_1_2 [Str.ofString "_NodeInfo"]) mean mg mb h₀)
   (hS : SAt w led S dS D nds .none pv fv) (i : Int) (t : Tok) (hin : i = (nds.length : Int)) (hl6 : nds.length < 10)
   (hQ : ∀ (x : Nd) h' tk' led', Fr h₀ L h' m → News h₀ L h' led' → SAt w led' S dS D (nds ++ [x]) .none pv fv → (∀ q ∈ led, q.1 ≠ D → q ∈ led') → x.vi = .int i t → (∃ t0, x.vp = .int 0 t0) → x.its = [] → Q .none { s with heap := h', toks := tk' }) :
   wpAny (model PySem.Challenge.rw_nb0264_01.row.prog w) (ktrTop 307 35 gd cn ⟨.function, nms, false, false, mr⟩ L a ccd cl outer) (call (.ref 129) [.ref S, .int i t]) Q E s := by
  refine hide ?_
  intro Pz kz
  obtain ⟨t1, t2, t3, t4, oD, m1, m2, m3, hD⟩ := hS.top
  refine kz ?_
  clear kz Pz
  refine wpAny_call ?_
  k_dflt (refine' enterRest (vs := []) (binds := fun D => [(Str.ofString "self", .ref S), (Str.ofString "node", .int i t), (Str.ofString "predecessors", .ref D)]) ?k1 ?k2 ?k3 ?k4 ?k5 ?kA ?kF ?kK ?k6 ?k7 ?k8 ?kV ?kP ?kB ?_ ?c2 ?c3 ?c4 ?c5; (case kA => exact rfl); (case kF => exact rfl); (case kK => exact rfl); (case k1 => k_asm); (case k2 => k_asm); (case k3 => k_asm); (case k4 => k_asm); (case k5 => k_asm); (case k6 => k_is); (case k7 => k_is); (case k8 => k_room); (case kV => exact rfl); (case kB => exact fun _ => locs rfl); (case c5 => decide); (case c2 => exact rfl); (case c3 => exact rfl); (case c4 => exact rfl); (case kP => exact ⟨_, rfl, fun _ => rfl⟩); k_whole)
  intro PT g' L' h' l1 FG' F' N' B' X' T'
  (try k_lt l1)
  (try dsimp only); (try k_lift B'); (try k_fold)
  (try ((with_reducible show wpAny _ _ _ _ _ _); generalize hA1 : Around.deeper _ _ = A1; revert A1; refine letEq ?_; intro A1))
  ktr_unf
  have hS' : SAt w ((PT, tupOf #[] 0) :: led) S dS D nds .none pv fv := hS.mono fun _ hq => .tail _ hq
  k_dflt (refine' wp_up (c_getNewF ?k1 ?k2 ?k3 ?k4 ?k5 hS' _ _ hin hl6 ?_) ?u1 ?u2 ?u3 ?u4 ?u5; (case u2 => exact rfl); (case u1 => exact rfl); (case u3 => exact rfl); (case u4 => exact Nat.le_of_ble_eq_true rfl); (case u5 => exact Nat.le_of_ble_eq_true rfl); (case k1 => k_asm); (case k2 => k_asm); (case k3 => k_asm); (case k4 => k_asm); (case k5 => k_asm); k_whole)
  intro x t0 h2 tk2 rest F2 N2 off2 S2 k2 e1 e2 e3 nd2 e4
  (try dsimp only); (try k_fold)
  have hPD : PT ≠ D := by
    intro e
    have h5 := ltN (l1 _ m3)
    rw [e] at h5
    exact Nat.lt_irrefl _ h5
  have hPT : (PT, tupOf #[] 0) ∈ rest := by
    rcases List.mem_cons.mp (k2 _ (.head _) hPD) with h5 | h5
    · have := congrArg (fun p => p.2.cls) h5
      simp at this
    · exact h5
  ktr_unf
  refine For_invV g' rfl rfl ?_
  ktr_unf
  (rename Fr _ _ _ _ => lF'); (rename News _ _ _ _ => lN')
  generalize hv' : Value.int (0 + 0) _ = v' at lN'
  refine iter_tupJ (vs := []) (k := 0) (fun i nx => (PT, tupOf #[] 0) ∈ nx ∧ SAt w nx S dS D (nds ++ [{ x with vp := v' }]) .none pv fv ∧ ∀ q ∈ led, q.1 ≠ D → q ∈ nx) [] rfl (.tail _ hPT) lF' lN' ⟨.tail _ hPT, ?_, ?_⟩ (fun i nx h => h.1) ?_ ?_
  · have h5 := S2.setNp (j := nds.length) (x := x) (by simp) (v' := v') (led' := (x.inf, infoO x.d x.vi v' x.sl) :: rest) (fun q hq hne => by
      rcases List.mem_cons.mp hq with rfl | hq
      · exact absurd rfl hne
      · exact .tail _ hq) (.head _)
    rw [show (nds ++ [x]).set nds.length { x with vp := v' } = nds ++ [{ x with vp := v' }] by simp] at h5
    exact h5
  · intro q hq hne
    rcases List.mem_cons.mp (k2 q (.tail _ hq) hne) with h5 | h5
    · exact absurd (congrArg Prod.fst h5) (e4 q (.tail _ hq))
    · exact .tail _ h5
  · intro i v u nx I oI h tk hi
    exact absurd hi (Nat.not_lt_zero _)
  · intro u nx h tk hz0 F'' N''
    refine hide ?_
    intro Pz kz
    obtain ⟨hPT, hSi, hrest⟩ := hz0
    refine kz ?_
    clear kz Pz
    (try k_fold)
    dsimp only
    ktr_unf
    exact hQ { x with vp := v' } _ _ nx (by k_asm) (by k_asm) hSi hrest e1 ⟨_, hv'.symm⟩ e3
end
end Mine
end
section
theorem Mine.w_Sort4_0 : True := by
  k_with_none
  trivial
namespace Mine
theorem Mine.w_Sort4_1 : True := by
  (k_with "ktr_unf" => repeat' ((fail_if_success (with_reducible show LCg.CompSrc _ _ _ _ _ _ _ _ _ _ _ _ _ _)); (fail_if_success (with_reducible show LCt.CompSrcT _ _ _ _ _ _ _ _ _ _ _ _ _ _ _)); (fail_if_success (with_reducible show wpAny _ _ (pyIter _) _ _ _)); (fail_if_success (with_reducible show wpAny _ _ (call (Value.type "tuple") _) _ _ _)); (fail_if_success (with_reducible show wpAny _ _ (exec (Stmt.For _ _ _ _ _) _) _ _ _)); first | (k_unfold; (try dsimp only)) | tb_rel | ((fail_if_success (with_reducible show wpAny _ _ (subscriptTail _ _ (Value.ref _) (Value.int _ _)) _ _ _)); first | walk1 | (dsimp only; walk1))))
  (k_with "k_mem" => first | assumption | exact List.Mem.head _ | (refine' List.Mem.tail _ ?_; k_mem) | (refine' SubL.mem (by assumption) ?_; k_mem))
  (k_with "k_all" => first | assumption | exact off1_mem' (by assumption) | exact lt_ne (by assumption) (by omega) | exact allLt_ne (by assumption) (by omega))
  (k_with "tb_start" => ((with_reducible show wpAny _ _ (eval (Expr.ListComp _ _ _ _) _) _ _ _); k_dflt (refine ListComp_V (by k_asm) (by with_unfolding_all rfl) (by with_unfolding_all rfl) (by rfl) (by decide) (by rfl) ?_)))
  (k_with "tb_start" => ((with_reducible show wpAny _ _ (eval (Expr.ListComp _ _ _ _) _) _ _ _); k_dflt (refine LCg.ListComp_U (F₀ := by k_asm) (by with_unfolding_all rfl) (by decide) (by rfl) (by decide) (by rfl) ?_)))
  (k_with "tb_rel" => ((with_reducible show wpAny _ _ (subscriptTail _ _ (Value.ref _) (Value.int _ _)) _ _ _); k_dflt (refine' item_at (by k_asm) (by k_mem) (by omega) (by omega) (by assumption) ?_); (try dsimp only)))
  (k_with "ktr_rel" => (k_dflt (first
        | refine LCg.CompSrc.ledger (by rfl) (by k_asm) (by k_asm) (by k_mem) (by rw [sizeLine_eq]; simp; omega) ?_
        | refine LCg.CompSrc.range (n := 6) (by rfl) (by k_asm) (by k_asm) (by assumption) (by first | decide | rfl) (by first | rfl | decide) (by first | size_fits | exact Nat.le_of_ble_eq_true rfl) ?_); intro g'w))
  (k_with "tb_rel" => ((with_reducible show wpAny _ _ (getMethod (Value.ref _) (Str.ofString "get") _) _ _ _); k_dflt (refine' kdg_method (knd := intKind _ _) (by k_asm) (by k_mem) (by assumption) ?_); (try dsimp only)))
  (k_with "tb_rel" => ((with_reducible show wpAny _ _ (call (Value.builtin "dict.get") [Value.ref _, Value.int _ _]) _ _ _); k_dflt (refine' kdg_get1 (knd := intKind _ _) (by k_asm) (by k_mem) (by assumption) (by assumption) (intKind_is _ _ _ _) _ (by assumption) ?_); (try dsimp only [Option.getD])))
  (k_with "tb_rel" => ((with_reducible show wpAny _ _ (subscriptTail _ _ (Value.ref _) (Value.int _ _)) _ _ _); k_dflt (refine' kda_item (knd := intKind _ _) (by k_asm) (by k_mem) (by assumption) (intKind_is _ _ _ _) (by assumption) ?_); (try dsimp only)))
  (k_with "tb_rel" => ((with_reducible show wpAny _ _ (call (Value.builtin "list.append") [Value.ref _, _]) _ _ _); k_dflt (refine' append_K (by k_asm) (by k_asm) (by k_upd) ?_ (by (rw [sizeLine_eq]; simp; omega))); intro h'w F'w N'w))
  (k_with "tb_rel" => ((with_reducible show wpAny _ _ (call (Value.builtin "len") [Value.ref _]) _ _ _); k_dflt (refine' PyProof.Rows.len_tuple (by exact News.isTup (by k_asm) (by k_mem)) (by simp; omega) ?_); (try dsimp only)))
  trivial
theorem sortL_adr {w : World} {t1 t2 t3 t4 : Tok} {S dS D : Addr} {oD : Obj} {nds : List Nd} {r p f : Value} {q : Addr × Obj} (h : q ∈ sortL w t1 t2 t3 t4 S dS D oD nds r p f) : q.1 ∈ adrs S dS D nds := by
  simp only [sortL, List.mem_cons] at h
  simp only [adrs, List.mem_cons]
  rcases h with rfl | rfl | rfl | h
  · exact .inl rfl
  · exact .inr (.inl rfl)
  · exact .inr (.inr (.inl rfl))
  · refine hide ?_
    intro Pz kz
    obtain ⟨x, hx, hq⟩ := List.mem_flatMap.mp h
    refine kz ?_
    clear kz Pz
    exact .inr (.inr (.inr (List.mem_flatMap.mpr ⟨x, hx, ndL_adr hq⟩)))
theorem SAt.off {w : World} {led led' : List (Addr × Obj)} {S dS D : Addr} {nds : List Nd} {r p f : Value} (h : SAt w led S dS D nds r p f) (hs : ∀ q ∈ led, q.1 ∈ adrs S dS D nds → q ∈ led') : SAt w led' S dS D nds r p f :=
  by
    obtain ⟨⟨t1, t2, t3, t4, oD, hm, hd⟩, hn, hl⟩ := h
    exact ⟨⟨t1, t2, t3, t4, oD, fun q hq => hs q (hm q hq) (sortL_adr hq), hd⟩, hn, hl⟩
theorem For_fr {prog : Program} {w : World} {A : Around} {E : Value → Shared → Prop} {s : Shared} {env : Env} {h₀ hh : Heap} {LL : Addr} {mm : Str → Option Value} {Q : Flow → Shared → Prop} {x : Str} {px pos : Pos} {iter : PySem.Expr} {body : List Stmt} (_F : Fr h₀ LL hh mm) (hx : env.kindOf x = some .local)
    (hp : (env.scope.kind == .class || (env.scope.kind == .module && env.locals != env.globals)) = false)
    (h : wpAny (model prog w) A (eval iter env) (fun xv s₁ => wpAny (model prog w) A (pyIter xv) (fun it s₂ => LoopAtV prog w A h₀ env x body Q E it s₂) E s₁) E s)
    (hs : ∀ x, foldedSetIterable iter env x = pure x := by intro _; rfl)
    (hE : PassesOwn (model prog w) A env E := by passes_own) :
    wpAny (model prog w) A (exec (.For (.Name x px) iter body [] pos) env) Q E s := For_invV h₀ hx hp h hs hE
/-- the nodes as at the start, but for the counts -/
structure SFx (nds nds' : List Nd) (f : Nat → Int) : Prop where
  len : nds'.length = nds.length
  cnt : ∀ (j : Nat) x, nds[j]? = some x → ∃ t, nds'[j]? = some { x with vp := .int (f j) t }
theorem SFx.back {nds nds' : List Nd} {f : Nat → Int} (h : SFx nds nds' f) {j : Nat} {x' : Nd} (hx : nds'[j]? = some x') : ∃ x t, nds[j]? = some x ∧ x' = { x with vp := .int (f j) t } := by
  have hl : j < nds.length := by rw [← h.len]; exact (List.getElem?_eq_some_iff.mp hx).1
  refine hide ?_
  intro Pz kz
  obtain ⟨t, ht⟩ := h.cnt j _ (List.getElem?_eq_getElem hl)
  refine kz ?_
  clear kz Pz
  rw [ht] at hx
  cases hx
  exact ⟨_, t, List.getElem?_eq_getElem hl, rfl⟩
theorem SFx.set {nds nds' : List Nd} {f : Nat → Int} (h : SFx nds nds' f) {k : Nat} {x' : Nd} (hx : nds'[k]? = some x') (c : Int) (t : Tok) : SFx nds (nds'.set k { x' with vp := .int c t }) (fun j => if j = k then c else f j) := by
  refine ⟨by rw [List.length_set, h.len], fun j x hj => ?_⟩
  by_cases e : j = k
  · subst e
    refine hide ?_
    intro Pz kz
    obtain ⟨x0, t0, h1, h2⟩ := h.back hx
    refine kz ?_
    clear kz Pz
    rw [hj] at h1
    cases h1
    subst h2
    have hl : j < nds'.length := (List.getElem?_eq_some_iff.mp hx).1
    exact ⟨t, by rw [List.getElem?_set_self hl]; simp⟩
  · refine hide ?_
    intro Pz kz
    obtain ⟨t0, h0⟩ := h.cnt j x hj
    refine kz ?_
    clear kz Pz
    exact ⟨t0, by rw [List.getElem?_set_ne (fun e' => e e'.symm), h0]; simp [e]⟩
theorem SFx.adrs {S dS D : Addr} {nds nds' : List Nd} {f : Nat → Int} (h : SFx nds nds' f) : adrs S dS D nds' = adrs S dS D nds := by
  unfold Mine.adrs
  have : nds'.map ndA = nds.map ndA := by
    apply List.ext_getElem?
    intro j
    by_cases hl : j < nds.length
    · refine hide ?_
      intro Pz kz
      obtain ⟨t, ht⟩ := h.cnt j _ (List.getElem?_eq_getElem hl)
      refine kz ?_
      clear kz Pz
      rw [List.getElem?_map, List.getElem?_map, ht, List.getElem?_eq_getElem hl]
      rfl
    · rw [List.getElem?_map, List.getElem?_map, List.getElem?_eq_none (by rw [h.len]; omega), List.getElem?_eq_none (by omega)]
  rw [List.flatMap_def, List.flatMap_def, this]
section
open PySem.Calls
variable {prog : Program} {w : World} {A : Around} {E : Value → Shared → Prop} {s : Shared} {h₀ : Heap} {L D : Addr} {m : Str → Option Value} {news news' : List (Addr × Obj)} {n : Nat} {its : Array Value}
theorem clear0 {Q : Value → Shared → Prop} (F : Fr h₀ L s.heap m) (N : News h₀ L s.heap news) (U : Upd D (listOf #[] n) (listOf #[] n) news news')
    (h : ∀ h', Fr h₀ L h' m → News h₀ L h' news' → Q .none { s with heap := h' }) : wpAny (model prog w) A (call (.builtin "list.clear") [.ref D]) Q E s := by
  refine hide ?_
  intro Pz kz
  obtain ⟨pre, post, rfl, rfl, a, c⟩ := U.split
  refine kz ?_
  clear kz Pz
  have z := N (D, listOf #[] n) (List.mem_append.mpr (.inr (.head _)))
  exact call_meets PySem.F.slot_list_clear ⟨_, z.1, rfl⟩ PySem.F.entry_list_clear (PySem.F.args_list_clear_1 _) (PySem.AutoSeq1.list_clear_list_0 D #[] n (by simp)) ⟨z.1, h _ (F.change (Heap.SameBut.update ..) z.2.1 z.2.2) (kl_turn0 (fun _ => #[]) N a c rfl rfl)⟩
end
theorem Mine.w_Sort4_2 : True := by
  (k_with "tb_rel" => ((show wpAny _ _ (call (Value.builtin "list.clear") [Value.ref _]) _ _ _); k_dflt (refine' kl_clear (by k_asm) (by k_asm) (by k_upd) (by assumption) (by assumption) ?_); intro h'w F'w N'w))
  (k_with "tb_rel" => ((show wpAny _ _ (call (Value.builtin "list.clear") [Value.ref _]) _ _ _); k_dflt (refine' clear0 (by k_asm) (by k_asm) (by k_upd) ?_); intro h'w F'w N'w))
  trivial
section
variable {w : World} {mean : ExcName → Option Value} {mg mb : Str → Option Value} {gd : Option (List Code)} {cn : Str} {nms : List (Str × NameKind)} {mr : List (Str × Const)} {a : Addr} {ccd : Value} {cl : List (Str × Addr)} {outer : List Env} {A₀ : Around} {base h₀ : Heap} {L : Addr} {m : Str → Option Value} {s : Shared} {Q E : Value → Shared → Prop} {news : List (Addr × Obj)}
variable {led : List (Addr × Obj)} {S dS D : Addr} {nds : List Nd} {rv pv fv : Value}
theorem c_ready (B : Below A₀ base outer h₀) (F : Fr h₀ L s.heap m) (X : (Mine.pre.heap_1_1 w.params).In h₀) (N : News h₀ L s.heap led) (T : Top Mine.pre.view_1_2 (looseW Mine.pre.view_1_2 [Str.ofString "_NodeInfo"]) mean mg mb h₀)
   (nds₀ : List Nd) (f : Nat → Int) (hf : SFx nds₀ nds f) (RL : Addr) (rs : List Value) (ks : List Nat) (e : Nat) (np : Int) (tp : Tok) (hr : (RL, listOf rs.toArray e) ∈ led) (hRL : RL ∉ adrs S dS D nds) (hS : SAt w led S dS D nds (.ref RL) (.int np tp) fv) (hks : IntsAre rs (ks.map Int.ofNat)) (hkr : ∀ k ∈ ks, k < nds.length) (hrl : rs.length ≤ 6)
   (hQ : ∀ TT nds' v' e' h' tk' led', Fr h₀ L h' m → News h₀ L h' led' → (∃ t', v' = .int (np + (rs.length : Int)) t') → SAt w led' S dS D nds' (.ref RL) v' fv → SFx nds₀ nds' (fun j => if j ∈ ks then -1 else f j) → (RL, listOf #[] e') ∈ led' → (TT, tupOf rs.toArray 0) ∈ led' → (∀ q ∈ led, q.1 ∉ adrs S dS D nds → q.1 ≠ RL → q ∈ led') → Q (.ref TT) { s with heap := h', toks := tk' }) :
   wpAny (model PySem.Challenge.rw_nb0264_01.row.prog w) (ktrTop 308 40 gd cn ⟨.function, nms, false, false, mr⟩ L a ccd cl outer) (call (.ref 141) [.ref S]) Q E s := by
  have hks' : Kp (IntsAre rs (ks.map Int.ofNat)) := ⟨hks⟩
  refine hide ?_
  intro Pz kz
  obtain ⟨t1, t2, t3, t4, oD, m1, m2, m3, hD⟩ := hS.top
  refine kz ?_
  clear kz Pz
  ktr_unf
  (try ((with_reducible show wpAny _ _ _ _ _ _); generalize hA1 : Around.deeper _ _ = A1; revert A1; refine letEq ?_; intro A1))
  k_dflt (refine' kde_tupleOf ?k1 ?k2 ?k3 ?k4 List.toList_toArray ?_; (case k1 => k_asm); (case k2 => k_asm); (case k3 => exact News.isList (by k_asm) (by k_mem)); (case k4 => (simp; omega)))
  intro TT h2 F2 N2 l2
  (try k_lt l2)
  ktr_unf
  (rename Fr _ _ _ _ => lF0)
  refine For_fr lF0 rfl rfl ?_
  ktr_unf
  (rename Fr _ _ _ _ => lF'); (rename News _ _ _ _ => lN')
  refine iter_tupJ (vs := rs) (k := 0) (fun i nx => (TT, tupOf rs.toArray 0) ∈ nx ∧ (∃ ndi, SAt w nx S dS D ndi (.ref RL) (.int np tp) fv ∧ SFx nds₀ ndi (fun j => if j ∈ ks.take i then -1 else f j)) ∧ ∀ q ∈ led, q.1 ∉ adrs S dS D nds → q ∈ nx) [] rfl (.head _) lF' lN' ⟨.head _, ⟨nds, hS.mono fun _ hq => .tail _ hq, by simpa using hf⟩, fun q hq _ => .tail _ hq⟩ (fun i nx h => h.1) ?_ ?_
  · intro i v u nx I oI h tk hi hv off hz0 F'' N''
    refine hide ?_
    intro Pz kz
    obtain ⟨hTT, ⟨ndi, hSi, hfi⟩, hrest⟩ := hz0
    refine kz ?_
    clear kz Pz
    (try k_fold)
    refine hide ?_
    intro Pz kz
    obtain ⟨k, tk', rfl, hki⟩ := IntsAre.at hks'.out i v hv
    rw [List.getElem?_map] at hki
    obtain ⟨kn, hkn, rfl⟩ := Option.map_eq_some_iff.mp hki
    have hkl : kn < ndi.length := by rw [hfi.len, ← hf.len]; exact hkr kn (List.mem_of_getElem? hkn)
    obtain ⟨xk, hxk⟩ : ∃ xk, ndi[kn]? = some xk := ⟨_, List.getElem?_eq_getElem hkl⟩
    obtain ⟨n1', n2, n3⟩ := hSi.nd hxk
    obtain ⟨rest2, N2', sub2, off2, keep2, back2⟩ := focus2 N'' n1'
    clear N''
    have hSi' := hSi.mono sub2
    obtain ⟨n1, n2, n3⟩ := hSi'.nd hxk
    obtain ⟨t1', t2', t3', t4', oD', m1', m2', m3', hD'⟩ := hSi'.top
    refine kz ?_
    clear kz Pz
    have hval := hSi'.value hxk
    have hlow := hSi'.low
    have offI : ∀ p ∈ rest2, p.1 ≠ I := fun p hp => off p (back2 p hp)
    have neI : @Ne Nat I xk.inf := fun e' => off _ n1' e'.symm
    have hadr : adrs S dS D ndi = adrs S dS D nds := by rw [hfi.adrs, hf.adrs]
    ktr_unf
    have hinf : xk.inf ∈ adrs S dS D nds := by
      rw [← hadr]
      simp only [adrs, List.mem_cons]
      exact .inr (.inr (.inr (mem_adrs hxk (by simp [ndA]))))
    have efun : (fun j => if j ∈ ks.take (i + 1) then (-1 : Int) else f j) = fun j => if j = kn then -1 else (if j ∈ ks.take i then -1 else f j) := by
      funext j
      rw [List.take_add_one, hkn]
      by_cases e1 : j = kn
      · simp [e1]
      · simp [e1]
    dsimp only [PostJ]
    refine EndJ.intro (by k_asm) (by k_asm) _ (fun _ hp => hp) (fun p hp => ?_) ⟨fun z hz hc => by simp [hz], ?_, ⟨_, hSi'.setNp hxk (fun q hq hne => ?_) (.head _), by rw [efun]; exact hfi.set hxk (-1) _⟩, fun q hq hna => ?_⟩
    · revert p
      exact all_cons (Ne.symm neI) (fun p hp => offI p hp)
    · rcases List.mem_cons.mp (sub2 _ hTT) with h5 | h5
      · have := congrArg (fun p => p.2.cls) h5
        simp at this
      · exact .tail _ h5
    · rcases List.mem_cons.mp hq with rfl | hq
      · exact absurd rfl hne
      · exact .tail _ hq
    · exact .tail _ (keep2 q (hrest q hq hna) fun e' => hna (e' ▸ hinf))
  · intro u nx h tk hz0 F'' N''
    refine hide ?_
    intro Pz kz
    obtain ⟨hTT, ⟨ndi, hSi, hfi⟩, hrest⟩ := hz0
    refine kz ?_
    clear kz Pz
    (try k_fold)
    have hkl : rs.length = ks.length := by rw [IntsAre.length hks'.out]; simp
    rw [hkl, List.take_length] at hfi
    have hRm := hrest _ hr hRL
    have hadr : adrs S dS D ndi = adrs S dS D nds := by rw [hfi.adrs, hf.adrs]
    refine hide ?_
    intro Pz kz
    obtain ⟨-, -, hSd, hSD, hdD⟩ := hSi.parts
    obtain ⟨t1', t2', t3', t4', oD', m1', m2', m3', hD'⟩ := hSi.top
    obtain ⟨rest1, N1, sub1, off1, keep1, back1⟩ := focus_ex N'' m2'
    have hRd : RL ≠ dS := fun e => hRL (by rw [e]; simp [adrs])
    have hRS : RL ≠ S := fun e => hRL (by rw [e]; simp [adrs])
    obtain ⟨rest2, N2', sub2, off2, keep2, back2⟩ := focus2 N1 (keep1 _ hRm hRd)
    refine kz ?_
    clear kz Pz
    clear N'' N1
    have offd : ∀ p ∈ rest2, p.1 ≠ dS := fun p hp => off1 p (back2 p hp)
    have ndR : @Ne Nat dS RL := fun e => hRd e.symm
    have m1'' := keep2 _ (keep1 _ m1' hSd) (fun e => hRS e.symm)
    have hTT2 : (TT, tupOf rs.toArray 0) ∈ rest2 := by
      rcases List.mem_cons.mp (sub1 _ hTT) with h5 | h5
      · have := congrArg (fun p => p.2.cls) h5
        simp at this
      rcases List.mem_cons.mp (sub2 _ h5) with h5 | h5
      · have := congrArg (fun p => p.2.cls) h5
        simp at this
      · exact h5
    dsimp only
    by_cases hrs : rs = []
    · subst hrs
      ktr_unf
      (rename News _ _ _ _ => lN)
      generalize hv' : Value.int (np + _) _ = v' at lN
      refine hQ TT ndi v' _ _ _ _ (by k_asm) lN ⟨_, hv'.symm⟩ ?_ hfi (.tail _ (.head _)) (.tail _ (.tail _ hTT2)) (fun q hq hna hnR => ?_)
      · refine (hSi.off (led' := (dS, sdict w t1' t2' t3' t4' D (.ref RL) (.int np tp) fv) :: rest2) fun q hq ha => ?_).attr (fun q hq hne => ?_) (.head _)
        · rcases List.mem_cons.mp (sub1 q hq) with h5 | h5
          · rw [h5]; exact .head _
          rcases List.mem_cons.mp (sub2 q h5) with h6 | h6
          · exact absurd (by rw [h6] at ha; rw [← hadr]; exact ha) hRL
          · exact .tail _ h6
        · rcases List.mem_cons.mp hq with rfl | hq
          · exact absurd rfl hne
          · exact .tail _ (.tail _ hq)
      · have h5 := keep1 q (hrest q hq hna) (fun e' => hna (by rw [e']; simp [adrs]))
        exact .tail _ (.tail _ (keep2 q h5 hnR))
    · have hne : rs.toArray.toList.length ≠ 0 := by simpa using hrs
      have hz16 : rs.toArray.toList.length ≤ sizeLine := by rw [sizeLine_eq]; simp; omega
      ktr_unf
      (rename News _ _ _ _ => lN)
      generalize hv' : Value.int (np + _) _ = v' at lN
      refine hQ TT ndi v' _ _ _ _ (by k_asm) lN ⟨_, hv'.symm⟩ ?_ hfi (.tail _ (.head _)) (.tail _ (.tail _ hTT2)) (fun q hq hna hnR => ?_)
      · refine (hSi.off (led' := (dS, sdict w t1' t2' t3' t4' D (.ref RL) (.int np tp) fv) :: rest2) fun q hq ha => ?_).attr (fun q hq hne => ?_) (.head _)
        · rcases List.mem_cons.mp (sub1 q hq) with h5 | h5
          · rw [h5]; exact .head _
          rcases List.mem_cons.mp (sub2 q h5) with h6 | h6
          · exact absurd (by rw [h6] at ha; rw [← hadr]; exact ha) hRL
          · exact .tail _ h6
        · rcases List.mem_cons.mp hq with rfl | hq
          · exact absurd rfl hne
          · exact .tail _ (.tail _ hq)
      · have h5 := keep1 q (hrest q hq hna) (fun e' => hna (by rw [e']; simp [adrs]))
        exact .tail _ (.tail _ (keep2 q h5 hnR))
end
end Mine
end
section
theorem Mine.w_Sort5_0 : True := by
  k_with_none
  trivial
namespace Mine
theorem Mine.w_Sort5_1 : True := by
  (k_with "ktr_unf" => repeat' ((fail_if_success (with_reducible show LCg.CompSrc _ _ _ _ _ _ _ _ _ _ _ _ _ _)); (fail_if_success (with_reducible show LCt.CompSrcT _ _ _ _ _ _ _ _ _ _ _ _ _ _ _)); (fail_if_success (with_reducible show wpAny _ _ (pyIter _) _ _ _)); (fail_if_success (with_reducible show wpAny _ _ (exec (Stmt.For _ _ _ _ _) _) _ _ _)); first | (k_unfold; (try dsimp only)) | tb_rel | ((fail_if_success (with_reducible show wpAny _ _ (subscriptTail _ _ (Value.ref _) (Value.int _ _)) _ _ _)); first | walk1 | (dsimp only; walk1))))
  (k_with "k_mem" => first | assumption | exact List.Mem.head _ | (refine' List.Mem.tail _ ?_; k_mem) | (refine' SubL.mem (by assumption) ?_; k_mem))
  (k_with "k_all" => first | assumption | exact off1_mem' (by assumption) | exact lt_ne (by assumption) (by omega) | exact allLt_ne (by assumption) (by omega))
  (k_with "tb_start" => ((with_reducible show wpAny _ _ (eval (Expr.ListComp _ _ _ _) _) _ _ _); k_dflt (refine ListComp_V (by k_asm) (by with_unfolding_all rfl) (by with_unfolding_all rfl) (by rfl) (by decide) (by rfl) ?_)))
  (k_with "tb_start" => ((with_reducible show wpAny _ _ (eval (Expr.ListComp _ _ _ _) _) _ _ _); k_dflt (refine LCg.ListComp_U (F₀ := by k_asm) (by with_unfolding_all rfl) (by decide) (by rfl) (by decide) (by rfl) ?_)))
  (k_with "tb_rel" => ((with_reducible show wpAny _ _ (subscriptTail _ _ (Value.ref _) (Value.int _ _)) _ _ _); k_dflt (refine' item_at (by k_asm) (by k_mem) (by omega) (by omega) (by assumption) ?_); (try dsimp only)))
  (k_with "ktr_rel" => (k_dflt (first
        | refine LCg.CompSrc.ledger (by rfl) (by k_asm) (by k_asm) (by k_mem) (by rw [sizeLine_eq]; simp; omega) ?_
        | refine LCg.CompSrc.range (n := 6) (by rfl) (by k_asm) (by k_asm) (by assumption) (by first | decide | rfl) (by first | rfl | decide) (by first | size_fits | exact Nat.le_of_ble_eq_true rfl) ?_); intro g'w))
  (k_with "tb_rel" => ((with_reducible show wpAny _ _ (getMethod (Value.ref _) (Str.ofString "get") _) _ _ _); k_dflt (refine' kdg_method (knd := intKind _ _) (by k_asm) (by k_mem) (by assumption) ?_); (try dsimp only)))
  (k_with "tb_rel" => ((with_reducible show wpAny _ _ (call (Value.builtin "dict.get") [Value.ref _, Value.int _ _]) _ _ _); k_dflt (refine' kdg_get1 (knd := intKind _ _) (by k_asm) (by k_mem) (by assumption) (by assumption) (intKind_is _ _ _ _) _ (by assumption) ?_); (try dsimp only [Option.getD])))
  (k_with "tb_rel" => ((with_reducible show wpAny _ _ (subscriptTail _ _ (Value.ref _) (Value.int _ _)) _ _ _); k_dflt (refine' kda_item (knd := intKind _ _) (by k_asm) (by k_mem) (by assumption) (intKind_is _ _ _ _) (by assumption) ?_); (try dsimp only)))
  (k_with "tb_rel" => ((with_reducible show wpAny _ _ (call (Value.builtin "list.append") [Value.ref _, _]) _ _ _); k_dflt (refine' append_K (by k_asm) (by k_asm) (by k_upd) ?_ (by (rw [sizeLine_eq]; simp; omega))); intro h'w F'w N'w))
  trivial
noncomputable def decS (st : (Nat → Int) × List Nat) (j : Nat) : (Nat → Int) × List Nat := (fun i => if i = j then st.1 j - 1 else st.1 i, if st.1 j - 1 = 0 then st.2 ++ [j] else st.2)
noncomputable def doneS (su : Nat → List Nat) (st : (Nat → Int) × List Nat) (k : Nat) : (Nat → Int) × List Nat := (su k).foldl decS (fun i => if i = k then -2 else st.1 i, st.2)
theorem decS_len (js : List Nat) (st : (Nat → Int) × List Nat) : (js.foldl decS st).2.length ≤ st.2.length + js.length := by
  induction js generalizing st with
  | nil => simp
  | cons j js ih =>
    rw [List.foldl_cons]
    have h1 := ih (decS st j)
    have h2 : (decS st j).2.length ≤ st.2.length + 1 := by unfold decS; dsimp only; split <;> simp
    simp only [List.length_cons]; omega
theorem doneS_len {su : Nat → List Nat} {n : Nat} (hsu : ∀ k, (su k).length ≤ n) (ks : List Nat) (st : (Nat → Int) × List Nat) : (ks.foldl (doneS su) st).2.length ≤ st.2.length + n * ks.length := by
  induction ks generalizing st with
  | nil => simp
  | cons k ks ih =>
    rw [List.foldl_cons]
    have h1 := ih (doneS su st k)
    have h2 : (doneS su st k).2.length ≤ st.2.length + (su k).length := decS_len _ _
    have h3 := hsu k
    simp only [List.length_cons, Nat.mul_add, Nat.mul_one]; omega
theorem take1 {α β : Type} {xs : List α} {g : β → α → β} {b : β} {i : Nat} {x : α} (h : xs[i]? = some x) : (xs.take (i + 1)).foldl g b = g ((xs.take i).foldl g b) x := by
  rw [List.take_add_one, h, List.foldl_append]; rfl
theorem ints_snoc {vs : List Value} {ns : List Int} {n : Int} {t : Tok} (h : IntsAre vs ns) : IntsAre (vs ++ [.int n t]) (ns ++ [n]) := by
  induction h with
  | nil => exact .cons _ _ .nil
  | cons _ _ _ ih => exact .cons _ _ ih
theorem focus3 {h₀ h : Heap} {L I J a : Addr} {oI oJ o : Obj} {nx : List (Addr × Obj)} (N : News h₀ L h ((I, oI) :: (J, oJ) :: nx)) (hm : (a, o) ∈ nx) : Foc3 h₀ h L I J a oI oJ o nx := by
  refine hide ?_
  intro Pz kz
  obtain ⟨rest, N', a1, a2, a3, a4⟩ := focus_ex (fun p hp => N p (.tail _ (.tail _ hp)) : News h₀ L h nx) hm
  refine kz ?_
  clear kz Pz
  refine ⟨rest, fun p hp => ?_, a1, a2, a3, a4⟩
  revert p
  exact all_cons (N _ (.head _)) (all_cons (N _ (.tail _ (.head _))) (fun p hp => N' p hp))
section
variable {w : World} {mean : ExcName → Option Value} {mg mb : Str → Option Value} {gd : Option (List Code)} {cn : Str} {nms : List (Str × NameKind)} {mr : List (Str × Const)} {a : Addr} {ccd : Value} {cl : List (Str × Addr)} {outer : List Env} {A₀ : Around} {base h₀ : Heap} {L : Addr} {m : Str → Option Value} {s : Shared} {Q E : Value → Shared → Prop} {news : List (Addr × Obj)}
variable {led : List (Addr × Obj)} {S dS D : Addr} {nds : List Nd} {rv pv fv : Value}
theorem c_doneC (B : Below A₀ base outer h₀) (F : Fr h₀ L s.heap m) (X : (Mine.pre.heap_1_1 w.params).In h₀) (N : News h₀ L s.heap led) (T : Top Mine.pre.view_1_2 (looseW Mine.pre.view_1_2 [Str.ofString "_NodeInfo"]) mean mg mb h₀)
   (nds₀ : List Nd) (su : Nat → List Nat) (st : (Nat → Int) × List Nat) (hf : SFx nds₀ nds st.1) (hsu : ∀ k x, nds₀[k]? = some x → IntsAre x.its ((su k).map Int.ofNat)) (hsr : ∀ k, ∀ j ∈ su k, j < nds₀.length) (hsl : ∀ k, (su k).length ≤ 6)
   (RL : Addr) (rs : List Value) (e : Nat) (nf : Int) (tf : Tok) (hr : (RL, listOf rs.toArray e) ∈ led) (hRL : RL ∉ adrs S dS D nds) (hS : SAt w led S dS D nds (.ref RL) pv (.int nf tf)) (hrs : IntsAre rs (st.2.map Int.ofNat)) (hrl : st.2.length ≤ 6)
   (vs : List Value) (ks : List Nat) (hks : IntsAre vs (ks.map Int.ofNat)) (hkr : ∀ k ∈ ks, k < nds₀.length) (hkl : vs.length ≤ 6) (hout : ∀ i k, ks[i]? = some k → ((ks.take i).foldl (doneS su) st).1 k = -1)
   (hQ : ∀ nds' rs' e' v' h' tk' led', Fr h₀ L h' m → News h₀ L h' led' → (∃ t', v' = .int (nf + (ks.length : Int)) t') → SAt w led' S dS D nds' (.ref RL) pv v' → SFx nds₀ nds' (ks.foldl (doneS su) st).1 → (RL, listOf rs'.toArray e') ∈ led' → IntsAre rs' ((ks.foldl (doneS su) st).2.map Int.ofNat) → (∀ q ∈ led, q.1 ∉ adrs S dS D nds → q.1 ≠ RL → q ∈ led') → Q .none { s with heap := h', toks := tk' }) :
   codeAny (model PySem.Challenge.rw_nb0264_01.row.prog w) (ktrTop 308 40 gd cn ⟨.function, nms, false, false, mr⟩ L a ccd cl outer) (.call (.ref 162) ⟨.ref S :: vs, []⟩) (fun r s' => match r with | .ok (.ret v) => Q v s' | .ok _ => False | .error e => E e s') s := by
  have hks' : Kp (IntsAre vs (ks.map Int.ofNat)) := ⟨hks⟩
  have hrs' : Kp (IntsAre rs (st.2.map Int.ofNat)) := ⟨hrs⟩
  refine hide ?_
  intro Pz kz
  obtain ⟨t1, t2, t3, t4, oD, m1, m2, m3, hD⟩ := hS.top
  refine kz ?_
  clear kz Pz
  k_dflt (refine' enterRest (vs := vs) (binds := fun D => [(Str.ofString "self", .ref S), (Str.ofString "nodes", .ref D)]) ?k1 ?k2 ?k3 ?k4 ?k5 ?kA ?kF ?kK ?k6 ?k7 ?k8 ?kV ?kP ?kB ?_ ?c2 ?c3 ?c4 ?c5; (case kA => exact rfl); (case kF => exact rfl); (case kK => exact rfl); (case k1 => k_asm); (case k2 => k_asm); (case k3 => k_asm); (case k4 => k_asm); (case k5 => k_asm); (case k6 => k_is); (case k7 => k_is); (case k8 => k_room); (case kV => exact rfl); (case kB => exact fun _ => locs rfl); (case c5 => decide); (case c2 => exact rfl); (case c3 => exact rfl); (case c4 => exact rfl); (case kP => (rcases vs with _ | ⟨v1, _ | ⟨v2, _ | ⟨v3, _ | ⟨v4, _ | ⟨v5, _ | ⟨v6, _ | ⟨v7, vs⟩⟩⟩⟩⟩⟩⟩ <;> first | exact ⟨_, rfl, fun _ => rfl⟩ | (simp at hkl))); k_whole)
  intro PT g' L' h' l1 FG' F' N' B' X' T'
  (try k_lt l1)
  (try dsimp only); (try k_lift B'); (try k_fold)
  (try ((with_reducible show wpAny _ _ _ _ _ _); generalize hA1 : Around.deeper _ _ = A1; revert A1; refine letEq ?_; intro A1))
  ktr_unf
  (rename Fr _ _ _ _ => lF0)
  refine For_fr lF0 rfl rfl ?_
  ktr_unf
  (rename Fr _ _ _ _ => lF'); (rename News _ _ _ _ => lN')
  have hPTa : PT ∉ adrs S dS D nds := fun hm => by
    refine hide ?_
    intro Pz kz
    obtain ⟨o, ho⟩ := hS.adr_mem PT hm
    refine kz ?_
    clear kz Pz
    exact Nat.lt_irrefl _ (ltN (l1 _ ho))
  have hPTR : PT ≠ RL := fun e' => Nat.lt_irrefl _ (ltN (e' ▸ l1 _ hr))
  refine iter_tupJ (vs := vs) (k := 0) (fun i nx => (PT, tupOf vs.toArray 0) ∈ nx ∧ (∃ ndi rsi ei v, SAt w nx S dS D ndi (.ref RL) pv v ∧ (∃ t, v = .int (nf + (i : Int)) t) ∧ SFx nds₀ ndi ((ks.take i).foldl (doneS su) st).1 ∧ (RL, listOf rsi.toArray ei) ∈ nx ∧ IntsAre rsi (((ks.take i).foldl (doneS su) st).2.map Int.ofNat)) ∧ ∀ q ∈ led, q.1 ∉ adrs S dS D nds → q.1 ≠ RL → q ∈ nx) [Str.ofString "nodeinfo", Str.ofString "stat", Str.ofString "successor", Str.ofString "successor_info"] rfl (.head _) lF' lN' ⟨.head _, ⟨nds, rs, e, _, hS.mono fun _ hq => .tail _ hq, ⟨tf, by simp⟩, by simpa using hf, .tail _ hr, by simpa using hrs'.out⟩, fun q hq _ _ => .tail _ hq⟩ (fun i nx h => h.1) ?_ ?_
  · intro i v u nx I oI h tk hi hv off hz0 F'' N''
    refine hide ?_
    intro Pz kz
    obtain ⟨hPT, ⟨ndi, rsi, ei, v1, hSi, ⟨tv, rfl⟩, hfi, hRi, hri⟩, hrest⟩ := hz0
    refine kz ?_
    clear kz Pz
    (try k_fold)
    replace hri : Kp (IntsAre rsi _) := ⟨hri⟩
    refine hide ?_
    intro Pz kz
    obtain ⟨k, tk', rfl, hki⟩ := IntsAre.at hks'.out i v hv
    rw [List.getElem?_map] at hki
    obtain ⟨kn, hkn, rfl⟩ := Option.map_eq_some_iff.mp hki
    have hm1 := hout i kn hkn
    have hlen1 := doneS_len hsl (ks.take i) st
    have htl : (ks.take i).length ≤ 6 := by
      have := IntsAre.length hks'.out
      rw [List.length_map] at this
      rw [List.length_take]; omega
    have hnxt := take1 (g := doneS su) (b := st) hkn
    generalize hst : (ks.take i).foldl (doneS su) st = sti at hfi hri hm1 hlen1 hnxt
    obtain ⟨xk, hxk⟩ : ∃ xk, ndi[kn]? = some xk := ⟨_, List.getElem?_eq_getElem (by rw [hfi.len]; exact hkr kn (List.mem_of_getElem? hkn))⟩
    obtain ⟨⟨inf, d, sl, vi, vp0, its, ek⟩, tk0, hx0, rfl⟩ := hfi.back hxk
    rw [hm1] at hxk
    dsimp only at hxk
    have hits : Kp (IntsAre its ((su kn).map Int.ofNat)) := ⟨hsu kn _ hx0⟩
    obtain ⟨n1', n2, n3⟩ := hSi.nd hxk
    dsimp only at n1' n2 n3
    obtain ⟨rest2, N2', sub2, off2, keep2, back2⟩ := focus2 N'' n1'
    clear N''
    have hSi' := hSi.mono sub2
    obtain ⟨t1', t2', t3', t4', oD', m1', m2', m3', hD'⟩ := hSi.top
    obtain ⟨hndp, hoffp, hSd, hSD, hdD⟩ := hSi.parts
    have hinfa : inf ∈ ndi.flatMap ndA := mem_adrs hxk (by simp [ndA])
    obtain ⟨hiS, hid, hiD⟩ := hoffp inf hinfa
    refine kz ?_
    clear kz Pz
    replace m1' := keep2 _ m1' (Ne.symm hiS)
    replace m2' := keep2 _ m2' (Ne.symm hid)
    replace m3' := keep2 _ m3' (Ne.symm hiD)
    have hval := hSi.value hxk
    dsimp only at hval
    have hlow := hSi.low
    have offI : ∀ p ∈ rest2, p.1 ≠ I := fun p hp => off p (back2 p hp)
    have neI : @Ne Nat I inf := fun e' => off _ n1' e'.symm
    have hadr : adrs S dS D ndi = adrs S dS D nds := by rw [hfi.adrs, hf.adrs]
    have n2s := keep2 _ n2 (Ne.symm (nd_ne hndp hxk).1)
    have n3s := keep2 _ n3 (Ne.symm (nd_ne hndp hxk).2.1)
    ktr_unf
    (rename Fr _ _ _ _ => lF1)
    refine For_fr lF1 rfl rfl ?_
    ktr_unf
    (rename Fr _ _ _ _ => lF'); (rename News _ _ _ _ => lN')
    have hfj0 := hfi.set hxk (-2) 260
    have hSj0 := hSi'.setNp hxk (v' := .int (-2) 260) (led' := (I, oI) :: (inf, infoO d vi (.int (-2) 260) sl) :: rest2) (fun q hq hne => by
      rcases List.mem_cons.mp hq with rfl | hq
      · exact absurd rfl hne
      · exact .tail _ (.tail _ hq)) (.tail _ (.head _))
    dsimp only at hfj0 hSj0
    have hinfA : inf ∈ adrs S dS D nds := by rw [← hadr]; simp only [adrs, List.mem_cons]; exact .inr (.inr (.inr hinfa))
    have hIadr : I ∉ adrs S dS D nds := fun hm => by
      refine hide ?_
      intro Pz kz
      obtain ⟨o, ho⟩ := hSi.adr_mem I (by rw [hadr]; exact hm)
      refine kz ?_
      clear kz Pz
      exact off _ ho rfl
    have hIR : I ≠ RL := fun e' => off _ hRi e'.symm
    refine iter_ledJ (vs := its) (k := ek) (fun i2 nx2 => (I, oI) ∈ nx2 ∧ (PT, tupOf vs.toArray 0) ∈ nx2 ∧ (∃ ndj rsj ej, SAt w nx2 S dS D ndj (.ref RL) pv (.int (nf + (i : Int)) tv) ∧ SFx nds₀ ndj (((su kn).take i2).foldl decS (fun i => if i = kn then -2 else sti.1 i, sti.2)).1 ∧ (RL, listOf rsj.toArray ej) ∈ nx2 ∧ IntsAre rsj ((((su kn).take i2).foldl decS (fun i => if i = kn then -2 else sti.1 i, sti.2)).2.map Int.ofNat)) ∧ ∀ q ∈ led, q.1 ∉ adrs S dS D nds → q.1 ≠ RL → q ∈ nx2) [Str.ofString "successor_info"] rfl (.tail _ (.tail _ n3s)) lF' lN' ⟨.head _, .tail _ (.tail _ (keep2 _ hPT fun e' => hPTa ((show PT = inf from e') ▸ hinfA))), ⟨_, rsi, ei, hSj0, hfj0, .tail _ (.tail _ (keep2 _ hRi fun e' => hRL ((show RL = inf from e') ▸ hinfA))), hri.out⟩, fun q hq hna hnR => .tail _ (.tail _ (keep2 q (hrest q hq hna hnR) fun e' => hna (e' ▸ hinfA)))⟩ (fun i2 nx2 h => ?_) ?_ ?_
    · refine hide ?_
      intro Pz kz
      obtain ⟨_, _, ⟨ndj, rsj, ej, hSj, hfj, _⟩, _⟩ := h
      obtain ⟨tj, hj⟩ := hfj.cnt kn _ hx0
      refine kz ?_
      clear kz Pz
      exact (hSj.nd hj).3
    · clear hfj0 hSj0 lF' lN' N2'
      intro i2 v2 u2 nx2 I2 oI2 h2 tk2 hi2 hv2 offI2 hz0 F2 N2
      refine hide ?_
      intro Pz kz
      obtain ⟨hII, hPT2, ⟨ndj, rsj, ej, hSj, hfj, hRj, hrj⟩, hrest2⟩ := hz0
      refine kz ?_
      clear kz Pz
      (try k_fold)
      replace hrj : Kp (IntsAre rsj _) := ⟨hrj⟩
      refine hide ?_
      intro Pz kz
      obtain ⟨jz, tj, rfl, hjz⟩ := IntsAre.at hits.out i2 v2 hv2
      rw [List.getElem?_map] at hjz
      obtain ⟨jn, hjn, rfl⟩ := Option.map_eq_some_iff.mp hjz
      have hnx2 := take1 (g := decS) (b := (fun i => if i = kn then -2 else sti.1 i, sti.2)) hjn
      have hlen2 := decS_len ((su kn).take i2) (fun i => if i = kn then -2 else sti.1 i, sti.2)
      have htl2 : ((su kn).take i2).length ≤ 6 := by
        have := hsl kn
        rw [List.length_take]; omega
      generalize hsj : ((su kn).take i2).foldl decS (fun i => if i = kn then -2 else sti.1 i, sti.2) = stj at hfj hrj hlen2 hnx2
      obtain ⟨xj, hxj⟩ : ∃ xj, ndj[jn]? = some xj := ⟨_, List.getElem?_eq_getElem (by rw [hfj.len]; exact hsr kn jn (List.mem_of_getElem? hjn))⟩
      obtain ⟨⟨jinf, jd, jsl, jvi, jvp0, jits, jek⟩, tj0, hxj0, rfl⟩ := hfj.back hxj
      dsimp only at hxj
      have hrjl : rsj.length ≤ 60 := by
        have e1 := IntsAre.length hrj.out
        rw [List.length_map] at e1
        dsimp only at hlen2
        omega
      obtain ⟨p1, p2, p3⟩ := hSj.nd hxj
      dsimp only at p1 p2 p3
      obtain ⟨jndp, joffp, -, -, -⟩ := hSj.parts
      have jinfa : jinf ∈ ndj.flatMap ndA := mem_adrs hxj (by simp [ndA])
      have jadr : adrs S dS D ndj = adrs S dS D nds := by rw [hfj.adrs, hf.adrs]
      have jinfA : jinf ∈ adrs S dS D nds := by rw [← jadr]; simp only [adrs, List.mem_cons]; exact .inr (.inr (.inr jinfa))
      have hRj1 : RL ≠ jinf := fun e' => hRL (e' ▸ jinfA)
      obtain ⟨jS, jdS, jD⟩ := joffp jinf jinfa
      obtain ⟨u1, u2', u3, u4, oDj, q1, q2, q3, hDj⟩ := hSj.top
      obtain ⟨rest3, N3, sub3, off3, keep3, back3⟩ := focus2 N2 p1
      obtain ⟨rest4, N4, sub4, off4, keep4, back4⟩ := focus3 N3 (keep3 _ hRj hRj1)
      refine kz ?_
      clear kz Pz
      clear N2 N3
      have q1' := keep4 _ (keep3 _ q1 (Ne.symm jS)) (fun e' => hRL (by rw [← e']; simp [adrs]))
      have q2' := keep4 _ (keep3 _ q2 (Ne.symm jdS)) (fun e' => hRL (by rw [← e']; simp [adrs]))
      have q3' := keep4 _ (keep3 _ q3 (Ne.symm jD)) (fun e' => hRL (by rw [← e']; simp [adrs]))
      have p2' : (jd, dictOf [] 0) ∈ rest4 := keep4 _ (keep3 _ p2 (Ne.symm (nd_ne jndp hxj).1)) (fun e' => by
        apply hRL
        rw [← e', ← jadr]; simp only [adrs, List.mem_cons]; exact .inr (.inr (.inr (mem_adrs hxj (by simp [ndA])))))
      clear q1 q2 q3 p2 p3 m1' m2' m3' n2s n3s
      have jval := hSj.value hxj
      dsimp only at jval
      have hlow := hSj.low
      have o1 : ∀ p ∈ rest4, p.1 ≠ I2 := fun p hp => offI2 p (back3 p (back4 p hp))
      have o2 : ∀ p ∈ rest4, p.1 ≠ jinf := fun p hp => off3 p (back4 p hp)
      have ne1 : @Ne Nat I2 jinf := fun e' => offI2 _ p1 e'.symm
      have ne2 : @Ne Nat I2 RL := fun e' => offI2 _ hRj e'.symm
      have ne3 : @Ne Nat jinf RL := fun e' => hRj1 e'.symm
      have hSj2 := hSj.off (led' := (jinf, infoO jd jvi (.int (stj.1 jn) tj0) jsl) :: rest4) fun q hq ha => by
        rcases List.mem_cons.mp (sub3 q hq) with h5 | h5
        · rw [h5]; exact .head _
        rcases List.mem_cons.mp (sub4 q h5) with h6 | h6
        · exact absurd (by rw [h6] at ha; rw [← jadr]; exact ha) hRL
        · exact .tail _ h6
      have hII4 : (I, oI) ∈ rest4 := keep4 _ (keep3 _ hII fun e' => hIadr ((show I = jinf from e') ▸ jinfA)) hIR
      have hPT4 : (PT, tupOf vs.toArray 0) ∈ rest4 := keep4 _ (keep3 _ hPT2 fun e' => hPTa ((show PT = jinf from e') ▸ jinfA)) hPTR
      have e1 : (fun j => if j = jn then stj.1 jn - 1 else stj.1 j) = (((su kn).take (i2 + 1)).foldl decS (fun i => if i = kn then -2 else sti.1 i, sti.2)).1 := by rw [hnx2]; rfl
      ktr_unf
      · rename stj.1 jn - 1 = 0 => hz0
        have e2 : (decS stj jn).2 = stj.2 ++ [jn] := by simp [decS, hz0]
        (rename Fr _ _ _ _ => lF); (rename News _ _ _ _ => lN)
        generalize hv' : Value.int (stj.1 jn - 1) _ = v' at lN
        obtain ⟨tt, rfl⟩ : ∃ tt, v' = .int (stj.1 jn - 1) tt := ⟨_, hv'.symm⟩
        clear hv'
        dsimp only [PostJ]
        refine EndJ.intro lF lN _ (fun _ hp => hp) (fun p hp => ?_) ⟨fun z hz hc => ?_, .tail _ (.tail _ hII4), .tail _ (.tail _ hPT4), ⟨_, rsj ++ [.int (Int.ofNat jn) tj], _, hSj2.setNp hxj (fun q hq hne => ?_) (.head _), e1 ▸ hfj.set hxj (stj.1 jn - 1) tt, .tail _ (by rw [← List.push_toArray]; exact .head _), by rw [hnx2, e2, List.map_append]; exact ints_snoc hrj.out⟩, fun q hq hna hnR => .tail _ (.tail _ (keep4 q (keep3 q (hrest2 q hq hna hnR) fun e' => hna (e' ▸ jinfA)) hnR))⟩
        · revert p
          exact all_cons (Ne.symm ne1) (all_cons (Ne.symm ne2) (fun p hp => o1 p hp))
        · have h1 : z ≠ Str.ofString "successor_info" := by rintro rfl; simp at hc
          simp [hz, h1]
        · rcases List.mem_cons.mp hq with rfl | hq
          · exact absurd rfl hne
          · exact .tail _ (.tail _ hq)
      · rename stj.1 jn - 1 ≠ 0 => hz0
        have e2 : (decS stj jn).2 = stj.2 := by simp [decS, hz0]
        (rename Fr _ _ _ _ => lF); (rename News _ _ _ _ => lN)
        generalize hv' : Value.int (stj.1 jn - 1) _ = v' at lN
        obtain ⟨tt, rfl⟩ : ∃ tt, v' = .int (stj.1 jn - 1) tt := ⟨_, hv'.symm⟩
        clear hv'
        dsimp only [PostJ]
        refine EndJ.intro lF lN _ (fun _ hp => hp) (fun p hp => ?_) ⟨fun z hz hc => ?_, .tail _ (.tail _ hII4), .tail _ (.tail _ hPT4), ⟨_, rsj, _, hSj2.setNp hxj (fun q hq hne => ?_) (.head _), e1 ▸ hfj.set hxj (stj.1 jn - 1) tt, .tail _ (.head _), by rw [hnx2, e2]; exact hrj.out⟩, fun q hq hna hnR => .tail _ (.tail _ (keep4 q (keep3 q (hrest2 q hq hna hnR) fun e' => hna (e' ▸ jinfA)) hnR))⟩
        · revert p
          exact all_cons (Ne.symm ne1) (all_cons (Ne.symm ne2) (fun p hp => o1 p hp))
        · have h1 : z ≠ Str.ofString "successor_info" := by rintro rfl; simp at hc
          simp [hz, h1]
        · rcases List.mem_cons.mp hq with rfl | hq
          · exact absurd rfl hne
          · exact .tail _ (.tail _ hq)
    · clear hfj0 hSj0 lF' lN' N2'
      intro u2 nx2 h2 tk2 hz0 F2 N2
      refine hide ?_
      intro Pz kz
      obtain ⟨hII, hPT2, ⟨ndj, rsj, ej, hSj, hfj, hRj, hrj⟩, hrest2⟩ := hz0
      refine kz ?_
      clear kz Pz
      (try k_fold)
      have hil : its.length = (su kn).length := by have := IntsAre.length hits.out; simpa using this
      rw [hil, List.take_length] at hfj hrj
      replace hrj : Kp (IntsAre rsj _) := ⟨hrj⟩
      have jadr : adrs S dS D ndj = adrs S dS D nds := by rw [hfj.adrs, hf.adrs]
      refine hide ?_
      intro Pz kz
      obtain ⟨u1, u2', u3, u4, oDj, q1, q2, q3, hDj⟩ := hSj.top
      obtain ⟨rest3, N3, sub3, off3, keep3, back3⟩ := focus_ex N2 q2
      refine kz ?_
      clear kz Pz
      have q1' := keep3 _ q1 hSd
      clear q1 q2 q3 m1' m2' m3' n2s n3s N2
      dsimp only
      ktr_unf
      (rename Fr _ _ _ _ => lF); (rename News _ _ _ _ => lN)
      generalize hv' : Value.int (nf + (i : Int) + 1) _ = v' at lN
      obtain ⟨tt, rfl⟩ : ∃ tt, v' = .int (nf + (i : Int) + 1) tt := ⟨_, hv'.symm⟩
      clear hv'
      have hdSA : dS ∈ adrs S dS D nds := by simp [adrs]
      have hId : I ≠ dS := fun e' => hIadr (e' ▸ hdSA)
      have fil : ∀ q ∈ nx2, q.1 ≠ dS → q.1 ≠ I → q ∈ ((dS, sdict w u1 u2' u3 u4 D (.ref RL) pv (.int (nf + (i : Int) + 1) tt)) :: rest3).filter (fun q => decide (q.1 ≠ I)) := fun q hq h1 h2 => List.mem_filter.mpr ⟨.tail _ (keep3 q hq h1), by simpa using h2⟩
      dsimp only [PostJ]
      refine EndJ.intro lF lN (((dS, sdict w u1 u2' u3 u4 D (.ref RL) pv (.int (nf + (i : Int) + 1) tt)) :: rest3).filter (fun q => decide (q.1 ≠ I))) (fun p hp => ?_) (fun p hp => by simpa using (List.mem_filter.mp hp).2) ⟨fun z hz hc => ?_, fil _ hPT2 (fun e' => hPTa ((show PT = dS from e') ▸ hdSA)) (fun e' => off _ hPT e'), ⟨ndj, rsj, ej, _, (hSj.attr (led' := (dS, sdict w u1 u2' u3 u4 D (.ref RL) pv (.int (nf + (i : Int) + 1) tt)) :: rest3) (fun q hq hne => .tail _ (keep3 q hq hne)) (.head _)).off (fun q hq ha => List.mem_filter.mpr ⟨hq, ?_⟩), ⟨tt, by rw [Int.add_assoc]; rfl⟩, by rw [hnxt]; exact hfj, fil _ hRj (fun e' => hRL ((show RL = dS from e') ▸ hdSA)) (Ne.symm hIR), by rw [hnxt]; exact hrj.out⟩, fun q hq hna hnR => fil q (hrest2 q hq hna hnR) (fun e' => hna (e' ▸ hdSA)) ?_⟩
      · revert p
        exact all_cons (.tail _ (keep3 _ hII hId)) (fun p hp => (List.mem_filter.mp hp).1)
      · have h1 : z ≠ Str.ofString "successor_info" := by rintro rfl; simp at hc
        have h2 : z ≠ Str.ofString "successor" := by rintro rfl; simp at hc
        have h3 : z ≠ Str.ofString "stat" := by rintro rfl; simp at hc
        have h4 : z ≠ Str.ofString "nodeinfo" := by rintro rfl; simp at hc
        simp [hz, h1, h2, h3, h4]
      · have h1 : q.1 ≠ I := fun e' => hIadr (by rw [← jadr, ← e']; exact ha)
        simpa using h1
      · exact off q (hrest q hq hna hnR)
  · intro u nx h tk hz0 F'' N''
    refine hide ?_
    intro Pz kz
    obtain ⟨hPT, ⟨ndi, rsi, ei, v1, hSi, ⟨tv, rfl⟩, hfi, hRi, hri⟩, hrest⟩ := hz0
    refine kz ?_
    clear kz Pz
    (try k_fold)
    have hkl : vs.length = ks.length := by rw [IntsAre.length hks'.out]; simp
    rw [hkl] at hSi
    rw [hkl, List.take_length] at hfi hri
    dsimp only
    ktr_unf
    exact hQ ndi rsi ei _ _ _ nx (by k_asm) (by k_asm) ⟨tv, rfl⟩ hSi hfi hRi hri hrest
end
end Mine
end
section
namespace Mine
open PySem.Spec PySem.Calls LCg
section
variable {prog : Program} {w : World} {A : Around} {E : Value → Shared → Prop} {s : Shared} {h₀ : Heap} {L : Addr} {m : Str → Option Value} {env : Env}
/-- a comprehension with one test stands before its turns -/
inductive AtT (prog : Program) (w : World) (A : Around) (h₀ : Heap) (L : Addr) (m : Str → Option Value) (env : Env) (ct elt : Expr) (x : Str) (scope : Scope) (cl : List (Str × Addr)) (Fin : Shared → List Value → List (Addr × Obj) → Prop) (it : Value) (s₂ : Shared) : Prop
  | mk (I : Addr) (fp : List Addr) (n : Nat) (P : Nat → Value → Prop) (St : Nat → Heap → Prop) (S : List (Addr × Obj) → Prop) (news : List (Addr × Obj))
    (c1 : it = .ref I) (c2 : Walks prog w A I fp [I] n P St) (c3 : n ≤ sizeLine) (c4 : ∀ i h, St i h → ∃ o, h.get? I = some o)
    (c5 : ∀ i h h' o nw, St i h → h.get? I = some o → h'.get? I = some o → (∀ b o, h₀.get? b = some o → h'.get? b = some o) → News h₀ L h' nw → S nw → St i h')
    (c6 : St 0 s₂.heap) (c7 : ∀ b ∈ fp, b < s₂.heap.objs.size) (c8 : Fr h₀ L s₂.heap m) (c9 : News h₀ L s₂.heap news) (d1 : L ≠ I) (d2 : h₀.get? I = none) (d3 : ∀ p ∈ news, p.1 ≠ I) (d4 : S news)
    (d5 : LCt.CompRestT prog w A h₀ L m env ct elt x scope cl s₂ S P (Fin s₂) n 0 [] news)
theorem ListComp_TW {ct elt iter : Expr} {x : Str} {px : Pos} {scope : Scope} {cl : List (Str × Addr)} {pos : Pos} {Q : Value → Shared → Prop} (_F₀ : Fr h₀ L s.heap m)
    (hclos : closureFor scope env = pure cl) (hcell : ∀ y ∈ scope.names, y.2 ≠ .cell) (hkind : scope.kind = .function)
    (hnames : ∀ y ∈ scope.names, y.2 = .local → scope.names.lookup y.1 = some .local) (hx : scope.names.lookup x = some .local)
    (h : wpAny (model prog w) A (eval iter env) (fun xv s₁ => wpAny (model prog w) A (pyIter xv) (AtT prog w A h₀ L m env ct elt x scope cl (fun s₂ => FinE h₀ L m s₂ Q)) E s₁) E s)
    (hs : ∀ x, foldedSetIterable iter env x = pure x := by intro _; rfl) :
    wpAny (model prog w) A (eval (.ListComp elt [⟨.Name x px, iter, [ct], 0⟩] scope pos) env) Q E s := by
  rw [eval_ListComp]
  refine wpAny_comprehension_free (use := none) rfl hs hclos hkind hnames (wpAny_mono h (fun xv s₁ h₁ => wpAny_mono h₁ (fun it s₂ h₂ => ?_) fun _ _ e => e) fun _ _ e => e)
  refine hide ?_
  intro Pz kz
  obtain ⟨I, fp, n, P, St, S, news, rfl, W, hsz, hIo, hSt, hst, hfp, F, N, hIL, hI₀, off, hS, R⟩ := h₂
  refine kz ?_
  clear kz Pz
  refine LCt.block_T W hsz hIo hSt hcell hkind hx hst hfp F N hIL hI₀ off hS R ?_
  intro D C h tk m' ys news' F' N' o1 hn hC₀ hD₀ hCL hDL hCD offC fin
  refine ⟨m', hn, fun h'' hs'' => fin D h'' tk (F'.change hs'' hCL hC₀) (fun p hp => ?_) o1⟩
  refine ⟨hs''.extBut _ _ ?_ (N' p hp).1, (N' p hp).2⟩
  revert p
  exact all_cons (Ne.symm hCD) (fun p hp => offC p hp)
theorem AtT.values {ct elt : Expr} {x : Str} {scope : Scope} {cl : List (Str × Addr)} {Fin : Shared → List Value → List (Addr × Obj) → Prop} {v d : Addr} {oD : Obj} {kv : List (Int × Value)} {news : List (Addr × Obj)}
    (hh : A.handled = none) (F : Fr h₀ L s.heap m) (N : News h₀ L s.heap news) (hv : s.heap.IsValuesView v d) (hm : (d, oD) ∈ news) (hd : oD.IsDictOf (intKind prog w) kv) (hsz : kv.length ≤ sizeLine)
    (h : ∀ g, LCt.CompRestT prog w A h₀ L m env ct elt x scope cl { s with heap := g } (fun nw => (d, oD) ∈ nw) (fun i v => ∃ k, kv[i]? = some (k, v)) (Fin { s with heap := g }) kv.length 0 [] news) :
    wpAny (model prog w) A (pyIter (.ref v)) (AtT prog w A h₀ L m env ct elt x scope cl Fin) E s := by
  have hD := kda_dict N hm hd
  refine hide ?_
  intro Pz kz
  obtain ⟨ep, hat⟩ := hD.dictAt
  refine kz ?_
  clear kz Pz
  have hlt : d < s.heap.objs.size := Heap.lt_size (N _ hm).1
  have hne : d ≠ s.heap.objs.size := Nat.ne_of_lt hlt
  refine wpAny_pyIter_values hv hat ?_
  refine ⟨s.heap.objs.size, _, kv.length, _, _, fun nw => (d, oD) ∈ nw, news, rfl, Walks.dictValues (knd := intKind prog w) hh s.heap.objs.size d hne kv ep, hsz, fun i h st => by obtain ⟨o, e, _⟩ := st.1; exact ⟨o, e⟩, ?_, ⟨⟨_, Heap.get?_push_size _ rfl, rfl, rfl⟩, hat.push _⟩, ?_,
    F.keeps fun _ _ e => Heap.get?_push_of_some _ e, N.grown fun _ _ e => Heap.get?_push_of_some _ e, Nat.ne_of_lt F.ns.lt, next_is_new F, fun p hp => Nat.ne_of_lt (Heap.lt_size (N p hp).1), hm, h _⟩
  · intro i h h' o nw st e e' _ N' hS
    refine ⟨st.1.at fun o' q => by rw [e] at q; cases q; exact e', hat.at' fun o' q => ?_⟩
    rw [(N _ hm).1] at q
    cases q
    exact (N' _ hS).1
  · intro b hb
    show b < (s.heap.push _).objs.size
    rw [Heap.size_push]
    rcases List.mem_cons.mp hb with rfl | hb
    · exact Nat.lt_succ_self _
    · rw [List.mem_singleton.mp hb]; exact Nat.lt_succ_of_lt hlt
theorem AtT.range {ct elt : Expr} {x : Str} {scope : Scope} {cl : List (Str × Addr)} {Fin : Shared → List Value → List (Addr × Obj) → Prop} {r : Addr} {a b : Int} {t u v : Tok} {n : Nat} {news : List (Addr × Obj)}
    (hh : A.handled = none) (F : Fr h₀ L s.heap m) (N : News h₀ L s.heap news) (hr : IsRange s.heap r a b 1 t u v) (hsm : Builtin.Range.small a b 1 = true) (hn : Builtin.Range.rangeSize a b 1 = ((n : Nat) : Int)) (hsz : n ≤ sizeLine)
    (h : ∀ g, LCt.CompRestT prog w A h₀ L m env ct elt x scope cl { s with heap := g } (fun _ => True) (fun i v => ∃ t, v = .int (a + (i : Int)) t) (Fin { s with heap := g }) n 0 [] news) :
    wpAny (model prog w) A (pyIter (.ref r)) (AtT prog w A h₀ L m env ct elt x scope cl Fin) E s := by
  refine wpAny_pyIter_range hr hsm ?_
  refine ⟨s.heap.objs.size, [s.heap.objs.size], n, _, _, fun _ => True, news, rfl, range_walks hh a n, hsz, fun i h st => ⟨_, st⟩, range_st, ?_, ?_, F.keeps fun _ _ e => Heap.get?_push_of_some _ e, N.grown fun _ _ e => Heap.get?_push_of_some _ e,
    Nat.ne_of_lt F.ns.lt, next_is_new F, fun p hp => Nat.ne_of_lt (Heap.lt_size (N p hp).1), trivial, h _⟩
  · show IsRangeIter _ _ _ _ _
    rw [hn]; simpa using Heap.get?_push_size _ rfl
  · intro b hb
    rw [List.mem_singleton.mp hb]
    show s.heap.objs.size < (s.heap.push _).objs.size
    rw [Heap.size_push]; exact Nat.lt_succ_self _
theorem AtT.list {ct elt : Expr} {x : Str} {scope : Scope} {cl : List (Str × Addr)} {Fin : Shared → List Value → List (Addr × Obj) → Prop} {ax : Addr} {its : Array Value} {k : Nat} {news : List (Addr × Obj)}
    (hh : A.handled = none) (F : Fr h₀ L s.heap m) (N : News h₀ L s.heap news) (hm : (ax, listOf its k) ∈ news) (hsz : its.size ≤ sizeLine)
    (h : ∀ g, LCt.CompRestT prog w A h₀ L m env ct elt x scope cl { s with heap := g } (SrcAt h₀ ax its) (fun i v => its[i]? = some v) (Fin { s with heap := g }) its.size 0 [] news) :
    wpAny (model prog w) A (pyIter (.ref ax)) (AtT prog w A h₀ L m env ct elt x scope cl Fin) E s := by
  have hl : s.heap.IsList ax its := ⟨_, (N _ hm).1, rfl, _, rfl⟩
  have hlt : ax < s.heap.objs.size := Heap.lt_size (N _ hm).1
  refine wpAny_pyIter_list hl ?_
  have up : ∀ b o, s.heap.get? b = some o → (s.heap.push { cls := .type "list_iterator", data := .fields #[.ref ax, .int 0 0] }).get? b = some o := fun b o e => Heap.get?_push_of_some _ e
  refine ⟨s.heap.objs.size, _, its.size, _, _, SrcAt h₀ ax its, news, rfl, Walks.list hh s.heap.objs.size ax (Nat.ne_of_lt hlt) its, hsz, fun i h st => by obtain ⟨o, e, _⟩ := st.1; exact ⟨o, e⟩, list_st, ⟨⟨_, Heap.get?_push_size _ rfl, rfl, rfl⟩, hl.push _⟩, ?_, F.keeps up, N.grown up,
    Nat.ne_of_lt F.ns.lt, next_is_new F, fun p hp => Nat.ne_of_lt (Heap.lt_size (N p hp).1), .inr ⟨_, hm, rfl, _, rfl⟩, h _⟩
  intro b hb
  show b < (s.heap.push _).objs.size
  rw [Heap.size_push]
  rcases List.mem_cons.mp hb with rfl | hb
  · exact Nat.lt_succ_self _
  · rw [List.mem_singleton.mp hb]; exact Nat.lt_succ_of_lt hlt
theorem vals_method {d : Addr} {o : Obj} {news : List (Addr × Obj)} {kv : List (Int × Value)} {pl : Sem Bool} {Q : Value × List Value → Shared → Prop} (N : News h₀ L s.heap news) (hp : (d, o) ∈ news) (hd : o.IsDictOf (intKind prog w) kv) (h : Q (.builtin "dict.values", [.ref d]) s) : wpAny (model prog w) A (getMethod (.ref d) (Str.ofString "values") pl) Q E s :=
  have hD := kda_dict N hp hd
  getMethod_builtin hD.typeIs PySem.F.plainAttrs_dict PySem.F.slot_dict_values PySem.F.type_dict_values hD.mapOf.noDict h
theorem vals_call {d : Addr} {o : Obj} {news : List (Addr × Obj)} {kv : List (Int × Value)} {Q : Value → Shared → Prop} (F : Fr h₀ L s.heap m) (N : News h₀ L s.heap news) (hp : (d, o) ∈ news) (hd : o.IsDictOf (intKind prog w) kv) (lo : (d == sysModules) = false)
    (h : ∀ V h' oV, h'.IsValuesView V d → Fr h₀ L h' m → News h₀ L h' ((V, oV) :: news) → (∀ p ∈ news, p.1 < V) → Q (.ref V) { s with heap := h' }) : wpAny (model prog w) A (call (.builtin "dict.values") [.ref d]) Q E s :=
  have hD := kda_dict N hp hd
  call_meetsIn PySem.F.slot_dict_values hD.typeIs PySem.F.entry_dict_values (PySem.F.args_dict_values_1 _) (meets_dict_values (intKind prog w) d lo)
    ⟨⟨kv, hD⟩, h _ _ _ ⟨_, Heap.get?_push_size _ rfl, rfl, rfl⟩ (F.push _) (News.push F N _) fun p hp => Heap.lt_size (N p hp).1⟩
end
end Mine
end
section
theorem Mine.w_Sort6_0 : True := by
  k_with_none
  trivial
namespace Mine
theorem Mine.w_Sort6_1 : True := by
  (k_with "ktr_unf" => repeat' ((fail_if_success (with_reducible show wpAny _ _ (pyIter _) _ _ _)); (fail_if_success (with_reducible show wpAny _ _ (exec (Stmt.For _ _ _ _ _) _) _ _ _)); (fail_if_success (with_reducible show wpAny _ _ (eval (Expr.ListComp _ _ _ _) _) _ _ _)); (fail_if_success (with_reducible show wpAny _ _ (call (Value.ref 169) _) _ _ _)); first | (k_unfold; (try dsimp only)) | tb_rel | ((fail_if_success (with_reducible show wpAny _ _ (subscriptTail _ _ (Value.ref _) (Value.int _ _)) _ _ _)); (fail_if_success (with_reducible show wpAny _ _ (setItem (Value.ref _) _ _) _ _ _)); first | walk1 | (dsimp only; walk1))))
  (k_with "k_mem" => first | assumption | exact List.Mem.head _ | (refine' List.Mem.tail _ ?_; k_mem) | (refine' SubL.mem (by assumption) ?_; k_mem))
  (k_with "k_all" => first | assumption | exact off1_mem' (by assumption) | exact lt_ne (by assumption) (by omega) | exact allLt_ne (by assumption) (by omega))
  (k_with "tb_rel" => ((with_reducible show wpAny _ _ (subscriptTail _ _ (Value.ref _) (Value.int _ _)) _ _ _); k_dflt (refine' item_at (by k_asm) (by k_mem) (by omega) (by omega) (by assumption) ?_); (try dsimp only)))
  (k_with "tb_rel" => ((with_reducible show wpAny _ _ (getMethod (Value.ref _) (Str.ofString "get") _) _ _ _); k_dflt (refine' kdg_method (knd := intKind _ _) (by k_asm) (by k_mem) (by assumption) ?_); (try dsimp only)))
  (k_with "tb_rel" => ((with_reducible show wpAny _ _ (call (Value.builtin "dict.get") [Value.ref _, Value.int _ _]) _ _ _); k_dflt (refine' kdg_get1 (knd := intKind _ _) (by k_asm) (by k_mem) (by assumption) (by assumption) (intKind_is _ _ _ _) _ (by assumption) ?_); (try dsimp only [Option.getD])))
  (k_with "tb_rel" => ((with_reducible show wpAny _ _ (subscriptTail _ _ (Value.ref _) (Value.int _ _)) _ _ _); k_dflt (refine' kda_item (knd := intKind _ _) (by k_asm) (by k_mem) (by assumption) (intKind_is _ _ _ _) (by assumption) ?_); (try dsimp only)))
  (k_with "tb_rel" => ((with_reducible show wpAny _ _ (call (Value.builtin "list.append") [Value.ref _, _]) _ _ _); k_dflt (refine' append_K (by k_asm) (by k_asm) (by k_upd) ?_ (by (rw [sizeLine_eq]; simp; omega))); intro h'w F'w N'w))
  (k_with "tb_rel" => ((with_reducible show wpAny _ _ (getMethod (Value.ref _) (Str.ofString "values") _) _ _ _); k_dflt (refine' vals_method (by k_asm) (by k_mem) (by assumption) ?_); (try dsimp only)))
  (k_with "tb_rel" => ((with_reducible show wpAny _ _ (call (Value.builtin "dict.values") [Value.ref _]) _ _ _); k_dflt (refine' vals_call (by k_asm) (by k_asm) (by k_mem) (by assumption) (by assumption) ?_); intro V'w h'w oV'w hV'w F'w N'w l1'w; (try k_lt l1'w); (try dsimp only)))
  trivial
noncomputable def readyOf (f : Nat → Int) (n : Nat) : List Nat := (List.range n).filter fun j => f j == 0
theorem kvs_atV {nds : List Nd} {i : Nat} {k : Int} {v : Value} (h : (kvs nds)[i]? = some (k, v)) : ∃ x, nds[i]? = some x ∧ v = .ref x.inf := by
  have hl : i < nds.length := by have := (List.getElem?_eq_some_iff.mp h).1; rw [kvs_len] at this; exact this
  rw [kvs_get (List.getElem?_eq_getElem hl)] at h
  cases h
  exact ⟨_, List.getElem?_eq_getElem hl, rfl⟩
theorem SFx.vp {nds : List Nd} {f : Nat → Int} (h : SFx nds nds f) {j : Nat} {x : Nd} (hx : nds[j]? = some x) : ∃ t, x.vp = .int (f j) t := by
  refine hide ?_
  intro Pz kz
  obtain ⟨t, ht⟩ := h.cnt j x hx
  refine kz ?_
  clear kz Pz
  rw [hx] at ht
  exact ⟨t, congrArg Nd.vp (Option.some.inj ht)⟩
theorem ready_snoc (f : Nat → Int) (i : Nat) : readyOf f (i + 1) = if f i = 0 then readyOf f i ++ [i] else readyOf f i := by
  unfold readyOf
  rw [List.range_succ, List.filter_append]
  split <;> simp_all
theorem SAt.attrN {w : World} {h₀ h : Heap} {L A1 A2 S dS D : Addr} {o1 o2 : Obj} {nds : List Nd} {rest : List (Addr × Obj)} {t1 t2 t3 t4 : Tok} {r p f r' p' f' : Value} {o : Obj} (_N : News h₀ L h ((A1, o1) :: (A2, o2) :: (dS, sdict w t1 t2 t3 t4 D r' p' f') :: rest)) (hS : SAt w ((dS, o) :: rest) S dS D nds r p f) :
    SAt w ((A1, o1) :: (A2, o2) :: (dS, sdict w t1 t2 t3 t4 D r' p' f') :: rest) S dS D nds r' p' f' := hS.attr (fun q hq hne => by
  rcases List.mem_cons.mp hq with rfl | hq
  · exact absurd rfl hne
  · exact .tail _ (.tail _ (.tail _ hq))) (.tail _ (.tail _ (.head _)))
theorem truthy_led {prog : Program} {w : World} {A : Around} {E : Value → Shared → Prop} {s : Shared} {h₀ : Heap} {L l : Addr} {news : List (Addr × Obj)} {vs : List Value} {e : Nat} {Q : Bool → Shared → Prop} (N : News h₀ L s.heap news) (hl : (l, listOf vs.toArray e) ∈ news) (hz : vs.length ≤ 100) (h : Q (!vs.isEmpty) { s with toks := s.toks + 1 + 1 }) :
    wpAny (model prog w) A (truthy (.ref l)) Q E s := by
  refine wpAny_truthy_list (News.isList N hl) (by simp; omega) ?_
  have e : (!vs.toArray.isEmpty) = !vs.isEmpty := by cases vs <;> simp
  rw [e]
  exact h
theorem Mine.w_Sort6_2 : True := by
  (k_with "tb_rel" => ((with_reducible show wpAny _ _ (truthy (Value.ref _)) _ _ _); k_dflt (refine' truthy_led (by k_asm) (by k_mem) (by omega) ?_); (try dsimp only)))
  trivial
theorem IsRing.len {succ : Nat → List Nat} {n : Nat} {ring : List Nat} (h : IsRing succ n ring) : 2 ≤ ring.length ∧ ring.length ≤ n + 1 := by
  refine hide ?_
  intro Pz kz
  obtain ⟨body, c, rfl, hh, hn, hb, _⟩ := h
  refine kz ?_
  clear kz Pz
  have h1 : body ≠ [] := by intro e; rw [e] at hh; cases hh
  have h2 : 0 < body.length := List.length_pos_iff.mpr h1
  have h3 : body.length ≤ n := by
    have := (List.nodup_iff_pairwise_ne.mp hn)
    have hs : body ⊆ List.range n := fun x hx => List.mem_range.mpr (hb x hx)
    have := List.Nodup.length_le_of_subset hn hs
    simpa using this
  simp; omega
theorem turn_ground {A₀ : Around} {base h₀ g g' : Heap} {outer : List Env} {env : Env} {L : Addr} {m : Str → Option Value} (B : Below A₀ base outer h₀) (F : Fr h₀ L g m) (D : KtsDicts (frs outer) h₀) (hf : env.frame = some L) (T' : KtsTurn (frs (env :: outer)) g g') :
    ∃ h₀', KtsTurn (frs outer) h₀ h₀' ∧ Fr h₀' L g' m ∧ Below A₀ base outer h₀' ∧ KtsDicts (frs outer) h₀' := by
  refine hide ?_
  intro Pz kz
  obtain ⟨oL, es, ep, hLg, hLd, hLk, hLf⟩ := id F.ns
  have nL₀ : h₀.get? L = none := kts_self F
  have st := F.keep
  obtain ⟨sl, hs⟩ := T'.up hLg
  refine kz ?_
  clear kz Pz
  obtain ⟨T₁, S₁⟩ := kts_turn_at (h := g') (fs := frs outer) (g := h₀)
    (fun b hb => by
      refine hide ?_
      intro Pz kz
      obtain ⟨_, o, ho', _⟩ := B.frames.mem hb
      refine kz ?_
      clear kz Pz
      exact ⟨o, ho'⟩)
    (fun b o e nmem => T'.other b o (st b o e) (fun q => by
      rcases mem_fr hf q with z | z
      · rw [z, nL₀] at e
        cases e
      · exact nmem z))
    (fun b o e hm => T'.up (st b o e))
  have B₃ : Below A₀ base outer (ktsHeap g' (frs outer) h₀) := ⟨B.stack, fun b o e => T₁.other b o (B.stays b o e) (fun hm => by
    rw [(B.frames.mem hm).1] at e
    cases e), B.frames.of_keeps fun b o e _ => by
    refine hide ?_
    intro Pz kz
    obtain ⟨sl', hs'⟩ := T₁.up e
    refine kz ?_
    clear kz Pz
    exact ⟨_, hs', rfl⟩⟩
  exact ⟨_, T₁, ⟨⟨_, es, ep, hs, hLd, hLk, hLf⟩, S₁, by rw [T₁.size]; exact F.above⟩, B₃, D.turn T₁⟩
section
variable {w : World} {mean : ExcName → Option Value} {mg mb : Str → Option Value} {gd : Option (List Code)} {cn : Str} {nms : List (Str × NameKind)} {mr : List (Str × Const)} {a : Addr} {ccd : Value} {cl : List (Str × Addr)} {outer : List Env} {A₀ : Around} {base h₀ : Heap} {L : Addr} {m : Str → Option Value} {s : Shared} {Q E : Value → Shared → Prop} {news : List (Addr × Obj)}
variable {led : List (Addr × Obj)} {S dS D : Addr} {nds : List Nd} {rv pv fv : Value}

theorem c_prep (B : Below A₀ base outer h₀) (F : Fr h₀ L s.heap m) (X : (Mine.pre.heap_1_1 w.params).In h₀) (N : News h₀ L s.heap led) (T : Top Mine.pre.view_1_2 (looseW Mine.pre.view_1_2 [Str.ofString "_NodeInfo"]) mean mg mb h₀)
   (D₀ : KtsDicts (frs outer) h₀) (XB : (Mine.pre.heap_1_1 w.params).In base) (TB : Top Mine.pre.view_1_2 (looseW Mine.pre.view_1_2 [Str.ofString "_NodeInfo"]) mean mg mb base)
   (hS : SAt w led S dS D nds .none pv fv) (succ : Nat → List Nat) (hsu : ∀ i x, nds[i]? = some x → IntsAre x.its ((succ i).map Int.ofNat)) (hlt : ∀ i, i < nds.length → ∀ j ∈ succ i, j < nds.length) (h6 : nds.length ≤ 6)
   (f : Nat → Int) (hf : SFx nds nds f) (hvi : ∀ (j : Nat) (x : Nd), nds[j]? = some x → ∃ t, x.vi = .int (j : Int) t)
   (hQ : ∀ h₀' h' tk' led' RL rs e, KtsTurn (frs outer) h₀ h₀' → Fr h₀' L h' m → News h₀' L h' led' → (∀ q ∈ led, q.1 ∉ adrs S dS D nds → q ∈ led') → Below A₀ base outer h₀' → KtsDicts (frs outer) h₀' → NoRing succ nds.length → SAt w led' S dS D nds (.ref RL) pv fv → (RL, listOf rs.toArray e) ∈ led' → (RL ∉ adrs S dS D nds ∧ ∀ q ∈ led, q.1 ≠ RL) → IntsAre rs ((readyOf f nds.length).map Int.ofNat) → Q .none { s with heap := h', toks := tk' })
   (hE : ∀ x t vs G h₀' h' tk' led' RL rs e, RaisedS base G (envX cn ⟨.function, nms, false, false, mr⟩ L a ccd cl :: outer) x (.ref 97) t vs led' h' → G.UpToSlots h' → Fr h₀' L G m → KtsTurn (frs outer) h₀ h₀' → Below A₀ base outer h₀' → KtsDicts (frs outer) h₀' → (∀ q ∈ led, q.1 ∉ adrs S dS D nds → q ∈ led') → (∃ ring, IsRing succ nds.length ring) → SAt w led' S dS D nds (.ref RL) pv fv → (RL, listOf rs.toArray e) ∈ led' → (RL ∉ adrs S dS D nds ∧ ∀ q ∈ led, q.1 ≠ RL) → IntsAre rs ((readyOf f nds.length).map Int.ofNat) → E (.ref x) { s with heap := h', toks := tk' }) :
   wpAny (model PySem.Challenge.rw_nb0264_01.row.prog w) (ktrTop 307 35 gd cn ⟨.function, nms, false, false, mr⟩ L a ccd cl outer) (call (.ref 134) [.ref S]) Q E s := by
  refine hide ?_
  intro Pz kz
  obtain ⟨t1, t2, t3, t4, oD, m1, m2, m3, hD⟩ := hS.top
  obtain ⟨hndp, hoffp, hSd, hSD, hdD⟩ := hS.parts
  obtain ⟨rest, NF, hsub, hoff, hkeep, hback⟩ := focus_ex N m2
  refine kz ?_
  clear kz Pz
  have m1' := hkeep _ m1 hSd
  have m3' := hkeep _ m3 (Ne.symm hdD)
  have hlow := hS.low
  refine wpAny_call ?_
  k_dflt (refine' enterS ?k1 ?k2 ?k3 ?k4 ?k5 ?kT ?kA ?kF ?kK ?k6 ?k7 ?k8 ?k9 ?kB ?_ ?c2 ?c3 ?c4 ?c5; (case kA => exact rfl); (case kF => exact rfl); (case kK => exact rfl); (case k1 => k_asm); (case k2 => k_asm); (case k3 => k_asm); (case k4 => k_asm); (case k5 => k_asm); (case kT => assumption); (case k6 => k_is); (case k7 => k_is); (case k8 => k_room); (case k9 => first | exact BindsTo.of_eq rfl | exact binds_K (by k_in) rfl (by k_is) rfl rfl rfl); (case kB => exact locs rfl); (case c5 => decide); (case c2 => exact rfl); (case c3 => exact rfl); (case c4 => exact rfl); k_whole)

  intro g₁ L' h₁ FG' F' N' B' X' T' D'
  clear N F X T
  (try dsimp only); (try k_lift B'); (try k_fold)
  (try ((with_reducible show wpAny _ _ _ _ _ _); generalize hA1 : Around.deeper _ _ = A1; revert A1; refine letEq ?_; intro A1))
  ktr_unf
  (rename Fr _ _ _ _ => lF0)
  k_dflt (refine ListComp_TW lF0 (by with_unfolding_all rfl) (by decide) (by rfl) (by decide) (by rfl) ?_)
  ktr_unf
  (rename Fr _ _ _ _ => lF'); (rename News _ _ _ _ => lN')
  refine AtT.values rfl lF' lN' (by assumption) (.tail _ (.tail _ m3')) hD (by rw [kvs_len, sizeLine_eq]; omega) ?_
  intro g'
  refine compRestT_pure (fun i ys => IntsAre ys ((readyOf f i).map Int.ofNat)) (.tail _ (.tail _ m3')) ?_ ?_ .nil
  · intro i v ys I oI C oC D2 m₂ h tk E' hi hz0 hR hC hx' F' N' off ne hSS
    refine hide ?_
    intro Pz kz
    obtain ⟨k, hv⟩ := hz0
    refine kz ?_
    clear kz Pz
    (try k_fold)
    replace hR : Kp (IntsAre ys _) := ⟨hR⟩
    refine hide ?_
    intro Pz kz
    obtain ⟨x, hx, rfl⟩ := kvs_atV hv
    obtain ⟨tp, hvp⟩ := hf.vp hx
    obtain ⟨ti, hvi'⟩ := hvi i x hx
    have hSr : SAt w ((dS, sdict w t1 t2 t3 t4 D Value.none pv fv) :: rest) S dS D nds .none pv fv := hS.mono hsub
    obtain ⟨n1, n2, n3⟩ := hSr.nd hx
    refine kz ?_
    clear kz Pz
    rw [hvp, hvi'] at n1
    clear lF' lN' lF0
    ktr_unf
    · refine LCg.CompEnd.intro (by k_asm) (by k_asm) _ (fun _ hp => hp) off hSS ⟨rfl, by rw [ready_snoc, if_pos (by assumption), List.map_append]; exact ints_snoc hR.out⟩
    · refine LCg.CompEnd.intro (by k_asm) (by k_asm) _ (fun _ hp => hp) off hSS ⟨rfl, by rw [ready_snoc, if_neg (by assumption)]; exact hR.out⟩
  · intro rs hrs
    rw [kvs_len] at hrs
    replace hrs : Kp (IntsAre rs _) := ⟨hrs⟩
    unfold LCg.FinE
    intro D2 h2 tk2 F2 N2 o2
    simp only [LCg.Off1] at o2
    refine hide ?_
    intro Pz kz
    obtain ⟨o21, o22, o23⟩ := o2
    refine kz ?_
    clear kz Pz
    clear lF' lN' lF0
    ktr_unf
    (rename News _ _ _ _ => lN)
    have hSf := SAt.attrN lN (hS.mono hsub)
    k_dflt (refine' wp_up (c_find ?k1 ?k2 ?k3 ?k4 ?k5 (by assumption) XB TB hSf succ hsu hlt h6 ?_) ?u1 ?u2 ?u3 ?u4 ?u5; (case u2 => exact rfl); (case u1 => exact rfl); (case u3 => exact rfl); (case u4 => exact Nat.le_of_ble_eq_true rfl); (case u5 => exact Nat.le_of_ble_eq_true rfl); (case k1 => k_asm); (case k2 => k_asm); (case k3 => k_asm); (case k4 => k_asm); (case k5 => k_asm); k_whole)
    intro v2 g2 h3 tk3 led3 T3 F3 N3 sub3 B3 D3 R3
    have X3 := XB.keeps B3.stays
    have P3 := TB.keeps B3.stays
    have hSf3 := hSf.mono sub3
    have hRm := sub3 _ (.head _)
    have hRL : D2 ∉ adrs S dS D nds := fun hm => by
      refine hide ?_
      intro Pz kz
      obtain ⟨o, ho⟩ := (hS.mono hsub).adr_mem D2 hm
      refine kz ?_
      clear kz Pz
      rcases List.mem_cons.mp ho with h5 | h5
      · exact o22 (congrArg Prod.fst h5).symm
      · exact off1_mem' o23 _ h5 rfl
    have hRL2 : D2 ∉ adrs S dS D nds ∧ ∀ q ∈ led, q.1 ≠ D2 := ⟨hRL, fun q hq e9 => off1_mem' o23 q (hkeep q hq fun e' => hRL (by rw [← e9, e']; simp [adrs])) e9⟩
    have hkp : ∀ q ∈ led, q.1 ∉ adrs S dS D nds → q ∈ led3 := fun q hq hna => sub3 q (.tail _ (.tail _ (.tail _ (hkeep q hq fun e' => hna (by rw [e']; simp [adrs])))))
    have kFG : Kp (Fr h₀ L g₁ m) := ⟨FG'⟩
    have kT3 := Kp.mk T3
    have kB : Kp (Below A₀ base outer h₀) := ⟨B⟩
    clear hSf lN B' X' T' D' FG' T3 B
    (try clear F2); (try clear N2); (try clear F'); (try clear N')
    rcases R3 with ⟨rfl, hnr⟩ | ⟨r, vs, e, ring, rfl, hr, hvs, hring⟩
    · ktr_unf
      exact ⟨g2, L', _, led3, kT3.out, by k_asm, by k_asm, fun h₀' T2 F4 N4 B4 D4 => hQ h₀' _ _ led3 D2 rs _ T2 F4 N4 hkp B4 D4 hnr hSf3 hRm hRL2 hrs.out⟩
    · have hvs' : Kp (IntsAre vs (ring.map Int.ofNat)) := ⟨hvs⟩
      clear hvs
      have hvl : vs.length = ring.length := by rw [IntsAre.length hvs'.out]; simp
      have hrl := hring.len
      have hrl2 : ring.length ≤ 7 := by omega
      have hve : (!vs.isEmpty) = true := by
        cases vs with
        | nil => simp at hvl; omega
        | cons _ _ => rfl
      ktr_unf
      rename RaisedS _ _ _ _ _ _ _ _ _ => rS
      refine hide ?_
      intro Pz kz
      obtain ⟨h₀', T4, F4, B4, D4⟩ := turn_ground kB.out kFG.out D₀ rfl kT3.out
      refine kz ?_
      clear kz Pz
      exact hE _ _ _ g2 h₀' _ _ led3 D2 rs _ rS (by assumption) F4 T4 B4 D4 hkp ⟨ring, hring⟩ hSf3 hRm hRL2 hrs.out
end
end Mine
end
section
theorem Mine.w_Sort7_0 : True := by
  k_with_none
  trivial
namespace Mine
theorem Mine.w_Sort7_1 : True := by
  (k_with "ktr_unf" => repeat' ((fail_if_success (with_reducible show wpAny _ _ (pyIter _) _ _ _)); (fail_if_success (with_reducible show wpAny _ _ (exec (Stmt.For _ _ _ _ _) _) _ _ _)); (fail_if_success (with_reducible show wpAny _ _ (eval (Expr.ListComp _ _ _ _) _) _ _ _)); (fail_if_success (with_reducible show wpAny _ _ (call (Value.ref 134) _) _ _ _)); first | (k_unfold; (try dsimp only)) | tb_rel | ((fail_if_success (with_reducible show wpAny _ _ (subscriptTail _ _ (Value.ref _) (Value.int _ _)) _ _ _)); (fail_if_success (with_reducible show wpAny _ _ (setItem (Value.ref _) _ _) _ _ _)); first | walk1 | (dsimp only; walk1))))
  (k_with "k_mem" => first | assumption | exact List.Mem.head _ | (refine' List.Mem.tail _ ?_; k_mem) | (refine' SubL.mem (by assumption) ?_; k_mem))
  (k_with "k_all" => first | assumption | exact off1_mem' (by assumption) | exact lt_ne (by assumption) (by omega) | exact allLt_ne (by assumption) (by omega))
  (k_with "tb_rel" => ((with_reducible show wpAny _ _ (subscriptTail _ _ (Value.ref _) (Value.int _ _)) _ _ _); k_dflt (refine' item_at (by k_asm) (by k_mem) (by omega) (by omega) (by assumption) ?_); (try dsimp only)))
  trivial
section
variable {w : World} {mean : ExcName → Option Value} {mg mb : Str → Option Value} {gd : Option (List Code)} {cn : Str} {nms : List (Str × NameKind)} {mr : List (Str × Const)} {a : Addr} {ccd : Value} {cl : List (Str × Addr)} {outer : List Env} {A₀ : Around} {base h₀ : Heap} {L : Addr} {m : Str → Option Value} {s : Shared} {Q E : Value → Shared → Prop} {news : List (Addr × Obj)}
variable {led : List (Addr × Obj)} {S dS D : Addr} {nds : List Nd} {rv pv fv : Value}

theorem c_refused (B : Below A₀ base outer h₀) (F : Fr h₀ L s.heap m) (X : (Mine.pre.heap_1_1 w.params).In h₀) (N : News h₀ L s.heap led) (T : Top Mine.pre.view_1_2 (looseW Mine.pre.view_1_2 [Str.ofString "_NodeInfo"]) mean mg mb h₀)
   (D₀ : KtsDicts (frs outer) h₀) (XB : (Mine.pre.heap_1_1 w.params).In base) (TB : Top Mine.pre.view_1_2 (looseW Mine.pre.view_1_2 [Str.ofString "_NodeInfo"]) mean mg mb base)
   (hS : SAt w led S dS D nds .none pv fv) (succ : Nat → List Nat) (hsu : ∀ i x, nds[i]? = some x → IntsAre x.its ((succ i).map Int.ofNat)) (hlt : ∀ i, i < nds.length → ∀ j ∈ succ i, j < nds.length) (h6 : nds.length ≤ 6)
   (f : Nat → Int) (hf : SFx nds nds f) (hvi : ∀ (j : Nat) (x : Nd), nds[j]? = some x → ∃ t, x.vi = .int (j : Int) t)
   (hQ : ∀ b h₀' h' tk' led' RL rs e, KtsTurn (frs outer) h₀ h₀' → Fr h₀' L h' m → News h₀' L h' led' → (∀ q ∈ led, q.1 ∉ adrs S dS D nds → q ∈ led') → Below A₀ base outer h₀' → KtsDicts (frs outer) h₀' → (b = true ∧ (∃ ring, IsRing succ nds.length ring) ∨ b = false ∧ NoRing succ nds.length) → SAt w led' S dS D nds (.ref RL) pv fv → (RL, listOf rs.toArray e) ∈ led' → (RL ∉ adrs S dS D nds ∧ ∀ q ∈ led, q.1 ≠ RL) → IntsAre rs ((readyOf f nds.length).map Int.ofNat) → Q (.bool b) { s with heap := h', toks := tk' }) :
   wpAny (model PySem.Challenge.rw_nb0264_01.row.prog w) (ktrTop 306 30 gd cn ⟨.function, nms, false, false, mr⟩ L a ccd cl outer) (call (.ref 236) [.ref S]) Q E s := by
  refine hide ?_
  intro Pz kz
  obtain ⟨t1, t2, t3, t4, oD, m1, m2, m3, hD⟩ := hS.top
  refine kz ?_
  clear kz Pz
  refine wpAny_call ?_
  k_dflt (refine' enterS ?k1 ?k2 ?k3 ?k4 ?k5 ?kT ?kA ?kF ?kK ?k6 ?k7 ?k8 ?k9 ?kB ?_ ?c2 ?c3 ?c4 ?c5; (case kA => exact rfl); (case kF => exact rfl); (case kK => exact rfl); (case k1 => k_asm); (case k2 => k_asm); (case k3 => k_asm); (case k4 => k_asm); (case k5 => k_asm); (case kT => assumption); (case k6 => k_is); (case k7 => k_is); (case k8 => k_room); (case k9 => first | exact BindsTo.of_eq rfl | exact binds_K (by k_in) rfl (by k_is) rfl rfl rfl); (case kB => exact locs rfl); (case c5 => decide); (case c2 => exact rfl); (case c3 => exact rfl); (case c4 => exact rfl); k_whole)

  intro g₁ L' h₁ FG' F' N' B' X' T' D'
  clear N F X T
  (try dsimp only); (try k_lift B'); (try k_fold)
  (try ((with_reducible show wpAny _ _ _ _ _ _); generalize hA1 : Around.deeper _ _ = A1; revert A1; refine letEq ?_; intro A1))
  ktr_unf
  k_dflt (refine' wp_up (c_prep ?k1 ?k2 ?k3 ?k4 ?k5 (by assumption) XB TB hS succ hsu hlt h6 f hf hvi ?_ ?_) ?u1 ?u2 ?u3 ?u4 ?u5; (case u2 => exact rfl); (case u1 => exact rfl); (case u3 => exact rfl); (case u4 => exact Nat.le_of_ble_eq_true rfl); (case u5 => exact Nat.le_of_ble_eq_true rfl); (case k1 => k_asm); (case k2 => k_asm); (case k3 => k_asm); (case k4 => k_asm); (case k5 => k_asm); k_whole)
  · intro g2 h3 tk3 led3 RL rs e T3 F3 N3 k3 B3 D3 hnr S3 r3 nR i3
    have X3 := XB.keeps B3.stays
    have P3 := TB.keeps B3.stays
    have i3' : Kp (IntsAre rs _) := ⟨i3⟩
    clear i3 FG' F' N' B' X' T' D'
    (try dsimp only)
    ktr_unf
    exact ⟨g2, L', _, led3, T3, by k_asm, by k_asm, fun h₀' T2 F4 N4 B4 D4 => hQ false h₀' _ _ led3 RL rs e T2 F4 N4 k3 B4 D4 (.inr ⟨rfl, hnr⟩) S3 r3 nR i3'.out⟩
  · intro x t vs G g2 h3 tk3 led3 RL rs e rS U3 F3 T3 B3 D3 k3 hring S3 r3 nR i3
    have i3' : Kp (IntsAre rs _) := ⟨i3⟩
    clear i3 FG' F' N' B' X' T' D'
    (try dsimp only)
    k_dflt (refine' caught_SO0 rS F3 B3 U3 XB TB D3 T3 ?ex ?q ?_; (case ex => k_is); (case q => kts_isx); k_whole)
    intro h6 g6 news6 T6 F6 N6 got6 N6' K6 X6 P6 D6
    clear F3 B3 U3 rS D3 T3 N6
    ktr_unf
    exact ⟨g6, L', _, led3, T6, by k_asm, by k_asm, fun h₀' T2 F4 N4 B4 D4 => hQ true h₀' _ _ led3 RL rs e T2 F4 N4 k3 B4 D4 (.inl ⟨rfl, hring⟩) S3 r3 nR i3'.out⟩
end
end Mine
end
section
namespace Mine
open PySem.Spec
theorem map_some {x : Str} {xs : List Str} {v : Option Value} {m₀ m₁ : Str → Option Value} (hm : ∀ z, z ≠ x → xs.contains z = false → m₁ z = m₀ z) :
    (fun y => if y = x then v else m₁ y) = fun y => if y = x then v else if xs.contains y then m₁ y else m₀ y := by
  funext y
  by_cases h1 : y = x
  · simp [h1]
  · simp only [if_neg h1]
    cases h2 : xs.contains y with
    | true => simp
    | false => simp [hm y h1 h2]
theorem map_done {x : Str} {xs : List Str} {m₀ m₁ : Str → Option Value} (hm : ∀ z, z ≠ x → xs.contains z = false → m₁ z = m₀ z) :
    m₁ = fun z => if z = x then m₁ z else if xs.contains z then m₁ z else m₀ z := by
  funext y
  by_cases h1 : y = x
  · simp [h1]
  · simp only [if_neg h1]
    cases h2 : xs.contains y with
    | true => simp
    | false => simp [hm y h1 h2]
section
variable {prog : Program} {w : World} {A : Around} {E : Value → Shared → Prop} {s : Shared} {env : Env} {h₀ : Heap} {x : Str} {body : List Stmt} {Q : Flow → Shared → Prop}
/-- a for over a range; the ledger may grow and change -/
theorem iter_rng {r : Addr} {a₀ b₀ : Int} {t₀ u₀ v₀ : Tok} {n : Nat} {m₀ : Str → Option Value} {news : List (Addr × Obj)} (J : Nat → (Str → Option Value) → List (Addr × Obj) → Prop)
    (hh : A.handled = none) (hr : IsRange s.heap r a₀ b₀ 1 t₀ u₀ v₀) (hsmall : Builtin.Range.small a₀ b₀ 1 = true) (hn : Builtin.Range.rangeSize a₀ b₀ 1 = (n : Int)) (F : Fr h₀ env.locals s.heap m₀) (N : News h₀ env.locals s.heap news) (hj : J 0 m₀ news)
    (turn : ∀ i t m₁ nx I oI h tk, i < n → (∀ p ∈ nx, p.1 ≠ I) → oI.cls = .type "range_iterator" → J i m₁ nx → Fr h₀ env.locals h (fun y => if y = x then some (.int (a₀ + (i : Int)) t) else m₁ y) → News h₀ env.locals h ((I, oI) :: nx) →
      wpAny (model prog w) A (execs body env) (PostJ h₀ env.locals (J (i + 1)) I oI { s with heap := h, toks := tk } Q) E { s with heap := h, toks := tk })
    (done : ∀ m₁ nx h tk, J n m₁ nx → Fr h₀ env.locals h m₁ → News h₀ env.locals h nx → Q .next { s with heap := h, toks := tk }) :
    wpAny (model prog w) A (pyIter (.ref r)) (fun it s₂ => LoopAtV prog w A h₀ env x body Q E it s₂) E s := by
  refine wpAny_pyIter_range hr hsmall ?_
  have W : Walks prog w A s.heap.objs.size [s.heap.objs.size] [s.heap.objs.size] n (fun i v => i < n ∧ ∃ t, v = .int (a₀ + i * 1) t)
      (fun i h => IsRangeIter h s.heap.objs.size (a₀ + (i : Nat) * 1) ((n : Int) - (i : Nat)) 1) := (Walks.range hh _ a₀ 1 n).bound
  have hI₀ := next_is_new F
  refine ⟨_, _, _, n, _, _, m₀, news, (fun i m nx => (∀ p ∈ nx, p.1 ≠ s.heap.objs.size) ∧ J i m nx), rfl, W, ?_, ?_, ?_, (by show IsRangeIter _ _ _ _ _; rw [hn]; simpa using Heap.get?_push_size _ rfl), F.push _, (fun p hp => ⟨Heap.get?_push_of_some _ (N p hp).1, (N p hp).2⟩), ⟨fun p hp => Nat.ne_of_lt (Heap.lt_size (N p hp).1), hj⟩, ?_, ?_⟩
  · intro hm
    exact absurd F.ns.lt ((List.mem_singleton.mp hm) ▸ Nat.lt_irrefl _)
  · intro b hb
    rw [List.mem_singleton.mp hb]
    exact hI₀
  · intro p hp hI
    exact absurd (Heap.lt_size (N p hp).1) ((List.mem_singleton.mp hI) ▸ Nat.lt_irrefl _)
  · intro i v m₁ nx s₁ own hz0 hin hP hz1 _ hown hget hfp hst F₁ N₁
    refine hide ?_
    intro Pz kz
    obtain ⟨hh', tk', rfl⟩ := hz0
    obtain ⟨hoff, hJ⟩ := hz1
    obtain ⟨_, t, rfl⟩ := hP
    refine kz ?_
    clear kz Pz
    obtain ⟨oI, hoI, hoc⟩ : ∃ oI, hh'.get? s.heap.objs.size = some oI ∧ oI.cls = .type "range_iterator" := ⟨_, hst, rfl⟩
    have hIown : (s.heap.objs.size, oI) ∈ own := hfp _ (List.mem_cons.mpr (.inl rfl)) hI₀ _ hoI
    have N₂ : News h₀ env.locals hh' ((s.heap.objs.size, oI) :: nx) := (all_cons (N₁ _ (List.mem_append_left _ hIown)) (fun p hp => N₁ p (List.mem_append_right _ hp)))
    refine wpAny_mono (turn i t m₁ nx _ oI hh' tk' hin hoff hoc hJ (by simpa using F₁) N₂) (fun f s₂ p => ?_) fun _ _ e => e
    have fin : EndJ h₀ env.locals (J (i + 1)) s.heap.objs.size oI { s with heap := hh', toks := tk' } s₂ →
        LoopStepU h₀ env.locals [s.heap.objs.size] own (fun m nx => (∀ p ∈ nx, p.1 ≠ s.heap.objs.size) ∧ J (i + 1) m nx) { s with heap := hh', toks := tk' } .next s₂ := by
      intro hz0
      refine hide ?_
      intro Pz kz
      obtain ⟨h', tk, m', nx', e, F', N', off', hJ'⟩ := hz0
      refine kz ?_
      clear kz Pz
      refine ⟨rfl, h', tk, m', nx', e, F', fun p hp => ?_, fun p hp hI => off' p hp (List.mem_singleton.mp hI), off', hJ'⟩
      rcases List.mem_append.mp hp with h | h
      · have h2 : p.1 = s.heap.objs.size := List.mem_singleton.mp (hown p h)
        have h3 := hget p h
        rw [h2] at h3
        have h4 : p = (s.heap.objs.size, oI) := Prod.ext h2 (Option.some.inj (h3.symm.trans hoI))
        rw [h4]; exact N' _ List.mem_cons_self
      · exact N' p (List.mem_cons_of_mem _ h)
    cases f with
    | ret v => exact .ret p
    | brk => exact .brk p
    | next => exact .next (fin p)
    | cont => exact .cont (fin p)
  · intro h' tk m' nx F' N' _ hz0
    refine hide ?_
    intro Pz kz
    obtain ⟨_, hJ⟩ := hz0
    refine kz ?_
    clear kz Pz
    exact done m' nx h' tk hJ F' N'
theorem iter_rngJ {r : Addr} {a₀ b₀ : Int} {t₀ u₀ v₀ : Tok} {n : Nat} {m₀ : Str → Option Value} {news : List (Addr × Obj)} (J : Nat → List (Addr × Obj) → Prop) (xs : List Str)
    (hh : A.handled = none) (hr : IsRange s.heap r a₀ b₀ 1 t₀ u₀ v₀) (hsmall : Builtin.Range.small a₀ b₀ 1 = true) (hn : Builtin.Range.rangeSize a₀ b₀ 1 = (n : Int)) (F : Fr h₀ env.locals s.heap m₀) (N : News h₀ env.locals s.heap news) (hj : J 0 news)
    (turn : ∀ i t (u : Str → Option Value) nx I oI h tk, i < n → (∀ p ∈ nx, p.1 ≠ I) → oI.cls = .type "range_iterator" → J i nx → Fr h₀ env.locals h (fun y => if y = x then some (.int (a₀ + (i : Int)) t) else if xs.contains y then u y else m₀ y) → News h₀ env.locals h ((I, oI) :: nx) →
      wpAny (model prog w) A (execs body env) (PostJ h₀ env.locals (fun m₁ nx => (∀ z, z ≠ x → xs.contains z = false → m₁ z = m₀ z) ∧ J (i + 1) nx) I oI { s with heap := h, toks := tk } Q) E { s with heap := h, toks := tk })
    (done : ∀ (u : Str → Option Value) nx h tk, J n nx → Fr h₀ env.locals h (fun z => if z = x then u z else if xs.contains z then u z else m₀ z) → News h₀ env.locals h nx → Q .next { s with heap := h, toks := tk }) :
    wpAny (model prog w) A (pyIter (.ref r)) (fun it s₂ => LoopAtV prog w A h₀ env x body Q E it s₂) E s := by
  refine iter_rng (fun i m₁ nx => (∀ z, z ≠ x → xs.contains z = false → m₁ z = m₀ z) ∧ J i nx) hh hr hsmall hn F N ⟨fun _ _ _ => rfl, hj⟩ ?_ ?_
  · intro i t m₁ nx I oI h tk hi hoff hoc hz0 F' N'
    refine hide ?_
    intro Pz kz
    obtain ⟨hm, hJ⟩ := hz0
    refine kz ?_
    clear kz Pz
    refine turn i t m₁ nx I oI h tk hi hoff hoc hJ ?_ N'
    rw [← map_some hm]; exact F'
  · intro m₁ nx h tk hz0 F' N'
    refine hide ?_
    intro Pz kz
    obtain ⟨hm, hJ⟩ := hz0
    refine kz ?_
    clear kz Pz
    refine done m₁ nx h tk hJ ?_ N'
    rw [← map_done hm]; exact F'
end
open PySem.Calls
theorem below_up {Γ : PySem.Ctx} {A A' : Around} (hh : A.handled = A'.handled) (hf : A.frames = A'.frames) (hg : A.guards = A'.guards) (hd : A.depth ≤ A'.depth) (hu : A.units ≤ A'.units)
    (h : Γ.Below A) : Γ.Below A' :=
  ⟨h.1.trans hh, Nat.le_trans h.2.1 hd, fun l e => h.2.2.1 l (hf.trans e), fun g e => h.2.2.2.1 g (hg.trans e), Nat.le_trans h.2.2.2.2 hu⟩
theorem code_up {M : Model} {A A' : Around} {c : Code} {R : Result → Shared → Prop} {s : Shared} (h : codeAny M A' c R s)
    (hh : A.handled = A'.handled) (hf : A.frames = A'.frames) (hg : A.guards = A'.guards) (hd : A.depth ≤ A'.depth) (hu : A.units ≤ A'.units) : codeAny M A c R s :=
  fun Γ p hc hΓ => h Γ p hc (below_up hh hf hg hd hu hΓ)
section
variable {M : Model} {A : Around} {E : Value → Shared → Prop} {s : Shared} {K : Frag} {env : Env} {pos p : Pos} {first : List Value} {Q : Value → Shared → Prop} {h₀ : Heap} {e : Expr} {rest : List Expr} {L q g : Addr} {self : Value} {news : List (Addr × Obj)}
/-- a method called with a starred argument -/
theorem MethodCallS {o : Expr} {name : Str} {apos pos : Pos} {args : List Expr} {Q : Value → Shared → Prop}
    (h : wpAny M A (eval o env) (fun ov s₁ => wpAny M A (getAttr ov name true) (fun f s₂ => wpAny M A (callWith pos f [] (backTo pos (starEach args env)) []) Q E s₂) E s₁) E s)
    (he : eval (.Call (.Attribute o name apos) args [] pos) env = (do
      let ov ← eval o env
      standAt apos.atName
      let (f, first) ← holding [ov] (do pure (← getAttr ov name true, []))
      callWith pos f first (backTo pos (starEach args env)) []) := by rfl) :
    wpAny M A (eval (.Call (.Attribute o name apos) args [] pos) env) Q E s := by
  rw [he]
  refine wpAny_bind (wpAny_mono h (fun ov s₁ h₁ => wpAny_bind (wpAny_standAt (wpAny_bind (wpAny_holding (wpAny_bind (wpAny_mono h₁ (fun f s₂ h₂ => wpAny_pure ?_) fun _ _ x => x)))))) fun _ _ x => x)
  exact h₂
theorem callWith_SM (_X : K.In h₀) (_N : News h₀ L s.heap news) (_q : (q, methodObj (.ref g) self) ∈ news) (hf : fnIn K g = true) (h : wpAny M A (eval e env) (fun v s₁ => StarOf M A E v (fun vs s₂ => MethP K q g self s₂.heap ∧ wpAny M A (call (.ref q) (first ++ vs)) Q E s₂) s₁) E s)
    (he : starEach [.Starred e p] env = [(true, eval e env)] := by rfl) :
    wpAny M A (callWith pos (.ref q) first (backTo pos (starEach [.Starred e p] env)) []) Q E s := by
  rw [he]
  exact ks_call rfl (keeps_M hf) (ks_lone h)
theorem callWith_SM2 (_X : K.In h₀) (_N : News h₀ L s.heap news) (_q : (q, methodObj (.ref g) self) ∈ news) (hf : fnIn K g = true) (h : wpAny M A (spliced (backTo pos (starEach (e :: rest) env))) (fun vs s₁ => MethP K q g self s₁.heap ∧ wpAny M A (call (.ref q) (first ++ vs)) Q E s₁) E s)
    (he : starEach (e :: rest) env = (false, eval e env) :: starEach rest env := by rfl) (hst : (backTo pos (starEach rest env)).any (·.1) = true := by rfl) :
    wpAny M A (callWith pos (.ref q) first (backTo pos (starEach (e :: rest) env)) []) Q E s := by
  rw [he] at h ⊢
  exact ks_call (by show (false || (backTo pos (starEach rest env)).any (·.1)) = true; rw [hst]; rfl) (keeps_M hf) (evalArgs_plain h)
end
end Mine
end
section
theorem Mine.w_Sort8_0 : True := by
  k_with_none
  trivial
namespace Mine
theorem Mine.w_Sort8_1 : True := by
  (k_with "ktr_unf" => repeat' ((fail_if_success (with_reducible show wpAny _ _ (pyIter _) _ _ _)); (fail_if_success (with_reducible show wpAny _ _ (exec (Stmt.For _ _ _ _ _) _) _ _ _)); (fail_if_success (with_reducible show wpAny _ _ (eval (Expr.ListComp _ _ _ _) _) _ _ _)); (fail_if_success (with_reducible show PySem.W.StarOf _ _ _ _ _ _)); (fail_if_success (with_reducible show wpAny _ _ (call (Value.ref 148) _) _ _ _)); (fail_if_success (with_reducible show wpAny _ _ (call (Value.ref 141) _) _ _ _)); (fail_if_success (with_reducible show wpAny _ _ (call (Value.ref 162) _) _ _ _)); first | (k_unfold; (try dsimp only)) | tb_rel | ((fail_if_success (with_reducible show wpAny _ _ (subscriptTail _ _ (Value.ref _) (Value.int _ _)) _ _ _)); first | walk1 | (dsimp only; walk1))))
  (k_with "k_mem" => first | assumption | exact List.Mem.head _ | (refine' List.Mem.tail _ ?_; k_mem) | (refine' SubL.mem (by assumption) ?_; k_mem))
  (k_with "k_all" => first | assumption | exact off1_mem' (by assumption) | exact lt_ne (by assumption) (by omega) | exact allLt_ne (by assumption) (by omega))
  (k_with "tb_rel" => ((with_reducible show wpAny _ _ (subscriptTail _ _ (Value.ref _) (Value.int _ _)) _ _ _); k_dflt (refine' item_at (by k_asm) (by k_mem) (by omega) (by omega) (by assumption) ?_); (try dsimp only)))
  (k_with "tb_rel" => ((with_reducible show wpAny _ _ (call (Value.builtin "list.append") [Value.ref _, _]) _ _ _); k_dflt (refine' append_K (by k_asm) (by k_asm) (by k_upd) ?_ (by (rw [sizeLine_eq]; simp; omega))); intro h'w F'w N'w))
  (k_with "tb_rel" => ((with_reducible show wpAny _ _ (eval (Expr.Call (Expr.Attribute _ _ _) [Expr.Starred _ _] [] _) _) _ _ _); refine MethodCallS ?_))
  (k_with "tb_rel" => ((with_reducible show wpAny _ _ (eval (Expr.Call (Expr.Attribute _ _ _) [_, Expr.Starred _ _] [] _) _) _ _ _); refine MethodCallS ?_))
  (k_with "tb_rel" => ((with_reducible show wpAny _ _ (callWith _ (Value.ref _) _ (backTo _ (starEach [Expr.Starred _ _] _)) []) _ _ _); k_dflt (refine' callWith_SM (by k_asm) (by k_asm) (by k_mem) (by k_is) ?_; k_whole)))
  (k_with "tb_rel" => ((with_reducible show wpAny _ _ (callWith _ (Value.ref _) _ (backTo _ (starEach [_, Expr.Starred _ _] _)) []) _ _ _); k_dflt (refine' callWith_SM2 (by k_asm) (by k_asm) (by k_mem) (by k_is) ?_; k_whole)))
  trivial
/-- one round of the sorter: all that is ready is passed out and done -/
noncomputable def outS (st : (Nat → Int) × List Nat) : (Nat → Int) × List Nat := (fun j => if j ∈ st.2 then -1 else st.1 j, [])
noncomputable def roundS (su : Nat → List Nat) (st : (Nat → Int) × List Nat) : (Nat → Int) × List Nat := st.2.foldl (doneS su) (outS st)
noncomputable def itS (su : Nat → List Nat) (st : (Nat → Int) × List Nat) : Nat → (Nat → Int) × List Nat
  | 0 => st
  | k + 1 => roundS su (itS su st k)
structure RoundOk (su : Nat → List Nat) (n : Nat) (st : (Nat → Int) × List Nat) : Prop where
  len : st.2.length ≤ 6
  lt : ∀ k ∈ st.2, k < n
  out : ∀ i k, st.2[i]? = some k → ((st.2.take i).foldl (doneS su) (outS st)).1 k = -1
noncomputable def SeenAt (grp : Nat → List Nat) (led : List (Addr × Obj)) (ys : List Value) (n : Nat) : Prop :=
  ys.length = n ∧ ∀ k < n, ∃ T G gv, ys[k]? = some (.ref T) ∧ (T, tupOf #[.bool (!(grp k).isEmpty), .ref G] 0) ∈ led ∧ (G, tupOf gv.toArray 0) ∈ led ∧ IntsAre gv ((grp k).map Int.ofNat)
theorem SeenAt.mono {grp : Nat → List Nat} {led led' : List (Addr × Obj)} {ys : List Value} {n : Nat} (h : SeenAt grp led ys n) (hs : ∀ q ∈ led, (∃ vs, q.2 = tupOf vs 0) → q ∈ led') : SeenAt grp led' ys n :=
  ⟨h.1, fun k hk => (by obtain ⟨T, G, gv, h1, h2, h3, h4⟩ := h.2 k hk; exact ⟨T, G, gv, h1, hs _ h2 ⟨_, rfl⟩, hs _ h3 ⟨_, rfl⟩, h4⟩)⟩
theorem SeenAt.snoc {grp : Nat → List Nat} {led : List (Addr × Obj)} {ys : List Value} {n : Nat} {T G : Addr} {gv : List Value} (h : SeenAt grp led ys n) (h2 : (T, tupOf #[.bool (!(grp n).isEmpty), .ref G] 0) ∈ led) (h3 : (G, tupOf gv.toArray 0) ∈ led) (h4 : IntsAre gv ((grp n).map Int.ofNat)) :
    SeenAt grp led (ys ++ [.ref T]) (n + 1) := by
  refine ⟨by simp [h.1], fun k hk => ?_⟩
  rcases Nat.lt_succ_iff_lt_or_eq.mp hk with hk | rfl
  · refine hide ?_
    intro Pz kz
    obtain ⟨T', G', gv', a1, a2, a3, a4⟩ := h.2 k hk
    refine kz ?_
    clear kz Pz
    exact ⟨T', G', gv', by rw [List.getElem?_append_left (by rw [h.1]; exact hk)]; exact a1, a2, a3, a4⟩
  · exact ⟨T, G, gv, by rw [List.getElem?_append_right (by rw [h.1]; exact Nat.le_refl _)]; simp [h.1], h2, h3, h4⟩
theorem head_ex {h₀ h : Heap} {L a : Addr} {o : Obj} {led : List (Addr × Obj)} (_N : News h₀ L h ((a, o) :: led)) : ∃ b, b = a := ⟨a, rfl⟩
theorem SAt.notTup {w : World} {led : List (Addr × Obj)} {S dS D : Addr} {nds : List Nd} {r p f : Value} (h : SAt w led S dS D nds r p f) {h₀ hp : Heap} {L : Addr} (N : News h₀ L hp led) {q : Addr × Obj} (hq : q ∈ led) {vs : Array Value} {n : Nat} (e : q.2 = tupOf vs n) : q.1 ∉ adrs S dS D nds := by
  refine hide ?_
  intro Pz kz
  obtain ⟨⟨t1, t2, t3, t4, oD, hm, hd⟩, hn, hl⟩ := h
  refine kz ?_
  clear kz Pz
  intro ha
  have key : ∀ o, (q.1, o) ∈ led → o = tupOf vs n := fun o ho => by
    have h1 := (N q hq).1
    rw [(N _ ho).1] at h1
    rw [← e]; exact Option.some.inj h1
  simp only [adrs, List.mem_cons] at ha
  rcases ha with ha | ha | ha | ha
  · have := key _ (ha ▸ hm _ (.head _)); cases this
  · have := key _ (ha ▸ hm _ (.tail _ (.head _))); have h9 := congrArg (fun o : Obj => o.cls) this; simp at h9
  · have h2 := key _ (ha ▸ hm _ (.tail _ (.tail _ (.head _))))
    refine hide ?_
    intro Pz kz
    obtain ⟨es, ep, _, hdd, _⟩ := hd
    refine kz ?_
    clear kz Pz
    rw [h2] at hdd; cases hdd
  · refine hide ?_
    intro Pz kz
    obtain ⟨x, hx, ha⟩ := List.mem_flatMap.mp ha
    refine kz ?_
    clear kz Pz
    have k : ∀ q ∈ ndL x, q ∈ led := fun q hq => hm q (by simp only [sortL, List.mem_cons]; exact .inr (.inr (.inr (List.mem_flatMap.mpr ⟨x, hx, hq⟩))))
    simp only [ndA, List.mem_cons, List.not_mem_nil, or_false] at ha
    rcases ha with ha | ha | ha
    · have := key _ (ha ▸ k _ (.head _)); cases this
    · have := key _ (ha ▸ k _ (.tail _ (.head _))); have h9 := congrArg (fun o : Obj => o.cls) this; simp at h9
    · have := key _ (ha ▸ k _ (.tail _ (.tail _ (.head _)))); have h9 := congrArg (fun o : Obj => o.cls) this; simp at h9
theorem notList {h₀ hp : Heap} {L RL : Addr} {led : List (Addr × Obj)} (N : News h₀ L hp led) {q : Addr × Obj} (hq : q ∈ led) {vs its : Array Value} {n e : Nat} (e1 : q.2 = tupOf vs n) (hr : (RL, listOf its e) ∈ led) : q.1 ≠ RL := by
  intro e2
  have h1 := (N q hq).1
  rw [e2, (N _ hr).1, e1] at h1
  have h9 := congrArg (fun o : Obj => o.cls) (Option.some.inj h1)
  simp at h9
section
variable {w : World} {mean : ExcName → Option Value} {mg mb : Str → Option Value} {gd : Option (List Code)} {cn : Str} {nms : List (Str × NameKind)} {mr : List (Str × Const)} {a : Addr} {ccd : Value} {cl : List (Str × Addr)} {outer : List Env} {A₀ : Around} {base h₀ : Heap} {L : Addr} {m : Str → Option Value} {s : Shared} {Q E : Value → Shared → Prop} {news : List (Addr × Obj)}
variable {led : List (Addr × Obj)} {S dS D : Addr} {nds : List Nd} {rv pv fv : Value}

theorem c_run (B : Below A₀ base outer h₀) (F : Fr h₀ L s.heap m) (X : (Mine.pre.heap_1_1 w.params).In h₀) (N : News h₀ L s.heap led) (T : Top Mine.pre.view_1_2 (looseW Mine.pre.view_1_2 [Str.ofString "_NodeInfo"]) mean mg mb h₀)
   (nds₀ : List Nd) (su : Nat → List Nat) (st : (Nat → Int) × List Nat) (hf : SFx nds₀ nds st.1) (hsu : ∀ k x, nds₀[k]? = some x → IntsAre x.its ((su k).map Int.ofNat)) (hsr : ∀ k, ∀ j ∈ su k, j < nds₀.length) (hsl : ∀ k, (su k).length ≤ 6)
   (RL : Addr) (rs : List Value) (e : Nat) (np : Int) (tp tf : Tok) (hr : (RL, listOf rs.toArray e) ∈ led) (hRL : RL ∉ adrs S dS D nds) (hS : SAt w led S dS D nds (.ref RL) (.int np tp) (.int np tf)) (hrs : IntsAre rs (st.2.map Int.ofNat))
   (hok : ∀ k < 5, RoundOk su nds₀.length (itS su st k))
   (hQ : ∀ Y ys h' tk' led', Fr h₀ L h' m → News h₀ L h' led' → SeenAt (fun k => (itS su st k).2) led' ys 5 → (Y, listOf ys.toArray 5) ∈ led' → (∀ q ∈ led, q.1 ∉ adrs S dS D nds → q.1 ≠ RL → q ∈ led') → Q (.ref Y) { s with heap := h', toks := tk' }) :
   wpAny (model PySem.Challenge.rw_nb0264_01.row.prog w) (ktrTop 307 35 gd cn ⟨.function, nms, false, false, mr⟩ L a ccd cl outer) (call (.ref 243) [.ref S]) Q E s := by
  have hrs' : Kp (IntsAre rs (st.2.map Int.ofNat)) := ⟨hrs⟩
  clear hrs
  refine hide ?_
  intro Pz kz
  obtain ⟨t1, t2, t3, t4, oD, m1, m2, m3, hD⟩ := hS.top
  refine kz ?_
  clear kz Pz
  ktr_unf
  (try ((with_reducible show wpAny _ _ _ _ _ _); generalize hA1 : Around.deeper _ _ = A1; revert A1; refine letEq ?_; intro A1))
  (rename Fr _ _ _ _ => lF0); (rename News _ _ _ _ => lN0)
  refine hide ?_
  intro Pz kz
  obtain ⟨SE, hSE⟩ := head_ex lN0
  refine kz ?_
  clear kz Pz
  subst hSE
  refine For_fr lF0 rfl rfl ?_
  ktr_unf
  have hSEl : ∀ p ∈ led, p.1 ≠ SE := lt_ne (by assumption) (Nat.le_refl _)
  have hSEa : SE ∉ adrs S dS D nds := fun hm => by
    refine hide ?_
    intro Pz kz
    obtain ⟨o, ho⟩ := hS.adr_mem SE hm
    refine kz ?_
    clear kz Pz
    exact hSEl _ ho rfl
  have hSER : SE ≠ RL := fun e' => hSEl _ hr e'.symm
  (rename Fr _ _ _ _ => lF'); (rename News _ _ _ _ => lN')
  refine iter_rngJ (n := 5) (fun i nx => (∃ ndi rsi ei ysi c tp tf, SAt w nx S dS D ndi (.ref RL) (.int c tp) (.int c tf) ∧ SFx nds₀ ndi (itS su st i).1 ∧ (RL, listOf rsi.toArray ei) ∈ nx ∧ IntsAre rsi ((itS su st i).2.map Int.ofNat) ∧ (SE, listOf ysi.toArray i) ∈ nx ∧ SeenAt (fun k => (itS su st k).2) nx ysi i) ∧ ∀ q ∈ led, q.1 ∉ adrs S dS D nds → q.1 ≠ RL → q ∈ nx) [Str.ofString "active", Str.ofString "group"] rfl (by assumption) (by decide) (by rfl) lF' lN' ⟨⟨nds, rs, e, [], np, tp, tf, hS.mono fun _ hq => .tail _ hq, hf, .tail _ hr, hrs'.out, .head _, ⟨rfl, fun k hk => absurd hk (Nat.not_lt_zero _)⟩⟩, fun q hq _ _ => .tail _ hq⟩ ?_ ?_
  · intro i t u nx I oI h tk hi off hoc hz0 F'' N''
    refine hide ?_
    intro Pz kz
    obtain ⟨⟨ndi, rsi, ei, ysi, c, tp', tf', hSi, hfi, hRi, hri, hSEi, hsee⟩, hrest⟩ := hz0
    refine kz ?_
    clear kz Pz
    (try k_fold)
    have ok := hok i hi
    have hadr : adrs S dS D ndi = adrs S dS D nds := by rw [hfi.adrs, hf.adrs]
    have hRL' : RL ∉ adrs S dS D ndi := by rw [hadr]; exact hRL
    have hrl : rsi.length ≤ 6 := by have := IntsAre.length hri; rw [List.length_map] at this; have := ok.len; omega
    have hlen : nds₀.length = ndi.length := hfi.len.symm
    replace hri : Kp (IntsAre rsi _) := ⟨hri⟩
    have hysl := hsee.1
    have htups : ∀ q ∈ nx, (∃ vs, q.2 = tupOf vs 0) → q.1 ∉ adrs S dS D nds ∧ q.1 ≠ RL ∧ q.1 ≠ SE := fun q hq ⟨vs, ev⟩ => by
      have N9 : News _ _ h nx := fun p hp => N'' p (.tail _ hp)
      exact ⟨by rw [← hadr]; exact hSi.notTup N9 hq ev, notList N9 hq ev hRi, notList N9 hq ev hSEi⟩
    clear lF' lN' hrs' hS m1 m2 m3 hD hf hr
    refine hide ?_
    intro Pz kz
    obtain ⟨u1, u2, u3, u4, oDi, p1, p2, p3, hDi⟩ := hSi.top
    refine kz ?_
    clear kz Pz
    ktr_unf
    k_dflt (refine' wp_up (c_active ?k1 ?k2 ?k3 ?k4 ?k5 RL rsi ei c c tp' tf' (.tail _ hRi) (hSi.mono fun _ hq => .tail _ hq) hrl ?_) ?u1 ?u2 ?u3 ?u4 ?u5; (case u2 => exact rfl); (case u1 => exact rfl); (case u3 => exact rfl); (case u4 => exact Nat.le_of_ble_eq_true rfl); (case u5 => exact Nat.le_of_ble_eq_true rfl); (case k1 => k_asm); (case k2 => k_asm); (case k3 => k_asm); (case k4 => k_asm); (case k5 => k_asm); k_whole)
    intro h2 tk2 F2 N2
    (try dsimp only); (try k_fold)
    ktr_unf
    k_dflt (refine' wp_up (c_ready ?k1 ?k2 ?k3 ?k4 ?k5 nds₀ _ hfi RL rsi (itS su st i).2 ei c tp' (.tail _ hRi) hRL' (hSi.mono fun _ hq => .tail _ hq) hri.out (by rw [← hlen]; exact ok.lt) hrl ?_) ?u1 ?u2 ?u3 ?u4 ?u5; (case u2 => exact rfl); (case u1 => exact rfl); (case u3 => exact rfl); (case u4 => exact Nat.le_of_ble_eq_true rfl); (case u5 => exact Nat.le_of_ble_eq_true rfl); (case k1 => k_asm); (case k2 => k_asm); (case k3 => k_asm); (case k4 => k_asm); (case k5 => k_asm); k_whole)
    intro TT nds2 v2 e2 h3 tk3 led3 F3 N3 hv2 S3 f3 r3 TT3 k3
    have TTa := S3.notTup N3 TT3 rfl
    have TTR := notList N3 TT3 rfl r3
    (try dsimp only); (try k_fold)
    (try clear F2); (try clear N2)
    clear p1 p2 p3 hDi
    refine hide ?_
    intro Pz kz
    obtain ⟨t1', t2', t3', t4', oD2, q1, q2, q3, hD2⟩ := S3.top
    refine kz ?_
    clear kz Pz
    ktr_unf
    (rename Fr _ _ _ _ => lF4); (rename News _ _ _ _ => lN4)
    k_dflt (refine' star_seq lF4 lN4 (.tail _ TT3) rfl rfl (.inr rfl) List.toList_toArray ?z ?_; (case z => (rw [sizeLine_eq]; simp; omega)); k_whole)
    intro h4 F4 N4
    clear lF4 lN4
    refine ⟨methP N4 (.head _) (by k_in), ?_⟩
    refine call_meth N4 (.head _) ?_
    dsimp only [List.nil_append]
    have hadr2 : adrs S dS D nds2 = adrs S dS D nds := by rw [f3.adrs, ← hadr, hfi.adrs]
    k_dflt (refine' code_up (c_doneC ?k1 ?k2 ?k3 ?k4 ?k5 nds₀ su (outS (itS su st i)) f3 hsu hsr hsl RL [] e2 c tf' (.tail _ r3) (by rw [hadr2]; exact hRL) (S3.mono fun _ hq => .tail _ hq) .nil (Nat.zero_le _) rsi (itS su st i).2 hri.out ok.lt hrl ok.out ?_) ?u1 ?u2 ?u3 ?u4 ?u5; (case u2 => exact rfl); (case u1 => exact rfl); (case u3 => exact rfl); (case u4 => exact Nat.le_of_ble_eq_true rfl); (case u5 => exact Nat.le_of_ble_eq_true rfl); (case k1 => k_asm); (case k2 => k_asm); (case k3 => k_asm); (case k4 => k_asm); (case k5 => k_asm); k_whole)
    intro nds5 rs5 e5 v5 h5 tk5 led5 F5 N5 hv5 S5 f5 r5 i5 k5
    (try dsimp only); (try k_fold)
    have i5' : Kp (IntsAre rs5 _) := ⟨i5⟩
    clear i5
    have c3 : ∀ q ∈ nx, q.1 ∉ adrs S dS D nds → q.1 ≠ RL → q ∈ led5 := fun q hq h1 h2 => k5 q (.tail _ (k3 q (.tail _ hq) (by rw [hadr]; exact h1) h2)) (by rw [hadr2]; exact h1) h2
    have hSE5 := c3 _ hSEi hSEa hSER
    have TT5 := k5 _ (.tail _ TT3) TTa TTR
    have hIa : I ∉ adrs S dS D nds := fun hm => by
      refine hide ?_
      intro Pz kz
      obtain ⟨o, ho⟩ := hSi.adr_mem I (by rw [hadr]; exact hm)
      refine kz ?_
      clear kz Pz
      exact off _ ho rfl
    have hIR : I ≠ RL := fun e' => off _ hRi e'.symm
    have hIS : I ≠ SE := fun e' => off _ hSEi e'.symm
    have I5 : (I, oI) ∈ led5 := k5 _ (.tail _ (k3 _ (.head _) (by rw [hadr]; exact hIa) hIR)) (by rw [hadr2]; exact hIa) hIR
    have TTS := notList N5 TT5 rfl hSE5
    have TTI : TT ≠ I := fun e' => by
      have h1 := (N5 _ TT5).1
      have h2 := (N5 _ I5).1
      rw [e', h2] at h1
      have h3 : oI = tupOf rsi.toArray 0 := Option.some.inj h1
      rw [h3] at hoc
      simp at hoc
    refine hide ?_
    intro Pz kz
    obtain ⟨rest, N6, sub6, off6, keep6, back6⟩ := focus_ex N5 hSE5
    refine kz ?_
    clear kz Pz
    (try clear F4); (try clear N4)
    (try clear F3)
    clear q1 q2 q3 hD2
    ktr_unf
    (rename Fr _ _ _ _ => lF); (rename News _ _ _ _ => lN)
    refine hide ?_
    intro Pz kz
    obtain ⟨T2, hT2⟩ := head_ex lN
    refine kz ?_
    clear kz Pz
    subst hT2
    rename @LT.lt _ _ SE _ ∧ AllLt _ rest => qT
    have hl2 : rsi.length = (itS su st i).2.length := by rw [IntsAre.length hri.out]; simp
    have hb : (decide (c < c) || !rsi.isEmpty) = !(itS su st i).2.isEmpty := by
      have h9 : rsi.isEmpty = (itS su st i).2.isEmpty := by rw [Bool.eq_iff_iff, List.isEmpty_iff_length_eq_zero, List.isEmpty_iff_length_eq_zero, hl2]
      rw [h9]; simp
    rw [hb] at lN
    refine hide ?_
    intro Pz kz
    obtain ⟨tv2, rfl⟩ := hv2
    obtain ⟨tv5, rfl⟩ := hv5
    refine kz ?_
    clear kz Pz
    rw [hl2] at S5
    have I6 : (I, oI) ∈ rest := keep6 _ I5 hIS
    have hT2I : T2 ≠ I := fun e' => Nat.lt_irrefl _ (ltN (e' ▸ kst_ltOf qT.2 _ I6))
    have fil : ∀ q ∈ led5, q.1 ≠ SE → q.1 ≠ I → q ∈ ((T2, tupOf #[.bool (!(itS su st i).2.isEmpty), .ref TT] 0) :: (SE, listOf (ysi.toArray.push (.ref T2)) (i + 1)) :: rest).filter (fun q => decide (q.1 ≠ I)) := fun q hq h1 h2 => List.mem_filter.mpr ⟨.tail _ (.tail _ (keep6 q hq h1)), by simpa using h2⟩
    have hadr5 : adrs S dS D nds5 = adrs S dS D nds := by rw [f5.adrs, ← hadr, hfi.adrs]
    dsimp only [PostJ]
    refine EndJ.intro lF lN (((T2, tupOf #[.bool (!(itS su st i).2.isEmpty), .ref TT] 0) :: (SE, listOf (ysi.toArray.push (.ref T2)) (i + 1)) :: rest).filter (fun q => decide (q.1 ≠ I))) (fun p hp => ?_) (fun p hp => by simpa using (List.mem_filter.mp hp).2) ⟨fun z hz hc => ?_, ⟨nds5, rs5, e5, ysi ++ [.ref T2], _, _, _, S5.off (fun q hq ha => fil q hq (fun e' => hSEa (by rw [← hadr5, ← e']; exact ha)) (fun e' => hIa (by rw [← hadr5, ← e']; exact ha))), f5, fil _ r5 (Ne.symm hSER) (Ne.symm hIR), i5'.out, ?_, ?_⟩, fun q hq hna hnR => fil q (c3 q (hrest q hq hna hnR) hna hnR) (hSEl q hq) (off q (hrest q hq hna hnR))⟩
    · revert p
      exact all_cons (.tail _ (.tail _ I6)) (fun p hp => (List.mem_filter.mp hp).1)
    · have h1 : z ≠ Str.ofString "active" := by rintro rfl; simp at hc
      have h2 : z ≠ Str.ofString "group" := by rintro rfl; simp at hc
      simp [hz, h1, h2]
    · rw [← List.push_toArray]
      exact List.mem_filter.mpr ⟨.tail _ (.head _), by simpa using Ne.symm hIS⟩
    · refine SeenAt.snoc (G := TT) (gv := rsi) (hsee.mono fun q hq hv => ?_) (List.mem_filter.mpr ⟨.head _, by simpa using hT2I⟩) (fil _ TT5 ?_ ?_) hri.out
      · refine hide ?_
        intro Pz kz
        obtain ⟨a1, a2, a3⟩ := htups q hq hv
        refine kz ?_
        clear kz Pz
        exact fil q (c3 q hq a1 a2) a3 (off q hq)
      · exact TTS
      · exact TTI
  · intro u nx h tk hz0 F'' N''
    refine hide ?_
    intro Pz kz
    obtain ⟨⟨ndi, rsi, ei, ysi, c, tp', tf', hSi, hfi, hRi, hri, hSEi, hsee⟩, hrest⟩ := hz0
    refine kz ?_
    clear kz Pz
    (try k_fold)
    clear hri
    dsimp only
    ktr_unf
    exact hQ SE ysi _ _ nx (by k_asm) (by k_asm) hsee hSEi hrest
end
end Mine
end
section
theorem Mine.w_Twins_0 : True := by
  k_with_none
  trivial
namespace Mine
theorem Mine.w_Twins_1 : True := by
  (k_with "ktr_unf" => repeat' ((fail_if_success (with_reducible show wpAny _ _ (pyIter _) _ _ _)); (fail_if_success (with_reducible show wpAny _ _ (exec (Stmt.For _ _ _ _ _) _) _ _ _)); (fail_if_success (with_reducible show wpAny _ _ (eval (Expr.ListComp _ _ _ _) _) _ _ _)); (fail_if_success (with_reducible show LCg.CompSrc _ _ _ _ _ _ _ _ _ _ _ _ _ _)); first | (k_unfold; (try dsimp only)) | tb_rel | ((fail_if_success (with_reducible show wpAny _ _ (subscriptTail _ _ (Value.ref _) (Value.int _ _)) _ _ _)); (fail_if_success (with_reducible show wpAny _ _ (setItem (Value.ref _) _ _) _ _ _)); first | walk1 | (dsimp only; walk1))))
  (k_with "k_mem" => first | assumption | exact List.Mem.head _ | (refine' List.Mem.tail _ ?_; k_mem) | (refine' SubL.mem (by assumption) ?_; k_mem))
  (k_with "k_all" => first | assumption | exact off1_mem' (by assumption) | exact lt_ne (by assumption) (by omega) | exact allLt_ne (by assumption) (by omega))
  (k_with "tb_rel" => ((with_reducible show wpAny _ _ (subscriptTail _ _ (Value.ref _) (Value.int _ _)) _ _ _); k_dflt (refine' item_at (by k_asm) (by k_mem) (by omega) (by omega) (by assumption) ?_); (try dsimp only)))
  (k_with "tb_rel" => ((with_reducible show wpAny _ _ (call (Value.ref 202) _) _ _ _); k_dflt (refine' wp_upR (by exact rfl) (by exact rfl) (by exact rfl) (by exact Nat.le_of_ble_eq_true rfl) (by exact Nat.le_of_ble_eq_true rfl) (c_small (by k_asm) (by k_asm) (by k_asm) (by k_asm) (by k_asm) _ _ (by assumption) ?_); k_whole); intro t'w h'w tk'w F'w N'w; (try dsimp only); (try k_fold)))
  trivial
noncomputable def noSlash (x : Str) : Bool := (Builtin.Str.occurrences x (Str.ofString "/") 0 x.length 1).isEmpty
noncomputable def cntN (xs : List Str) (j : Nat) : Int := Spec.countIn (PyData.str (partN xs j)) ((xs.map smallS).map PyData.str)
noncomputable def isTwin (xs : List Str) (j : Nat) : Bool := (partN xs j != Str.ofString "*") && noSlash (partN xs j) && decide (1 < cntN xs j)
noncomputable def twinsOf (xs : List Str) : List Nat := (List.range 6).filter (isTwin xs)
theorem tw_t {xs : List Str} {j : Nat} (h1 : (partN xs j != Str.ofString "*") = true) (h2 : (Builtin.Str.occurrences (partN xs j) (Str.ofString "/") 0 (partN xs j).length 1).isEmpty = true) (h3 : 1 < Spec.countIn (PyData.str (partN xs j)) (List.map PyData.str (List.map smallS xs))) : isTwin xs j = true := by
  unfold isTwin noSlash cntN; rw [h1, h2, decide_eq_true h3]; rfl
theorem tw_f1 {xs : List Str} {j : Nat} (h1 : (partN xs j != Str.ofString "*") = false) : ¬ isTwin xs j = true := by
  unfold isTwin; rw [h1]; simp
theorem tw_f2 {xs : List Str} {j : Nat} (h2 : (Builtin.Str.occurrences (partN xs j) (Str.ofString "/") 0 (partN xs j).length 1).isEmpty = false) : ¬ isTwin xs j = true := by
  unfold isTwin noSlash; rw [h2]; simp
theorem tw_f3 {xs : List Str} {j : Nat} (h3 : ¬ 1 < Spec.countIn (PyData.str (partN xs j)) (List.map PyData.str (List.map smallS xs))) : ¬ isTwin xs j = true := by
  unfold isTwin cntN; rw [decide_eq_false h3, Bool.and_false]; simp
theorem twins_snoc (xs : List Str) (j : Nat) : ((List.range (j + 1)).filter (isTwin xs)).map Int.ofNat = if isTwin xs j = true then ((List.range j).filter (isTwin xs)).map Int.ofNat ++ [(j : Int)] else ((List.range j).filter (isTwin xs)).map Int.ofNat := by
  rw [List.range_succ, List.filter_append, List.map_append]
  split <;> simp_all
theorem Mine.w_Twins_2 : True := by
  (k_with "tb_rel" => ((with_reducible show wpAny _ _ (call (Value.builtin "list.count") [Value.ref _, Value.str _ _]) _ _ _); k_dflt (refine' count_list_strs (News.isList (by k_asm) (by k_mem)) (Kp.out (P := StrsAre _ _) (by assumption)) ?_)))
  trivial
section
variable {w : World} {mean : ExcName → Option Value} {mg mb : Str → Option Value} {gd : Option (List Code)} {cn : Str} {nms : List (Str × NameKind)} {mr : List (Str × Const)} {a : Addr} {ccd : Value} {cl : List (Str × Addr)} {outer : List Env} {A₀ : Around} {base h₀ : Heap} {L : Addr} {m : Str → Option Value} {s : Shared} {Q E : Value → Shared → Prop} {news : List (Addr × Obj)}

theorem c_twins (B : Below A₀ base outer h₀) (F : Fr h₀ L s.heap m) (X : (Mine.pre.heap_1_1 w.params).In h₀) (N : News h₀ L s.heap news) (T : Top Mine.pre.view_1_2 (looseW Mine.pre.view_1_2 [Str.ofString "_NodeInfo"]) mean mg mb h₀)
   (nA : Addr) (e : Nat) (xs : List Str) (vs : List Value) (hvs : StrsAre vs xs) (hl6 : xs.length = 6) (hvl : vs.length = 6) (hx : ∀ x ∈ xs, x ∈ allNames)
   (hn : (nA, listOf vs.toArray e) ∈ news)
   (hQ : ∀ tA ys led h' tk', Fr h₀ L h' m → News h₀ L h' ((tA, LCg.lst ys) :: (led ++ news)) → IntsAre ys ((twinsOf xs).map Int.ofNat) → (∀ q ∈ news, q.1 ≠ tA) → Q (.ref tA) { s with heap := h', toks := tk' }) :
   wpAny (model PySem.Challenge.rw_nb0264_01.row.prog w) (ktrTop 307 35 gd cn ⟨.function, nms, false, false, mr⟩ L a ccd cl outer) (call (.ref 219) [.ref nA]) Q E s := by
  have hvs' : Kp (StrsAre vs xs) := ⟨hvs⟩
  clear hvs
  ktr_unf
  (try ((with_reducible show wpAny _ _ _ _ _ _); generalize hA1 : Around.deeper _ _ = A1; revert A1; refine letEq ?_; intro A1))
  (rename Fr _ _ _ _ => lF0)
  k_dflt (refine LCg.ListComp_U (F₀ := lF0) (by with_unfolding_all rfl) (by decide) (by rfl) (by decide) (by rfl) ?_)
  ktr_unf
  k_dflt (refine LCg.CompSrc.ledger (by rfl) (by k_asm) (by k_asm) (by k_mem) (by rw [sizeLine_eq]; simp; omega) ?_)
  intro g'
  refine compRest_pure (fun i ys => StrsAre ys ((xs.take i).map smallS)) (.inr ⟨_, by k_mem, rfl, _, rfl⟩) ?_ ?_ .nil
  · intro i v ys I oI C oC D m₂ h tk E' hi hv hR hC hx' F' N' off ne hS
    refine hide ?_
    intro Pz kz
    obtain ⟨x, t, hxi, rfl⟩ := strs_get hvs'.out (by simpa using hv)
    refine kz ?_
    clear kz Pz
    have hx3 := hx x (List.mem_of_getElem? hxi)
    ktr_unf
    refine LCg.CompEnd.intro (by k_asm) (by k_asm) _ (fun _ hp => hp) off hS ⟨rfl, ?_⟩
    rw [take_snoc hxi]
    exact strs_snoc hR
  · intro ps hps
    rw [show vs.toArray.size = xs.length by simp [hvl, hl6], List.take_length] at hps
    have hpl : ps.length = 6 := by rw [strs_len hps]; simp [hl6]
    have hps' : Kp (StrsAre ps (xs.map smallS)) := ⟨hps⟩
    clear hps
    unfold LCg.FinE
    intro D2 h2 tk2 F2 N2 o2
    simp only [LCg.Off1] at o2
    refine hide ?_
    intro Pz kz
    obtain ⟨o21, o22⟩ := o2
    refine kz ?_
    clear kz Pz
    ktr_unf
    (rename Fr _ _ _ _ => lF1)
    k_dflt (refine ListComp_TW lF1 (by with_unfolding_all rfl) (by decide) (by rfl) (by decide) (by rfl) ?_)
    ktr_unf
    (rename Fr _ _ _ _ => lF'); (rename News _ _ _ _ => lN')
    refine AtT.range (n := 6) rfl lF' lN' (by assumption) (by decide) (by rfl) (by decide +kernel) ?_
    intro g'
    refine compRestT_pure (fun j ys => IntsAre ys (((List.range j).filter (isTwin xs)).map Int.ofNat)) trivial ?_ ?_ .nil
    · intro j v ys I oI C oC D m₂ h tk E' hj hz0 hR hC hx' F' N' off ne hS
      refine hide ?_
      intro Pz kz
      obtain ⟨t', rfl⟩ := hz0
      refine kz ?_
      clear kz Pz
      (try k_fold)
      have hR' : Kp (IntsAre ys _) := ⟨hR⟩
      clear hR
      refine hide ?_
      intro Pz kz
      obtain ⟨tp, hpi⟩ := part_at hl6 hps'.out hj
      refine kz ?_
      clear kz Pz
      have hp3 : (partN xs j).length ≤ 3 := partN_len hl6 hx hj
      ktr_unf
      · refine LCg.CompEnd.intro (by k_asm) (by k_asm) _ (fun _ hp => hp) off hS ⟨rfl, ?_⟩
        rw [twins_snoc, if_pos (tw_t (by assumption) (by assumption) (by assumption))]
        rw [show ((0 : Int) + (j : Int)) = (j : Int) by omega]
        exact ints_snoc hR'.out
      · refine LCg.CompEnd.intro (by k_asm) (by k_asm) _ (fun _ hp => hp) off hS ⟨rfl, ?_⟩
        rw [twins_snoc, if_neg (tw_f3 (by assumption))]
        exact hR'.out
      · refine LCg.CompEnd.intro (by k_asm) (by k_asm) _ (fun _ hp => hp) off hS ⟨rfl, ?_⟩
        rw [twins_snoc, if_neg (tw_f2 (by assumption))]
        exact hR'.out
      · refine LCg.CompEnd.intro (by k_asm) (by k_asm) _ (fun _ hp => hp) off hS ⟨rfl, ?_⟩
        rw [twins_snoc, if_neg (tw_f1 (by assumption))]
        exact hR'.out
    · intro ys hys
      have hys' : Kp (IntsAre ys _) := ⟨hys⟩
      clear hys
      unfold LCg.FinE
      intro D4 h4 tk4 F4 N4 o4
      have o4' : Kp (∀ q ∈ news, q.1 ≠ D4) := ⟨fun q hq => off1_mem' o4 q (by simp [hq])⟩
      ktr_unf
      refine hQ D4 ys [(D2, LCg.lst ps)] _ _ (by k_asm) (cb_drop (by assumption) (fun p hp => ?_)) hys'.out o4'.out
      simp only [List.mem_cons, List.mem_append, List.not_mem_nil, or_false] at hp ⊢
      rcases hp with h | h | h <;> simp [h]
end
end Mine
end
section
namespace Mine
open PySem.Spec PySem.Calls
section
variable {prog : Program} {w : World} {A : Around} {E : Value → Shared → Prop} {s : Shared} {a b : Value} {d : PyData} {as bs : List Addr} {Q : Value → Shared → Prop}
theorem eq_sameD (ra : Reads s.heap a d as) (rb : Reads s.heap b d bs) (hs : SeqAt.shaped d = true) (hu : A.units + 64 < cLine) (h : Q (.bool true) s) : wpAny (model prog w) A (compareOp .Eq a b) Q E s :=
  eq_dataH ra rb hs hs hu (by rw [SeqAt.eqv_refl d (SeqAt.canLay_of_shaped hs)]; exact h)
theorem ne_sameD (ra : Reads s.heap a d as) (rb : Reads s.heap b d bs) (hs : SeqAt.shaped d = true) (hu : A.units + 64 < cLine) (h : Q (.bool false) s) : wpAny (model prog w) A (compareOp .NotEq a b) Q E s :=
  ne_dataH ra rb hs hs hu (by rw [SeqAt.eqv_refl d (SeqAt.canLay_of_shaped hs)]; exact h)
end
theorem readsAll_of {h : Heap} : ∀ {vs : List Value} {ds : List PyData}, vs.length = ds.length → (∀ (i : Nat) v d, vs[i]? = some v → ds[i]? = some d → ∃ as, Reads h v d as) → ∃ as, ReadsAll h vs ds as
  | [], [], _, _ => ⟨_, .nil⟩
  | [], _ :: _, e, _ => by simp at e
  | _ :: _, [], e, _ => by simp at e
  | v :: vs, d :: ds, e, hp => by
    refine hide ?_
    intro Pz kz
    obtain ⟨a1, h1⟩ := hp 0 v d rfl rfl
    obtain ⟨a2, h2⟩ := readsAll_of (h := h) (vs := vs) (ds := ds) (by simpa using e) fun i v' d' hv hd => hp (i + 1) v' d' (by simpa using hv) (by simpa using hd)
    refine kz ?_
    clear kz Pz
    exact ⟨_, .cons h1 h2⟩
theorem canLayAll_of : ∀ {ds : List PyData}, (∀ d ∈ ds, d.canLay0 = true) → PyData.canLayAll0 ds = true
  | [], _ => rfl
  | d :: ds, h => by
    rw [PyData.canLayAll0, h d (List.mem_cons_self ..), canLayAll_of fun x hx => h x (List.mem_cons_of_mem _ hx)]; rfl
theorem depthAll_of {n : Nat} : ∀ {ds : List PyData}, (∀ d ∈ ds, d.depth ≤ n) → PyData.depthAll ds ≤ n
  | [], _ => Nat.zero_le _
  | d :: ds, h => by
    have h1 := h d (List.mem_cons_self ..)
    have h2 := depthAll_of (ds := ds) fun x hx => h x (List.mem_cons_of_mem _ hx)
    rw [PyData.depthAll]; omega
theorem shaped_list {ds : List PyData} {n : Nat} (h1 : ∀ d ∈ ds, d.canLay0 = true) (h2 : ∀ d ∈ ds, d.depth ≤ n) (hn : n ≤ 60) : (PyData.list ds).canLay0 = true ∧ (PyData.list ds).depth ≤ n + 1 := by
  refine ⟨by rw [PyData.canLay0]; exact canLayAll_of h1, ?_⟩
  have := depthAll_of h2
  rw [PyData.depth]; omega
theorem shaped_tuple {ds : List PyData} {n : Nat} (h1 : ∀ d ∈ ds, d.canLay0 = true) (h2 : ∀ d ∈ ds, d.depth ≤ n) (hn : n ≤ 60) : (PyData.tuple ds).canLay0 = true ∧ (PyData.tuple ds).depth ≤ n + 1 := by
  refine ⟨by rw [PyData.canLay0]; exact canLayAll_of h1, ?_⟩
  have := depthAll_of h2
  rw [PyData.depth]; omega
theorem shaped_of {d : PyData} {n : Nat} (h : d.canLay0 = true ∧ d.depth ≤ n) (hn : n ≤ 64) : SeqAt.shaped d = true := by
  unfold SeqAt.shaped
  rw [h.1, decide_eq_true (Nat.le_trans h.2 hn)]; rfl
theorem nm_ok : ∀ x ∈ allNames, PyData.canLay0 (.str (smallS x)) = true ∧ PyData.canLay0 (.str x) = true := by decide +kernel
theorem readsAll_strs {h : Heap} : ∀ {vs : List Value} {xs : List Str}, StrsAre vs xs → ReadsAll h vs (xs.map PyData.str) []
  | _, _, .nil => .nil
  | _, _, .cons x t hr => .cons (.str x t) (readsAll_strs hr)
theorem readsAll_ints {h : Heap} {vs : List Value} {ns : List Int} (hi : IntsAre vs ns) : ReadsAll h vs (ns.map PyData.int) [] := by
  induction hi with
  | nil => exact .nil
  | cons x t _ ih => exact .cons (.int x t) ih
end Mine
end
section
theorem Mine.w_Ring_0 : True := by
  k_with_none
  trivial
namespace Mine
theorem Mine.w_Ring_1 : True := by
  (k_with "ktr_unf" => repeat' ((fail_if_success (with_reducible show wpAny _ _ (pyIter _) _ _ _)); (fail_if_success (with_reducible show wpAny _ _ (exec (Stmt.For _ _ _ _ _) _) _ _ _)); (fail_if_success (with_reducible show wpAny _ _ (eval (Expr.ListComp _ _ _ _) _) _ _ _)); (fail_if_success (with_reducible show LCg.CompSrc _ _ _ _ _ _ _ _ _ _ _ _ _ _)); (fail_if_success (with_reducible show wpAny _ _ (compareOp _ (Value.ref _) (Value.ref _)) _ _ _)); (fail_if_success (with_reducible show wpAny _ _ (compareOp _ (Value.int _ _) (Value.ref _)) _ _ _)); (fail_if_success (with_reducible show wpAny _ _ (binaryOp _ (Value.ref _) _) _ _ _)); first | (k_unfold; (try dsimp only)) | tb_rel | ((fail_if_success (with_reducible show wpAny _ _ (subscriptTail _ _ (Value.ref _) (Value.int _ _)) _ _ _)); first | walk1 | (dsimp only; walk1))))
  (k_with "k_mem" => first | assumption | exact List.Mem.head _ | (refine' List.Mem.tail _ ?_; k_mem) | (refine' SubL.mem (by assumption) ?_; k_mem))
  (k_with "k_all" => first | assumption | exact off1_mem' (by assumption) | exact lt_ne (by assumption) (by omega) | exact allLt_ne (by assumption) (by omega))
  (k_with "tb_rel" => ((with_reducible show wpAny _ _ (subscriptTail _ _ (Value.ref _) (Value.int _ _)) _ _ _); k_dflt (refine' item_at (by k_asm) (by k_mem) (by omega) (by omega) (by assumption) ?_); (try dsimp only)))
  (k_with "tb_rel" => ((with_reducible show wpAny _ _ (call (Value.ref 202) _) _ _ _); k_dflt (refine' wp_upR (by exact rfl) (by exact rfl) (by exact rfl) (by exact Nat.le_of_ble_eq_true rfl) (by exact Nat.le_of_ble_eq_true rfl) (c_small (by k_asm) (by k_asm) (by k_asm) (by k_asm) (by k_asm) _ _ (by assumption) ?_); k_whole); intro t'w h'w tk'w F'w N'w; (try dsimp only); (try k_fold)))
  (k_with "tb_rel" => ((with_reducible show wpAny _ _ (call (Value.builtin "len") [Value.ref _]) _ _ _); k_dflt (refine' PyProof.Rows.len_list (News.isList (by k_asm) (by k_mem)) (by simp; omega) ?_); (try dsimp only)))
  trivial
theorem item_neg {prog : Program} {w : World} {A : Around} {E : Value → Shared → Prop} {s : Shared} {h₀ : Heap} {L : Addr} {news : List (Addr × Obj)} {value slice : PySem.Expr} {l : Addr} {its : Array Value} {n : Nat} {k : Int} {u : Tok} {v : Value} {Q : Value → Shared → Prop}
    (N : News h₀ L s.heap news) (hm : (l, listOf its n) ∈ news) (h0 : k < 0) (h1 : -(its.size : Int) ≤ k) (hlo : -(2 ^ 63) ≤ k) (hx : its[(k + its.size).toNat]? = some v) (h : Q v s)
    (hs : subscripted slice false (.ref l) (.int k u) = operate [.ref l, .int k u] (getItem (.ref l) (.int k u)) := by with_unfolding_all rfl) :
    wpAny (model prog w) A (subscriptTail value slice (.ref l) (.int k u)) Q E s :=
  have hl : s.heap.IsList l its := ⟨_, (N _ hm).1, rfl, _, rfl⟩
  tail_any hl.typeIs slot_list_getitem.lookup (wpAny_getItem_list_neg hl h0 h1 hlo hx h) hs
theorem Mine.w_Ring_2 : True := by
  (k_with "tb_rel" => ((with_reducible show wpAny _ _ (subscriptTail _ _ (Value.ref _) (Value.int _ _)) _ _ _); k_dflt (refine' item_neg (by k_asm) (by k_mem) (by omega) (by simp; omega) (by omega) (by assumption) ?_); (try dsimp only)))
  trivial
/-- what the law asks of a ring -/
structure RingOk (xs : List Str) (tw ring : List Nat) : Prop where
  len : 3 ≤ ring.length ∧ ring.length ≤ 7
  lt : ∀ j ∈ ring, j < 6
  ends : ring[0]? = ring[ring.length - 1]?
  tw : ∀ j, ring[0]? = some j → j ∈ tw
  part : ∀ j ∈ ring, ∀ k, ring[0]? = some k → partN xs j = partN xs k
  nodup : ring.tail.Nodup
theorem ring_parts {xs : List Str} {ring : List Nat} {j0 : Nat} (h : ∀ j ∈ ring, partN xs j = partN xs j0) : (List.replicate ring.length [PyData.str (partN xs j0)]).flatten = (ring.map (partN xs)).map PyData.str := by
  induction ring with
  | nil => rfl
  | cons a r ih =>
    rw [List.length_cons, List.replicate_succ, List.flatten_cons, List.map_cons, List.map_cons, ih fun j hj => h j (List.mem_cons_of_mem _ hj), h a (List.mem_cons_self ..)]
    rfl
theorem slice_tail {prog : Program} {w : World} {A : Around} {E : Value → Shared → Prop} {s : Shared} {h₀ : Heap} {L : Addr} {m : Str → Option Value} {news : List (Addr × Obj)} {value slice : Expr} {l : Addr} {its : List Value} {e : Nat} {ns : List Int} {vl vu : Value} {Q : Value → Shared → Prop}
    (F : Fr h₀ L s.heap m) (N : News h₀ L s.heap news) (hm : (l, listOf its.toArray e) ∈ news) (hI : IntsAre its ns) (h1 : 1 ≤ its.length) (hz : its.length ≤ 100) (pl : IsPart vl (some 1)) (pu : IsPart vu none)
    (h : ∀ D h' ys, Fr h₀ L h' m → News h₀ L h' ((D, listOf ys.toArray 0) :: news) → Kp (IntsAre ys (ns.drop 1)) → (∀ p ∈ news, p.1 < D) → Q (.ref D) { s with heap := h' })
    (hs : subscripted slice false (.ref l) (.ref s.heap.objs.size) = operate [.ref s.heap.objs.size, .ref l] (getItem (.ref l) (.ref s.heap.objs.size)) := by with_unfolding_all rfl)
    (ht : ∀ r, letTemporaryGo value (.ref l) r = pure () := by intro _; with_unfolding_all rfl) :
    wpAny (model prog w) A (subscriptTail value slice (.ref l) (.ref s.heap.objs.size)) Q E { s with heap := s.heap.push { cls := .type "slice", data := .fields #[vl, vu, .none] } } := by
  refine slice_list F N (News.isList N hm) pl pu (fun h' F' N' => h _ h' (slicePick its.toArray (some 1) none none).toList F' (by rw [Array.toArray_toList]; exact N') ⟨slice_ints_from hI (by omega) (by have := IntsAre.length hI; omega)⟩ fun p hp => Nat.lt_succ_of_lt (Heap.lt_size (N p hp).1)) hs ht (by rw [sizeLine_eq]; simp; omega)
theorem Mine.w_Ring_3 : True := by
  (k_with "tb_rel" => ((with_reducible show wpAny _ _ (subscriptTail _ _ (Value.ref _) (Value.ref _)) _ _ _); k_dflt (refine' slice_tail (by k_asm) (by k_asm) (by k_mem) (Kp.out (P := IntsAre _ _) (by assumption)) (by omega) (by omega) (by exact .int _ _) (by exact .none) ?_); intro D'w h'w ys'w F'w N'w I'w l1'w; (try k_lt l1'w); (try dsimp only)))
  (k_with "tb_rel" => ((with_reducible show wpAny _ _ (call (Value.builtin "list.count") [Value.ref _, Value.int _ _]) _ _ _); k_dflt (refine' count_list_ints (News.isList (by k_asm) (by exact List.Mem.head _)) (Kp.out (P := IntsAre _ _) (by assumption)) ?_)))
  trivial
theorem count_le1 : ∀ {l : List Int}, l.Nodup → ∀ a, l.count a ≤ 1
  | [], _, a => by simp
  | b :: r, h, a => by
    refine hide ?_
    intro Pz kz
    obtain ⟨h1, h2⟩ := List.nodup_cons.mp h
    refine kz ?_
    clear kz Pz
    rw [List.count_cons]
    by_cases e : (b == a) = true
    · have e' : b = a := by simpa using e
      have : r.count a = 0 := List.count_eq_zero.mpr (e' ▸ h1)
      rw [this]; split <;> omega
    · rw [if_neg e]; exact count_le1 h2 a
theorem nodup_ofNat : ∀ {l : List Nat}, l.Nodup → (l.map Int.ofNat).Nodup
  | [], _ => List.nodup_nil
  | b :: r, h => by
    refine hide ?_
    intro Pz kz
    obtain ⟨h1, h2⟩ := List.nodup_cons.mp h
    refine kz ?_
    clear kz Pz
    rw [List.map_cons, List.nodup_cons]
    refine ⟨fun hm => ?_, nodup_ofNat h2⟩
    refine hide ?_
    intro Pz kz
    obtain ⟨c, hc, e⟩ := List.mem_map.mp hm
    refine kz ?_
    clear kz Pz
    exact h1 (Int.ofNat.inj e ▸ hc)
section
variable {w : World} {mean : ExcName → Option Value} {mg mb : Str → Option Value} {gd : Option (List Code)} {cn : Str} {nms : List (Str × NameKind)} {mr : List (Str × Const)} {a : Addr} {ccd : Value} {cl : List (Str × Addr)} {outer : List Env} {A₀ : Around} {base h₀ : Heap} {L : Addr} {m : Str → Option Value} {s : Shared} {Q E : Value → Shared → Prop} {news : List (Addr × Obj)}

theorem c_ringNone (B : Below A₀ base outer h₀) (F : Fr h₀ L s.heap m) (X : (Mine.pre.heap_1_1 w.params).In h₀) (N : News h₀ L s.heap news) (T : Top Mine.pre.view_1_2 (looseW Mine.pre.view_1_2 [Str.ofString "_NodeInfo"]) mean mg mb h₀)
   (nA tA : Addr) (ys : List Value) (e : Nat) (he : ys = []) (hy : (tA, listOf ys.toArray e) ∈ news)
   (hQ : ∀ h' tk', Fr h₀ L h' m → News h₀ L h' news → Q (.bool true) { s with heap := h', toks := tk' }) :
   wpAny (model PySem.Challenge.rw_nb0264_01.row.prog w) (ktrTop 307 35 gd cn ⟨.function, nms, false, false, mr⟩ L a ccd cl outer) (call (.ref 229) [.none, .ref nA, .ref tA]) Q E s := by
  subst he
  ktr_unf
  (try ((with_reducible show wpAny _ _ _ _ _ _); generalize hA1 : Around.deeper _ _ = A1; revert A1; refine letEq ?_; intro A1))
  k_dflt (refine ke_eq_ints (News.isList (by k_asm) (by k_mem)) (News.isList (items := ([] : List Value).toArray) (by k_asm) (.head _)) .nil .nil (by ke_room) ?_)
  dsimp only [decide_true]
  ktr_unf
  k_dflt (refine ke_eq_ints (News.isList (by k_asm) (by k_mem)) (News.isList (items := ([] : List Value).toArray) (by k_asm) (.head _)) .nil .nil (by ke_room) ?_)
  dsimp only [decide_true]
  ktr_unf
  exact hQ _ _ (by k_asm) (cb_drop (by assumption) (fun p hp => by simp [hp]))
theorem c_ring (B : Below A₀ base outer h₀) (F : Fr h₀ L s.heap m) (X : (Mine.pre.heap_1_1 w.params).In h₀) (N : News h₀ L s.heap news) (T : Top Mine.pre.view_1_2 (looseW Mine.pre.view_1_2 [Str.ofString "_NodeInfo"]) mean mg mb h₀)
   (rA nA tA : Addr) (xs : List Str) (vs rv ys : List Value) (e e1 e2 : Nat) (ring tw : List Nat) (hvs : StrsAre vs xs) (hl6 : xs.length = 6) (hvl : vs.length = 6) (hx : ∀ x ∈ xs, x ∈ allNames)
   (hn : (nA, listOf vs.toArray e) ∈ news) (hr : (rA, listOf rv.toArray e1) ∈ news) (hrv : IntsAre rv (ring.map Int.ofNat)) (ht : (tA, listOf ys.toArray e2) ∈ news) (hys : IntsAre ys (tw.map Int.ofNat)) (htw : tw.length ≤ 6) (ok : RingOk xs tw ring)
   (hQ : ∀ h' tk', Fr h₀ L h' m → News h₀ L h' news → Q (.bool true) { s with heap := h', toks := tk' }) :
   wpAny (model PySem.Challenge.rw_nb0264_01.row.prog w) (ktrTop 307 35 gd cn ⟨.function, nms, false, false, mr⟩ L a ccd cl outer) (call (.ref 229) [.ref rA, .ref nA, .ref tA]) Q E s := by
  have hvs' : Kp (StrsAre vs xs) := ⟨hvs⟩
  have hrv' : Kp (IntsAre rv (ring.map Int.ofNat)) := ⟨hrv⟩
  have hys' : Kp (IntsAre ys (tw.map Int.ofNat)) := ⟨hys⟩
  clear hvs hrv hys
  obtain ⟨j0, hj0⟩ : ∃ j, ring[0]? = some j := ⟨_, List.getElem?_eq_getElem (by have := ok.len; omega)⟩
  have hj0t := ok.tw j0 hj0
  have htne : ¬ (tw.map Int.ofNat = []) := by
    intro e'
    have : tw = [] := by simpa using e'
    rw [this] at hj0t; cases hj0t
  have hrl : rv.length = ring.length := by rw [IntsAre.length hrv'.out]; simp
  have hok := ok.len
  obtain ⟨t0, hr0⟩ : ∃ t, rv.toArray[(0 : Int).toNat]? = some (.int (Int.ofNat j0) t) := by
    obtain ⟨v, hv⟩ : ∃ v, rv[0]? = some v := ⟨_, List.getElem?_eq_getElem (by omega)⟩
    refine hide ?_
    intro Pz kz
    obtain ⟨k, t, rfl, hk⟩ := IntsAre.at hrv'.out 0 v hv
    refine kz ?_
    clear kz Pz
    rw [List.getElem?_map, hj0] at hk
    cases hk
    exact ⟨t, by simpa using hv⟩
  obtain ⟨tl, hrl'⟩ : ∃ t, rv.toArray[((-1 : Int) + rv.toArray.size).toNat]? = some (.int (Int.ofNat j0) t) := by
    have e1 : ((-1 : Int) + rv.toArray.size).toNat = ring.length - 1 := by simp; omega
    obtain ⟨v, hv⟩ : ∃ v, rv[ring.length - 1]? = some v := ⟨_, List.getElem?_eq_getElem (by omega)⟩
    refine hide ?_
    intro Pz kz
    obtain ⟨k, t, rfl, hk⟩ := IntsAre.at hrv'.out _ v hv
    refine kz ?_
    clear kz Pz
    rw [List.getElem?_map, ← ok.ends, hj0] at hk
    cases hk
    exact ⟨t, by rw [e1]; simpa using hv⟩
  ktr_unf
  (try ((with_reducible show wpAny _ _ _ _ _ _); generalize hA1 : Around.deeper _ _ = A1; revert A1; refine letEq ?_; intro A1))
  k_dflt (refine ke_eq_ints (News.isList (by k_asm) (by k_mem)) (News.isList (items := ([] : List Value).toArray) (by k_asm) (.head _)) hys'.out .nil (by ke_room) ?_)
  rw [decide_eq_false htne]
  ktr_unf
  k_dflt (refine LCg.CompSrc.ledger (by rfl) (by k_asm) (by k_asm) (by k_mem) (by rw [sizeLine_eq]; simp; omega) ?_)
  intro g'
  refine compRest_pure (fun i ys => StrsAre ys ((ring.take i).map (partN xs))) (.inr ⟨_, by k_mem, rfl, _, rfl⟩) ?_ ?_ .nil
  · intro i v ys I oI C oC D m₂ h tk E' hi hv hR hC hx' F' N' off ne hS
    refine hide ?_
    intro Pz kz
    obtain ⟨jz, tj, rfl, hjz⟩ := IntsAre.at hrv'.out i v (by simpa using hv)
    rw [List.getElem?_map] at hjz
    obtain ⟨jn, hjn, rfl⟩ := Option.map_eq_some_iff.mp hjz
    have hj6 := ok.lt jn (List.mem_of_getElem? hjn)
    obtain ⟨tn, hnj⟩ := strs_at hvs'.out (getD_of (i := jn) (by omega))
    refine kz ?_
    clear kz Pz
    have hnj' : vs.toArray[(Int.ofNat jn).toNat]? = some (.str (xs.getD jn (Str.ofString "")) tn) := by simpa using hnj
    have hx3 := nameN_mem hl6 hx hj6
    have hj0' : 0 ≤ Int.ofNat jn := Int.natCast_nonneg _
    have hj6' : Int.ofNat jn < 6 := by show (jn : Int) < 6; omega
    have hR' : Kp (StrsAre ys _) := ⟨hR⟩
    clear hR
    ktr_unf
    refine LCg.CompEnd.intro (by k_asm) (by k_asm) _ (fun _ hp => hp) off hS ⟨rfl, ?_⟩
    rw [take_snoc hjn]
    exact strs_snoc hR'.out
  · intro ps hps
    rw [show rv.toArray.size = ring.length by simp [hrl], List.take_length] at hps
    have hpl : ps.length = ring.length := by rw [strs_len hps]; simp
    have hps' : Kp (StrsAre ps (ring.map (partN xs))) := ⟨hps⟩
    clear hps
    unfold LCg.FinA
    intro D2 h2 tk2 F2 N2 o2
    simp only [LCg.Off1] at o2
    refine hide ?_
    intro Pz kz
    obtain ⟨o21, o22, o23, o24⟩ := o2
    refine kz ?_
    clear kz Pz
    obtain ⟨tp0, hp0⟩ : ∃ t, ps.toArray[(0 : Int).toNat]? = some (.str (partN xs j0) t) := by
      refine hide ?_
      intro Pz kz
      obtain ⟨t, h⟩ := strs_at hps'.out (i := 0) (x := partN xs j0) (by rw [List.getElem?_map, hj0]; rfl)
      refine kz ?_
      clear kz Pz
      exact ⟨t, by simpa using h⟩
    ktr_unf
    · exfalso
      rename Int.ofNat j0 ≠ Int.ofNat j0 => hh
      exact hh rfl
    · k_dflt (refine notin_list_ints (News.isList (by k_asm) (by k_mem)) hys'.out ?_)
      have hany : (!(List.any (tw.map Int.ofNat) (· == Int.ofNat j0))) = false := by
        have : List.any (tw.map Int.ofNat) (· == Int.ofNat j0) = true := List.any_eq_true.mpr ⟨_, List.mem_map_of_mem hj0t, by simp⟩
        rw [this]; rfl
      rw [hany]
      ktr_unf
      (rename Fr _ _ _ _ => lF1); (rename News _ _ _ _ => lN1)
      k_dflt (refine mul_list_is (vs := [.str (partN xs j0) tp0]) (ds := [.str (partN xs j0)]) lF1 lN1 (News.isList lN1 (.head _)) (.cons (.str _ _) .nil) (by omega) (by simp; omega) (by simp; omega) ?_)
      intro h3 F3 N3 _ hl3 hc3
      clear lF1 lN1
      have hsz : ((ps.toArray.size : Nat) : Int).toNat = ring.length := by simp [hpl]
      rw [hsz] at hl3 hc3
      rw [ring_parts (fun j hj => ok.part j hj j0 hj0)] at hc3
      (try dsimp only)
      k_dflt (refine ne_sameD (reads_list_at (News.get N3 (.tail _ (.head _))) rfl rfl (readsAll_strs hps'.out)) (reads_newData hl3 hc3) (shaped_of (shaped_list (n := 0) ?s1 ?s2 (by omega)) (by omega)) (by ke_room) ?_)
      case s1 =>
        intro d hd
        refine hide ?_
        intro Pz kz
        obtain ⟨y, hy, rfl⟩ := List.mem_map.mp hd
        obtain ⟨j, hj, rfl⟩ := List.mem_map.mp hy
        refine kz ?_
        clear kz Pz
        exact (nm_ok _ (nameN_mem hl6 hx (ok.lt j hj))).1
      case s2 =>
        intro d hd
        refine hide ?_
        intro Pz kz
        obtain ⟨y, hy, rfl⟩ := List.mem_map.mp hd
        refine kz ?_
        clear kz Pz
        exact Nat.le_refl _
      clear hl3 hc3
      ktr_unf
      (rename Fr _ _ _ _ => lF2)
      k_dflt (refine ListComp_TW lF2 (by with_unfolding_all rfl) (by decide) (by rfl) (by decide) (by rfl) ?_)
      ktr_unf
      (rename Fr _ _ _ _ => lF'); (rename News _ _ _ _ => lN')
      rename Kp (IntsAre _ (List.drop 1 _)) => hI1
      have hdl := IntsAre.length hI1.out
      rw [List.length_drop, List.length_map] at hdl
      refine AtT.list rfl lF' lN' (.head _) (by rw [sizeLine_eq]; simp; omega) ?_
      intro g'
      refine compRestT_pure (fun i ys => ys = []) (.inr ⟨_, .head _, rfl, _, rfl⟩) ?_ ?_ rfl
      · rintro i v ys I oI C oC D m₂ h tk E' hi hv rfl hC hx' F' N' off ne hS
        refine hide ?_
        intro Pz kz
        obtain ⟨jz, tj, rfl, hjz⟩ := IntsAre.at hI1.out i v (by simpa using hv)
        refine kz ?_
        clear kz Pz
        clear lF' lN' hI1
        ktr_unf
        · exfalso
          rename 1 < _ => hc1
          have h9 := count_le1 (nodup_ofNat ok.nodup) jz
          rw [← List.drop_one, List.map_drop] at h9
          omega
        · refine LCg.CompEnd.intro (by k_asm) (by k_asm) _ (fun _ hp => .tail _ hp) off hS ⟨rfl, rfl⟩
      · intro zs hzs
        subst hzs
        unfold LCg.FinE
        intro D4 h4 tk4 F4 N4 o4
        clear lF' lN'
        ktr_unf
        k_dflt (refine ke_eq_ints (News.isList (items := ([] : List Value).toArray) (by k_asm) (.tail _ (.head _))) (News.isList (items := ([] : List Value).toArray) (by k_asm) (.head _)) .nil .nil (by ke_room) ?_)
        dsimp only [decide_true]
        ktr_unf
        exact hQ _ _ (by k_asm) (cb_drop (by assumption) (fun p hp => by simp [hp]))
end
end Mine
end
section
namespace Mine
open PySem.Spec PySem.Calls
section
variable {prog : Program} {w : World} {A : Around} {E : Value → Shared → Prop} {s : Shared} {env : Env} {h₀ : Heap} {x : Str} {body : List Stmt} {Q : Flow → Shared → Prop}
/-- a turn's end where the target is a cell -/
inductive EndC (h₀ : Heap) (L c : Addr) (J : (Str → Option Value) → List (Addr × Obj) → Prop) (I : Addr) (oI : Obj) (s₁ s₂ : Shared) : Prop
  | mk (h' : Heap) (tk : Nat) (m' : Str → Option Value) (nx : List (Addr × Obj)) (oc : Obj) (v : Option Value) (e : s₂ = { s₁ with heap := h', toks := tk }) (F : Fr h₀ L h' m') (N : News h₀ L h' ((I, oI) :: (c, oc) :: nx)) (hc : oc.data = .cell v) (off : ∀ p ∈ nx, p.1 ≠ I ∧ p.1 ≠ c) (hJ : J m' nx)
inductive RCI (s : Shared) (h₀ : Heap) (L I c : Addr) (a₀ : Int) (n : Nat) (J : Nat → (Str → Option Value) → List (Addr × Obj) → Prop) (k : Nat) (s' : Shared) : Prop
  | mk (h' : Heap) (tk : Nat) (m' : Str → Option Value) (nx : List (Addr × Obj)) (i : Nat) (oI oc : Obj) (v : Option Value) (e : s' = { s with heap := h', toks := tk }) (st : IsRangeIter h' I (a₀ + (i : Nat) * 1) ((n : Int) - (i : Nat)) 1) (F : Fr h₀ L h' m') (N : News h₀ L h' ((I, oI) :: (c, oc) :: nx)) (hc : oc.data = .cell v) (off : ∀ p ∈ nx, p.1 ≠ I ∧ p.1 ≠ c) (hJ : J i m' nx) (hi : i ≤ n) (hk : k = n + 1 - i)
noncomputable def PostC (h₀ : Heap) (L c : Addr) (J : (Str → Option Value) → List (Addr × Obj) → Prop) (I : Addr) (oI : Obj) (s₁ : Shared) (Q : Flow → Shared → Prop) (f : Flow) (s₂ : Shared) : Prop :=
  match f with
  | .ret v => Q (.ret v) s₂
  | .brk => Q .next s₂
  | _ => EndC h₀ L c J I oI s₁ s₂
theorem EndC.intro {L I c : Addr} {oI oc : Obj} {v : Option Value} {J : (Str → Option Value) → List (Addr × Obj) → Prop} {m' : Str → Option Value} {all : List (Addr × Obj)} {s₁ : Shared} {h' : Heap} {tk : Nat} (F : Fr h₀ L h' m') (N : News h₀ L h' all) (nx : List (Addr × Obj))
    (sub : ∀ p ∈ (I, oI) :: (c, oc) :: nx, p ∈ all) (hc : oc.data = .cell v) (off : ∀ p ∈ nx, p.1 ≠ I ∧ p.1 ≠ c) (hj : J m' nx) : EndC h₀ L c J I oI s₁ { s₁ with heap := h', toks := tk } := ⟨h', tk, m', nx, oc, v, rfl, F, fun p hp => N p (sub p hp), hc, off, hj⟩
/-- a for over a range whose target is a cell; the ledger may grow and change -/
theorem rngC {r c : Addr} {oc₀ : Obj} {v₀ : Option Value} {a₀ b₀ : Int} {t₀ u₀ w₀ : Tok} {n : Nat} {m₀ : Str → Option Value} {news : List (Addr × Obj)} {px : Pos} (J : Nat → (Str → Option Value) → List (Addr × Obj) → Prop)
    (hh : A.handled = none) (hE : PassesOwn (model prog w) A env E) (hk : env.scope.kind = .function) (hx : env.kindOf x = some .cell) (hc : env.cells.lookup x = some c)
    (hr : IsRange s.heap r a₀ b₀ 1 t₀ u₀ w₀) (hsmall : Builtin.Range.small a₀ b₀ 1 = true) (hn : Builtin.Range.rangeSize a₀ b₀ 1 = (n : Int)) (F : Fr h₀ env.locals s.heap m₀) (N : News h₀ env.locals s.heap ((c, oc₀) :: news)) (hoc : oc₀.data = .cell v₀) (offc : ∀ p ∈ news, p.1 ≠ c) (hj : J 0 m₀ news)
    (turn : ∀ i t m₁ nx I oI oc h tk, i < n → (∀ p ∈ nx, p.1 ≠ I ∧ p.1 ≠ c) → I ≠ c → oI.cls = .type "range_iterator" → oc.data = .cell (some (.int (a₀ + (i : Int)) t)) → J i m₁ nx → Fr h₀ env.locals h m₁ → News h₀ env.locals h ((I, oI) :: (c, oc) :: nx) →
      wpAny (model prog w) A (execs body env) (PostC h₀ env.locals c (J (i + 1)) I oI { s with heap := h, toks := tk } Q) E { s with heap := h, toks := tk })
    (done : ∀ m₁ nx oc v h tk, J n m₁ nx → oc.data = .cell v → (∀ p ∈ nx, p.1 ≠ c) → Fr h₀ env.locals h m₁ → News h₀ env.locals h ((c, oc) :: nx) → Q .next { s with heap := h, toks := tk }) :
    wpAny (model prog w) A (pyIter (.ref r)) (fun it s₂ => codeAny (model prog w) A (.forLoop (.Name x px) it body [] env) (fun r s' => match r with | .ok f => Q f s' | .error e => cameBackBy (model prog w) A env E e s') s₂) E s := by
  have hI₀ := next_is_new F
  refine wpAny_pyIter_range hr hsmall ?_
  generalize hI : s.heap.objs.size = I at hI₀
  have W : Walks prog w A I [I] [I] n (fun i v => i < n ∧ ∃ t, v = .int (a₀ + i * 1) t)
      (fun i h => IsRangeIter h I (a₀ + (i : Nat) * 1) ((n : Int) - (i : Nat)) 1) := (Walks.range hh _ a₀ 1 n).bound
  have hLI : env.locals ≠ I := fun e => absurd F.ns.lt (by rw [e, hI]; exact Nat.lt_irrefl _)
  have hcI : I ≠ c := fun e => absurd (Heap.lt_size (N _ (.head _)).1) (by rw [hI, e]; exact Nat.lt_irrefl _)
  have hcL : c ≠ env.locals := (N _ (.head _)).2.1
  have hc₀ : h₀.get? c = none := (N _ (.head _)).2.2
  refine codeAny_forLoop
    (RCI s h₀ env.locals I c a₀ n J) ?_ (n + 1)
    ⟨_, s.toks, m₀, news, 0, { cls := .type "range_iterator", data := .fields #[rawInt a₀, rawInt (Builtin.Range.rangeSize a₀ b₀ 1), rawInt 1] }, oc₀, v₀, rfl, (by show IsRangeIter _ _ _ _ _; rw [hn, ← hI]; simpa using Heap.get?_push_size _ rfl), F.push _, ?_, hoc, fun p hp => ⟨?_, offc p hp⟩, hj, Nat.zero_le _, rfl⟩
  · intro k s' hz0
    refine hide ?_
    intro Pz kz
    obtain ⟨h', tk, m', nx, i, oI, oc, v, rfl, hst', F', N', hocd, off', hJ, hi, rfl⟩ := hz0
    refine kz ?_
    clear kz Pz
    by_cases hlt : i < n
    · refine W.item i _ _ _ hlt hst' fun v₁ h₁ tk₁ hP hst₁ hk₁ => ?_
      refine hide ?_
      intro Pz kz
      obtain ⟨_, t, rfl⟩ := hP
      refine kz ?_
      clear kz Pz
      have hk₂ : ∀ c o, c ≠ I → h'.get? c = some o → h₁.get? c = some o := fun c o hc ho => hk₁ c o (fun hm => hc (List.mem_singleton.mp hm)) ho
      have F₁ : Fr h₀ env.locals h₁ m' := fr_but F' hI₀ (Ne.symm hLI) hk₂
      obtain ⟨oI', hoI', hIc⟩ : ∃ oI', h₁.get? I = some oI' ∧ oI'.cls = .type "range_iterator" := ⟨_, hst₁, rfl⟩
      have N₁ : News h₀ env.locals h₁ ((I, oI') :: (c, oc) :: nx) := (all_cons (⟨hoI', Ne.symm hLI, hI₀⟩) (all_cons (⟨hk₂ _ _ (Ne.symm hcI) (N' _ (.tail _ (.head _))).1, hcL, hc₀⟩) (fun p hp => ⟨hk₂ _ _ (off' p hp).1 (N' p (.tail _ (.tail _ hp))).1, (N' p (.tail _ (.tail _ hp))).2⟩)))
      refine wpAny_assign_Name (wpAny_storeName_cell (c := c) (v₀ := v) hk hx hc ⟨oc, (N₁ _ (.tail _ (.head _))).1, hocd⟩ fun h₂ hc₂ hs₂ => ?_)
      refine hide ?_
      intro Pz kz
      obtain ⟨oc', hec, hoc'⟩ := hc₂
      refine kz ?_
      clear kz Pz
      have F₂ : Fr h₀ env.locals h₂ m' := F₁.change hs₂ hcL hc₀
      have N₂ : News h₀ env.locals h₂ ((I, oI') :: (c, oc') :: nx) := (all_cons (⟨hs₂.extBut _ _ hcI hoI', Ne.symm hLI, hI₀⟩) (all_cons (⟨hec, hcL, hc₀⟩) (fun p hp => by have z := N₁ p (.tail _ (.tail _ hp)); exact ⟨hs₂.extBut _ _ (off' p hp).2 z.1, z.2⟩)))
      have hst₂ : IsRangeIter h₂ I (a₀ + ((i + 1 : Nat) : Int) * 1) ((n : Int) - ((i + 1 : Nat) : Int)) 1 := W.frame _ _ _ hst₁ fun b hb o e => hs₂.extBut _ _ (fun q => hcI ((List.mem_singleton.mp hb).symm.trans q)) e
      have fin : ∀ {s₃}, EndC h₀ env.locals c (J (i + 1)) I oI' { s with heap := h₂, toks := tk₁ } s₃ → ∃ n', n' < n + 1 - i ∧ RCI s h₀ env.locals I c a₀ n J n' s₃ := by
        intro s₃ hz0
        refine hide ?_
        intro Pz kz
        obtain ⟨h₃, tk₃, m₃, nx₃, oc₃, v₃, rfl, F₃, N₃, hc₃, off₃, hJ₃⟩ := hz0
        refine kz ?_
        clear kz Pz
        refine ⟨n + 1 - (i + 1), by omega, h₃, tk₃, m₃, nx₃, i + 1, oI', oc₃, v₃, rfl, ?_, F₃, N₃, hc₃, off₃, hJ₃, hlt, rfl⟩
        refine W.frame _ _ _ hst₂ fun b hb o e => ?_
        rw [List.mem_singleton.mp hb] at e ⊢
        have : o = oI' := Option.some.inj (e.symm.trans (N₂ _ (.head _)).1)
        rw [this]; exact (N₃ _ (.head _)).1
      refine wpAny_passesOwn hE (wpAny_mono (turn i t m' nx I oI' oc' h₂ _ hlt off' hcI hIc (by simpa using hoc') hJ F₂ N₂) (fun f s₃ h₃ => ?_) fun _ _ e => e)
      cases f with
      | ret v => exact h₃
      | brk => exact h₃
      | next => exact fin h₃
      | cont => exact fin h₃
    · have hin : i = n := by omega
      subst hin
      refine W.done _ _ _ hst' fun h₁ tk₁ hk₁ => ?_
      have hk₂ : ∀ c o, c ≠ I → h'.get? c = some o → h₁.get? c = some o := fun c o hc ho => hk₁ c o (fun hm => hc (List.mem_singleton.mp hm)) ho
      refine wpAny_execs_nil (done m' nx oc v h₁ tk₁ hJ hocd (fun p hp => (off' p hp).2) (fr_but F' hI₀ (Ne.symm hLI) hk₂) fun p hp => ?_)
      revert p
      exact all_cons (⟨hk₂ _ _ (Ne.symm hcI) (N' _ (.tail _ (.head _))).1, hcL, hc₀⟩) (fun p hp => ⟨hk₂ _ _ (off' p hp).1 (N' p (.tail _ (.tail _ hp))).1, (N' p (.tail _ (.tail _ hp))).2⟩)
  · intro p hp
    rcases List.mem_cons.mp hp with rfl | hp
    · exact ⟨by rw [← hI]; exact Heap.get?_push_size _ rfl, Ne.symm hLI, hI₀⟩
    · exact ⟨Heap.get?_push_of_some _ (N p hp).1, (N p hp).2⟩
  · rw [← hI]; exact Nat.ne_of_lt (Heap.lt_size (N p (.tail _ hp)).1)
end
end Mine
end
section
namespace Mine
open PySem.Calls
/-- the sort's tree of questions, answered by an order -/
noncomputable def runB {α : Type} (n : Nat) (lt : Nat → Nat → Bool) : KasT α → Option α
  | .ret a => some a
  | .ask i j k => if i < n ∧ j < n ∧ i ≠ j then runB n lt (k (lt i j)) else none
noncomputable def inserts (x : Nat) : List Nat → List (List Nat)
  | [] => [[x]]
  | y :: r => (x :: y :: r) :: (inserts x r).map (y :: ·)
noncomputable def permsOf : List Nat → List (List Nat)
  | [] => [[]]
  | x :: r => (permsOf r).flatMap (inserts x)
noncomputable def ltOf (σ : List Nat) (i j : Nat) : Bool := decide (σ.idxOf i < σ.idxOf j)
noncomputable def chkN (n : Nat) : Bool := (permsOf (List.range n)).all fun σ => runB n (ltOf σ) (kas_sort n) == some σ.toArray
theorem chk2 : chkN 2 = true := by decide +kernel
theorem chk3 : chkN 3 = true := by decide +kernel
theorem chk4 : chkN 4 = true := by decide +kernel
theorem chk5 : chkN 5 = true := by decide +kernel
theorem chk6_0 : (((permsOf (List.range 6)).drop 0).take 90).all (fun σ => runB 6 (ltOf σ) (kas_sort 6) == some σ.toArray) = true := by decide +kernel
theorem chk6_1 : (((permsOf (List.range 6)).drop 90).take 90).all (fun σ => runB 6 (ltOf σ) (kas_sort 6) == some σ.toArray) = true := by decide +kernel
theorem chk6_2 : (((permsOf (List.range 6)).drop 180).take 90).all (fun σ => runB 6 (ltOf σ) (kas_sort 6) == some σ.toArray) = true := by decide +kernel
theorem chk6_3 : (((permsOf (List.range 6)).drop 270).take 90).all (fun σ => runB 6 (ltOf σ) (kas_sort 6) == some σ.toArray) = true := by decide +kernel
theorem chk6_4 : (((permsOf (List.range 6)).drop 360).take 90).all (fun σ => runB 6 (ltOf σ) (kas_sort 6) == some σ.toArray) = true := by decide +kernel
theorem chk6_5 : (((permsOf (List.range 6)).drop 450).take 90).all (fun σ => runB 6 (ltOf σ) (kas_sort 6) == some σ.toArray) = true := by decide +kernel
theorem chk6_6 : (((permsOf (List.range 6)).drop 540).take 90).all (fun σ => runB 6 (ltOf σ) (kas_sort 6) == some σ.toArray) = true := by decide +kernel
theorem chk6_7 : (((permsOf (List.range 6)).drop 630).take 90).all (fun σ => runB 6 (ltOf σ) (kas_sort 6) == some σ.toArray) = true := by decide +kernel
theorem chk6 : chkN 6 = true := by
  show ((permsOf (List.range 6)).drop 0).all (fun σ => runB 6 (ltOf σ) (kas_sort 6) == some σ.toArray) = true
  refine all_cut 90 chk6_0 ?_
  rw [List.drop_drop]
  refine all_cut 90 chk6_1 ?_
  rw [List.drop_drop]
  refine all_cut 90 chk6_2 ?_
  rw [List.drop_drop]
  refine all_cut 90 chk6_3 ?_
  rw [List.drop_drop]
  refine all_cut 90 chk6_4 ?_
  rw [List.drop_drop]
  refine all_cut 90 chk6_5 ?_
  rw [List.drop_drop]
  refine all_cut 90 chk6_6 ?_
  rw [List.drop_drop]
  refine all_cut 90 chk6_7 ?_
  rw [List.drop_drop]
  decide +kernel
theorem mem_inserts (x : Nat) : ∀ (a b : List Nat), a ++ x :: b ∈ inserts x (a ++ b)
  | [], [] => by simp [inserts]
  | [], y :: b => by simp [inserts]
  | z :: a, b => by
    simp only [List.cons_append, inserts, List.mem_cons]
    exact .inr (List.mem_map_of_mem (mem_inserts x a b))
theorem mem_permsOf : ∀ {xs l : List Nat}, l.Perm xs → l ∈ permsOf xs
  | [], l, h => by rw [h.eq_nil]; simp [permsOf]
  | x :: xs, l, h => by
    refine hide ?_
    intro Pz kz
    obtain ⟨a, b, rfl⟩ := List.append_of_mem (h.mem_iff.mpr (List.mem_cons_self ..))
    refine kz ?_
    clear kz Pz
    have h2 : (a ++ b).Perm xs := (List.perm_middle.symm.trans h).cons_inv
    simp only [permsOf, List.mem_flatMap]
    exact ⟨a ++ b, mem_permsOf h2, mem_inserts x a b⟩
theorem run_wp {α : Type} {n : Nat} {lt : Nat → Nat → Bool} {cmp : Nat → Nat → (Bool → Shared → Prop) → Shared → Prop} {s : Shared} (hc : ∀ i j C, i < n → j < n → i ≠ j → C (lt i j) s → cmp i j C s) {Q : α → Shared → Prop} : ∀ (t : KasT α) (a : α), runB n lt t = some a → Q a s → t.kasWp cmp Q s
  | .ret b, a, h, hq => by
    have : b = a := Option.some.inj h
    rw [KasT.kasWp, this]; exact hq
  | .ask i j k, a, h, hq => by
    rw [runB] at h
    split at h
    · rename_i hij
      rw [KasT.kasWp]
      exact hc i j _ hij.1 hij.2.1 hij.2.2 (run_wp hc (k (lt i j)) a h hq)
    · cases h
noncomputable def lexLt (a b : Int × Int) : Bool := if a.1 == b.1 then decide (a.2 < b.2) else decide (a.1 < b.1)
noncomputable def lexLe (a b : Int × Int) : Prop := a.1 < b.1 ∨ a.1 = b.1 ∧ a.2 ≤ b.2
theorem lexLt_iff (a b : Int × Int) : lexLt a b = true ↔ a.1 < b.1 ∨ a.1 = b.1 ∧ a.2 < b.2 := by
  unfold lexLt
  by_cases e : a.1 = b.1
  · simp [e]
  · have : (a.1 == b.1) = false := by simpa using e
    rw [this]; simp [e]
theorem lexLt_false (a b : Int × Int) : lexLt b a = false ↔ lexLe a b := by
  rw [← Bool.not_eq_true, lexLt_iff]; unfold lexLe; omega
noncomputable def sortIdx (n : Nat) (rk : Nat → Int × Int) : List Nat := (List.range n).mergeSort fun i j => !(lexLt (rk j) (rk i))
theorem sortIdx_perm (n : Nat) (rk : Nat → Int × Int) : (sortIdx n rk).Perm (List.range n) := List.mergeSort_perm _ _
theorem sortIdx_pw (n : Nat) (rk : Nat → Int × Int) : (sortIdx n rk).Pairwise fun i j => lexLe (rk i) (rk j) := by
  have := List.pairwise_mergeSort (le := fun i j => !(lexLt (rk j) (rk i))) (fun a b c h1 h2 => by
    simp only [Bool.not_eq_true', lexLt_false] at *
    unfold lexLe at *; omega) (fun a b => by
    simp only [Bool.or_eq_true, Bool.not_eq_true', lexLt_false]
    unfold lexLe; omega) (List.range n)
  exact this.imp fun h => by simpa only [Bool.not_eq_true', lexLt_false] using h
theorem idx_lt_of_pairwise {R : Nat → Nat → Prop} : ∀ {l : List Nat}, l.Pairwise R → ∀ {i j : Nat}, i ∈ l → j ∈ l → l.idxOf i < l.idxOf j → R i j
  | [], _, i, j, hi, _, _ => by cases hi
  | x :: r, h, i, j, hi, hj, hlt => by
    refine hide ?_
    intro Pz kz
    obtain ⟨h1, h2⟩ := List.pairwise_cons.mp h
    refine kz ?_
    clear kz Pz
    by_cases ei : x = i
    · subst ei
      by_cases ej : x = j
      · subst ej; exact absurd hlt (Nat.lt_irrefl _)
      · rcases List.mem_cons.mp hj with e | hj
        · exact absurd e.symm ej
        · exact h1 j hj
    · by_cases ej : x = j
      · subst ej
        simp [List.idxOf_cons] at hlt
      · rcases List.mem_cons.mp hi with e | hi
        · exact absurd e.symm ei
        rcases List.mem_cons.mp hj with e | hj
        · exact absurd e.symm ej
        have e1 : (x == i) = false := by simpa using ei
        have e2 : (x == j) = false := by simpa using ej
        rw [List.idxOf_cons, List.idxOf_cons, e1, e2] at hlt
        exact idx_lt_of_pairwise h2 hi hj (by simpa using hlt)
theorem sort_run {n : Nat} (rk : Nat → Int × Int) (hn : 2 ≤ n ∧ n ≤ 6) (inj : ∀ i j, i < n → j < n → i ≠ j → (rk i).2 ≠ (rk j).2) : runB n (fun i j => lexLt (rk i) (rk j)) (kas_sort n) = some (sortIdx n rk).toArray := by
  have hchk : chkN n = true := by
    refine hide ?_
    intro Pz kz
    obtain ⟨h1, h2⟩ := hn
    refine kz ?_
    clear kz Pz
    have : ∀ m : Nat, m < 7 → 2 ≤ m → (m = 2 ∨ m = 3 ∨ m = 4 ∨ m = 5 ∨ m = 6) := by decide
    rcases this n (Nat.lt_succ_of_le h2) h1 with rfl | rfl | rfl | rfl | rfl
    · exact chk2
    · exact chk3
    · exact chk4
    · exact chk5
    · exact chk6
  have hm := List.all_eq_true.mp hchk _ (mem_permsOf (sortIdx_perm n rk))
  have h1 : runB n (ltOf (sortIdx n rk)) (kas_sort n) = some (sortIdx n rk).toArray := by simpa using hm
  have key : ∀ {α : Type} (t : KasT α), runB n (fun i j => lexLt (rk i) (rk j)) t = runB n (ltOf (sortIdx n rk)) t := by
    intro α t
    induction t with
    | ret a => rfl
    | ask i j k ih =>
      rw [runB, runB]
      by_cases hij : i < n ∧ j < n ∧ i ≠ j
      · rw [if_pos hij, if_pos hij]
        have e : lexLt (rk i) (rk j) = ltOf (sortIdx n rk) i j := by
          have mi : i ∈ sortIdx n rk := (sortIdx_perm n rk).mem_iff.mpr (List.mem_range.mpr hij.1)
          have mj : j ∈ sortIdx n rk := (sortIdx_perm n rk).mem_iff.mpr (List.mem_range.mpr hij.2.1)
          have hne := inj i j hij.1 hij.2.1 hij.2.2
          unfold ltOf
          by_cases hlt : (sortIdx n rk).idxOf i < (sortIdx n rk).idxOf j
          · rw [decide_eq_true hlt, lexLt_iff]
            have := idx_lt_of_pairwise (sortIdx_pw n rk) mi mj hlt
            unfold lexLe at this; omega
          · rw [decide_eq_false hlt]
            have hgt : (sortIdx n rk).idxOf j < (sortIdx n rk).idxOf i := by
              rcases Nat.lt_or_ge ((sortIdx n rk).idxOf j) ((sortIdx n rk).idxOf i) with h | h
              · exact h
              · exfalso
                have e1 : (sortIdx n rk).idxOf i = (sortIdx n rk).idxOf j := by omega
                have h2 := List.getElem_idxOf (xs := sortIdx n rk) (x := i) (List.idxOf_lt_length_iff.mpr mi)
                have h3 := List.getElem_idxOf (xs := sortIdx n rk) (x := j) (List.idxOf_lt_length_iff.mpr mj)
                apply hij.2.2
                rw [← h2, ← h3]
                congr 1
            have := idx_lt_of_pairwise (sortIdx_pw n rk) mj mi hgt
            exact (lexLt_false (rk j) (rk i)).mpr this
        rw [e]; exact ih _
      · rw [if_neg hij, if_neg hij]
  rw [key]; exact h1
end Mine
end
section
namespace Mine
open PySem.Calls
section
variable {prog : Program} {w : World} {A : Around} {E : Value → Shared → Prop} {s : Shared} {h₀ : Heap} {L : Addr} {m : Str → Option Value} {news : List (Addr × Obj)}
theorem lt_pair {x y : Addr} {r1 j1 r2 j2 : Int} {t1 u1 t2 u2 : Tok} {C : Bool → Shared → Prop} (hx : s.heap.get? x = some (tupOf #[.int r1 t1, .int j1 u1] 0)) (hy : s.heap.get? y = some (tupOf #[.int r2 t2, .int j2 u2] 0))
    (h : C (lexLt (r1, j1) (r2, j2)) s) : wpAny (model prog w) A (keyLt' (tuples' true) (.ref x) (.ref y)) C (fun _ _ => False) s := by
  refine kat_lt hx rfl hy rfl ?_
  refine kat_cons (SeqAt.EqAt.int_int r1 t1 r2 t2 prog w _ _ ?_)
  refine kat_go (fun e => kat_yes ?_) (fun e => kat_no ?_)
  · refine kat_cons (SeqAt.EqAt.int_int j1 u1 j2 u2 prog w _ _ ?_)
    refine kat_go (fun e2 => kat_yes (kat_nil ?_)) (fun e2 => kat_no (kat_one _ _ (lt_int ?_)))
    · have h1 : lexLt (r1, j1) (r2, j2) = false := by
        have a1 : r1 = r2 := by simpa using e
        have a2 : j1 = j2 := by simpa using e2
        subst a1 a2; simp [lexLt]
      rw [h1] at h; exact h
    · have h1 : lexLt (r1, j1) (r2, j2) = decide (j1 < j2) := by
        have a1 : r1 = r2 := by simpa using e
        subst a1; simp [lexLt]
      rw [h1] at h; exact h
  · refine oneLt_int ?_
    have h1 : lexLt (r1, j1) (r2, j2) = decide (r1 < r2) := by
      unfold lexLt
      dsimp only
      rw [e]; rfl
    rw [h1] at h; exact h
theorem katTups_of {h : Heap} : ∀ {vs : List Value} (rk : Nat → Int × Int), (∀ i, i < vs.length → ∃ a t u, vs[i]? = some (.ref a) ∧ h.get? a = some (tupOf #[.int (rk i).1 t, .int (rk i).2 u] 0)) → ∃ fs, KatTups h vs fs ∧ fs.length = vs.length ∧ ∀ v ∈ fs, ∃ n t, v = .int n t
  | [], _, _ => ⟨[], .nil, rfl, fun _ h => nomatch h⟩
  | v :: vs, rk, hp => by
    refine hide ?_
    intro Pz kz
    obtain ⟨a, t, u, ha, ho⟩ := hp 0 (by simp)
    refine kz ?_
    clear kz Pz
    simp at ha
    subst ha
    obtain ⟨fs, h1, h2, h3⟩ := katTups_of (h := h) (vs := vs) (fun i => rk (i + 1)) fun i hi => by
      refine hide ?_
      intro Pz kz
      obtain ⟨a, t, u, ha, ho⟩ := hp (i + 1) (by simpa using hi)
      refine kz ?_
      clear kz Pz
      exact ⟨a, t, u, by simpa using ha, ho⟩
    refine ⟨.int (rk 0).1 t :: fs, .cons ho rfl rfl rfl h1, by simp [h2], fun v hv => ?_⟩
    rcases List.mem_cons.mp hv with rfl | hv
    · exact ⟨_, _, rfl⟩
    · exact h3 v hv
theorem sorted_tups {l : Addr} {vs : List Value} {e n : Nat} (rk : Nat → Int × Int) {Q : Value → Shared → Prop} (F : Fr h₀ L s.heap m) (N : News h₀ L s.heap news) (hm : (l, listOf vs.toArray e) ∈ news) (hlen : vs.length = n) (hn : 2 ≤ n ∧ n ≤ 6)
    (ht : ∀ i, i < n → ∃ a t u, vs[i]? = some (.ref a) ∧ (a, tupOf #[.int (rk i).1 t, .int (rk i).2 u] 0) ∈ news) (inj : ∀ i j, i < n → j < n → i ≠ j → (rk i).2 ≠ (rk j).2)
    (h : ∀ D c h', Fr h₀ L h' m → News h₀ L h' ((D, listOf ((sortIdx n rk).map fun i => vs.getD i .none).toArray c) :: news) → (∀ q ∈ news, q.1 < D) → Q (.ref D) { s with heap := h' }) :
    wpAny (model prog w) A (call (.builtin "sorted") [.ref l]) Q E s := by
  subst hlen
  refine kat_sorted F N (News.isList N hm) hn.1 (by omega) fun D e1 h' F' N' l1 => ?_
  have hg : ∀ i, i < vs.length → ∃ a t u, vs[i]? = some (.ref a) ∧ h'.get? a = some (tupOf #[.int (rk i).1 t, .int (rk i).2 u] 0) := fun i hi => by
    refine hide ?_
    intro Pz kz
    obtain ⟨a, t, u, h1, h2⟩ := ht i hi
    refine kz ?_
    clear kz Pz
    exact ⟨a, t, u, h1, (N' _ (.tail _ h2)).1⟩
  refine hide ?_
  intro Pz kz
  obtain ⟨fs, k1, k2, k3⟩ := katTups_of rk hg
  refine kz ?_
  clear kz Pz
  refine kat_kind (T := .type "int") k1 (by omega) (fun v hv => ?_) rfl ?_
  · refine hide ?_
    intro Pz kz
    obtain ⟨k, t, rfl⟩ := k3 v hv
    refine kz ?_
    clear kz Pz
    exact .now
  · refine run_wp (n := vs.length) (lt := fun i j => lexLt (rk i) (rk j)) (fun i j C hi hj hij hC => ?_) _ _ (sort_run rk hn inj) ?_
    · refine hide ?_
      intro Pz kz
      obtain ⟨a, t, u, h1, h2⟩ := hg i hi
      obtain ⟨b, t', u', h3, h4⟩ := hg j hj
      refine kz ?_
      clear kz Pz
      unfold kas_ask
      have e1 : vs.getD i Value.none = .ref a := by rw [List.getD_eq_getElem?_getD, h1]; rfl
      have e2 : vs.getD j Value.none = .ref b := by rw [List.getD_eq_getElem?_getD, h3]; rfl
      rw [e1, e2]
      exact lt_pair h2 h4 hC
    · refine KasFin.intro F' N' (.head fun p hp => Nat.ne_of_lt (l1 p hp)) fun h2 c F2 N2 => ?_
      exact h D c h2 F2 N2 l1
theorem short_sort {a : Addr} {vs : List Value} {n : Nat} {P : PySem.Fin → Shared → Prop} (ho : s.heap.get? a = some (seqObj "list" vs.toArray n)) (hlen : vs.length < 2)
    (h : P (.done (.ret .none)) { s with heap := sortedHeap s.heap a vs vs.toArray }) : wpAny (model prog w) A (Builtin.«list.sort» ⟨[.ref a], []⟩) P E s := by
  rw [list_sort_plain]
  have ha : a < s.heap.objs.size := Heap.lt_size ho
  refine wpAny_bind (listItems_at ho rfl ?_)
  refine wpAny_bind (listUpdate_at ho rfl ?_)
  obtain ⟨e1, ho1⟩ : ∃ e1, (s.heap.update a (Obj.mapSeq fun _ => #[])).get? a = some (seqObj "list" #[] e1) := ⟨_, get?_update_seq ho (fun _ => #[])⟩
  refine wpAny_bind (seqEpoch_at ho1 rfl ?_)
  refine wpAny_bind (wpAny_newTuple ?_)
  refine wpAny_bind (wpAny_newList ?_)
  refine wpAny_holding ?_
  have ho6 : (((s.heap.update a (Obj.mapSeq fun _ => #[])).push (seqObj "tuple" vs.toArray 0)).push (seqObj "list" #[] 0)).get? a = some (seqObj "list" #[] e1) := by
    rw [Heap.get?_push_ne _ _ _ (by rw [size_push', Heap.size_update]; exact Nat.ne_of_lt (Nat.lt_succ_of_lt ha)), Heap.get?_push_ne _ _ _ (by rw [Heap.size_update]; exact Nat.ne_of_lt ha)]
    exact ho1
  show wpAny (model prog w) A _ P E { s with heap := ((s.heap.update a (Obj.mapSeq fun _ => #[])).push (seqObj "tuple" vs.toArray 0)).push (seqObj "list" #[] 0) }
  dsimp only
  have h2 : vs.toArray.size < 2 := by simpa using hlen
  rw [if_pos h2, if_pos h2]
  refine wpAny_bind (wpAny_pure ?_)
  rw [StateT.run_pure]
  refine wpAny_bind (wpAny_pure ?_)
  dsimp only
  refine wpAny_bind (seqEpoch_at ho6 rfl ?_)
  refine wpAny_bind (listUpdate_at ho6 rfl ?_ (hsz2 := by rw [Array.size_map]; show (pairsOf vs).size ≤ _; rw [pairsOf_size, sizeLine_eq]; omega))
  simp only [bne_self_eq_false, Bool.false_eq_true, if_false]
  have e : (arrOf (SortSt.mk' general' (vs.toArray.zip vs.toArray) #[] 7 none)).map (·.2) = vs.toArray := by
    show (vs.toArray.zip vs.toArray).map (·.2) = vs.toArray
    have h9 : (vs.zip vs).map Prod.snd = vs := List.map_snd_zip (Nat.le_refl _)
    simp [h9]
  rw [e]
  exact wpAny_pure h
/-- a list of one thing, or of none -/
theorem sorted_short {l : Addr} {vs : List Value} {e : Nat} {Q : Value → Shared → Prop} (F : Fr h₀ L s.heap m) (N : News h₀ L s.heap news) (hm : (l, listOf vs.toArray e) ∈ news) (hlen : vs.length < 2)
    (h : ∀ D c h', Fr h₀ L h' m → News h₀ L h' ((D, listOf vs.toArray c) :: news) → (∀ q ∈ news, q.1 < D) → Q (.ref D) { s with heap := h' }) :
    wpAny (model prog w) A (call (.builtin "sorted") [.ref l]) Q E s := by
  have hl := News.isList N hm
  refine Calls.call_function_entry kind_sorted plain_sorted entry_sorted (args_sorted1 _) ?_
  unfold Builtin.«sorted»
  refine wpAny_bind (m := checkCount "sorted" 1 1 _) (wpAny_pure ?_)
  refine wpAny_bind (collect_list hl ?_ (by rw [sizeLine_eq]; omega))
  refine wpAny_bind (wpAny_newList ?_ (by rw [sizeLine_eq]; omega))
  have hsz : ((s.heap.push (seqObj "list" #[] 0)).update s.heap.objs.size (Obj.mapSeq (· ++ vs.toArray))).objs.size = s.heap.objs.size + 1 := by
    rw [Heap.size_update, size_push']
  have hoL : (((s.heap.push (seqObj "list" #[] 0)).update s.heap.objs.size (Obj.mapSeq (· ++ vs.toArray))).push (seqObj "list" vs.toArray 0)).get? (s.heap.objs.size + 1) = some (seqObj "list" vs.toArray 0) := by
    rw [← hsz]; exact Heap.get?_push_size _ rfl
  show wpAny _ _ _ _ _ { s with heap := ((s.heap.push (seqObj "list" #[] 0)).update s.heap.objs.size (Obj.mapSeq (· ++ vs.toArray))).push (seqObj "list" vs.toArray 0) }
  rw [hsz]
  refine wpAny_bind (wpAny_holding (wpAny_call_entry slot_list_sort ⟨_, hoL, rfl⟩ entry_list_sort (short_sort hoL hlen ⟨_, rfl, ?_⟩) (args_list_sort _)))
  refine hide ?_
  intro Pz kz
  obtain ⟨c, hc⟩ := sortedAll_at s.heap vs vs.toArray
  refine kz ?_
  clear kz Pz
  have keep : ∀ b o, s.heap.get? b = some o → (sortedAll s.heap vs vs.toArray).get? b = some o := fun b o q => sortedAll_old q
  refine wpAny_pure ⟨_, rfl, h _ c _ (F.kept keep) (fun p hp => ?_) fun q hq => Nat.lt_succ_of_lt (Heap.lt_size (N q hq).1)⟩
  rcases List.mem_cons.mp hp with rfl | hp
  · refine ⟨hc, Nat.ne_of_gt (Nat.lt_succ_of_lt F.ns.lt), ?_⟩
    exact Heap.get?_none_of_le (Nat.le_trans F.above (Nat.le_succ_of_le (Nat.le_of_lt F.ns.lt)))
  · exact ⟨keep _ _ (N p hp).1, (N p hp).2⟩
end
end Mine
end
section
namespace Mine
open PySem.Spec PySem.Calls
section
variable {prog : Program} {w : World} {A : Around} {h₀ : Heap} {L : Addr} {m : Str → Option Value} {env : Env} {elt : Expr} {x x₂ : Str} {scope : Scope} {cl : List (Str × Addr)} {s : Shared} {S : List (Addr × Obj) → Prop} {P : Nat → Value → Prop} {Fin : List Value → List (Addr × Obj) → Prop} {news : List (Addr × Obj)}
theorem compRestP_inv {n : Nat} (J : Nat → List Value → List (Addr × Obj) → Prop)
    (turn : ∀ i v ys nw, i < n → P i v → J i ys nw → ∃ (t : Addr) (ot : Obj) (v₁ v₂ : Value) (nt : Nat), v = .ref t ∧ (t, ot) ∈ nw ∧ ot.cls = .type "tuple" ∧ ot.data = .seq #[v₁, v₂] nt ∧
      ∀ I oI C oC D m₂ h tk (E' : Value → Shared → Prop), LCg.NsObj oC m₂ → m₂ x = some v₁ → m₂ x₂ = some v₂ → Fr h₀ L h m → News h₀ L h ((I, oI) :: (C, oC) :: (D, LCg.lst ys) :: nw) → LCg.Off3 I C D nw → ((@Ne Nat I C) ∧ (@Ne Nat I D) ∧ (@Ne Nat C D)) →
      wpAny (model prog w) A (eval elt (compEnvC scope cl C env)) (LCg.CompEnd h₀ L m { s with heap := h, toks := tk } I oI C oC D (LCg.lst ys) S (fun y nw' => J (i + 1) (ys ++ [y]) nw')) E' { s with heap := h, toks := tk })
    (fin : ∀ ys nw, J n ys nw → Fin ys nw) (h0 : J 0 [] news) : LCp.CompRestP prog w A h₀ L m env elt x x₂ scope cl s S P Fin n 0 [] news := by
  have key : ∀ (k i : Nat) (ys : List Value) (nw : List (Addr × Obj)), i + k = n → J i ys nw → LCp.CompRestP prog w A h₀ L m env elt x x₂ scope cl s S P Fin k i ys nw := by
    intro k
    induction k with
    | zero =>
      intro i ys nw e hJ
      have : i = n := by omega
      subst this
      exact LCp.CompRestP.zero (fin _ _ hJ)
    | succ k ih =>
      intro i ys nw e hJ
      show ∀ v, P i v → _
      intro v hv
      refine hide ?_
      intro Pz kz
      obtain ⟨t, ot, v₁, v₂, nt, a1, a2, a3, a4, a5⟩ := turn i v ys nw (by omega) hv hJ
      refine kz ?_
      clear kz Pz
      refine ⟨t, ot, v₁, v₂, nt, a1, a2, a3, a4, fun I oI C oC D m₂ h tk E' b1 b2 b3 b4 b5 b6 b7 => ?_⟩
      exact wpAny_mono (a5 I oI C oC D m₂ h tk E' b1 b2 b3 b4 b5 b6 b7) (fun y s' hq => compEnd_mono (fun y nw' hJ' => ih (i + 1) _ _ (by omega) hJ') hq) fun _ _ e => e
  exact key n 0 [] news (by omega) h0
theorem compRestP_pure {n : Nat} (R : Nat → List Value → Prop)
    (turn : ∀ i v ys, i < n → P i v → R i ys → ∃ (t : Addr) (ot : Obj) (v₁ v₂ : Value) (nt : Nat), v = .ref t ∧ (t, ot) ∈ news ∧ ot.cls = .type "tuple" ∧ ot.data = .seq #[v₁, v₂] nt ∧
      ∀ I oI C oC D m₂ h tk (E' : Value → Shared → Prop), LCg.NsObj oC m₂ → m₂ x = some v₁ → m₂ x₂ = some v₂ → Fr h₀ L h m → News h₀ L h ((I, oI) :: (C, oC) :: (D, LCg.lst ys) :: news) → LCg.Off3 I C D news → ((@Ne Nat I C) ∧ (@Ne Nat I D) ∧ (@Ne Nat C D)) →
      wpAny (model prog w) A (eval elt (compEnvC scope cl C env)) (LCg.CompEnd h₀ L m { s with heap := h, toks := tk } I oI C oC D (LCg.lst ys) S (fun y nw' => nw' = news ∧ R (i + 1) (ys ++ [y]))) E' { s with heap := h, toks := tk })
    (fin : ∀ ys, R n ys → Fin ys news) (h0 : R 0 []) : LCp.CompRestP prog w A h₀ L m env elt x x₂ scope cl s S P Fin n 0 [] news := by
  refine compRestP_inv (fun i ys nw => nw = news ∧ R i ys) ?_ ?_ ⟨rfl, h0⟩
  · intro i v ys nw hi hv hz0
    refine hide ?_
    intro Pz kz
    obtain ⟨rfl, hR⟩ := hz0
    refine kz ?_
    clear kz Pz
    exact turn i v ys hi hv hR
  · intro ys nw hz0
    refine hide ?_
    intro Pz kz
    obtain ⟨rfl, hR⟩ := hz0
    refine kz ?_
    clear kz Pz
    exact fin ys hR
end
end Mine
end
section
theorem Mine.w_Rounds_0 : True := by
  k_with_none
  (k_with "memw" => first | assumption | exact List.Mem.head _ | (refine List.Mem.tail _ ?_; k_extra "memw") | fail "memw")
  (k_with "subl" => first | exact fun _ h => h | (refine sub_cons (by k_extra "memw") ?_; k_extra "subl") | (refine sub_tail ?_; k_extra "subl") | fail "subl")
  trivial
namespace Mine
theorem Mine.w_Rounds_1 : True := by
  (k_with "ktr_unf" => repeat' ((fail_if_success (with_reducible show wpAny _ _ (pyIter _) _ _ _)); (fail_if_success (with_reducible show wpAny _ _ (exec (Stmt.For _ _ _ _ _) _) _ _ _)); (fail_if_success (with_reducible show wpAny _ _ (eval (Expr.ListComp _ _ _ _) _) _ _ _)); (fail_if_success (with_reducible show LCg.CompSrc _ _ _ _ _ _ _ _ _ _ _ _ _ _)); (fail_if_success (with_reducible show wpAny _ _ (compareOp _ (Value.ref _) (Value.ref _)) _ _ _)); (fail_if_success (with_reducible show wpAny _ _ (compareOp _ (Value.int _ _) (Value.ref _)) _ _ _)); (fail_if_success (with_reducible show wpAny _ _ (binaryOp _ (Value.ref _) _) _ _ _)); (fail_if_success (with_reducible show wpAny _ _ (binaryOp _ (Value.ref _) (Value.ref _)) _ _ _)); (fail_if_success (with_reducible show wpAny _ _ (call (Value.builtin "max") _) _ _ _)); (fail_if_success (with_reducible show wpAny _ _ (call (Value.builtin "sorted") _) _ _ _)); (fail_if_success (with_reducible show wpAny _ _ (call (Value.type "tuple") _) _ _ _)); (fail_if_success (with_reducible show wpAny _ _ (call (Value.builtin "list.extend") _) _ _ _)); first | (k_unfold; (try dsimp only)) | tb_rel | ((fail_if_success (with_reducible show wpAny _ _ (subscriptTail _ _ (Value.ref _) (Value.int _ _)) _ _ _)); (fail_if_success (with_reducible show wpAny _ _ (setItem (Value.ref _) _ _) _ _ _)); first | walk1 | (dsimp only; walk1))))
  (k_with "k_mem" => first | assumption | exact List.Mem.head _ | (refine' List.Mem.tail _ ?_; k_mem) | (refine' SubL.mem (by assumption) ?_; k_mem))
  (k_with "k_all" => first | assumption | exact off1_mem' (by assumption) | exact lt_ne (by assumption) (by omega) | exact allLt_ne (by assumption) (by omega))
  (k_with "tb_rel" => ((with_reducible show wpAny _ _ (subscriptTail _ _ (Value.ref _) (Value.int _ _)) _ _ _); k_dflt (refine' item_at (by k_asm) (by k_mem) (by omega) (by omega) (by assumption) ?_); (try dsimp only)))
  (k_with "tb_rel" => ((with_reducible show wpAny _ _ (getMethod (Value.ref _) (Str.ofString "get") _) _ _ _); k_dflt (refine' kdg_method (knd := intKind _ _) (by k_asm) (by k_mem) (by assumption) ?_); (try dsimp only)))
  (k_with "tb_rel" => ((with_reducible show wpAny _ _ (call (Value.builtin "dict.get") [Value.ref _, Value.int _ _]) _ _ _); k_dflt (refine' kdg_get1 (knd := intKind _ _) (by k_asm) (by k_mem) (by assumption) (by assumption) (intKind_is _ _ _ _) _ (by assumption) ?_); (try dsimp only [Option.getD])))
  (k_with "tb_rel" => ((with_reducible show wpAny _ _ (subscriptTail _ _ (Value.ref _) (Value.int _ _)) _ _ _); k_dflt (refine' kda_item (knd := intKind _ _) (by k_asm) (by k_mem) (by assumption) (intKind_is _ _ _ _) (by assumption) ?_); (try dsimp only)))
  (k_with "tb_rel" => ((with_reducible show wpAny _ _ (setItem (Value.ref _) (Value.int _ _) _) _ _ _); k_dflt (refine' kda_set (knd := intKind _ _) (by k_asm) (by k_asm) (by k_updF) (by assumption) (intKind_is _ _ _ _) (by assumption) ?_); intro h'w o'w F'w N'w hd'w; (try dsimp only at N'w)))
  (k_with "tb_rel" => ((with_reducible show wpAny _ _ (call (Value.builtin "list.append") [Value.ref _, _]) _ _ _); k_dflt (refine' append_K (by k_asm) (by k_asm) (by k_upd) ?_ (by (rw [sizeLine_eq]; simp; omega))); intro h'w F'w N'w))
  (k_with "tb_rel" => ((with_reducible show wpAny _ _ (subscriptTail _ _ (Value.ref _) (Value.int (-1) _)) _ _ _); k_dflt (refine' item_neg (by k_asm) (by k_mem) (by omega) (by simp; omega) (by omega) (by assumption) ?_); (try dsimp only)))
  (k_with "tb_rel" => ((with_reducible show wpAny _ _ (call (Value.builtin "len") [Value.ref _]) _ _ _); k_dflt (refine' PyProof.Rows.len_list (News.isList (by k_asm) (by k_mem)) (by simp; omega) ?_); (try dsimp only)))
  trivial
noncomputable def maxI (d : Int) (l : List Int) : Int := l.foldl max d
theorem maxI_ge : ∀ (l : List Int) (d : Int), d ≤ maxI d l
  | [], _ => Int.le_refl _
  | x :: l, d => Int.le_trans (Int.le_max_left d x) (maxI_ge l (max d x))
theorem maxI_mem : ∀ (l : List Int) (d : Int), (maxI d l = d ∨ maxI d l ∈ l) ∧ ∀ a ∈ l, a ≤ maxI d l
  | [], d => ⟨.inl rfl, fun _ h => nomatch h⟩
  | x :: l, d => by
    refine hide ?_
    intro Pz kz
    obtain ⟨h1, h2⟩ := maxI_mem l (max d x)
    refine kz ?_
    clear kz Pz
    have e : maxI d (x :: l) = maxI (max d x) l := rfl
    rw [e]
    refine ⟨?_, fun a ha => ?_⟩
    · rcases h1 with h1 | h1
      · rcases Int.le_total d x with h | h
        · rw [h1, Int.max_eq_right h]; exact .inr (List.mem_cons_self ..)
        · rw [h1, Int.max_eq_left h]; exact .inl rfl
      · exact .inr (List.mem_cons_of_mem _ h1)
    · rcases List.mem_cons.mp ha with rfl | ha
      · exact Int.le_trans (Int.le_max_right d a) (maxI_ge l _)
      · exact h2 a ha
theorem maxI_eq {d M : Int} {l : List Int} (h1 : M ∈ d :: l) (h2 : ∀ a, a ∈ d :: l → a ≤ M) : M = maxI d l := by
  refine hide ?_
  intro Pz kz
  obtain ⟨a1, a2⟩ := maxI_mem l d
  refine kz ?_
  clear kz Pz
  have b1 : maxI d l ≤ M := by
    rcases a1 with h | h
    · rw [h]; exact h2 d (List.mem_cons_self ..)
    · exact h2 _ (List.mem_cons_of_mem _ h)
  have b2 : M ≤ maxI d l := by
    rcases List.mem_cons.mp h1 with h | h
    · rw [h]; exact maxI_ge l d
    · exact a2 M h
  omega
noncomputable def predsP (T0 : Nat → Nat → Bool) (j : Nat) : List Nat := (List.range 6).filter fun i => i != j && T0 i j
noncomputable def okB (T0 : Nat → Nat → Bool) (tw : List Nat) (j : Nat) : Bool := !tw.contains j && (tw.filter fun i => T0 i j).isEmpty
noncomputable def rankP (T0 : Nat → Nat → Bool) (G : List Nat) (j : Nat) : Int := maxI (-1) ((predsP T0 j).map fun i => (G.idxOf i : Int))
noncomputable def jsP (T0 : Nat → Nat → Bool) (tw : List Nat) (lv : Nat → Nat) (k : Nat) : List Nat := (List.range 6).filter fun j => okB T0 tw j && lv j == k
noncomputable def srtP (js : List Nat) (rk : Nat → Int) : List Nat := (sortIdx js.length fun n => (rk (js.getD n 0), (js.getD n 0 : Int))).map fun n => js.getD n 0
/-- what the law's own reckoning of the rounds needs -/
structure RSpec (T0 : Nat → Nat → Bool) (tw : List Nat) (sz lv : Nat → Nat) (grp : Nat → List Nat) : Prop where
  twlt : ∀ i ∈ tw, i < 6
  pre : ∀ j, j < 6 → okB T0 tw j = true → ∀ i ∈ predsP T0 j, okB T0 tw i = true ∧ sz i < sz j
  lvl : ∀ j, j < 6 → okB T0 tw j = true → maxI 0 ((predsP T0 j).map fun i => (lv i : Int) + 1) = lv j
  gpre : ∀ k, k < 5 → ∀ j ∈ jsP T0 tw lv k, ∀ i ∈ predsP T0 j, i ∈ (List.range k).flatMap grp
  geq : ∀ k, k < 5 → grp k = srtP (jsP T0 tw lv k) (rankP T0 ((List.range k).flatMap grp))
/-- the levels told so far -/
structure LvOk (T0 : Nat → Nat → Bool) (tw : List Nat) (sz lv : Nat → Nat) (kv : List (Int × Value)) (size j : Nat) : Prop where
  len : kv.length ≤ 6 * size + j
  yes : ∀ i, i < 6 → okB T0 tw i = true → (sz i < size ∨ sz i = size ∧ i < j) → ∃ t, valueAt kv (i : Int) = some (.int (lv i) t)
  no : ∀ i, i < 6 → ¬ (okB T0 tw i = true ∧ (sz i < size ∨ sz i = size ∧ i < j)) → valueAt kv (i : Int) = none
theorem LvOk.skip {T0 : Nat → Nat → Bool} {tw : List Nat} {sz lv : Nat → Nat} {kv : List (Int × Value)} {size j : Nat} (h : LvOk T0 tw sz lv kv size j) (hn : ¬ (okB T0 tw j = true ∧ sz j = size)) : LvOk T0 tw sz lv kv size (j + 1) := by
  refine ⟨by have := h.len; omega, fun i hi ho hd => h.yes i hi ho ?_, fun i hi hd => h.no i hi fun ⟨ho, hd'⟩ => hd ⟨ho, ?_⟩⟩
  · rcases hd with hd | ⟨hd, hlt⟩
    · exact .inl hd
    · rcases Nat.lt_succ_iff_lt_or_eq.mp hlt with h2 | h2
      · exact .inr ⟨hd, h2⟩
      · subst h2; exact absurd ⟨ho, hd⟩ hn
  · rcases hd' with hd' | ⟨hd', hlt⟩
    · exact .inl hd'
    · exact .inr ⟨hd', Nat.lt_succ_of_lt hlt⟩
theorem LvOk.next {T0 : Nat → Nat → Bool} {tw : List Nat} {sz lv : Nat → Nat} {kv : List (Int × Value)} {size : Nat} (h : LvOk T0 tw sz lv kv size 6) : LvOk T0 tw sz lv kv (size + 1) 0 := by
  refine ⟨by have := h.len; omega, fun i hi ho hd => h.yes i hi ho ?_, fun i hi hd => h.no i hi fun ⟨ho, hd'⟩ => hd ⟨ho, ?_⟩⟩
  · rcases hd with hd | ⟨_, hlt⟩
    · rcases Nat.lt_succ_iff_lt_or_eq.mp hd with h2 | h2
      · exact .inl h2
      · exact .inr ⟨h2, hi⟩
    · exact absurd hlt (Nat.not_lt_zero _)
  · rcases hd' with hd' | ⟨hd', _⟩
    · exact .inl (by omega)
    · exact .inl (by omega)
theorem valueAt_snoc {kv : List (Int × Value)} {k i : Int} {v : Value} : valueAt (kv ++ [(k, v)]) i = (valueAt kv i).or (if k = i then some v else none) := by
  unfold valueAt
  rw [List.find?_append]
  cases h : kv.find? fun kv => decide (kv.1 = i) with
  | none => by_cases e : k = i <;> simp [e]
  | some p => simp
theorem LvOk.put {T0 : Nat → Nat → Bool} {tw : List Nat} {sz lv : Nat → Nat} {kv : List (Int × Value)} {size j : Nat} {v : Value} (hj : j < 6) (h : LvOk T0 tw sz lv kv size j) (hv : ∃ t, v = .int (lv j) t) (ho : okB T0 tw j = true) (hs : sz j = size) : LvOk T0 tw sz lv (stored kv (j : Int) v) size (j + 1) := by
  refine hide ?_
  intro Pz kz
  obtain ⟨t, rfl⟩ := hv
  refine kz ?_
  clear kz Pz
  have h0 : valueAt kv (j : Int) = none := h.no j hj fun hd => by have := hd.2; omega
  rw [stored_absent h0]
  refine ⟨by have := h.len; simp; omega, fun i hi ho' hd => ?_, fun i hi hd => ?_⟩
  · rw [valueAt_snoc]
    by_cases e : i = j
    · subst e
      exact ⟨t, by rw [h0]; simp⟩
    · obtain ⟨t', h'⟩ := h.yes i hi ho' (by
        rcases hd with hd | ⟨hd, hlt⟩
        · exact .inl hd
        · exact .inr ⟨hd, by omega⟩)
      exact ⟨t', by rw [h']; rfl⟩
  · rw [valueAt_snoc]
    have e : i ≠ j := by
      intro e; subst e
      exact hd ⟨ho, .inr ⟨hs, Nat.lt_succ_self _⟩⟩
    rw [h.no i hi fun ⟨ho', hd'⟩ => hd ⟨ho', ?_⟩, if_neg (by omega)]
    · rfl
    · rcases hd' with hd' | ⟨hd', hlt⟩
      · exact .inl hd'
      · exact .inr ⟨hd', Nat.lt_succ_of_lt hlt⟩
theorem take_filter {tw : List Nat} {f : Nat → Bool} {g : Nat → Int} {i ii : Nat} (h : tw[i]? = some ii) : ((tw.take (i + 1)).filter f).map g = if f ii = true then ((tw.take i).filter f).map g ++ [g ii] else ((tw.take i).filter f).map g := by
  rw [List.take_add_one, h, List.filter_append, List.map_append]
  split <;> simp_all
theorem range_filter {f : Nat → Bool} {g : Nat → Int} {i : Nat} : ((List.range (i + 1)).filter f).map g = if f i = true then ((List.range i).filter f).map g ++ [g i] else ((List.range i).filter f).map g := by
  rw [List.range_succ, List.filter_append, List.map_append]
  split <;> simp_all
section
variable {prog : Program} {w : World} {A : Around} {E : Value → Shared → Prop} {s : Shared} {a b : Int} {t u : Tok} {Q : Value → Shared → Prop}
theorem ne_int_no (h0 : a = b) (h : Q (.bool false) s) : wpAny (model prog w) A (compareOp .NotEq (.int a t) (.int b u)) Q E s := PyProof.Rows.ne_int (by rw [h0]; simpa using h)
theorem ne_int_yes (h0 : ¬ a = b) (h : Q (.bool true) s) : wpAny (model prog w) A (compareOp .NotEq (.int a t) (.int b u)) Q E s := PyProof.Rows.ne_int (by rw [bne_iff_ne.mpr h0]; exact h)
end
section
variable {prog : Program} {w : World} {A : Around} {E : Value → Shared → Prop} {s : Shared} {a b : Int} {t u : Tok} {Q : Value → Shared → Prop}
theorem eq_int_yes (h0 : a = b) (h : Q (.bool true) s) : wpAny (model prog w) A (compareOp .Eq (.int a t) (.int b u)) Q E s := PyProof.Rows.eq_int (by rw [h0]; simpa using h)
theorem eq_int_no (h0 : ¬ a = b) (h : Q (.bool false) s) : wpAny (model prog w) A (compareOp .Eq (.int a t) (.int b u)) Q E s := PyProof.Rows.eq_int (by rw [beq_eq_false_iff_ne.mpr h0]; exact h)
end
theorem Mine.w_Rounds_2 : True := by
  (k_with "tb_rel" => ((with_reducible show wpAny _ _ (compareOp CmpOp.Eq (Value.int _ _) (Value.int _ _)) _ _ _); refine eq_int_no (by assumption) ?_))
  (k_with "tb_rel" => ((with_reducible show wpAny _ _ (compareOp CmpOp.Eq (Value.int _ _) (Value.int _ _)) _ _ _); refine eq_int_yes (by assumption) ?_))
  (k_with "tb_rel" => ((with_reducible show wpAny _ _ (compareOp CmpOp.NotEq (Value.int _ _) (Value.int _ _)) _ _ _); refine ne_int_no (by assumption) ?_))
  (k_with "tb_rel" => ((with_reducible show wpAny _ _ (compareOp CmpOp.NotEq (Value.int _ _) (Value.int _ _)) _ _ _); refine ne_int_yes (by assumption) ?_))
  trivial
theorem names5 {h₀ h : Heap} {L a1 a2 a3 a4 a5 : Addr} {o1 o2 o3 o4 o5 : Obj} {led : List (Addr × Obj)} (_N : News h₀ L h ((a1, o1) :: (a2, o2) :: (a3, o3) :: (a4, o4) :: (a5, o5) :: led)) :
    ∃ b0 b1 p1 p2 p3 p4 p5, b0 = L ∧ b1 = a1 ∧ p1 = o1 ∧ p2 = o2 ∧ p3 = o3 ∧ p4 = o4 ∧ p5 = o5 := ⟨_, _, _, _, _, _, _, rfl, rfl, rfl, rfl, rfl, rfl, rfl⟩
noncomputable def RoundsAt (grp : Nat → List Nat) (led : List (Addr × Obj)) (ys : List Value) (n : Nat) : Prop :=
  ys.length = n ∧ ∀ k < n, ∃ T gv, ys[k]? = some (.ref T) ∧ (T, tupOf gv.toArray 0) ∈ led ∧ IntsAre gv ((grp k).map Int.ofNat)
theorem RoundsAt.mono {grp : Nat → List Nat} {led led' : List (Addr × Obj)} {ys : List Value} {n : Nat} (h : RoundsAt grp led ys n) (hs : ∀ q ∈ led, q ∈ led') : RoundsAt grp led' ys n :=
  ⟨h.1, fun k hk => (by obtain ⟨T, gv, h1, h2, h3⟩ := h.2 k hk; exact ⟨T, gv, h1, hs _ h2, h3⟩)⟩
theorem RoundsAt.snoc {grp : Nat → List Nat} {led : List (Addr × Obj)} {ys : List Value} {n : Nat} {T : Addr} {gv : List Value} (h : RoundsAt grp led ys n) (h2 : (T, tupOf gv.toArray 0) ∈ led) (h3 : IntsAre gv ((grp n).map Int.ofNat)) : RoundsAt grp led (ys ++ [.ref T]) (n + 1) := by
  refine ⟨by simp [h.1], fun k hk => ?_⟩
  rcases Nat.lt_succ_iff_lt_or_eq.mp hk with hk | rfl
  · refine hide ?_
    intro Pz kz
    obtain ⟨T', gv', a1, a2, a3⟩ := h.2 k hk
    refine kz ?_
    clear kz Pz
    exact ⟨T', gv', by rw [List.getElem?_append_left (by rw [h.1]; exact hk)]; exact a1, a2, a3⟩
  · exact ⟨T, gv, by rw [List.getElem?_append_right (by rw [h.1]; exact Nat.le_refl _)]; simp [h.1], h2, h3⟩
/-- the ranks told so far -/
noncomputable def RanksAt (rk : Nat → Int) (led : List (Addr × Obj)) (ys : List Value) (js : List Nat) : Prop :=
  ys.length = js.length ∧ ∀ (n jj : Nat), js[n]? = some jj → ∃ a t u, ys[n]? = some (.ref a) ∧ (a, tupOf #[.int (rk jj) t, .int (jj : Int) u] 0) ∈ led
theorem RanksAt.mono {rk : Nat → Int} {led led' : List (Addr × Obj)} {ys : List Value} {js : List Nat} (h : RanksAt rk led ys js) (hs : ∀ q ∈ led, q ∈ led') : RanksAt rk led' ys js :=
  ⟨h.1, fun n jj hn => (by obtain ⟨a, t, u, h1, h2⟩ := h.2 n jj hn; exact ⟨a, t, u, h1, hs _ h2⟩)⟩
theorem RanksAt.snoc {rk : Nat → Int} {led : List (Addr × Obj)} {ys : List Value} {js : List Nat} {a : Addr} {j : Nat} {t u : Tok} (h : RanksAt rk led ys js) (h2 : (a, tupOf #[.int (rk j) t, .int (j : Int) u] 0) ∈ led) : RanksAt rk led (ys ++ [.ref a]) (js ++ [j]) := by
  refine ⟨by simp [h.1], fun n jj hn => ?_⟩
  by_cases hl : n < js.length
  · rw [List.getElem?_append_left hl] at hn
    refine hide ?_
    intro Pz kz
    obtain ⟨a', t', u', a1, a2⟩ := h.2 n jj hn
    refine kz ?_
    clear kz Pz
    exact ⟨a', t', u', by rw [List.getElem?_append_left (by rw [h.1]; exact hl)]; exact a1, a2⟩
  · have hl2 := (List.getElem?_eq_some_iff.mp hn).1
    simp at hl2
    have e : n = js.length := by omega
    subst e
    simp at hn
    subst hn
    exact ⟨a, t, u, by rw [← h.1]; simp, h2⟩
theorem sortIdx_len (n : Nat) (rk : Nat → Int × Int) : (sortIdx n rk).length = n := by rw [(sortIdx_perm n rk).length_eq]; simp
theorem srtP_len (js : List Nat) (rk : Nat → Int) : (srtP js rk).length = js.length := by unfold srtP; rw [List.length_map, sortIdx_len]
theorem jsP_len (T0 : Nat → Nat → Bool) (tw : List Nat) (lv : Nat → Nat) (k : Nat) : (jsP T0 tw lv k).length ≤ 6 := by
  have := List.length_filter_le (fun j => okB T0 tw j && lv j == k) (List.range 6)
  simpa [jsP] using this
theorem RSpec.glen {T0 : Nat → Nat → Bool} {tw : List Nat} {sz lv : Nat → Nat} {grp : Nat → List Nat} (sp : RSpec T0 tw sz lv grp) : ∀ k, k ≤ 5 → ((List.range k).flatMap grp).length ≤ 6 * k
  | 0, _ => by simp
  | k + 1, hk => by
    have h1 := sp.glen k (by omega)
    have h2 : (grp k).length ≤ 6 := by rw [sp.geq k (by omega), srtP_len]; exact jsP_len ..
    rw [List.range_succ, List.flatMap_append, List.length_append, show [k].flatMap grp = grp k by simp]
    omega
theorem idxOf_ofNat (i : Nat) : ∀ (G : List Nat), (G.map Int.ofNat).idxOf (0 + (i : Int)) = G.idxOf i
  | [] => rfl
  | x :: G => by
    rw [List.map_cons, List.idxOf_cons, List.idxOf_cons, idxOf_ofNat i G]
    by_cases e : x = i
    · subst e; simp
    · have h1 : (Int.ofNat x == 0 + (i : Int)) = false := by
        rw [beq_eq_false_iff_ne]; show (x : Int) ≠ 0 + (i : Int); omega
      have h2 : (x == i) = false := by simpa using e
      rw [h1, h2]
theorem index_short {prog : Program} {w : World} {A : Around} {E : Value → Shared → Prop} {s : Shared} {l : Addr} {vs : List Value} {ns : List Int} {k : Int} {t : Tok} {Q : Value → Shared → Prop} (hl : s.heap.IsList l vs.toArray) (hi : IntsAre vs ns)
    (hb : ns.length ≤ 1000) (hk : k ∈ ns) (h : Q (.int (ns.idxOf k : Nat) s.toks) { s with toks := s.toks + 1 }) :
    wpAny (model prog w) A (call (.builtin "list.index") [.ref l, .int k t]) Q E s := by
  refine hide ?_
  intro Pz kz
  obtain ⟨⟨cls, dd, data, sl⟩, ho, hc, n, hd⟩ := id hl
  refine kz ?_
  clear kz Pz
  simp only at hc hd
  subst hc hd
  have hlen := hi.length
  have hj : ns.idxOf k < ns.length := List.idxOf_lt_length_iff.mpr hk
  refine call_meets PySem.F.slot_list_index ⟨_, ho, rfl⟩ PySem.F.entry_list_index (PySem.F.args_list_index_2 _ _)
    (SeqAt.list_indexAt l vs.toArray n dd sl (.int k t) (isInt k) (ns.idxOf k) (by simpa [hlen] using hj) (by omega) ?_ ?_) ⟨ho, fun y hy => (eq_isInt k t hi y (by simpa using hy)).at _ _, h⟩
  · show isInt k vs[ns.idxOf k] = true
    rw [isInt_at k hi _ (by omega) hj]
    simpa using List.getElem_idxOf hj
  · intro j hjs hlt
    show isInt k vs[j] = false
    rw [isInt_at k hi j (by simpa using hjs) (by omega)]
    exact ne_of_lt_idxOf hlt _
theorem Mine.w_Rounds_3 : True := by
  (k_with "tb_rel" => ((with_reducible show wpAny _ _ (call (Value.builtin "list.index") [Value.ref _, Value.int _ _]) _ _ _); k_dflt (refine' index_short (News.isList (by k_asm) (by k_mem)) (Kp.out (P := IntsAre _ _) (by assumption)) (by assumption) (by assumption) ?_); (try dsimp only)))
  trivial
theorem srtP_short {js : List Nat} (rk : Nat → Int) (h : js.length < 2) : srtP js rk = js := by
  rcases js with _ | ⟨a, _ | ⟨b, r⟩⟩
  · simp [srtP, sortIdx]
  · simp [srtP, sortIdx]
  · simp only [List.length_cons] at h
    omega
theorem sorted_ranks {prog : Program} {w : World} {A : Around} {E : Value → Shared → Prop} {s : Shared} {h₀ : Heap} {L : Addr} {m : Str → Option Value} {news : List (Addr × Obj)} {l : Addr} {vs : List Value} {e : Nat} {js : List Nat} (rk : Nat → Int) {Q : Value → Shared → Prop} (F : Fr h₀ L s.heap m) (N : News h₀ L s.heap news) (hm : (l, listOf vs.toArray e) ∈ news)
    (hr : RanksAt rk news vs js) (hn : js.Nodup) (hl : js.length ≤ 6)
    (h : ∀ D c vs' h', Fr h₀ L h' m → News h₀ L h' ((D, listOf vs'.toArray c) :: news) → RanksAt rk news vs' (srtP js rk) → (∀ q ∈ news, q.1 < D) → Q (.ref D) { s with heap := h' }) :
    wpAny (model prog w) A (call (.builtin "sorted") [.ref l]) Q E s := by
  by_cases h2 : vs.length < 2
  · refine sorted_short F N hm h2 fun D c h' F' N' l1 => h D c vs h' F' N' ?_ l1
    rw [srtP_short rk (by rw [← hr.1]; exact h2)]
    exact hr
  · refine sorted_tups (n := js.length) (fun n => (rk (js.getD n 0), (js.getD n 0 : Int))) F N hm hr.1 ⟨by have := hr.1; omega, hl⟩ (fun i hi => ?_) (fun i j hi hj hij => ?_) fun D c h' F' N' l1 => h D c _ h' F' N' ⟨?_, fun n jj hjj => ?_⟩ l1
    · have e9 : js[i]? = some (js.getD i 0) := by rw [List.getD_eq_getElem?_getD, List.getElem?_eq_getElem hi]; rfl
      exact hr.2 i _ e9
    · dsimp only
      intro e9
      have e8 : js.getD i 0 = js.getD j 0 := by omega
      rw [List.getD_eq_getElem?_getD, List.getD_eq_getElem?_getD, List.getElem?_eq_getElem hi, List.getElem?_eq_getElem hj] at e8
      simp only [Option.getD_some] at e8
      rcases Nat.lt_or_gt_of_ne hij with h5 | h5
      · exact List.pairwise_iff_getElem.mp hn i j hi hj h5 e8
      · exact List.pairwise_iff_getElem.mp hn j i hj hi h5 e8.symm
    · rw [List.length_map, srtP_len, sortIdx_len]
    · unfold srtP at hjj
      rw [List.getElem?_map] at hjj
      refine hide ?_
      intro Pz kz
      obtain ⟨i, hi, rfl⟩ := Option.map_eq_some_iff.mp hjj
      have hil : i < js.length := by
        have := (sortIdx_perm js.length fun n => (rk (js.getD n 0), (js.getD n 0 : Int))).mem_iff.mp (List.mem_of_getElem? hi)
        exact List.mem_range.mp this
      have e9 : js[i]? = some (js.getD i 0) := by rw [List.getD_eq_getElem?_getD, List.getElem?_eq_getElem hil]; rfl
      obtain ⟨a, t, u, h1, h3⟩ := hr.2 i _ e9
      refine kz ?_
      clear kz Pz
      refine ⟨a, t, u, ?_, h3⟩
      rw [List.getElem?_map, hi]
      simp [List.getD_eq_getElem?_getD, h1]
section
open PySem.Calls
variable {prog : Program} {w : World} {A : Around} {E : Value → Shared → Prop} {s : Shared} {h₀ : Heap} {L D b : Addr} {m : Str → Option Value} {news : List (Addr × Obj)} {n n2 : Nat}
theorem upd_of {d : Addr} {o o' : Obj} {l : List (Addr × Obj)} {g : Obj → List (Addr × Obj)} (U : UpdF d o l g) : Upd d o o' l (g o') := by
  induction U with
  | head h => exact .head h
  | tail h _ ih => exact .tail h ih
theorem extend_tup {gv gs : List Value} {g : Obj → List (Addr × Obj)} {Q : Value → Shared → Prop} (F : Fr h₀ L s.heap m) (N : News h₀ L s.heap news) (hb : (b, tupOf gs.toArray n2) ∈ news) (U : UpdF D (listOf gv.toArray n) news g) (hl : gv.length + gs.length ≤ 1000)
    (h : ∀ h' e', Fr h₀ L h' m → News h₀ L h' (g (listOf (gv ++ gs).toArray e')) → Q .none { s with heap := h' }) : wpAny (model prog w) A (call (.builtin "list.extend") [.ref D, .ref b]) Q E s := by
  have hd : ¬(!gv.toArray.isEmpty && Builtin.List.listTooLong (gv.toArray.size + gs.toArray.size)) = true := by
    intro h9
    simp [Builtin.List.listTooLong] at h9
    have := sizeLine_eq
    omega
  by_cases hg : gs = []
  · subst hg
    refine hide ?_
    intro Pz kz
    obtain ⟨pre, post, rfl, hgg, a, c⟩ := U.split
    refine kz ?_
    clear kz Pz
    have z := N (D, listOf gv.toArray n) (List.mem_append.mpr (.inr (.head _)))
    refine call_meets PySem.F.slot_list_extend ⟨_, z.1, rfl⟩ PySem.F.entry_list_extend (PySem.F.args_list_extend_2 _ _) (PySem.AutoSeq1.list_extend_list_tuple_0 D gv.toArray n b #[] n2 hd (by rw [sizeLine_eq]; simp; omega) (by rw [sizeLine_eq]; simp; omega)) ⟨z.1, (N _ hb).1, h _ n (F.change (Heap.SameBut.update ..) z.2.1 z.2.2) ?_⟩
    rw [hgg, List.append_nil]
    exact kl_turn0 (fun x => x ++ #[]) N a c (by simp) rfl
  · exact kup_extend F N hb rfl (by simpa using hg) (upd_of U) hd (by rw [sizeLine_eq]; simp; omega) (by rw [sizeLine_eq]; simp; omega) fun h' F' N' => h h' (n + 1) F' (by simpa using N')
end
theorem names3 {h₀ h : Heap} {L a1 a2 a3 a4 : Addr} {o1 o2 o3 o4 : Obj} {led : List (Addr × Obj)} (_N : News h₀ L h ((a1, o1) :: (a2, o2) :: (a3, o3) :: (a4, o4) :: led)) :
    ∃ b1 b2 p4, b1 = a1 ∧ b2 = a2 ∧ p4 = o4 := ⟨_, _, _, rfl, rfl, rfl⟩
/-- what holds between the turns of the four loops -/
inductive JRa (w : World) (L1 LV : Addr) (og ol ot : Obj) (news : List (Addr × Obj)) (T0 : Nat → Nat → Bool) (tw : List Nat) (sz lv : Nat → Nat) (i : Nat) (nx : List (Addr × Obj)) : Prop
  | mk (od : Obj) (kv : List (Int × Value)) (oc : Obj) (v : Option Value) (e : nx = (LV, od) :: (L1 + 1 + 1 + 1 + 1, og) :: (L1 + 1 + 1 + 1, oc) :: (L1 + 1 + 1, ol) :: (L1 + 1, ot) :: news) (hod : od.IsDictOf (intKind theProg w) kv) (hlv : LvOk T0 tw sz lv kv i 0) (hoc : oc.data = .cell v)
inductive JRb (w : World) (L1 LV I : Addr) (oI og ol ot : Obj) (news : List (Addr × Obj)) (T0 : Nat → Nat → Bool) (tw : List Nat) (sz lv : Nat → Nat) (size : Nat) (m0 : Str → Option Value) (j : Nat) (m₁ : Str → Option Value) (nx : List (Addr × Obj)) : Prop
  | mk (em : m₁ = m0) (od : Obj) (kv : List (Int × Value)) (e : nx = (I, oI) :: (LV, od) :: (L1 + 1 + 1 + 1 + 1, og) :: (L1 + 1 + 1, ol) :: (L1 + 1, ot) :: news) (hod : od.IsDictOf (intKind theProg w) kv) (hlv : LvOk T0 tw sz lv kv size j)
inductive JRc (L1 LV RO GV : Addr) (od og2 ol ot : Obj) (news : List (Addr × Obj)) (grp : Nat → List Nat) (k : Nat) (nx : List (Addr × Obj)) : Prop
  | mk (gv : List Value) (e1 : Nat) (rv : List Value) (e2 : Nat) (oc : Obj) (v : Option Value) (R : List (Addr × Obj)) (e : nx = (RO, listOf rv.toArray e2) :: (GV, listOf gv.toArray e1) :: (L1 + 1 + 1 + 1, oc) :: R) (hoc : oc.data = .cell v) (hR0 : ∀ q ∈ (LV, od) :: (L1 + 1 + 1 + 1 + 1, og2) :: (L1 + 1 + 1, ol) :: (L1 + 1, ot) :: news, q ∈ R) (hRo : ∀ p ∈ R, p.1 ≠ RO ∧ p.1 ≠ GV ∧ p.1 ≠ L1 + 1 + 1 + 1) (hgv : IntsAre gv (((List.range k).flatMap grp).map Int.ofNat)) (hro : RoundsAt grp R rv k)
inductive JRd (L1 RA I RO GV : Addr) (oI : Obj) (rv : List Value) (e2 : Nat) (gv : List Value) (e1 : Nat) (R : List (Addr × Obj)) (rkf : Nat → Int) (f : Nat → Bool) (m0 : Str → Option Value) (j : Nat) (m₁ : Str → Option Value) (nx : List (Addr × Obj)) : Prop
  | mk (em : m₁ = m0) (rk : List Value) (e3 : Nat) (R' : List (Addr × Obj)) (e : nx = (RA, listOf rk.toArray e3) :: (I, oI) :: (RO, listOf rv.toArray e2) :: (GV, listOf gv.toArray e1) :: R') (hRR : ∀ q ∈ R, q ∈ R') (hRo : ∀ p ∈ R', p.1 ≠ RA ∧ p.1 ≠ I ∧ p.1 ≠ RO ∧ p.1 ≠ GV ∧ p.1 ≠ L1 + 1 + 1 + 1) (hrk : RanksAt rkf R' rk ((List.range j).filter f))
section
variable {w : World} {mean : ExcName → Option Value} {mg mb : Str → Option Value} {gd : Option (List Code)} {cn : Str} {nms : List (Str × NameKind)} {mr : List (Str × Const)} {a : Addr} {ccd : Value} {cl : List (Str × Addr)} {outer : List Env} {A₀ : Around} {base h₀ : Heap} {L : Addr} {m : Str → Option Value} {s : Shared} {Q E : Value → Shared → Prop} {news : List (Addr × Obj)}

theorem c_rounds (B : Below A₀ base outer h₀) (F : Fr h₀ L s.heap m) (X : (Mine.pre.heap_1_1 w.params).In h₀) (N : News h₀ L s.heap news) (T : Top Mine.pre.view_1_2 (looseW Mine.pre.view_1_2 [Str.ofString "_NodeInfo"]) mean mg mb h₀)
   (nA bA tA : Addr) (xs : List Str) (vs bs ys : List Value) (e e2 : Nat) (tw : List Nat) (T0 : Nat → Nat → Bool) (lv : Nat → Nat) (grp : Nat → List Nat) (hvs : StrsAre vs xs) (hl6 : xs.length = 6) (hvl : vs.length = 6) (hx : ∀ x ∈ xs, x ∈ allNames)
   (hn : (nA, listOf vs.toArray e) ∈ news) (hb : (bA, LCg.lst bs) ∈ news) (hrows : RowsAt T0 news bs 6) (ht : (tA, listOf ys.toArray e2) ∈ news) (hys : IntsAre ys (tw.map Int.ofNat)) (htw : tw.length ≤ 6)
   (sp : RSpec T0 tw (fun j => (xs.getD j (Str.ofString "")).length) lv grp)
   (hQ : ∀ RO rv e' led h' tk', Fr h₀ L h' m → News h₀ L h' led → (RO, listOf rv.toArray e') ∈ led → RoundsAt grp led rv 5 → (∀ q ∈ news, q ∈ led) → Q (.ref RO) { s with heap := h', toks := tk' }) :
   wpAny (model PySem.Challenge.rw_nb0264_01.row.prog w) (ktrTop 307 35 gd cn ⟨.function, nms, false, false, mr⟩ L a ccd cl outer) (call (.ref 224) [.ref nA, .ref bA, .ref tA]) Q E s := by
  have hvs' : Kp (StrsAre vs xs) := ⟨hvs⟩
  have hys' : Kp (IntsAre ys (tw.map Int.ofNat)) := ⟨hys⟩
  clear hvs hys
  ktr_unf
  (try ((with_reducible show wpAny _ _ _ _ _ _); generalize hA1 : Around.deeper _ _ = A1; revert A1; refine letEq ?_; intro A1))
  (rename Fr _ _ _ _ => lF0); (rename News _ _ _ _ => lN0)
  refine hide ?_
  intro Pz kz
  obtain ⟨L1, LV, od0, og, oj, ol, ot, e0, e1, e2, e3, e4, e5, e6⟩ := names5 lN0
  refine kz ?_
  clear kz Pz
  subst e0 e1 e2 e3 e4 e5 e6
  have hct : ot.data = .cell (some (.ref bA)) := by assumption
  have hcl : ol.data = .cell (some (.ref LV)) := by assumption
  have hcj : oj.data = .cell none := by assumption
  have hcg : og.data = .cell none := by assumption
  revert hct hcl hcj hcg
  iterate 4 ((rename Obj.data _ = Data.cell _ => zz); clear zz)
  intro hct hcl hcj hcg
  have hi0 : od0.IsDictOf (intKind theProg w) [] := by assumption
  have hlow : (LV == sysModules) = false := by assumption
  rename _ ∧ _ ∧ _ ∧ _ ∧ AllLt LV news => lLV
  refine For_fr lF0 rfl rfl ?_
  ktr_unf
  (rename Fr _ _ _ _ => lF'); (rename News _ _ _ _ => lN')
  refine iter_rngJ (n := 4) (JRa w L1 LV og ol ot news T0 tw (fun j => (xs.getD j (Str.ofString "")).length) lv) [] rfl (by assumption) (by decide) (by rfl) lF' lN' ⟨od0, [], oj, none, rfl, hi0, ⟨Nat.zero_le _, fun i _ _ h => by omega, fun i _ _ => rfl⟩, hcj⟩ ?_ ?_
  · intro size t u nx I oI h tk hi off hoI hz0 F'' N''
    refine hide ?_
    intro Pz kz
    obtain ⟨od, kv, oc, v, rfl, hod, hlv, hoc⟩ := hz0
    refine kz ?_
    clear kz Pz
    (try k_fold)
    clear lF' lN'
    ktr_unf
    refine wpAny_For ?_
    ktr_unf
    (rename Fr _ _ _ _ => lF1); (rename News _ _ _ _ => lN1)
    have lnews : ∀ p ∈ news, p.1 < L1 := by assumption
    have hLI : LV ≠ I := off _ (.head _)
    have hcI : (L1 + 1 + 1 + 1 : Addr) ≠ I := off _ (.tail _ (.tail _ (.head _)))
    have hcg4 : (L1 + 1 + 1 + 1 + 1 : Addr) ≠ I := off _ (.tail _ (.head _))
    have hcg2 : (L1 + 1 + 1 : Addr) ≠ I := off _ (.tail _ (.tail _ (.tail _ (.head _))))
    have hcg1 : (L1 + 1 : Addr) ≠ I := off _ (.tail _ (.tail _ (.tail _ (.tail _ (.head _)))))
    have offI : ∀ p ∈ news, p.1 ≠ I := fun p hp => off p (.tail _ (.tail _ (.tail _ (.tail _ (.tail _ hp)))))
    have hL0 := lLV
    refine rngC (n := 6) (c := L1 + 1 + 1 + 1) (oc₀ := oc) (v₀ := v) (news := (I, oI) :: (LV, od) :: (L1 + 1 + 1 + 1 + 1, og) :: (L1 + 1 + 1, ol) :: (L1 + 1, ot) :: news) (JRb w L1 LV I oI og ol ot news T0 tw (fun j => (xs.getD j (Str.ofString "")).length) lv size _) rfl (by passes_own) rfl rfl rfl (by assumption) (by decide) (by rfl) lF1 (cb_drop lN1 (by k_extra "subl")) hoc (fun p hp => ?_) ⟨rfl, od, kv, rfl, hod, hlv⟩ ?_ ?_
    · revert p
      exact all_cons (Ne.symm hcI) (all_cons (Ne.symm (Nat.ne_of_lt lLV.2.1)) (all_cons (neN (by omega)) (all_cons (neN (by omega)) (all_cons (neN (by omega)) (fun p hp => neN (by have := ltN (lnews p hp); omega))))))
    · clear lF1 lN1 hod hlv hoc off
      intro j t2 m₁ nx I2 oI2 oc2 h2 tk2 hj6 off2 hI2c hoI2 hoc2 hz0 F2 N2
      refine hide ?_
      intro Pz kz
      obtain ⟨rfl, od, kv, rfl, hod, hlv⟩ := hz0
      refine kz ?_
      clear kz Pz
      (try k_fold)
      have hLI2 : @Ne Nat I2 LV := fun e' => (off2 _ (.tail _ (.head _))).1 e'.symm
      have hLIn : @Ne Nat I LV := fun e' => hLI e'.symm
      have hLcn : @Ne Nat (L1 + 1 + 1 + 1) LV := Nat.ne_of_lt lLV.2.1
      have hLoff : ∀ p ∈ (L1 + 1 + 1 + 1 + 1, og) :: (L1 + 1 + 1, ol) :: (L1 + 1, ot) :: news, p.1 ≠ LV := all_cons (Nat.ne_of_lt lLV.1) (all_cons (Nat.ne_of_lt lLV.2.2.1) (all_cons (Nat.ne_of_lt lLV.2.2.2.1) (fun p hp => Nat.ne_of_lt (kst_ltOf lLV.2.2.2.2 p hp))))
      have hII2 : I ≠ I2 := (off2 _ (.head _)).1
      refine hide ?_
      intro Pz kz
      obtain ⟨tn, hnj⟩ := strs_at hvs'.out (getD_of (i := j) (by omega))
      refine kz ?_
      clear kz Pz
      have hnj' : vs.toArray[(0 + (j : Int)).toNat]? = some (.str (xs.getD j (Str.ofString "")) tn) := by rw [show (0 + (j : Int)).toNat = j by omega]; simpa using hnj
      have hx3 : (xs.getD j (Str.ofString "")).length ≤ 3 := nm_len (nameN_mem hl6 hx hj6)
      have hsub : SubL news ((I2, oI2) :: (L1 + 1 + 1 + 1, oc2) :: (I, oI) :: (LV, od) :: (L1 + 1 + 1 + 1 + 1, og) :: (L1 + 1 + 1, ol) :: (L1 + 1, ot) :: news) := ⟨by k_extra "subl"⟩
      ktr_unf
      · k_dflt (refine notin_list_ints (News.isList (by k_asm) (by k_mem)) hys'.out ?_)
        cases hjt : (List.any (tw.map Int.ofNat) (· == (0 + (j : Int)))) with
        | true =>
          dsimp only [Bool.not_true]
          ktr_unf
          dsimp only [PostC]
          refine EndC.intro (by k_asm) (by k_asm) _ (fun _ hp => hp) hoc2 off2 ⟨rfl, od, kv, rfl, hod, hlv.skip fun hh => ?_⟩
          have := hh.1
          unfold okB at this
          have h9 : tw.contains j = true := by
            refine hide ?_
            intro Pz kz
            obtain ⟨x, hx1, hx2⟩ := List.any_eq_true.mp hjt
            obtain ⟨y, hy, rfl⟩ := List.mem_map.mp hx1
            refine kz ?_
            clear kz Pz
            have : y = j := by simp at hx2; omega
            subst this
            simpa using hy
          rw [h9] at this
          simp at this
        | false =>
          dsimp only [Bool.not_false]
          ktr_unf
          (rename Fr _ _ _ _ => lF2)
          k_dflt (refine ListComp_TW lF2 (by with_unfolding_all rfl) (by decide) (by rfl) (by decide) (by rfl) ?_)
          ktr_unf
          (rename Fr _ _ _ _ => lF'); (rename News _ _ _ _ => lN')
          have htl := IntsAre.length hys'.out
          rw [List.length_map] at htl
          k_dflt (refine AtT.list rfl lF' lN' (hsub.mem ht) (by rw [sizeLine_eq]; simp; omega) ?_)
          intro g3
          refine compRestT_pure (fun i zs => IntsAre zs (((tw.take i).filter fun i => T0 i j).map Int.ofNat)) (.inr ⟨_, hsub.mem ht, rfl, _, rfl⟩) ?_ ?_ .nil
          · rintro i v zs I3 oI3 C3 oC3 D3 m₂ h3 tk3 E3 hi3 hv3 hR hC3 hx3' F3 N3 off3 ne3 hS3
            (try k_fold)
            replace hR : Kp (IntsAre zs _) := ⟨hR⟩
            refine hide ?_
            intro Pz kz
            obtain ⟨iz, ti, rfl, hiz⟩ := IntsAre.at hys'.out i v (by simpa using hv3)
            rw [List.getElem?_map] at hiz
            obtain ⟨ii, hii, rfl⟩ := Option.map_eq_some_iff.mp hiz
            have hi6 := sp.twlt ii (List.mem_of_getElem? hii)
            obtain ⟨ra, hra, hrm⟩ := hrows.2 ii hi6
            refine kz ?_
            clear kz Pz
            have hra' : bs.toArray[(Int.ofNat ii).toNat]? = some (.ref ra) := by simpa using hra
            have hrj : ((List.range 6).map fun j => Value.bool (T0 ii j)).toArray[(0 + (j : Int)).toNat]? = some (.bool (T0 ii j)) := by
              rw [show (0 + (j : Int)).toNat = j by omega]; simp [hj6]
            have hi0' : 0 ≤ Int.ofNat ii := Int.natCast_nonneg _
            have hi6' : Int.ofNat ii < 6 := by show (ii : Int) < 6; omega
            clear lF' lN'
            have hsub3 : SubL news ((I3, oI3) :: (C3, oC3) :: (D3, LCg.lst zs) :: (I2, oI2) :: (L1 + 1 + 1 + 1, oc2) :: (I, oI) :: (LV, od) :: (L1 + 1 + 1 + 1 + 1, og) :: (L1 + 1 + 1, ol) :: (L1 + 1, ot) :: news) := ⟨by k_extra "subl"⟩
            ktr_unf
            · refine LCg.CompEnd.intro (by k_asm) (by k_asm) _ (fun _ hp => hp) off3 hS3 ⟨rfl, ?_⟩
              rw [take_filter hii, if_pos (by assumption)]
              exact ints_snoc hR.out
            · refine LCg.CompEnd.intro (by k_asm) (by k_asm) _ (fun _ hp => hp) off3 hS3 ⟨rfl, ?_⟩
              rename T0 ii j = false => hf9
              rw [take_filter hii, if_neg (by rw [hf9]; decide)]
              exact hR.out
          · intro zs hzs
            rw [show ys.toArray.size = tw.length by simp [htl], List.take_length] at hzs
            have hzs' : Kp (IntsAre zs _) := ⟨hzs⟩
            clear hzs lF' lN'
            unfold LCg.FinE
            intro D4 h4 tk4 F4 N4 o4
            simp only [LCg.Off1] at o4
            refine hide ?_
            intro Pz kz
            obtain ⟨o41, o42, o43, o44, o45, o46, o47, o48⟩ := o4
            refine kz ?_
            clear kz Pz
            ktr_unf
            k_dflt (refine ke_eq_ints (News.isList (by k_asm) (.tail _ (.head _))) (News.isList (items := ([] : List Value).toArray) (by k_asm) (.head _)) hzs'.out .nil (by ke_room) ?_)
            have hsz9 : (xs.getD j (Str.ofString "")).length = size := by
              rename (_ : Int) = 0 + (size : Int) => h9
              omega
            have hjt9 : tw.contains j = false := by
              cases h9 : tw.contains j with
              | false => rfl
              | true =>
                exfalso
                have : ((tw.map Int.ofNat).any fun x => x == 0 + (j : Int)) = true := List.any_eq_true.mpr ⟨_, List.mem_map_of_mem (by simpa using h9), by simp⟩
                rw [hjt] at this; cases this
            by_cases hX : (tw.filter fun i => T0 i j) = []
            · have hok9 : okB T0 tw j = true := by unfold okB; rw [hjt9, hX]; rfl
              rw [decide_eq_true (by rw [hX]; rfl)]
              ktr_unf
              (rename Fr _ _ _ _ => lF5)
              k_dflt (refine ListComp_TW lF5 (by with_unfolding_all rfl) (by decide) (by rfl) (by decide) (by rfl) ?_)
              ktr_unf
              (rename Fr _ _ _ _ => lF'); (rename News _ _ _ _ => lN')
              refine AtT.range (n := 6) rfl lF' lN' (by assumption) (by decide) (by rfl) (by decide +kernel) ?_
              intro g5
              refine compRestT_pure (fun i zs => IntsAre zs (((List.range i).filter fun i => i != j && T0 i j).map fun i => (lv i : Int) + 1)) trivial ?_ ?_ .nil
              · intro i v zs5 I5 oI5 C5 oC5 D5 m₂ h5 tk5 E5 hi5 hz0 hR hC5 hx5 F5 N5 off5 ne5 hS5
                refine hide ?_
                intro Pz kz
                obtain ⟨t5, rfl⟩ := hz0
                refine kz ?_
                clear kz Pz
                (try k_fold)
                replace hR : Kp (IntsAre zs5 _) := ⟨hR⟩
                refine hide ?_
                intro Pz kz
                obtain ⟨ra, hra, hrm⟩ := hrows.2 i hi5
                refine kz ?_
                clear kz Pz
                have hra' : bs.toArray[(0 + (i : Int)).toNat]? = some (.ref ra) := by rw [show (0 + (i : Int)).toNat = i by omega]; simpa using hra
                have hrj : ((List.range 6).map fun j => Value.bool (T0 i j)).toArray[(0 + (j : Int)).toNat]? = some (.bool (T0 i j)) := by
                  rw [show (0 + (j : Int)).toNat = j by omega]; simp [hj6]
                clear lF' lN' hsub
                by_cases hp9 : (i != j && T0 i j) = true
                · have hpm : i ∈ predsP T0 j := List.mem_filter.mpr ⟨List.mem_range.mpr hi5, hp9⟩
                  refine hide ?_
                  intro Pz kz
                  obtain ⟨ho9, hs9⟩ := sp.pre j hj6 hok9 i hpm
                  obtain ⟨tv, hval⟩ := hlv.yes i hi5 ho9 (.inl (by rw [← hsz9]; exact hs9))
                  refine kz ?_
                  clear kz Pz
                  have hval' : valueAt kv (0 + (i : Int)) = some (.int (lv i) tv) := by rw [show (0 + (i : Int)) = (i : Int) by omega]; exact hval
                  have hT9 : T0 i j = true := by simp at hp9; exact hp9.2
                  have hn9 : ¬ ((0 : Int) + (i : Int) = 0 + (j : Int)) := by simp at hp9; omega
                  rw [hT9] at hrj
                  ktr_unf
                  · refine LCg.CompEnd.intro (by k_asm) (by k_asm) _ (fun _ hp => hp) off5 hS5 ⟨rfl, ?_⟩
                    rw [range_filter, if_pos hp9]
                    exact ints_snoc hR.out
                · by_cases hij : i = j
                  · have hn9 : (0 : Int) + (i : Int) = 0 + (j : Int) := by omega
                    ktr_unf
                    all_goals first
                      | (refine LCg.CompEnd.intro (by k_asm) (by k_asm) _ (fun _ hp => hp) off5 hS5 ⟨rfl, ?_⟩; rw [range_filter, if_neg hp9]; exact hR.out)
                  · have hT9 : T0 i j = false := by
                      cases h9 : T0 i j with
                      | false => rfl
                      | true => exact absurd (by simp [hij, h9]) hp9
                    rw [hT9] at hrj
                    have hn9 : ¬ ((0 : Int) + (i : Int) = 0 + (j : Int)) := by omega
                    ktr_unf
                    all_goals (refine LCg.CompEnd.intro (by k_asm) (by k_asm) _ (fun _ hp => hp) off5 hS5 ⟨rfl, ?_⟩; rw [range_filter, if_neg hp9]; exact hR.out)
              · intro qs hqs
                have hqs' : Kp (IntsAre qs _) := ⟨hqs⟩
                clear hqs lF' lN'
                unfold LCg.FinE
                intro D6 h6 tk6 F6 N6 o6
                simp only [LCg.Off1] at o6
                refine hide ?_
                intro Pz kz
                obtain ⟨o61, o62, o63, o64, o65, o66, o67, o68, o69, o6a, o6b⟩ := o6
                refine kz ?_
                clear kz Pz
                have hD6LV : @Ne Nat D6 LV := Ne.symm (by assumption)
                have hD4LV : @Ne Nat D4 LV := Ne.symm (by assumption)
                ktr_unf
                (rename Fr _ _ _ _ => lF7); (rename News _ _ _ _ => lN7)
                have hql : qs.length ≤ 6 := by
                  have h9 := IntsAre.length hqs'.out
                  rw [List.length_map] at h9
                  have := List.length_filter_le (fun i => i != j && T0 i j) (List.range 6)
                  simp at this
                  omega
                k_dflt (refine kmk_add_ints (vs := [.int 0 _]) (ns := [0]) lF7 lN7 (News.isList lN7 (.tail _ (.head _))) (News.isList lN7 (.head _)) (.cons _ _ .nil) hqs'.out ?_ (by rw [sizeLine_eq]; have h9 := IntsAre.length hqs'.out; simp only [List.length_cons, List.length_nil]; omega))
                intro D8 us h8 F8 N8 l8 i8
                replace i8 : Kp (IntsAre us _) := ⟨i8⟩
                clear lF7 lN7
                (try k_lt l8)
                (try dsimp only)
                ktr_unf
                k_dflt (refine kso_max (by k_asm) (by k_asm) (News.isList (by k_asm) (.head _)) i8.out (by simp) rfl ?_)
                intro h9 M t9 tk9 F9 N9 a9 b9
                have hM : M = (lv j : Int) := (maxI_eq a9 b9).trans (sp.lvl j hj6 hok9)
                clear a9 b9
                have hkl : kv.length ≤ sizeLine := by rw [sizeLine_eq]; have := hlv.len; omega
                have e0j : (0 : Int) + (j : Int) = (j : Int) := by omega
                (try clear F8); (try clear N8)
                (try dsimp only)
                ktr_unf
                rename Obj.IsDictOf _ _ (stored _ _ _) => hd9
                rw [e0j] at hd9
                dsimp only [PostC]
                refine EndC.intro (by k_asm) (by k_asm) ((I, oI) :: (LV, _) :: (L1 + 1 + 1 + 1 + 1, og) :: (L1 + 1 + 1, ol) :: (L1 + 1, ot) :: news) (fun p hp => ?_) hoc2 (fun p hp => ?_) ⟨rfl, _, _, rfl, hd9, hlv.put hj6 ⟨t9, by rw [hM]⟩ hok9 hsz9⟩
                · revert p
                  k_extra "subl"
                · revert p
                  exact all_cons (off2 _ (.head _)) (all_cons (off2 (LV, od) (.tail _ (.head _))) (fun p hp => off2 p (List.mem_cons_of_mem _ (List.mem_cons_of_mem _ (by simpa using hp)))))
            · rw [decide_eq_false (by intro h9; exact hX (by simpa using h9))]
              ktr_unf
              dsimp only [PostC]
              refine EndC.intro (by k_asm) (by k_asm) _ (fun p hp => .tail _ (.tail _ hp)) hoc2 off2 ⟨rfl, od, kv, rfl, hod, hlv.skip fun hh => ?_⟩
              have h9 := hh.1
              unfold okB at h9
              simp at h9
              exact hX (by simpa using h9.2)
      · dsimp only [PostC]
        refine EndC.intro (by k_asm) (by k_asm) _ (fun _ hp => hp) hoc2 off2 ⟨rfl, od, kv, rfl, hod, hlv.skip fun hh => ?_⟩
        rename ¬ (_ : Int) = _ => hne
        have h9 : (xs.getD j (Str.ofString "")).length = size := hh.2
        exact hne (by rw [h9]; omega)
    · intro m₁ nx oc3 v3 h3 tk3 hz0 hoc3 offc3 F3 N3
      refine hide ?_
      intro Pz kz
      obtain ⟨rfl, od, kv, rfl, hod, hlv⟩ := hz0
      refine kz ?_
      clear kz Pz
      (try k_fold)
      dsimp only
      ktr_unf
      dsimp only [PostJ]
      refine EndJ.intro (by k_asm) (by k_asm) ((LV, od) :: (L1 + 1 + 1 + 1 + 1, og) :: (L1 + 1 + 1 + 1, oc3) :: (L1 + 1 + 1, ol) :: (L1 + 1, ot) :: news) (fun p hp => ?_) (fun p hp => ?_) ⟨fun z hz _ => by simp [hz], od, kv, oc3, v3, rfl, hod, hlv.next, hoc3⟩
      · revert p
        k_extra "subl"
      · revert p
        exact all_cons (hLI) (all_cons (hcg4) (all_cons (hcI) (all_cons (hcg2) (all_cons (hcg1) (fun p hp => offI p hp)))))
  · intro u nx h tk hz0 F'' N''
    refine hide ?_
    intro Pz kz
    obtain ⟨od, kv, oc, v, rfl, hod, hlv, hoc⟩ := hz0
    refine kz ?_
    clear kz Pz
    (try k_fold)
    have hlvY : ∀ i, i < 6 → okB T0 tw i = true → ∃ t, valueAt kv (i : Int) = some (.int (lv i) t) := fun i hi ho => hlv.yes i hi ho (.inl (by have := nm_len (nameN_mem hl6 hx hi); omega))
    have hlvN : ∀ i, i < 6 → okB T0 tw i = false → valueAt kv (i : Int) = none := fun i hi ho => hlv.no i hi fun h9 => by rw [ho] at h9; cases h9.1
    clear lF' lN' hlv
    have lnews : ∀ p ∈ news, p.1 < L1 := by assumption
    dsimp only
    ktr_unf
    (rename Fr _ _ _ _ => lF0); (rename News _ _ _ _ => lN0)
    refine hide ?_
    intro Pz kz
    obtain ⟨RO, GV, og2, e0, e1, e2⟩ := names3 lN0
    refine kz ?_
    clear kz Pz
    subst e0 e1 e2
    have hcg2 : og2.data = .cell (some (.ref GV)) := by assumption
    rename _ ∧ _ ∧ _ ∧ _ ∧ _ ∧ _ ∧ AllLt RO news => lRO
    rename _ ∧ _ ∧ _ ∧ _ ∧ _ ∧ AllLt GV news => lGV
    refine For_fr lF0 rfl rfl ?_
    ktr_unf
    (rename Fr _ _ _ _ => lF'); (rename News _ _ _ _ => lN')
    refine iter_rngJ (n := 5) (JRc L1 LV RO GV od og2 ol ot news grp) [Str.ofString "ranks"] rfl (by assumption) (by decide) (by rfl) lF' (show News _ _ _ ((RO, listOf ([] : List Value).toArray 0) :: (GV, listOf ([] : List Value).toArray 0) :: (L1 + 1 + 1 + 1, oc) :: (LV, od) :: (L1 + 1 + 1 + 1 + 1, og2) :: (L1 + 1 + 1, ol) :: (L1 + 1, ot) :: news) from cb_drop lN' (by k_extra "subl")) ⟨[], 0, [], 0, oc, v, (LV, od) :: (L1 + 1 + 1 + 1 + 1, og2) :: (L1 + 1 + 1, ol) :: (L1 + 1, ot) :: news, rfl, hoc, fun q hq => hq, fun p hp => ?_, .nil, ⟨rfl, fun k hk => absurd hk (Nat.not_lt_zero _)⟩⟩ ?_ ?_
    · simp only [List.mem_cons] at hp
      have h1 := ltN lLV.2.1
      have h2 := ltN lGV.1
      have h3 := ltN lRO.1
      have h4 := ltN lRO.2.1
      have h5 := ltN lGV.2.1
      rcases hp with rfl | rfl | rfl | rfl | hp
      · exact ⟨neN (by omega), neN (by omega), neN (by omega)⟩
      · exact ⟨neN (by omega), neN (by omega), neN (by omega)⟩
      · exact ⟨neN (by omega), neN (by omega), neN (by omega)⟩
      · exact ⟨neN (by omega), neN (by omega), neN (by omega)⟩
      · have h6 := ltN (lnews p hp)
        exact ⟨neN (by omega), neN (by omega), neN (by omega)⟩
    · intro k t u nx I oI h tk hk off hoI hz0 F'' N''
      refine hide ?_
      intro Pz kz
      obtain ⟨gv, e1, rv, e2, oc, v, R, rfl, hoc, hR0, hRo, hgv, hro⟩ := hz0
      refine kz ?_
      clear kz Pz
      (try k_fold)
      have hgv' : Kp (IntsAre gv _) := ⟨hgv⟩
      clear hgv lF' lN'
      have mLV : (LV, od) ∈ R := hR0 _ (.head _)
      have mcg : (L1 + 1 + 1 + 1 + 1, og2) ∈ R := hR0 _ (.tail _ (.head _))
      have mcl : (L1 + 1 + 1, ol) ∈ R := hR0 _ (.tail _ (.tail _ (.head _)))
      have mct : (L1 + 1, ot) ∈ R := hR0 _ (.tail _ (.tail _ (.tail _ (.head _))))
      have hnR : ∀ q ∈ news, q ∈ R := fun q hq => hR0 q (.tail _ (.tail _ (.tail _ (.tail _ hq))))
      have hbR := hnR _ hb
      have offI : ∀ p ∈ R, p.1 ≠ I := fun p hp => off p (.tail _ (.tail _ (.tail _ hp)))
      have hIRO : @Ne Nat I RO := fun e' => off _ (.head _) e'.symm
      have hIGV : @Ne Nat I GV := fun e' => off _ (.tail _ (.head _)) e'.symm
      have hIcj : (L1 + 1 + 1 + 1 : Addr) ≠ I := off _ (.tail _ (.tail _ (.head _)))
      ktr_unf
      (rename Fr _ _ _ _ => lF1); (rename News _ _ _ _ => lN1)
      refine hide ?_
      intro Pz kz
      obtain ⟨RA, hRA⟩ := head_ex lN1
      refine kz ?_
      clear kz Pz
      subst hRA
      rename _ ∧ _ ∧ _ ∧ _ ∧ AllLt RA R => lRA
      refine wpAny_For ?_
      ktr_unf
      (rename Fr _ _ _ _ => lF1); (rename News _ _ _ _ => lN1)
      have hRAI : @Ne Nat RA I := Nat.ne_of_gt lRA.1
      have hRARO : @Ne Nat RA RO := Nat.ne_of_gt lRA.2.1
      have hRAGV : @Ne Nat RA GV := Nat.ne_of_gt lRA.2.2.1
      have hROGV : @Ne Nat RO GV := Nat.ne_of_gt lRO.1
      have hcjs : ∀ p ∈ (RA, listOf ([] : List Value).toArray 0) :: (I, oI) :: (RO, listOf rv.toArray e2) :: (GV, listOf gv.toArray e1) :: R, p.1 ≠ L1 + 1 + 1 + 1 := all_cons (Nat.ne_of_gt lRA.2.2.2.1) (all_cons (Ne.symm hIcj) (all_cons (Nat.ne_of_gt lRO.2.2.2.1) (all_cons (Nat.ne_of_gt lGV.2.2.1) (fun p hp => (hRo p hp).2.2))))
      refine rngC (n := 6) (c := L1 + 1 + 1 + 1) (oc₀ := oc) (v₀ := v) (news := (RA, listOf ([] : List Value).toArray 0) :: (I, oI) :: (RO, listOf rv.toArray e2) :: (GV, listOf gv.toArray e1) :: R) (JRd L1 RA I RO GV oI rv e2 gv e1 R (rankP T0 ((List.range k).flatMap grp)) (fun j => okB T0 tw j && lv j == k) _) rfl (by passes_own) rfl rfl rfl (by assumption) (by decide) (by rfl) lF1 (cb_drop lN1 (by k_extra "subl")) hoc hcjs ⟨rfl, [], 0, R, rfl, fun q hq => hq, fun p hp => ⟨Nat.ne_of_lt (kst_ltOf lRA.2.2.2.2 p hp), offI p hp, (hRo p hp).1, (hRo p hp).2.1, (hRo p hp).2.2⟩, ⟨rfl, fun n jj hn => by simp at hn⟩⟩ ?_ ?_
      · clear lF1 lN1 hoc off
        intro j t2 m₁ nx I2 oI2 oc2 h2 tk2 hj6 off2 hI2c hoI2 hoc2 hz0 F2 N2
        refine hide ?_
        intro Pz kz
        obtain ⟨rfl, rk, e3, R', rfl, hRR, hRo', hrk⟩ := hz0
        refine kz ?_
        clear kz Pz
        (try k_fold)
        have mLV' := hRR _ mLV
        have mcg' := hRR _ mcg
        have mcl' := hRR _ mcl
        have mct' := hRR _ mct
        have hbR' := hRR _ hbR
        have e0j : (0 : Int) + (j : Int) = (j : Int) := by omega
        have hI2RA : @Ne Nat I2 RA := fun e' => (off2 _ (.head _)).1 e'.symm
        have hcjRA : @Ne Nat (L1 + 1 + 1 + 1) RA := Nat.ne_of_lt lRA.2.2.2.1
        have hRAoff : ∀ p ∈ (I, oI) :: (RO, listOf rv.toArray e2) :: (GV, listOf gv.toArray e1) :: R', p.1 ≠ RA := all_cons (Ne.symm hRAI) (all_cons (Ne.symm hRARO) (all_cons (Ne.symm hRAGV) (fun p hp => (hRo' p hp).1)))
        have hrkl : rk.length ≤ 6 := by
          rw [hrk.1]
          have := List.length_filter_le (fun j => okB T0 tw j && lv j == k) (List.range j)
          simp at this
          omega
        ktr_unf
        k_dflt (refine kda_in (knd := intKind _ _) (by k_asm) (by k_mem) hod hlow (intKind_is _ _ _ _) (okB T0 tw j) ?hb ?_)
        case hb =>
          rw [e0j]
          cases ho : okB T0 tw j with
          | true => obtain ⟨t, ht⟩ := hlvY j hj6 ho; rw [ht]; rfl
          | false => rw [hlvN j hj6 ho]; rfl
        cases ho : okB T0 tw j with
        | false =>
          ktr_unf
          dsimp only [PostC]
          refine EndC.intro (by k_asm) (by k_asm) _ (fun _ hp => hp) hoc2 off2 ⟨rfl, rk, e3, R', rfl, hRR, hRo', ?_⟩
          rw [List.range_succ, List.filter_append]
          simpa [ho] using hrk
        | true =>
          refine hide ?_
          intro Pz kz
          obtain ⟨tl, hval⟩ := hlvY j hj6 ho
          refine kz ?_
          clear kz Pz
          rw [← e0j] at hval
          by_cases hlk : lv j = k
          · have hlk' : ((lv j : Nat) : Int) = 0 + (k : Int) := by omega
            ktr_unf
            (rename Fr _ _ _ _ => lF5)
            k_dflt (refine ListComp_TW lF5 (by with_unfolding_all rfl) (by decide) (by rfl) (by decide) (by rfl) ?_)
            ktr_unf
            (rename Fr _ _ _ _ => lF'); (rename News _ _ _ _ => lN')
            have hglen : (((List.range k).flatMap grp).map Int.ofNat).length ≤ 1000 := by rw [List.length_map]; have := sp.glen k (by omega); omega
            have hjs : j ∈ jsP T0 tw lv k := List.mem_filter.mpr ⟨List.mem_range.mpr hj6, by simp [ho, hlk]⟩
            refine AtT.range (n := 6) rfl lF' lN' (by assumption) (by decide) (by rfl) (by decide +kernel) ?_
            intro g5
            refine compRestT_pure (fun i zs => IntsAre zs (((List.range i).filter fun i => i != j && T0 i j).map fun i => ((((List.range k).flatMap grp).idxOf i : Nat) : Int))) trivial ?_ ?_ .nil
            · intro i v zs5 I5 oI5 C5 oC5 D5 m₂ h5 tk5 E5 hi5 hz0 hR hC5 hx5 F5 N5 off5 ne5 hS5
              refine hide ?_
              intro Pz kz
              obtain ⟨t5, rfl⟩ := hz0
              refine kz ?_
              clear kz Pz
              (try k_fold)
              replace hR : Kp (IntsAre zs5 _) := ⟨hR⟩
              refine hide ?_
              intro Pz kz
              obtain ⟨ra, hra, hrm⟩ := hrows.2 i hi5
              refine kz ?_
              clear kz Pz
              have hrm' := hRR _ (hnR _ hrm)
              have hra' : bs.toArray[(0 + (i : Int)).toNat]? = some (.ref ra) := by rw [show (0 + (i : Int)).toNat = i by omega]; simpa using hra
              have hrj : ((List.range 6).map fun j => Value.bool (T0 i j)).toArray[(0 + (j : Int)).toNat]? = some (.bool (T0 i j)) := by
                rw [show (0 + (j : Int)).toNat = j by omega]; simp [hj6]
              clear lF' lN'
              by_cases hp9 : (i != j && T0 i j) = true
              · have hpm : i ∈ predsP T0 j := List.mem_filter.mpr ⟨List.mem_range.mpr hi5, hp9⟩
                have hig : (0 : Int) + (i : Int) ∈ ((List.range k).flatMap grp).map Int.ofNat := List.mem_map.mpr ⟨i, sp.gpre k hk j hjs i hpm, by simp⟩
                have hT9 : T0 i j = true := by simp at hp9; exact hp9.2
                have hn9 : ¬ ((0 : Int) + (i : Int) = 0 + (j : Int)) := by simp at hp9; omega
                rw [hT9] at hrj
                ktr_unf
                refine LCg.CompEnd.intro (by k_asm) (by k_asm) _ (fun _ hp => hp) off5 hS5 ⟨rfl, ?_⟩
                rw [range_filter, if_pos hp9, idxOf_ofNat]
                exact ints_snoc hR.out
              · by_cases hij : i = j
                · have hn9 : (0 : Int) + (i : Int) = 0 + (j : Int) := by omega
                  ktr_unf
                  refine LCg.CompEnd.intro (by k_asm) (by k_asm) _ (fun _ hp => hp) off5 hS5 ⟨rfl, ?_⟩
                  rw [range_filter, if_neg hp9]; exact hR.out
                · have hT9 : T0 i j = false := by
                    cases h9 : T0 i j with
                    | false => rfl
                    | true => exact absurd (by simp [hij, h9]) hp9
                  rw [hT9] at hrj
                  have hn9 : ¬ ((0 : Int) + (i : Int) = 0 + (j : Int)) := by omega
                  ktr_unf
                  refine LCg.CompEnd.intro (by k_asm) (by k_asm) _ (fun _ hp => hp) off5 hS5 ⟨rfl, ?_⟩
                  rw [range_filter, if_neg hp9]; exact hR.out
            · intro qs hqs
              have hqs' : Kp (IntsAre qs _) := ⟨hqs⟩
              clear hqs lF' lN'
              unfold LCg.FinE
              intro D6 h6 tk6 F6 N6 o6
              simp only [LCg.Off1] at o6
              refine hide ?_
              intro Pz kz
              obtain ⟨o61, o62, o63, o64, o65, o66, o67, o68⟩ := o6
              refine kz ?_
              clear kz Pz
              ktr_unf
              (rename Fr _ _ _ _ => lF7); (rename News _ _ _ _ => lN7)
              have hql : qs.length ≤ 6 := by
                have h9 := IntsAre.length hqs'.out
                rw [List.length_map] at h9
                have := List.length_filter_le (fun i => i != j && T0 i j) (List.range 6)
                simp at this
                omega
              k_dflt (refine kmk_add_ints (vs := [.int (-1) _]) (ns := [-1]) lF7 lN7 (News.isList lN7 (.tail _ (.head _))) (News.isList lN7 (.head _)) (.cons _ _ .nil) hqs'.out ?_ (by rw [sizeLine_eq]; have h9 := IntsAre.length hqs'.out; simp only [List.length_cons, List.length_nil]; omega))
              intro D8 us h8 F8 N8 l8 i8
              replace i8 : Kp (IntsAre us _) := ⟨i8⟩
              clear lF7 lN7
              (try k_lt l8)
              (try dsimp only)
              ktr_unf
              k_dflt (refine kso_max (by k_asm) (by k_asm) (News.isList (by k_asm) (.head _)) i8.out (by simp) rfl ?_)
              intro h9 M t9 tk9 F9 N9 a9 b9
              have hM : M = rankP T0 ((List.range k).flatMap grp) j := maxI_eq a9 b9
              clear a9 b9
              have lTP : ∀ p ∈ (RA, listOf rk.toArray e3) :: (I, oI) :: (RO, listOf rv.toArray e2) :: (GV, listOf gv.toArray e1) :: R', p.1 < h9.objs.size := fun p hp => Heap.lt_size (N9 p (.tail _ (.tail _ (.tail _ (.tail _ (.tail _ hp)))))).1
              have lTPc : @Ne Nat h9.objs.size (L1 + 1 + 1 + 1) := Nat.ne_of_gt (Heap.lt_size (N9 _ (.tail _ (.tail _ (.tail _ (.tail _ (.head _)))))).1)
              have lTPI : @Ne Nat h9.objs.size I2 := Nat.ne_of_gt (Heap.lt_size (N9 _ (.tail _ (.tail _ (.tail _ (.head _))))).1)
              have hTPRA : @Ne Nat h9.objs.size RA := Nat.ne_of_gt (lTP _ (.head _))
              have hD6RA : @Ne Nat D6 RA := fun e' => o64 e'.symm
              (try clear F8); (try clear N8)
              (try dsimp only)
              ktr_unf
              (rename Fr _ _ _ _ => lF); (rename News _ _ _ _ => lN)
              rw [hM, e0j] at lN
              have hTPI : @Ne Nat h9.objs.size I := Nat.ne_of_gt (lTP _ (.tail _ (.head _)))
              have hTPRO : @Ne Nat h9.objs.size RO := Nat.ne_of_gt (lTP _ (.tail _ (.tail _ (.head _))))
              have hTPGV : @Ne Nat h9.objs.size GV := Nat.ne_of_gt (lTP _ (.tail _ (.tail _ (.tail _ (.head _)))))
              generalize h9.objs.size = TP at lN hTPRA hTPI hTPRO hTPGV lTPc lTPI
              dsimp only [PostC]
              refine EndC.intro lF lN ((RA, listOf (rk.toArray.push (.ref TP)) (e3 + 1)) :: (I, oI) :: (RO, listOf rv.toArray e2) :: (GV, listOf gv.toArray e1) :: (TP, tupOf #[.int (rankP T0 ((List.range k).flatMap grp) j) t9, .int (j : Int) t2] 0) :: R') (fun p hp => ?_) hoc2 (fun p hp => ?_) ⟨rfl, rk ++ [.ref TP], e3 + 1, (TP, tupOf #[.int (rankP T0 ((List.range k).flatMap grp) j) t9, .int (j : Int) t2] 0) :: R', by rw [← List.push_toArray], fun q hq => .tail _ (hRR q hq), fun p hp => ?_, ?_⟩
              · revert p
                k_extra "subl"
              · revert p
                exact all_cons (off2 (RA, listOf rk.toArray e3) (.head _)) (all_cons (off2 (I, oI) (.tail _ (.head _))) (all_cons (off2 (RO, listOf rv.toArray e2) (.tail _ (.tail _ (.head _)))) (all_cons (off2 (GV, listOf gv.toArray e1) (.tail _ (.tail _ (.tail _ (.head _))))) (all_cons (⟨lTPI, lTPc⟩) (fun p hp => off2 p (.tail _ (.tail _ (.tail _ (.tail _ hp)))))))))
              · revert p
                exact all_cons (⟨hTPRA, hTPI, hTPRO, hTPGV, lTPc⟩) (fun p hp => hRo' p hp)
              · rw [List.range_succ, List.filter_append, show [j].filter (fun j => okB T0 tw j && lv j == k) = [j] by simp [ho, hlk]]
                exact (hrk.mono fun q hq => .tail _ hq).snoc (.head _)
          · have hlk' : ¬ (((lv j : Nat) : Int) = 0 + (k : Int)) := by omega
            ktr_unf
            dsimp only [PostC]
            refine EndC.intro (by k_asm) (by k_asm) _ (fun _ hp => hp) hoc2 off2 ⟨rfl, rk, e3, R', rfl, hRR, hRo', ?_⟩
            rw [List.range_succ, List.filter_append]
            simpa [ho, hlk] using hrk
      · clear lF1 lN1
        intro m₁ nx oc3 v3 h3 tk3 hz0 hoc3 offc3 F3 N3
        refine hide ?_
        intro Pz kz
        obtain ⟨rfl, rk, e3, R', rfl, hRR, hRo', hrk⟩ := hz0
        refine kz ?_
        clear kz Pz
        (try k_fold)
        have mLV' := hRR _ mLV
        have mcg' := hRR _ mcg
        have mcl' := hRR _ mcl
        have mct' := hRR _ mct
        dsimp only
        ktr_unf
        (rename Fr _ _ _ _ => lF5)
        k_dflt (refine LCp.ListComp_P (F₀ := lF5) (by with_unfolding_all rfl) (by decide) (by rfl) (by decide) (by rfl) (by rfl) (by decide) ?_)
        ktr_unf
        (rename Fr _ _ _ _ => lF6); (rename News _ _ _ _ => lN6)
        have hjsn : (jsP T0 tw lv k).Nodup := List.Pairwise.filter _ List.nodup_range
        have hrk' : RanksAt (rankP T0 ((List.range k).flatMap grp)) ((L1 + 1 + 1 + 1, oc3) :: (RA, listOf rk.toArray e3) :: (I, oI) :: (RO, listOf rv.toArray e2) :: (GV, listOf gv.toArray e1) :: R') rk (jsP T0 tw lv k) := hrk.mono (by k_extra "subl")
        k_dflt (refine sorted_ranks (rankP T0 ((List.range k).flatMap grp)) lF6 lN6 (.tail _ (.head _)) hrk' hjsn (jsP_len T0 tw lv k) ?_)
        intro D7 c7 vs7 h7 F7 N7 r7 l7
        rw [← sp.geq k hk] at r7
        have hg6 : (grp k).length ≤ 6 := by rw [sp.geq k hk, srtP_len]; exact jsP_len T0 tw lv k
        have hv7 : vs7.length = (grp k).length := r7.1
        (try k_lt l7)
        clear lF6 lN6 hrk'
        k_dflt (refine LCp.SrcLP.ledger rfl F7 N7 (.head _) (by rw [sizeLine_eq]; simp; omega) ?_)
        intro g7
        refine compRestP_pure (fun i ys => IntsAre ys (((grp k).take i).map Int.ofNat)) ?_ ?_ .nil
        · intro i v ys hi hv hR
          have hi' : i < (grp k).length := by simpa [hv7] using hi
          refine hide ?_
          intro Pz kz
          obtain ⟨a7, t7, u7, h1, h2⟩ := r7.2 i _ (List.getElem?_eq_getElem hi')
          refine kz ?_
          clear kz Pz
          have hv' : v = .ref a7 := by
            have hv2 : vs7[i]? = some v := by simpa using hv
            rw [h1] at hv2
            exact (Option.some.inj hv2).symm
          refine ⟨a7, _, _, _, _, hv', .tail _ h2, rfl, rfl, fun I8 oI8 C8 oC8 D8 m8 h8 tk8 E8 hC8 hx8 hy8 F8 N8 off8 ne8 => ?_⟩
          replace hR : Kp (IntsAre ys _) := ⟨hR⟩
          (try clear F7); (try clear N7)
          ktr_unf
          refine LCg.CompEnd.intro (by k_asm) (by k_asm) _ (fun _ hp => hp) off8 (.inr ⟨_, .head _, rfl, _, rfl⟩) ⟨rfl, ?_⟩
          rw [take_snoc (List.getElem?_eq_getElem hi')]
          exact ints_snoc hR.out
        · intro gs hgs
          rw [show vs7.toArray.size = (grp k).length by simp [hv7], List.take_length] at hgs
          have hgs' : Kp (IntsAre gs _) := ⟨hgs⟩
          clear hgs
          (try clear F7); (try clear N7)
          unfold LCg.FinE
          intro D9 h9 tk9 F9 N9 o9
          simp only [LCg.Off1] at o9
          refine hide ?_
          intro Pz kz
          obtain ⟨o91, o92, o93, o94, o95, o96, o97⟩ := o9
          refine kz ?_
          clear kz Pz
          have hgl : gs.length = (grp k).length := by rw [IntsAre.length hgs'.out]; simp
          ktr_unf
          k_dflt (refine' kde_tupleOf ?k1 ?k2 ?k3 ?k4 List.toList_toArray ?_; (case k1 => k_asm); (case k2 => k_asm); (case k3 => exact News.isList (by k_asm) (.head _)); (case k4 => (simp; omega)))
          intro TT h10 F10 N10 l10
          (try k_lt l10)
          have hD9RO : @Ne Nat D9 RO := fun e' => o95 e'.symm
          have hcjRO : @Ne Nat (L1 + 1 + 1 + 1) RO := Nat.ne_of_lt lRO.2.2.2.1
          have hROoff : ∀ p ∈ (GV, listOf gv.toArray e1) :: R', p.1 ≠ RO := (all_cons (Ne.symm hROGV) (fun p hp => (hRo' p hp).2.2.1))
          have hrvl : rv.length = k := hro.1
          have hlast : (rv.toArray.push (.ref TT))[((-1 : Int) + (rv.toArray.push (.ref TT)).size).toNat]? = some (.ref TT) := by
            have e9 : ((-1 : Int) + (rv.toArray.push (.ref TT)).size).toNat = rv.toArray.size := by rw [Array.size_push]; omega
            rw [e9]; simp
          (try clear F9); (try clear N9)
          (try dsimp only)
          ktr_unf
          have hD9GV : @Ne Nat D9 GV := fun e' => o96 e'.symm
          have hcjGV : @Ne Nat (L1 + 1 + 1 + 1) GV := Nat.ne_of_lt lGV.2.2.1
          have hGVoff : ∀ p ∈ R', p.1 ≠ GV := fun p hp => (hRo' p hp).2.2.2.1
          have hgvl : gv.length ≤ 30 := by
            have h9 := IntsAre.length hgv'.out
            rw [List.length_map] at h9
            have := sp.glen k (by omega)
            omega
          k_dflt (refine' extend_tup ?k1 ?k2 ?k3 ?k4 ?k5 ?_; (case k1 => k_asm); (case k2 => k_asm); (case k3 => exact List.Mem.head _); (case k4 => k_updF); (case k5 => omega))
          intro h11 e11 F11 N11
          (try dsimp only at N11); (try dsimp only)
          (try clear F10); (try clear N10)
          have hTTI : @Ne Nat TT I := by omega
          ktr_unf
          (rename Fr _ _ _ _ => lF); (rename News _ _ _ _ => lN)
          have hTTRO : @Ne Nat TT RO := by omega
          have hTTGV : @Ne Nat TT GV := by omega
          have hTTcj : @Ne Nat TT (L1 + 1 + 1 + 1) := by omega
          dsimp only [PostJ]
          refine EndJ.intro lF lN ((RO, listOf (rv.toArray.push (.ref TT)) (e2 + 1)) :: (GV, listOf (gv ++ gs).toArray e11) :: (L1 + 1 + 1 + 1, oc3) :: (TT, tupOf gs.toArray 0) :: R') (fun p hp => ?_) (fun p hp => ?_) ⟨fun z hz hc => ?_, gv ++ gs, e11, rv ++ [.ref TT], e2 + 1, oc3, v3, (TT, tupOf gs.toArray 0) :: R', by rw [← List.push_toArray], hoc3, fun q hq => .tail _ (hRR q (hR0 q hq)), fun p hp => ?_, ?_, ?_⟩
          · revert p
            k_extra "subl"
          · revert p
            exact all_cons (Ne.symm hIRO) (all_cons (Ne.symm hIGV) (all_cons (hIcj) (all_cons (hTTI) (fun p hp => (hRo' p hp).2.1))))
          · have h1 : z ≠ Str.ofString "ranks" := by rintro rfl; simp at hc
            simp [hz, h1]
          · revert p
            exact all_cons (⟨hTTRO, hTTGV, hTTcj⟩) (fun p hp => ⟨(hRo' p hp).2.2.1, (hRo' p hp).2.2.2.1, (hRo' p hp).2.2.2.2⟩)
          · rw [List.range_succ, List.flatMap_append, List.map_append, show [k].flatMap grp = grp k by simp]
            exact hgv'.out.append hgs'.out
          · exact (hro.mono fun q hq => .tail _ (hRR q hq)).snoc (.head _) hgs'.out
    · intro u nx h tk hz0 F'' N''
      refine hide ?_
      intro Pz kz
      obtain ⟨gv, e1, rv, e2, oc, v, R, rfl, hoc, hR0, hRo, hgv, hro⟩ := hz0
      refine kz ?_
      clear kz Pz
      (try k_fold)
      clear hgv lF' lN'
      dsimp only
      ktr_unf
      exact hQ RO rv e2 _ _ _ (by k_asm) (by k_asm) (.head _) (hro.mono fun q hq => .tail _ (.tail _ (.tail _ hq))) fun q hq => .tail _ (.tail _ (.tail _ (hR0 q (.tail _ (.tail _ (.tail _ (.tail _ hq)))))))
end
end Mine
end
section
namespace Mine
open PySem.Spec PySem.Calls
section
variable {prog : Program} {w : World} {A : Around} {E : Value → Shared → Prop} {s : Shared} {env : Env} {h₀ : Heap} {xi xv : Str} {body : List Stmt} {Q : Flow → Shared → Prop}
inductive EndEI (h₀ : Heap) (L e it : Addr) (J : (Str → Option Value) → List (Addr × Obj) → Prop) (oe oit : Obj) (s₁ : Nat → Heap → Shared) (s₂ : Shared) : Prop
  | mk (h' : Heap) (tk : Nat) (m' : Str → Option Value) (nx : List (Addr × Obj)) (he : s₂ = s₁ tk h') (F : Fr h₀ L h' m') (N : News h₀ L h' ((e, oe) :: (it, oit) :: nx)) (off : ∀ p ∈ nx, p.1 ≠ e ∧ p.1 ≠ it) (hJ : J m' nx)
noncomputable def EndE (h₀ : Heap) (L e it : Addr) (J : (Str → Option Value) → List (Addr × Obj) → Prop) (oe oit : Obj) (s₁ s₂ : Shared) : Prop := EndEI h₀ L e it J oe oit (fun tk h' => { s₁ with heap := h', toks := tk }) s₂
inductive ENI (s : Shared) (h₀ : Heap) (L e it l : Addr) (vs : List Value) (J : Nat → (Str → Option Value) → List (Addr × Obj) → Prop) (n : Nat) (s' : Shared) : Prop
  | mk (h' : Heap) (tk : Nat) (m' : Str → Option Value) (i : Nat) (old : Value) (nx : List (Addr × Obj)) (he : s' = { s with heap := h', toks := tk }) (st : IsEnum h' e it ((i : Nat) : Int) old) (st2 : h'.IsListIter it l i) (F : Fr h₀ L h' m') (N : News h₀ L h' nx) (off : ∀ p ∈ nx, p.1 ≠ e ∧ p.1 ≠ it) (hJ : J i m' nx) (hi : i ≤ vs.length) (hk : n = vs.length + 1 - i)
noncomputable def PostE (h₀ : Heap) (L e it : Addr) (J : (Str → Option Value) → List (Addr × Obj) → Prop) (oe oit : Obj) (s₁ : Shared) (Q : Flow → Shared → Prop) (f : Flow) (s₂ : Shared) : Prop :=
  match f with
  | .ret v => Q (.ret v) s₂
  | .brk => Q .next s₂
  | _ => EndE h₀ L e it J oe oit s₁ s₂
theorem EndE.intro {L e it : Addr} {oe oit : Obj} {J : (Str → Option Value) → List (Addr × Obj) → Prop} {m' : Str → Option Value} {all : List (Addr × Obj)} {s₁ : Shared} {h' : Heap} {tk : Nat} (F : Fr h₀ L h' m') (N : News h₀ L h' all) (nx : List (Addr × Obj))
    (sub : ∀ p ∈ (e, oe) :: (it, oit) :: nx, p ∈ all) (off : ∀ p ∈ nx, p.1 ≠ e ∧ p.1 ≠ it) (hj : J m' nx) : EndE h₀ L e it J oe oit s₁ { s₁ with heap := h', toks := tk } := ⟨h', tk, m', nx, rfl, F, fun p hp => N p (sub p hp), off, hj⟩
/-- a for over enumerate of a list of the ledger's -/
theorem enumL {e it l : Addr} {vs : List Value} {k : Nat} {m₀ : Str → Option Value} {news : List (Addr × Obj)} {pi pv pt : Pos} {x1} (J : Nat → (Str → Option Value) → List (Addr × Obj) → Prop)
    (hh : A.handled = none) (hE : PassesOwn (model prog w) A env E) (hxi : env.kindOf xi = some .local) (hxv : env.kindOf xv = some .local) (hp : (env.scope.kind == .class || (env.scope.kind == .module && env.locals != env.globals)) = false)
    (he : IsEnum s.heap e it 0 .none) (hit : s.heap.IsListIter it l 0) (hei : e ≠ it) (he₀ : h₀.get? e = none) (hi₀ : h₀.get? it = none) (heL : e ≠ env.locals) (hiL : it ≠ env.locals)
    (F : Fr h₀ env.locals s.heap m₀) (N : News h₀ env.locals s.heap news) (hl : (l, listOf vs.toArray k) ∈ news) (offe : ∀ p ∈ news, p.1 ≠ e ∧ p.1 ≠ it) (hj : J 0 m₀ news) (hJl : ∀ i m nx, J i m nx → (l, listOf vs.toArray k) ∈ nx)
    (turn : ∀ i v t m₁ nx oe oit h tk, vs[i]? = some v → (∀ p ∈ nx, p.1 ≠ e ∧ p.1 ≠ it) → J i m₁ nx → Fr h₀ env.locals h (fun y => if y = xv then some v else if y = xi then some (.int (i : Int) t) else m₁ y) → News h₀ env.locals h ((e, oe) :: (it, oit) :: nx) →
      wpAny (model prog w) A (execs body env) (PostE h₀ env.locals e it (J (i + 1)) oe oit { s with heap := h, toks := tk } Q) E { s with heap := h, toks := tk })
    (done : ∀ m₁ nx h tk, J vs.length m₁ nx → Fr h₀ env.locals h m₁ → News h₀ env.locals h nx → Q .next { s with heap := h, toks := tk }) :
    wpAny (model prog w) A (pyIter (.ref e)) (fun it s₂ => codeAny (model prog w) A (.forLoop (.Tuple [.Name xi pi, .Name xv pv] x1 pt) it body [] env) (fun r s' => match r with | .ok f => Q f s' | .error e => cameBackBy (model prog w) A env E e s') s₂) E s := by
  refine wpAny_pyIter_enum he ?_
  have hle : l ≠ e := (offe _ hl).1
  have hli : l ≠ it := (offe _ hl).2
  refine codeAny_forLoop_any
    (ENI s h₀ env.locals e it l vs J) ?_ (vs.length + 1)
    ⟨s.heap, s.toks, m₀, 0, .none, news, rfl, he, hit, F, N, offe, hj, Nat.zero_le _, rfl⟩
  intro n s' hz0
  refine hide ?_
  intro Pz kz
  obtain ⟨H, tk, m', i, old, nx, rfl, he', hit', F', N', off', hJ, hi, rfl⟩ := hz0
  refine kz ?_
  clear kz Pz
  have hl' : H.IsList l vs.toArray := ⟨_, (N' _ (hJl _ _ _ hJ)).1, rfl, _, rfl⟩
  cases hv : vs.toArray[i]? with
  | none =>
    have hsz : i = vs.length := Nat.le_antisymm hi (by simpa using hv)
    refine wpAny_pyNext_enum_end hh he' hit' hl' hv fun h₁ he₁ => wpAny_execs_nil ?_
    have hk : ∀ c o, c ≠ it → H.get? c = some o → h₁.get? c = some o := fun c o hc ho => he₁ c o hc ho
    exact done m' nx h₁ tk (hsz ▸ hJ) (fr_but F' hi₀ hiL hk) fun p hp => ⟨hk _ _ (off' p hp).2 (N' p hp).1, (N' p hp).2⟩
  | some v =>
    have hlt : i < vs.length := by simpa using (Array.getElem?_eq_some_iff.mp hv).1
    have heH : e < H.objs.size := Heap.lt_size he'
    refine hide ?_
    intro Pz kz
    obtain ⟨oi, hoi, _⟩ := id hit'
    refine kz ?_
    clear kz Pz
    have hiH : it < H.objs.size := Heap.lt_size hoi
    have hLH : env.locals < H.objs.size := F'.ns.lt
    refine wpAny_pyNext_enum_item he' hit' hl' hv hei fun h₁ heo hit₁ ht₁ hz₁ hk₁ => ?_
    refine wpAny_letOwnedTupleGo_enum heo fun h₂ he₂ hs₂ => ?_
    replace hs₂ : Heap.SameBut e h₁ h₂ := hs₂
    have ht₂ : h₂.IsTuple H.objs.size #[.int i tk, v] := ⟨_, (hs₂.2 _ (Nat.ne_of_gt heH)).trans ht₁, rfl, _, rfl⟩
    have hz₂ : h₂.objs.size = H.objs.size + 1 := hs₂.1.trans hz₁
    refine wpAny_assign_Tuple hh ht₂ rfl rfl fun h₃ hx₃ => ?_
    replace hx₃ : Heap.ExtBut h₂.objs.size h₂ h₃ := hx₃
    have old₃ : ∀ b o, b < H.objs.size → h₂.get? b = some o → h₃.get? b = some o := fun b o hb x => hx₃ b o (by rw [hz₂]; exact Nat.ne_of_lt (Nat.lt_succ_of_lt hb)) x
    have up : ∀ b o, b ≠ e → b ≠ it → H.get? b = some o → h₃.get? b = some o := fun b o hbe hbi x => old₃ b o (Heap.lt_size x) (hs₂.extBut b o hbe (hk₁ b o hbe hbi x))
    have F₃ : Fr h₀ env.locals h₃ m' := by
      refine hide ?_
      intro Pz kz
      obtain ⟨⟨oL, es, ep, hL, r⟩, hkeep, hab⟩ := F'
      refine kz ?_
      clear kz Pz
      exact ⟨⟨oL, es, ep, up _ _ (Ne.symm heL) (Ne.symm hiL) hL, r⟩, fun c o ho => up c o (fun q => by rw [q, he₀] at ho; cases ho) (fun q => by rw [q, hi₀] at ho; cases ho) (hkeep c o ho), hab⟩
    obtain ⟨oe, hoe, hoe2⟩ : ∃ oe, h₃.get? e = some oe ∧ oe = { cls := .type "enumerate", dict := none, data := .fields #[.none, .bool false, .ref it, rawInt ((i : Int) + 1), .none, v], slots := #[] } := ⟨_, old₃ e _ heH he₂, rfl⟩
    have hit₂ : h₂.IsListIter it l (i + 1) := hit₁.extBut hs₂.extBut (Ne.symm hei)
    have hit₃ : h₃.IsListIter it l (i + 1) := hit₂.at fun o x => old₃ it o hiH x
    refine hide ?_
    intro Pz kz
    obtain ⟨oit, hoit, hoit2⟩ := id hit₃
    refine kz ?_
    clear kz Pz
    have N₃ : News h₀ env.locals h₃ ((e, oe) :: (it, oit) :: nx) := (all_cons (⟨hoe, heL, he₀⟩) (all_cons (⟨hoit, hiL, hi₀⟩) (fun p hp => ⟨up _ _ (off' p hp).1 (off' p hp).2 (N' p hp).1, (N' p hp).2⟩)))
    show wpAny _ A (do holding [v] (assign (.Name xi pi) env (.int i tk)); do holding [] (assign (.Name xv pv) env v); pure ()) _ _ _
    refine wpAny_bind (wpAny_holding (wpAny_assign_Name (wpAny_storeName_local hxi F₃.ns (fun h₄ hn₄ hs₄ => ?_) hp)))
    have F₄ := F₃.set hn₄ hs₄
    have N₄ := N₃.set hs₄
    refine wpAny_bind (wpAny_holding (wpAny_assign_Name (wpAny_storeName_local hxv F₄.ns (fun h₅ hn₅ hs₅ => wpAny_pure ?_) hp)))
    have F₅ := F₄.set hn₅ hs₅
    have N₅ := N₄.set hs₅
    have fin : ∀ {s₃}, EndE h₀ env.locals e it (J (i + 1)) oe oit { s with heap := h₅, toks := tk + 1 } s₃ → ∃ n', n' < vs.length + 1 - i ∧ ENI s h₀ env.locals e it l vs J n' s₃ := by
      intro s₃ hz0
      refine hide ?_
      intro Pz kz
      obtain ⟨h₆, tk₆, m₆, nx₆, rfl, F₆, N₆, off₆, hJ₆⟩ := hz0
      refine kz ?_
      clear kz Pz
      refine ⟨vs.length + 1 - (i + 1), by omega, h₆, tk₆, m₆, i + 1, v, nx₆, rfl, ?_, ⟨oit, (N₆ _ (.tail _ (.head _))).1, hoit2⟩, F₆, fun p hp => N₆ p (.tail _ (.tail _ hp)), off₆, hJ₆, hlt, rfl⟩
      have : ((i + 1 : Nat) : Int) = (i : Int) + 1 := by push_cast; rfl
      rw [this]
      have h9 := (N₆ _ (.head _)).1
      rw [hoe2] at h9
      exact h9
    refine wpAny_passesOwn hE (wpAny_mono (turn i v tk m' nx oe oit h₅ _ (by simpa using hv) off' hJ F₅ N₅) (fun f s₃ h₃ => ?_) fun _ _ e => e)
    cases f with
    | ret v => exact h₃
    | brk => exact h₃
    | next => exact fin h₃
    | cont => exact fin h₃
theorem enumLJ {e it l : Addr} {vs : List Value} {k : Nat} {m₀ : Str → Option Value} {news : List (Addr × Obj)} {pi pv pt : Pos} {x1} (J : Nat → List (Addr × Obj) → Prop)
    (hh : A.handled = none) (hE : PassesOwn (model prog w) A env E) (hxi : env.kindOf xi = some .local) (hxv : env.kindOf xv = some .local) (hp : (env.scope.kind == .class || (env.scope.kind == .module && env.locals != env.globals)) = false)
    (he : IsEnum s.heap e it 0 .none) (hit : s.heap.IsListIter it l 0) (hei : e ≠ it) (he₀ : h₀.get? e = none) (hi₀ : h₀.get? it = none) (heL : e ≠ env.locals) (hiL : it ≠ env.locals)
    (F : Fr h₀ env.locals s.heap m₀) (N : News h₀ env.locals s.heap news) (hl : (l, listOf vs.toArray k) ∈ news) (offe : ∀ p ∈ news, p.1 ≠ e ∧ p.1 ≠ it) (hj : J 0 news) (hJl : ∀ i nx, J i nx → (l, listOf vs.toArray k) ∈ nx)
    (turn : ∀ i v t nx oe oit h tk, vs[i]? = some v → (∀ p ∈ nx, p.1 ≠ e ∧ p.1 ≠ it) → J i nx → Fr h₀ env.locals h (fun y => if y = xv then some v else if y = xi then some (.int (i : Int) t) else m₀ y) → News h₀ env.locals h ((e, oe) :: (it, oit) :: nx) →
      wpAny (model prog w) A (execs body env) (PostE h₀ env.locals e it (fun m₁ nx => (∀ z, z ≠ xi → z ≠ xv → m₁ z = m₀ z) ∧ J (i + 1) nx) oe oit { s with heap := h, toks := tk } Q) E { s with heap := h, toks := tk })
    (done : ∀ (u : Str → Option Value) nx h tk, J vs.length nx → Fr h₀ env.locals h (fun z => if z = xv then u z else if z = xi then u z else m₀ z) → News h₀ env.locals h nx → Q .next { s with heap := h, toks := tk }) :
    wpAny (model prog w) A (pyIter (.ref e)) (fun it s₂ => codeAny (model prog w) A (.forLoop (.Tuple [.Name xi pi, .Name xv pv] x1 pt) it body [] env) (fun r s' => match r with | .ok f => Q f s' | .error e => cameBackBy (model prog w) A env E e s') s₂) E s := by
  refine enumL (fun i m₁ nx => (∀ z, z ≠ xi → z ≠ xv → m₁ z = m₀ z) ∧ J i nx) hh hE hxi hxv hp he hit hei he₀ hi₀ heL hiL F N hl offe ⟨fun _ _ _ => rfl, hj⟩ (fun i m nx h => hJl i nx h.2) ?_ ?_
  · intro i v t m₁ nx oe oit h tk hv off hz0 F' N'
    refine hide ?_
    intro Pz kz
    obtain ⟨hm, hJ⟩ := hz0
    refine kz ?_
    clear kz Pz
    refine turn i v t nx oe oit h tk hv off hJ ?_ N'
    have e9 : (fun y => if y = xv then some v else if y = xi then some (Value.int (i : Int) t) else m₁ y) = fun y => if y = xv then some v else if y = xi then some (.int (i : Int) t) else m₀ y := by
      funext y
      by_cases h1 : y = xv
      · simp [h1]
      · by_cases h2 : y = xi
        · simp [h2]
        · simp [h1, h2, hm y h2 h1]
    rw [← e9]; exact F'
  · intro m₁ nx h tk hz0 F' N'
    refine hide ?_
    intro Pz kz
    obtain ⟨hm, hJ⟩ := hz0
    refine kz ?_
    clear kz Pz
    refine done m₁ nx h tk hJ ?_ N'
    have e9 : m₁ = fun z => if z = xv then m₁ z else if z = xi then m₁ z else m₀ z := by
      funext y
      by_cases h1 : y = xv
      · simp [h1]
      · by_cases h2 : y = xi
        · simp [h2]
        · simp [h1, h2, hm y h2 h1]
    rw [← e9]; exact F'
end
end Mine
end
section
theorem Mine.w_Drawn_0 : True := by
  k_with_none
  trivial
namespace Mine
theorem Mine.w_Drawn_1 : True := by
  (k_with "ktr_unf" => repeat' ((fail_if_success (with_reducible show wpAny _ _ (pyIter _) _ _ _)); (fail_if_success (with_reducible show wpAny _ _ (exec (Stmt.For _ _ _ _ _) _) _ _ _)); (fail_if_success (with_reducible show wpAny _ _ (eval (Expr.ListComp _ _ _ _) _) _ _ _)); (fail_if_success (with_reducible show LCg.CompSrc _ _ _ _ _ _ _ _ _ _ _ _ _ _)); (fail_if_success (with_reducible show wpAny _ _ (subscriptTail _ _ (Value.ref _) _) _ _ _)); (fail_if_success (with_reducible show wpAny _ _ (call (Value.type "enumerate") _) _ _ _)); first | (k_unfold; (try dsimp only)) | tb_rel | ((fail_if_success (with_reducible show wpAny _ _ (subscriptTail _ _ (Value.ref _) (Value.int _ _)) _ _ _)); (fail_if_success (with_reducible show wpAny _ _ (setItem (Value.ref _) _ _) _ _ _)); first | walk1 | (dsimp only; walk1))))
  (k_with "k_mem" => first | assumption | exact List.Mem.head _ | (refine' List.Mem.tail _ ?_; k_mem) | (refine' SubL.mem (by assumption) ?_; k_mem))
  (k_with "k_all" => first | assumption | exact off1_mem' (by assumption) | exact lt_ne (by assumption) (by omega) | exact allLt_ne (by assumption) (by omega))
  (k_with "tb_rel" => ((with_reducible show wpAny _ _ (subscriptTail _ _ (Value.ref _) (Value.int _ _)) _ _ _); k_dflt (refine' item_at (by k_asm) (by k_mem) (by omega) (by omega) (by assumption) ?_); (try dsimp only)))
  (k_with "tb_rel" => ((with_reducible show wpAny _ _ (call (Value.builtin "list.append") [Value.ref _, _]) _ _ _); k_dflt (refine' append_K (by k_asm) (by k_asm) (by k_upd) ?_ (by (rw [sizeLine_eq]; simp; omega))); intro h'w F'w N'w))
  trivial
/-- names and dresses told by pairs -/
noncomputable def DrawnAt (xs : List Str) (ds : List Nat) (led : List (Addr × Obj)) (ys : List Value) : Prop :=
  ys.length = xs.length ∧ ds.length = xs.length ∧ ∀ (i : Nat) x d, xs[i]? = some x → ds[i]? = some d → ∃ a t u, ys[i]? = some (.ref a) ∧ (a, tupOf #[.str x t, .int (d : Int) u] 0) ∈ led
theorem DrawnAt.mono {xs : List Str} {ds : List Nat} {led led' : List (Addr × Obj)} {ys : List Value} (h : DrawnAt xs ds led ys) (hs : ∀ q ∈ led, q ∈ led') : DrawnAt xs ds led' ys :=
  ⟨h.1, h.2.1, fun i x d h1 h2 => (by obtain ⟨a, t, u, a1, a2⟩ := h.2.2 i x d h1 h2; exact ⟨a, t, u, a1, hs _ a2⟩)⟩
theorem DrawnAt.snoc {xs : List Str} {ds : List Nat} {led : List (Addr × Obj)} {ys : List Value} {T : Addr} {x : Str} {d : Nat} {t u : Tok} (h : DrawnAt xs ds led ys) : DrawnAt (xs ++ [x]) (ds ++ [d]) ((T, tupOf #[.str x t, .int (d : Int) u] 0) :: led) (ys ++ [.ref T]) := by
  refine hide ?_
  intro Pz kz
  obtain ⟨h1, h2, h3⟩ := h
  refine kz ?_
  clear kz Pz
  refine ⟨by simp [h1], by simp [h2], fun i x' d' hx hd => ?_⟩
  by_cases hl : i < xs.length
  · rw [List.getElem?_append_left hl] at hx
    rw [List.getElem?_append_left (by omega)] at hd
    refine hide ?_
    intro Pz kz
    obtain ⟨a, t, u, a1, a2⟩ := h3 i x' d' hx hd
    refine kz ?_
    clear kz Pz
    exact ⟨a, t, u, by rw [List.getElem?_append_left (by omega)]; exact a1, .tail _ a2⟩
  · have hl2 := (List.getElem?_eq_some_iff.mp hx).1
    simp at hl2
    have e : i = xs.length := by omega
    subst e
    simp at hx
    rw [← h2] at hd
    simp at hd
    subst hx hd
    exact ⟨T, t, u, by rw [← h1]; simp, .head _⟩
theorem slice_head {prog : Program} {w : World} {A : Around} {E : Value → Shared → Prop} {s : Shared} {h₀ : Heap} {L : Addr} {m : Str → Option Value} {news : List (Addr × Obj)} {value slice : Expr} {l : Addr} {its : List Value} {ns : List Int} {vl vu : Value} {y : Int} {Q : Value → Shared → Prop}
    (F : Fr h₀ L s.heap m) (N : News h₀ L s.heap news) (hl : s.heap.IsList l its.toArray) (hI : IntsAre its ns) (hz : its.length ≤ 100) (hy : 0 ≤ y) (pl : IsPart vl none) (pu : IsPart vu (some y))
    (h : ∀ D h' ys, Fr h₀ L h' m → News h₀ L h' ((D, listOf ys.toArray 0) :: news) → Kp (IntsAre ys (ns.take y.toNat)) → (∀ p ∈ news, p.1 < D) → Q (.ref D) { s with heap := h' })
    (hs : subscripted slice false (.ref l) (.ref s.heap.objs.size) = operate [.ref s.heap.objs.size, .ref l] (getItem (.ref l) (.ref s.heap.objs.size)) := by with_unfolding_all rfl)
    (ht : ∀ r, letTemporaryGo value (.ref l) r = pure () := by intro _; with_unfolding_all rfl) :
    wpAny (model prog w) A (subscriptTail value slice (.ref l) (.ref s.heap.objs.size)) Q E { s with heap := s.heap.push { cls := .type "slice", data := .fields #[vl, vu, .none] } } := by
  refine slice_list F N hl pl pu (fun h' F' N' => h _ h' (slicePick its.toArray none (some y) none).toList F' (by rw [Array.toArray_toList]; exact N') ⟨kmk_upto hI hy⟩ fun p hp => Nat.lt_succ_of_lt (Heap.lt_size (N p hp).1)) hs ht (by rw [sizeLine_eq]; simp; omega)
theorem Mine.w_Drawn_2 : True := by
  (k_with "tb_rel" => ((with_reducible show wpAny _ _ (getItem (Value.ref _) (Value.int _ _)) _ _ _); k_dflt (refine' ksa_get (by k_asm) (by k_mem) (Kp.out (P := IntsAre _ _) (by assumption)) (by assumption) (by assumption) (by assumption) ?_); intro t'w))
  (k_with "tb_rel" => ((with_reducible show wpAny _ _ (setItem (Value.ref _) (Value.int _ _) (Value.int _ _)) _ _ _); k_dflt (refine' ksa_set (by k_asm) (by k_asm) (by k_upd) (Kp.out (P := IntsAre _ _) (by assumption)) (by assumption) (by assumption) (by assumption) ?_); intro h'w F'w N'w))
  trivial
theorem cells_bound {zs : List Int} {j i : Nat} {b : Int} (h : ∀ z ∈ zs, 0 ≤ z ∧ z ≤ 1789 + 1000003 * (i : Int)) (hb : 0 ≤ b ∧ b < 1000003) (hj : j < zs.length) : ∀ z ∈ zs.set j (zs.getD j 0 + b), 0 ≤ z ∧ z ≤ 1789 + 1000003 * ((i + 1 : Nat) : Int) := by
  intro z hz
  rcases List.mem_or_eq_of_mem_set hz with hz | rfl
  · have := h z hz; omega
  · have hm : zs.getD j 0 ∈ zs := by rw [List.getD_eq_getElem?_getD, List.getElem?_eq_getElem hj]; exact List.getElem_mem hj
    have := h _ hm
    omega
theorem len_of {vs : List Value} {c : Int} (hv : IntsAre vs [1, 2, 1, 2, 3, 3, 0]) (h0 : 0 ≤ c) (h1 : c < 7) : ∃ n : Nat, n ≤ 3 ∧ ∃ t, vs[c.toNat]? = some (.int (n : Int) t) := by
  have hl : vs.length = 7 := IntsAre.length hv
  refine hide ?_
  intro Pz kz
  obtain ⟨n, t, e1, e2⟩ := IntsAre.at hv c.toNat vs[c.toNat] (List.getElem?_eq_getElem (by omega))
  have key : ∃ m : Nat, m ≤ 3 ∧ n = (m : Int) := by
    have e3 : ∀ k : Nat, k < 7 → ∃ m ∈ [0, 1, 2, 3], ([1, 2, 1, 2, 3, 3, 0] : List Int)[k]? = some ((m : Nat) : Int) := by decide
    obtain ⟨m, hm, e4⟩ := e3 c.toNat (by omega)
    exact ⟨m, (by decide : ∀ m ∈ [0, 1, 2, 3], m ≤ 3) m hm, Option.some.inj (e2.symm.trans e4)⟩
  obtain ⟨m, hm, rfl⟩ := key
  refine kz ?_
  clear kz Pz
  exact ⟨m, hm, t, by rw [List.getElem?_eq_getElem (by omega), e1]⟩
theorem rs_of (n : Nat) : Builtin.Range.rangeSize 0 (n : Int) 1 = (n : Int) := by
  unfold Builtin.Range.rangeSize
  simp
  omega
theorem nil_nm : Str.ofString "" ∈ allNames := .head _
section
variable {prog : Program} {w : World} {A : Around} {E : Value → Shared → Prop} {s : Shared} {env : Env} {h₀ : Heap} {x : Str} {body : List Stmt} {Q : Flow → Shared → Prop}
/-- a for over a range whose turns change two locals -/
theorem iter_rng2 {r : Addr} {a₀ b₀ : Int} {t₀ u₀ v₀ : Tok} {n : Nat} {m₀ : Str → Option Value} {news : List (Addr × Obj)} (a b : Str) (J : Nat → Value → Value → List (Addr × Obj) → Prop) {va0 vb0 : Value}
    (hh : A.handled = none) (hr : IsRange s.heap r a₀ b₀ 1 t₀ u₀ v₀) (hsmall : Builtin.Range.small a₀ b₀ 1 = true) (hn : Builtin.Range.rangeSize a₀ b₀ 1 = (n : Int)) (F : Fr h₀ env.locals s.heap m₀) (N : News h₀ env.locals s.heap news)
    (hxa : a ≠ x) (hxb : b ≠ x) (hab : a ≠ b) (ha : m₀ a = some va0) (hb : m₀ b = some vb0) (hj : J 0 va0 vb0 news)
    (turn : ∀ i t va vb nx I oI h tk, i < n → (∀ p ∈ nx, p.1 ≠ I) → J i va vb nx → Fr h₀ env.locals h (fun y => if y = x then some (.int (a₀ + (i : Int)) t) else if y = a then some va else if y = b then some vb else m₀ y) → News h₀ env.locals h ((I, oI) :: nx) →
      wpAny (model prog w) A (execs body env) (PostJ h₀ env.locals (fun m₁ nx => (∀ z, z ≠ x → z ≠ a → z ≠ b → m₁ z = m₀ z) ∧ ∃ va vb, m₁ a = some va ∧ m₁ b = some vb ∧ J (i + 1) va vb nx) I oI { s with heap := h, toks := tk } Q) E { s with heap := h, toks := tk })
    (done : ∀ va vb (u : Str → Option Value) nx h tk, J n va vb nx → Fr h₀ env.locals h (fun y => if y = x then u y else if y = a then some va else if y = b then some vb else m₀ y) → News h₀ env.locals h nx → Q .next { s with heap := h, toks := tk }) :
    wpAny (model prog w) A (pyIter (.ref r)) (fun it s₂ => LoopAtV prog w A h₀ env x body Q E it s₂) E s := by
  refine iter_rng (fun i m₁ nx => (∀ z, z ≠ x → z ≠ a → z ≠ b → m₁ z = m₀ z) ∧ ∃ va vb, m₁ a = some va ∧ m₁ b = some vb ∧ J i va vb nx) hh hr hsmall hn F N ⟨fun _ _ _ _ => rfl, _, _, ha, hb, hj⟩ ?_ ?_
  · intro i t m₁ nx I oI h tk hi hoff _ hz0 F' N'
    refine hide ?_
    intro Pz kz
    obtain ⟨hm, va, vb, h1, h2, hJ⟩ := hz0
    refine kz ?_
    clear kz Pz
    (try k_fold)
    refine turn i t va vb nx I oI h tk hi hoff hJ ?_ N'
    have e : (fun y => if y = x then some (Value.int (a₀ + (i : Int)) t) else m₁ y) = fun y => if y = x then some (.int (a₀ + (i : Int)) t) else if y = a then some va else if y = b then some vb else m₀ y := by
      funext y
      by_cases e1 : y = x
      · simp [e1]
      · by_cases e2 : y = a
        · subst e2; simp [e1, h1]
        · by_cases e3 : y = b
          · subst e3; simp [e1, e2, h2]
          · simp [e1, e2, e3, hm y e1 e2 e3]
    rw [← e]; exact F'
  · intro m₁ nx h tk hz0 F' N'
    refine hide ?_
    intro Pz kz
    obtain ⟨hm, va, vb, h1, h2, hJ⟩ := hz0
    refine kz ?_
    clear kz Pz
    (try k_fold)
    refine done va vb m₁ nx h tk hJ ?_ N'
    have e : m₁ = fun y => if y = x then m₁ y else if y = a then some va else if y = b then some vb else m₀ y := by
      funext y
      by_cases e1 : y = x
      · simp [e1]
      · by_cases e2 : y = a
        · subst e2; simp [e1, h1]
        · by_cases e3 : y = b
          · subst e3; simp [e1, e2, h2]
          · simp [e1, e2, e3, hm y e1 e2 e3]
    rw [← e]; exact F'
end
theorem it_abA {r : Int} (h : 0 ≤ r) : ∃ c ∈ alph, Txt.item (Str.ofString "abA/*") (r.fmod 5) = ⟨#[c]⟩ := by
  have key : ∀ k : Nat, k < 5 → ∃ c ∈ alph, Txt.item (Str.ofString "abA/*") (k : Int) = ⟨#[c]⟩ := by decide +kernel
  rw [Int.fmod_eq_emod_of_nonneg _ (by decide)]
  have := key (r % 5).toNat (by omega)
  rwa [Int.toNat_of_nonneg (by omega)] at this
theorem nm_snoc0 : ∀ x ∈ (allNames.drop 0).take 8, x.length < 3 → ∀ c ∈ alph, x ++ (⟨#[c]⟩ : Str) ∈ allNames ∧ (x ++ (⟨#[c]⟩ : Str)).length = x.length + 1 := by decide +kernel
theorem nm_snoc1 : ∀ x ∈ (allNames.drop 8).take 8, x.length < 3 → ∀ c ∈ alph, x ++ (⟨#[c]⟩ : Str) ∈ allNames ∧ (x ++ (⟨#[c]⟩ : Str)).length = x.length + 1 := by decide +kernel
theorem nm_snoc2 : ∀ x ∈ (allNames.drop 16).take 8, x.length < 3 → ∀ c ∈ alph, x ++ (⟨#[c]⟩ : Str) ∈ allNames ∧ (x ++ (⟨#[c]⟩ : Str)).length = x.length + 1 := by decide +kernel
theorem nm_snoc3 : ∀ x ∈ (allNames.drop 24).take 8, x.length < 3 → ∀ c ∈ alph, x ++ (⟨#[c]⟩ : Str) ∈ allNames ∧ (x ++ (⟨#[c]⟩ : Str)).length = x.length + 1 := by decide +kernel
theorem nm_snoc4 : ∀ x ∈ allNames.drop 32, x.length < 3 → ∀ c ∈ alph, x ++ (⟨#[c]⟩ : Str) ∈ allNames ∧ (x ++ (⟨#[c]⟩ : Str)).length = x.length + 1 := by decide +kernel
theorem nm_snoc : ∀ x ∈ allNames, x.length < 3 → ∀ c ∈ alph, x ++ (⟨#[c]⟩ : Str) ∈ allNames ∧ (x ++ (⟨#[c]⟩ : Str)).length = x.length + 1 := by
  show ∀ x ∈ allNames.drop 0, x.length < 3 → ∀ c ∈ alph, x ++ (⟨#[c]⟩ : Str) ∈ allNames ∧ (x ++ (⟨#[c]⟩ : Str)).length = x.length + 1
  refine forall_cut 8 nm_snoc0 ?_
  rw [List.drop_drop]
  refine forall_cut 8 nm_snoc1 ?_
  rw [List.drop_drop]
  refine forall_cut 8 nm_snoc2 ?_
  rw [List.drop_drop]
  refine forall_cut 8 nm_snoc3 ?_
  rw [List.drop_drop]
  exact nm_snoc4
/-- what holds between the turns of the three loops -/
inductive JDa (SL CE : Addr) (sv : List Value) (news : List (Addr × Obj)) (i : Nat) (nx : List (Addr × Obj)) : Prop
  | mk (cs : List Value) (zs : List Int) (e : Nat) (h : nx = (SL, listOf sv.toArray 0) :: (CE, listOf cs.toArray e) :: news) (hcs : IntsAre cs zs) (h6 : zs.length = 6) (hb : ∀ z ∈ zs, 0 ≤ z ∧ z ≤ 1789 + 1000003 * (i : Int))
inductive JDb (CE DR : Addr) (cs : List Value) (e9 : Nat) (news : List (Addr × Obj)) (i : Nat) (nx : List (Addr × Obj)) : Prop
  | mk (ys : List Value) (xs : List Str) (ds : List Nat) (e : Nat) (led : List (Addr × Obj)) (h : nx = (DR, listOf ys.toArray e) :: led) (off : ∀ p ∈ led, p.1 ≠ DR) (sub : ∀ q ∈ (CE, listOf cs.toArray e9) :: news, q ∈ led) (hl : xs.length = i) (hx : ∀ x ∈ xs, x ∈ allNames) (hd : ∀ d ∈ ds, d < 3) (hD : DrawnAt xs ds led ys)
inductive JDc (I DR : Addr) (oI : Obj) (ys : List Value) (e6 : Nat) (led : List (Addr × Obj)) (k : Nat) (va vb : Value) (nx : List (Addr × Obj)) : Prop
  | mk (x : Str) (r : Int) (t1 t2 : Tok) (h : nx = (I, oI) :: (DR, listOf ys.toArray e6) :: led) (hx : x ∈ allNames) (hl : x.length = k) (hr : 0 ≤ r) (ha : va = .str x t1) (hb : vb = .int r t2)
section
variable {w : World} {mean : ExcName → Option Value} {mg mb : Str → Option Value} {gd : Option (List Code)} {cn : Str} {nms : List (Str × NameKind)} {mr : List (Str × Const)} {a : Addr} {ccd : Value} {cl : List (Str × Addr)} {outer : List Env} {A₀ : Around} {base h₀ : Heap} {L : Addr} {m : Str → Option Value} {s : Shared} {Q E : Value → Shared → Prop} {news : List (Addr × Obj)}

theorem c_drawn (B : Below A₀ base outer h₀) (F : Fr h₀ L s.heap m) (X : (Mine.pre.heap_1_1 w.params).In h₀) (N : News h₀ L s.heap news) (T : Top Mine.pre.view_1_2 (looseW Mine.pre.view_1_2 [Str.ofString "_NodeInfo"]) mean mg mb h₀)
   (sA : Addr) (vs : List Value) (ns : List Int) (hsl : h₀.IsList sA vs.toArray) (hvs : IntsAre vs ns) (hlen : ns.length ≤ 100)
   (hQ : ∀ Y ys xs ds e led h' tk', Fr h₀ L h' m → News h₀ L h' led → (Y, listOf ys.toArray e) ∈ led → xs.length = 6 → (∀ x ∈ xs, x ∈ allNames) → (∀ d ∈ ds, d < 3) → DrawnAt xs ds led ys → (∀ q ∈ news, q ∈ led) → Q (.ref Y) { s with heap := h', toks := tk' }) :
   wpAny (model PySem.Challenge.rw_nb0264_01.row.prog w) (ktrTop 307 35 gd cn ⟨.function, nms, false, false, mr⟩ L a ccd cl outer) (call (.ref 190) [.ref sA]) Q E s := by
  have hvs' : Kp (IntsAre vs ns) := ⟨hvs⟩
  clear hvs
  ktr_unf
  (try ((with_reducible show wpAny _ _ _ _ _ _); generalize hA1 : Around.deeper _ _ = A1; revert A1; refine letEq ?_; intro A1))
  refine wpAny_For ?_
  ktr_unf
  (rename Fr _ _ _ _ => lF0); (rename News _ _ _ _ => lN0)
  rename Fr h₀ L _ m => FG
  have hsl2 := hsl.at fun o e9 => lF0.keep _ _ (FG.keep _ _ e9)
  refine hide ?_
  intro Pz kz
  obtain ⟨CE, hCE⟩ := head_ex lN0
  refine kz ?_
  clear kz Pz
  subst hCE
  k_dflt (refine slice_head lF0 lN0 hsl2 hvs'.out (by have := IntsAre.length hvs'.out; omega) (y := 42) (by omega) .none (.int _ _) ?_)
  intro SL h1 sv F1 N1 i1 l1
  (try dsimp only)
  ktr_unf
  (rename Fr _ _ _ _ => lF1); (rename News _ _ _ _ => lN1)
  k_dflt (refine call_enumerate_list (News.isList lN1 (.head _)) ?_)
  intro h2 he2 hi2 hz2 hk2
  dsimp only at he2 hi2 hz2 hk2
  have F2 := lF1.keeps hk2
  have N2 := lN1.grown hk2
  have lSL : ∀ p ∈ (SL, listOf sv.toArray 0) :: (CE, _) :: news, p.1 < h1.objs.size := fun p hp => Heap.lt_size (lN1 p hp).1
  (try dsimp only)
  refine enumLJ (vs := sv) (k := 0) (JDa SL CE sv news) rfl (by passes_own) rfl rfl rfl he2 hi2 (Nat.succ_ne_self _) ?a1 ?a2 ?a3 ?a4 F2 N2 (.head _) ?a5 ⟨[.int 253 _, .int 0 _, .int 1789 _, .int 30 _, .int 992 _, .int 7 _], [253, 0, 1789, 30, 992, 7], 0, rfl, .cons _ _ (.cons _ _ (.cons _ _ (.cons _ _ (.cons _ _ (.cons _ _ .nil))))), rfl, by decide⟩ ?a6 ?_ ?_
  case a1 => exact Heap.get?_none_of_le (Nat.le_trans lF1.above (Nat.le_of_lt (Nat.lt_of_lt_of_le lF1.ns.lt (Nat.le_succ _))))
  case a2 => exact Heap.get?_none_of_le (Nat.le_trans lF1.above (Nat.le_of_lt lF1.ns.lt))
  case a3 => exact Nat.ne_of_gt (Nat.lt_of_lt_of_le lF1.ns.lt (Nat.le_succ _))
  case a4 => exact Nat.ne_of_gt lF1.ns.lt
  case a5 => exact fun p hp => ⟨Nat.ne_of_lt (Nat.lt_succ_of_lt (lSL p hp)), Nat.ne_of_lt (lSL p hp)⟩
  case a6 =>
    intro i nx hz
    obtain ⟨cs, zs, e, h9, _, _, _⟩ := hz
    rw [h9]; exact .head _
  · clear lF1 lN1 F2 N2 lSL he2 hi2 hz2 hk2
    intro i v t nx oe oit h tk hv off hz0 F3 N3
    refine hide ?_
    intro Pz kz
    obtain ⟨cs, zs, e9, rfl, hcs, hz6, hzb⟩ := hz0
    refine kz ?_
    clear kz Pz
    (try k_fold)
    have hcs' : Kp (IntsAre cs zs) := ⟨hcs⟩
    refine hide ?_
    intro Pz kz
    obtain ⟨nn, tn, rfl, hnn⟩ := IntsAre.at i1.out i v hv
    refine kz ?_
    clear kz Pz
    clear hcs
    have hf0 : 0 ≤ (i : Int).fmod 6 := by rw [Int.fmod_eq_emod_of_nonneg _ (by omega)]; omega
    have hf6 : (i : Int).fmod 6 < (zs.length : Int) := by rw [Int.fmod_eq_emod_of_nonneg _ (by omega)]; omega
    have hf63 : (i : Int).fmod 6 < 2 ^ 63 := by rw [Int.fmod_eq_emod_of_nonneg _ (by omega)]; omega
    have hSLCE : @Ne Nat SL CE := Nat.ne_of_gt (l1 _ (.head _))
    have heCE : @Ne Nat (h1.objs.size + 1) CE := fun e9 => (off _ (.tail _ (.head _))).1 e9.symm
    have hiCE : @Ne Nat h1.objs.size CE := fun e9 => (off _ (.tail _ (.head _))).2 e9.symm
    have hCEn : ∀ p ∈ news, p.1 ≠ CE := by first | exact lt_ne (by assumption) (Nat.le_refl _) | exact allLt_ne (by assumption) (Nat.le_refl _)
    ktr_unf
    have hb9 : 0 ≤ nn.fmod 1000003 ∧ nn.fmod 1000003 < 1000003 := by rw [Int.fmod_eq_emod_of_nonneg _ (by omega)]; omega
    dsimp only [PostE]
    refine EndE.intro (by k_asm) (by k_asm) _ (fun _ hp => hp) (fun p hp => ?_) ⟨fun z h1 h2 => by simp [h1, h2], _, _, e9, rfl, by assumption, by rw [List.length_set]; exact hz6, cells_bound hzb hb9 (by omega)⟩
    revert p
    exact all_cons (off _ (.head _)) (all_cons (off (CE, listOf cs.toArray e9) (.tail _ (.head _))) (fun p hp => off p (.tail _ (.tail _ hp))))
  · clear lF1 lN1 F2 N2 lSL he2 hi2 hz2 hk2
    intro u nx h tk hz0 F3 N3
    refine hide ?_
    intro Pz kz
    obtain ⟨cs, zs, e9, rfl, hcs, hz6, hzb⟩ := hz0
    refine kz ?_
    clear kz Pz
    (try k_fold)
    have hcs' : Kp (IntsAre cs zs) := ⟨hcs⟩
    have hcl : cs.length = 6 := by rw [IntsAre.length hcs]; exact hz6
    clear hcs
    dsimp only
    ktr_unf
    (rename Fr _ _ _ _ => lF4)
    refine For_fr lF4 rfl rfl ?_
    ktr_unf
    (rename Fr _ _ _ _ => lF5); (rename News _ _ _ _ => lN5)
    refine hide ?_
    intro Pz kz
    obtain ⟨DR, hDR⟩ := head_ex lN5
    refine kz ?_
    clear kz Pz
    subst hDR
    have hcs2 : IntsAre cs zs := hcs'.out
    refine iter_ledJ (vs := cs) (k := e9) (JDb CE DR cs e9 news) [Str.ofString "rest", Str.ofString "name", Str.ofString "_"] rfl (by k_mem) lF5 lN5 ?b1 ?b2 ?_ ?_
    case b1 => exact ⟨[], [], [], 0, _, rfl, by k_all, fun q hq => .tail _ hq, rfl, by simp, by simp, ⟨rfl, rfl, by simp⟩⟩
    case b2 =>
      intro i nx hz
      obtain ⟨ys, xs, ds, e, led, h1, _, h2, _, _, _, _⟩ := hz
      rw [h1]; exact .tail _ (h2 _ (.head _))
    · intro i v u2 nx I oI h6 tk6 hi6 hv6 off6 hz0 F6 N6
      refine hide ?_
      intro Pz kz
      obtain ⟨ys, xs, ds, e6, led, rfl, offD, sub6, hxl, hxs, hds, hD⟩ := hz0
      refine kz ?_
      clear kz Pz
      (try k_fold)
      refine hide ?_
      intro Pz kz
      obtain ⟨cc, tc, rfl, hcc⟩ := IntsAre.at hcs2 i v hv6
      refine kz ?_
      clear kz Pz
      have hzc : 0 ≤ cc ∧ cc ≤ 1789 + 1000003 * (sv.length : Int) := hzb cc (List.mem_of_getElem? hcc)
      have hm0 : 0 ≤ cc.fmod 7 ∧ cc.fmod 7 < 7 := by rw [Int.fmod_eq_emod_of_nonneg _ (by omega)]; omega
      ktr_unf
      (rename Fr _ _ _ _ => lF7)
      refine For_fr lF7 rfl rfl ?_
      ktr_unf
      (rename Fr _ _ _ _ => lF8); (rename News _ _ _ _ => lN8)
      obtain ⟨nk, hnk3, tnk, hnk⟩ := len_of (vs := [.int 1 _, .int 2 _, .int 1 _, .int 2 _, .int 3 _, .int 3 _, .int 0 _]) (.cons _ _ (.cons _ _ (.cons _ _ (.cons _ _ (.cons _ _ (.cons _ _ (.cons _ _ .nil))))))) hm0.1 hm0.2
      k_dflt (refine item_tupleT ⟨_, (lN8 _ (.head _)).1, rfl, _, rfl⟩ (Int.le_trans (by decide) hm0.1) (Int.lt_trans hm0.2 (by decide)) (PySem.StrLaws.seqIndex_nonneg hm0.1 (by exact hm0.2)) hnk ?_)
      clear hnk
      (try dsimp only)
      ktr_unf
      (rename Fr _ _ _ _ => lF9); (rename News _ _ _ _ => lN9)
      have hr0 : 0 ≤ cc.fdiv 7 := by rw [Int.fdiv_eq_ediv_of_nonneg _ (by omega)]; omega
      refine iter_rng2 (n := nk) (news := (I, oI) :: (DR, listOf ys.toArray e6) :: led) (Str.ofString "name") (Str.ofString "rest") (JDc I DR oI ys e6 led) rfl (by assumption) (small_of (by omega) (by omega)) (rs_of nk) lF9 (fun p hp => lN9 p (.tail _ hp)) (by decide) (by decide) (by decide) rfl rfl ⟨_, _, _, _, rfl, nil_nm, rfl, hr0, rfl, rfl⟩ ?_ ?_
      · intro k t va vb nx I2 oI2 h10 tk10 hk off10 hz0 F10 N10
        refine hide ?_
        intro Pz kz
        obtain ⟨x, r, t1, t2, rfl, hx, hxk, hr, rfl, rfl⟩ := hz0
        refine kz ?_
        clear kz Pz
        (try k_fold)
        have hx3 : x.length < 3 := by omega
        ktr_unf
        refine hide ?_
        intro Pz kz
        obtain ⟨c9, hc9, he9⟩ := it_abA hr
        obtain ⟨hx9, hl9⟩ := nm_snoc x hx hx3 c9 hc9
        refine kz ?_
        clear kz Pz
        dsimp only [PostJ]
        refine EndJ.intro (by k_asm) (by k_asm) _ (fun _ hp => hp) off10 ⟨fun z h1 h2 h3 => by simp [h1, h2, h3], _, _, rfl, rfl, _, _, _, _, rfl, ?c3, ?c4, ?c5, rfl, rfl⟩
        case c3 => rw [he9]; exact hx9
        case c4 => rw [he9, hl9, hxk]
        case c5 => rw [Int.fdiv_eq_ediv_of_nonneg _ (by omega)]; omega
      · intro va vb u9 nx h10 tk10 hz0 F10 N10
        refine hide ?_
        intro Pz kz
        obtain ⟨x, r, t1, t2, rfl, hx, hxk, hr, rfl, rfl⟩ := hz0
        refine kz ?_
        clear kz Pz
        (try k_fold)
        have hys6 : ys.length = i := by rw [hD.1]; exact hxl
        have hlen6 : ys.length < 100 := by have := IntsAre.length hcs2; omega
        have hDRI : @Ne Nat DR I := off6 _ (.head _)
        dsimp only
        ktr_unf
        (rename Fr _ _ _ _ => lF11); (rename News _ _ _ _ => lN11)
        refine hide ?_
        intro Pz kz
        obtain ⟨T9, hT9⟩ := head_ex lN11
        refine kz ?_
        clear kz Pz
        subst hT9
        rename _ ∧ _ ∧ AllLt T9 led => l9
        refine hide ?_
        intro Pz kz
        obtain ⟨lI9, lDR9, lled9⟩ := l9
        refine kz ?_
        clear kz Pz
        obtain ⟨d9, hd9, hde9⟩ : ∃ d : Nat, d < 3 ∧ r.fmod 3 = (d : Int) := ⟨(r.fmod 3).toNat, by rw [Int.fmod_eq_emod_of_nonneg _ (by omega)]; omega, by rw [Int.fmod_eq_emod_of_nonneg _ (by omega)]; omega⟩
        rw [hde9, show ys.toArray.push (Value.ref T9) = (ys ++ [Value.ref T9]).toArray by simp] at lN11
        dsimp only [PostJ]
        refine EndJ.intro lF11 lN11 ((DR, listOf (ys ++ [Value.ref T9]).toArray (e6 + 1)) :: (T9, tupOf #[.str x t1, .int (d9 : Int) (tk10 + 1)] 0) :: led) (fun p hp => ?d1) (fun p hp => ?d2) ⟨fun z h1 h2 => ?d3, ys ++ [.ref T9], xs ++ [x], ds ++ [d9], e6 + 1, _, rfl, fun p hp => ?d4, fun q hq => .tail _ (sub6 q hq), by simp [hxl], fun y hy => ?d5, fun y hy => ?d6, hD.snoc⟩
        case d1 =>
          revert p
          exact all_cons (.tail _ (.head _)) (all_cons (.tail _ (.tail _ (.head _))) (all_cons (.head _) (fun p hp => .tail _ (.tail _ (.tail _ hp)))))
        case d2 =>
          revert p
          exact all_cons (hDRI) (all_cons (Nat.ne_of_gt lI9) (fun p hp => off6 _ (.tail _ hp)))
        case d3 =>
          have h3 : z ≠ Str.ofString "rest" ∧ z ≠ Str.ofString "name" ∧ z ≠ Str.ofString "_" := by simpa using h2
          simp [h1, h3.1, h3.2.1, h3.2.2]
        case d4 =>
          revert p
          exact all_cons (Nat.ne_of_gt lDR9) (fun p hp => offD _ hp)
        case d5 =>
          rcases List.mem_append.mp hy with hy | hy
          · exact hxs _ hy
          · rw [List.mem_singleton.mp hy]; exact hx
        case d6 =>
          rcases List.mem_append.mp hy with hy | hy
          · exact hds _ hy
          · rw [List.mem_singleton.mp hy]; exact hd9
    · intro u12 nx h12 tk12 hz0 F12 N12
      refine hide ?_
      intro Pz kz
      obtain ⟨ys, xs, ds, e6, led, rfl, offD, sub6, hxl, hxs, hds, hD⟩ := hz0
      refine kz ?_
      clear kz Pz
      (try k_fold)
      dsimp only
      ktr_unf
      exact hQ DR ys xs ds e6 _ _ _ (by k_asm) (by k_asm) (.head _) (hxl.trans hcl) hxs hds (hD.mono fun q hq => .tail _ hq) fun q hq => .tail _ (sub6 q (.tail _ hq))
end
end Mine
end
section
namespace Mine
/-- what the pure law needs of the relation -/
structure TOk (T0 : Nat → Nat → Bool) (tw : List Nat) (sz : Nat → Nat) : Prop where
  twlt : ∀ i ∈ tw, i < 6
  pre : ∀ j, j < 6 → okB T0 tw j = true → ∀ i ∈ predsP T0 j, okB T0 tw i = true ∧ sz i < sz j
  part : ∀ j ∈ tw, ∃ i ∈ predsP T0 j, i ∈ tw
  sz3 : ∀ j, j < 6 → sz j ≤ 3
noncomputable def lvF (T0 : Nat → Nat → Bool) : Nat → Nat → Nat
  | 0, _ => 0
  | n + 1, j => (maxI 0 ((predsP T0 j).map fun i => (lvF T0 n i : Int) + 1)).toNat
section
variable {T0 : Nat → Nat → Bool} {tw : List Nat} {sz : Nat → Nat}
theorem mem_preds {i j : Nat} : i ∈ predsP T0 j ↔ i < 6 ∧ i ≠ j ∧ T0 i j = true := by
  unfold predsP; simp [List.mem_filter]
theorem lvF_cast (n j : Nat) : (lvF T0 (n + 1) j : Int) = maxI 0 ((predsP T0 j).map fun i => (lvF T0 n i : Int) + 1) := by
  show (((maxI 0 _).toNat : Nat) : Int) = _
  exact Int.toNat_of_nonneg (maxI_ge _ _)
theorem preds_none (h : TOk T0 tw sz) {j : Nat} (hj : j < 6) (ho : okB T0 tw j = true) (hz : sz j = 0) : predsP T0 j = [] :=
  List.eq_nil_iff_forall_not_mem.mpr fun i hi => by have := (h.pre j hj ho i hi).2; omega
theorem lvF_nil {n j : Nat} (h : predsP T0 j = []) : lvF T0 n j = 0 := by
  cases n with
  | zero => rfl
  | succ n => show (maxI 0 _).toNat = 0; rw [h]; rfl
theorem lvF_stable (h : TOk T0 tw sz) : ∀ n m j, j < 6 → okB T0 tw j = true → sz j ≤ n → sz j ≤ m → lvF T0 n j = lvF T0 m j
  | 0, m, j, hj, ho, hn, _ => by rw [lvF_nil (preds_none h hj ho (by omega)), lvF_nil (preds_none h hj ho (by omega))]
  | n + 1, 0, j, hj, ho, _, hm => by rw [lvF_nil (preds_none h hj ho (by omega)), lvF_nil (preds_none h hj ho (by omega))]
  | n + 1, m + 1, j, hj, ho, hn, hm => by
    show (maxI 0 _).toNat = (maxI 0 _).toNat
    congr 2
    refine List.map_congr_left fun i hi => ?_
    refine hide ?_
    intro Pz kz
    obtain ⟨h1, h2⟩ := h.pre j hj ho i hi
    refine kz ?_
    clear kz Pz
    rw [lvF_stable h n m i (mem_preds.mp hi).1 h1 (by omega) (by omega)]
noncomputable abbrev lvP (T0 : Nat → Nat → Bool) (j : Nat) : Nat := lvF T0 4 j
theorem lvP_eq (h : TOk T0 tw sz) {j : Nat} (hj : j < 6) (ho : okB T0 tw j = true) : maxI 0 ((predsP T0 j).map fun i => (lvP T0 i : Int) + 1) = lvP T0 j := by
  show _ = ((lvF T0 (3 + 1) j : Nat) : Int)
  rw [lvF_cast]
  congr 1
  refine List.map_congr_left fun i hi => ?_
  refine hide ?_
  intro Pz kz
  obtain ⟨h1, h2⟩ := h.pre j hj ho i hi
  refine kz ?_
  clear kz Pz
  have := h.sz3 j hj
  rw [show lvP T0 i = lvF T0 3 i from lvF_stable h 4 3 i (mem_preds.mp hi).1 h1 (by omega) (by omega)]
theorem lvP_lt (h : TOk T0 tw sz) {i j : Nat} (hj : j < 6) (ho : okB T0 tw j = true) (hi : i ∈ predsP T0 j) : lvP T0 i < lvP T0 j := by
  have h1 := lvP_eq h hj ho
  have h2 := (maxI_mem ((predsP T0 j).map fun i => (lvP T0 i : Int) + 1) 0).2 _ (List.mem_map_of_mem hi)
  rw [h1] at h2; omega
theorem lvP_top (h : TOk T0 tw sz) {j : Nat} (hj : j < 6) (ho : okB T0 tw j = true) : lvP T0 j = 0 ∨ ∃ i ∈ predsP T0 j, lvP T0 i + 1 = lvP T0 j := by
  have h1 := lvP_eq h hj ho
  rcases (maxI_mem ((predsP T0 j).map fun i => (lvP T0 i : Int) + 1) 0).1 with h2 | h2
  · left; rw [h1] at h2; omega
  · right
    rw [h1] at h2
    refine hide ?_
    intro Pz kz
    obtain ⟨i, hi, e⟩ := List.mem_map.mp h2
    refine kz ?_
    clear kz Pz
    exact ⟨i, hi, by omega⟩
noncomputable def gAcc (T0 : Nat → Nat → Bool) (tw : List Nat) : Nat → List Nat
  | 0 => []
  | k + 1 => gAcc T0 tw k ++ srtP (jsP T0 tw (lvP T0) k) (rankP T0 (gAcc T0 tw k))
noncomputable def grpP (T0 : Nat → Nat → Bool) (tw : List Nat) (k : Nat) : List Nat := srtP (jsP T0 tw (lvP T0) k) (rankP T0 (gAcc T0 tw k))
theorem gAcc_flat : ∀ k, (List.range k).flatMap (grpP T0 tw) = gAcc T0 tw k
  | 0 => rfl
  | k + 1 => by rw [List.range_succ, List.flatMap_append, gAcc_flat k]; simp [gAcc, grpP]
theorem gAcc_succ (k : Nat) : gAcc T0 tw (k + 1) = gAcc T0 tw k ++ grpP T0 tw k := rfl
theorem srtP_perm (js : List Nat) (rk : Nat → Int) : (srtP js rk).Perm js := by
  unfold srtP
  refine ((sortIdx_perm _ _).map _).trans ?_
  have e : (List.range js.length).map (fun n => js.getD n 0) = js := by
    refine List.ext_getElem (by simp) fun n h1 h2 => ?_
    rw [List.getElem_map, List.getElem_range, List.getD_eq_getElem?_getD, List.getElem?_eq_getElem h2]; rfl
  rw [e]
theorem srtP_pw (js : List Nat) (rk : Nat → Int) : (srtP js rk).Pairwise fun a b => lexLe (rk a, (a : Int)) (rk b, (b : Int)) := by
  unfold srtP
  rw [List.pairwise_map]
  exact sortIdx_pw _ _
theorem mem_js {lv : Nat → Nat} {k j : Nat} : j ∈ jsP T0 tw lv k ↔ j < 6 ∧ okB T0 tw j = true ∧ lv j = k := by
  unfold jsP; simp [List.mem_filter]
theorem js_nodup {lv : Nat → Nat} {k : Nat} : (jsP T0 tw lv k).Nodup := List.Nodup.sublist List.filter_sublist List.nodup_range
theorem mem_grp {k j : Nat} : j ∈ grpP T0 tw k ↔ j < 6 ∧ okB T0 tw j = true ∧ lvP T0 j = k := by
  rw [grpP, (srtP_perm _ _).mem_iff, mem_js]
theorem mem_gAcc {j : Nat} : ∀ {k : Nat}, j ∈ gAcc T0 tw k ↔ j < 6 ∧ okB T0 tw j = true ∧ lvP T0 j < k
  | 0 => by simp [gAcc]
  | k + 1 => by
    rw [gAcc_succ, List.mem_append, mem_gAcc (k := k), mem_grp]
    constructor
    · rintro (⟨a, b, c⟩ | ⟨a, b, c⟩)
      · exact ⟨a, b, by omega⟩
      · exact ⟨a, b, by omega⟩
    · intro hz0
      refine hide ?_
      intro Pz kz
      obtain ⟨a, b, c⟩ := hz0
      refine kz ?_
      clear kz Pz
      rcases Nat.lt_succ_iff_lt_or_eq.mp c with c | c
      · exact .inl ⟨a, b, c⟩
      · exact .inr ⟨a, b, c⟩
theorem gAcc_nodup : ∀ k, (gAcc T0 tw k).Nodup
  | 0 => List.nodup_nil
  | k + 1 => by
    rw [gAcc_succ]
    refine List.nodup_append.mpr ⟨gAcc_nodup k, (srtP_perm _ _).nodup_iff.mpr js_nodup, fun a ha b hb e => ?_⟩
    subst e
    have h1 := (mem_gAcc.mp ha).2.2
    have h2 := (mem_grp.mp hb).2.2
    omega
/-- the law's own reckoning is met -/
theorem rspec (h : TOk T0 tw sz) : RSpec T0 tw sz (lvP T0) (grpP T0 tw) where
  twlt := h.twlt
  pre := h.pre
  lvl := fun j hj ho => lvP_eq h hj ho
  gpre := fun k _ j hj i hi => by
    refine hide ?_
    intro Pz kz
    obtain ⟨a, b, c⟩ := mem_js.mp hj
    refine kz ?_
    clear kz Pz
    rw [gAcc_flat, mem_gAcc]
    have := lvP_lt h a b hi
    exact ⟨(mem_preds.mp hi).1, (h.pre j a b i hi).1, by omega⟩
  geq := fun k _ => by rw [gAcc_flat]; rfl
theorem srt_unique {Q js : List Nat} {rk : Nat → Int} (h1 : Q.Nodup) (h2 : js.Nodup) (h3 : ∀ j, j ∈ Q ↔ j ∈ js) (h4 : Q.Pairwise fun a b => lexLe (rk a, (a : Int)) (rk b, (b : Int))) : Q = srtP js rk := by
  have p : Q.Perm (srtP js rk) := by
    refine List.Perm.trans ?_ (srtP_perm js rk).symm
    rw [List.perm_iff_count]
    intro a
    by_cases ha : a ∈ Q
    · rw [h1.count, h2.count, if_pos ha, if_pos ((h3 a).mp ha)]
    · rw [h1.count, h2.count, if_neg ha, if_neg fun x => ha ((h3 a).mpr x)]
  refine List.Perm.eq_of_pairwise ?_ h4 (srtP_pw js rk) p
  intro a b _ _ x y
  unfold lexLe at x y
  simp only at x y
  omega
end
end Mine
end
section
namespace Mine
noncomputable def suP (T0 : Nat → Nat → Bool) (i : Nat) : List Nat := (List.range 6).filter fun j => i != j && T0 i j
noncomputable def remP (T0 : Nat → Nat → Bool) (G : List Nat) (j : Nat) : List Nat := (predsP T0 j).filter fun i => decide (i ∉ G)
section
variable {T0 : Nat → Nat → Bool} {tw : List Nat} {sz : Nat → Nat}
theorem mem_suP {i j : Nat} : j ∈ suP T0 i ↔ j < 6 ∧ i ≠ j ∧ T0 i j = true := by
  unfold suP; simp [List.mem_filter]
theorem su_preds {i j : Nat} (hi : i < 6) : j ∈ suP T0 i ↔ j < 6 ∧ i ∈ predsP T0 j := by
  rw [mem_suP, mem_preds]
  exact ⟨fun ⟨a, b, c⟩ => ⟨a, hi, b, c⟩, fun ⟨a, _, b, c⟩ => ⟨a, b, c⟩⟩
theorem su_nodup {i : Nat} : (suP T0 i).Nodup := List.Nodup.sublist List.filter_sublist List.nodup_range
theorem su_pw {i : Nat} : (suP T0 i).Pairwise (· < ·) := List.Pairwise.sublist List.filter_sublist List.pairwise_lt_range
theorem preds_nodup {j : Nat} : (predsP T0 j).Nodup := List.Nodup.sublist List.filter_sublist List.nodup_range
theorem mem_rem {G : List Nat} {i j : Nat} : i ∈ remP T0 G j ↔ i ∈ predsP T0 j ∧ i ∉ G := by
  unfold remP; simp [List.mem_filter]
theorem rem_nil {G : List Nat} {j : Nat} : remP T0 G j = [] ↔ ∀ i ∈ predsP T0 j, i ∈ G := by
  rw [List.eq_nil_iff_forall_not_mem]
  constructor
  · intro h i hi
    exact Classical.byContradiction fun hg => h i (mem_rem.mpr ⟨hi, hg⟩)
  · intro h i hi
    exact (mem_rem.mp hi).2 (h i (mem_rem.mp hi).1)
theorem rem_same {G : List Nat} {j k : Nat} (h : k ∉ predsP T0 j) : remP T0 (G ++ [k]) j = remP T0 G j := by
  unfold remP
  refine List.filter_congr fun i hi => ?_
  have : i ≠ k := fun e => h (e ▸ hi)
  simp [this]
theorem rem_less {G : List Nat} {j k : Nat} (h : k ∈ predsP T0 j) (hk : k ∉ G) : ((remP T0 (G ++ [k]) j).length : Int) = (remP T0 G j).length - 1 := by
  have e : remP T0 (G ++ [k]) j = (remP T0 G j).erase k := by
    have nd : (remP T0 G j).Nodup := List.Nodup.sublist List.filter_sublist preds_nodup
    rw [List.Nodup.erase_eq_filter nd]
    unfold remP
    rw [List.filter_filter]
    refine List.filter_congr fun i _ => ?_
    by_cases e : i = k
    · simp [e]
    · by_cases e2 : i ∈ G <;> simp [e, e2]
  have hm : k ∈ remP T0 G j := mem_rem.mpr ⟨h, hk⟩
  rw [e, List.length_erase_of_mem hm]
  have := List.length_pos_of_mem hm
  omega
theorem decS_fold : ∀ (l : List Nat) (st : (Nat → Int) × List Nat), l.Nodup →
    l.foldl decS st = (fun j => if j ∈ l then st.1 j - 1 else st.1 j, st.2 ++ l.filter fun j => st.1 j - 1 == 0)
  | [], st, _ => by simp
  | a :: l, st, h => by
    refine hide ?_
    intro Pz kz
    obtain ⟨h1, h2⟩ := List.nodup_cons.mp h
    refine kz ?_
    clear kz Pz
    rw [List.foldl_cons, decS_fold l _ h2]
    refine Prod.ext (funext fun j => ?_) ?_
    · simp only [decS]
      by_cases e : j = a
      · subst e; simp [h1]
      · simp [e]
    · simp only [decS]
      have e : (l.filter fun j => (if j = a then st.1 a - 1 else st.1 j) - 1 == 0) = l.filter fun j => st.1 j - 1 == 0 := by
        refine List.filter_congr fun j hj => ?_
        have : j ≠ a := fun e => h1 (e ▸ hj)
        simp [this]
      rw [e]
      by_cases e2 : st.1 a - 1 = 0
      · simp [e2]
      · have e3 : (st.1 a - 1 == 0) = false := by simpa using e2
        simp [e2, List.filter_cons, e3]
/-- the ground of a round -/
structure RH (T0 : Nat → Nat → Bool) (G R : List Nat) : Prop where
  nd : (G ++ R).Nodup
  lt : ∀ k ∈ R, k < 6
  rdy : ∀ k ∈ R, ∀ i ∈ predsP T0 k, i ∈ G
  clo : ∀ k ∈ G, ∀ i ∈ predsP T0 k, i ∈ G
noncomputable def qP (T0 : Nat → Nat → Bool) (G R : List Nat) (n : Nat) : List Nat :=
  (List.range n).flatMap fun i => (suP T0 (R.getD i 0)).filter fun j => (remP T0 (G ++ R.take (i + 1)) j).isEmpty
structure KSt (T0 : Nat → Nat → Bool) (G R : List Nat) (n : Nat) (st : (Nat → Int) × List Nat) : Prop where
  f : ∀ j, j < 6 → st.1 j = if j ∈ G ++ R.take n then -2 else if j ∈ R then -1 else ((remP T0 (G ++ R.take n) j).length : Int)
  q : st.2 = qP T0 G R n
structure SSt (T0 : Nat → Nat → Bool) (G : List Nat) (st : (Nat → Int) × List Nat) : Prop where
  f : ∀ j, j < 6 → st.1 j = if j ∈ G then -2 else ((remP T0 G j).length : Int)
theorem RH.off {G R : List Nat} (h : RH T0 G R) {k j : Nat} (hk : k ∈ R) (hj : j ∈ suP T0 k) : j ∉ G ∧ j ∉ R := by
  have hp := ((su_preds (h.lt k hk)).mp hj).2
  have hkG : k ∉ G := fun hg => (List.nodup_append.mp h.nd).2.2 _ hg _ hk rfl
  exact ⟨fun hg => hkG (h.clo j hg k hp), fun hr => hkG (h.rdy j hr k hp)⟩
theorem RH.notTake {G R : List Nat} (h : RH T0 G R) {n k : Nat} (hk : R[n]? = some k) : k ∉ G ++ R.take n := by
  intro hm
  have hlt := (List.getElem?_eq_some_iff.mp hk)
  rcases List.mem_append.mp hm with hm | hm
  · exact (List.nodup_append.mp h.nd).2.2 _ hm _ (List.mem_of_getElem? hk) rfl
  · have nd := (List.nodup_append.mp h.nd).2.1
    rw [← List.take_append_drop n R] at nd
    have hd : k ∈ R.drop n := List.mem_of_getElem? (i := 0) (by rw [List.getElem?_drop]; exact hk)
    exact (List.nodup_append.mp nd).2.2 _ hm _ hd rfl
theorem take_snoc' {R : List Nat} {n k : Nat} (hk : R[n]? = some k) : R.take (n + 1) = R.take n ++ [k] := by rw [List.take_add_one, hk]; rfl
theorem KSt.step {G R : List Nat} {n k : Nat} {st : (Nat → Int) × List Nat} (h : RH T0 G R) (hs : KSt T0 G R n st) (hk : R[n]? = some k) : KSt T0 G R (n + 1) (doneS (suP T0) st k) := by
  have hkR : k ∈ R := List.mem_of_getElem? hk
  have hk6 := h.lt k hkR
  have hnt := h.notTake hk
  have hD : doneS (suP T0) st k = (suP T0 k).foldl decS (fun i => if i = k then -2 else st.1 i, st.2) := rfl
  rw [hD, decS_fold _ _ su_nodup]
  have hkk : k ∉ suP T0 k := fun hm => (mem_suP.mp hm).2.1 rfl
  have val : ∀ j ∈ suP T0 k, st.1 j - 1 = ((remP T0 (G ++ R.take (n + 1)) j).length : Int) := by
    intro j hj
    refine hide ?_
    intro Pz kz
    obtain ⟨a, b⟩ := (su_preds hk6).mp hj
    obtain ⟨o1, o2⟩ := h.off hkR hj
    refine kz ?_
    clear kz Pz
    rw [hs.f j a, if_neg fun hm => ?_, if_neg o2, take_snoc' hk, ← List.append_assoc, rem_less b hnt]
    rcases List.mem_append.mp hm with hm | hm
    · exact o1 hm
    · exact o2 (List.mem_of_mem_take hm)
  constructor
  · intro j hj
    dsimp only
    rw [take_snoc' hk, ← List.append_assoc]
    by_cases hjs : j ∈ suP T0 k
    · have hjk : j ≠ k := fun e => hkk (e ▸ hjs)
      refine hide ?_
      intro Pz kz
      obtain ⟨o1, o2⟩ := h.off hkR hjs
      refine kz ?_
      clear kz Pz
      have v := val j hjs
      rw [take_snoc' hk, ← List.append_assoc] at v
      rw [if_pos hjs, if_neg hjk, v, if_neg fun hm => ?_, if_neg o2]
      rcases List.mem_append.mp hm with hm | hm
      · rcases List.mem_append.mp hm with hm | hm
        · exact o1 hm
        · exact o2 (List.mem_of_mem_take hm)
      · exact hjk (List.mem_singleton.mp hm)
    · rw [if_neg hjs]
      by_cases hjk : j = k
      · subst hjk
        rw [if_pos rfl, if_pos (List.mem_append_right _ (List.mem_singleton.mpr rfl))]
      · rw [if_neg hjk, hs.f j hj, rem_same fun hp => hjs ((su_preds hk6).mpr ⟨hj, hp⟩)]
        have e : (j ∈ (G ++ R.take n) ++ [k]) ↔ j ∈ G ++ R.take n := by
          rw [List.mem_append, List.mem_singleton]
          exact ⟨fun x => x.resolve_right hjk, .inl⟩
        simp only [e]
  · dsimp only
    rw [hs.q]
    unfold qP
    rw [List.range_succ, List.flatMap_append]
    congr 1
    rw [List.flatMap_singleton, show R.getD n 0 = k by rw [List.getD_eq_getElem?_getD, hk]; rfl]
    refine List.filter_congr fun j hj => ?_
    have hjk : j ≠ k := fun e => hkk (e ▸ hj)
    rw [if_neg hjk, val j hj]
    cases remP T0 (G ++ R.take (n + 1)) j with
    | nil => rfl
    | cons a l => simp; omega
theorem KSt.all {G R : List Nat} {st : (Nat → Int) × List Nat} (h : RH T0 G R) (hs : KSt T0 G R 0 st) : ∀ n, n ≤ R.length → KSt T0 G R n ((R.take n).foldl (doneS (suP T0)) st)
  | 0, _ => by simpa using hs
  | n + 1, hn => by
    have hk : R[n]? = some R[n] := List.getElem?_eq_getElem hn
    rw [take_snoc' hk, List.foldl_append]
    exact KSt.step h (KSt.all h hs n (by omega)) hk
theorem KSt.start {G : List Nat} {st : (Nat → Int) × List Nat} (h : RH T0 G st.2) (hs : SSt T0 G st) : KSt T0 G st.2 0 (outS st) := by
  refine ⟨fun j hj => ?_, rfl⟩
  rw [List.take_zero, List.append_nil]
  show (if j ∈ st.2 then (-1 : Int) else st.1 j) = _
  by_cases h1 : j ∈ st.2
  · have h2 : j ∉ G := fun hg => (List.nodup_append.mp h.nd).2.2 _ hg _ h1 rfl
    rw [if_pos h1, if_neg h2, if_pos h1]
  · rw [if_neg h1, hs.f j hj, if_neg h1]
theorem KSt.fin {G R : List Nat} {st : (Nat → Int) × List Nat} (hs : KSt T0 G R R.length st) : SSt T0 (G ++ R) st ∧ st.2 = qP T0 G R R.length := by
  refine ⟨⟨fun j hj => ?_⟩, hs.q⟩
  rw [hs.f j hj, List.take_length]
  by_cases h1 : j ∈ G ++ R
  · rw [if_pos h1, if_pos h1]
  · rw [if_neg h1, if_neg h1, if_neg fun h2 => h1 (List.mem_append_right _ h2)]
/-- the rank of what a round makes ready -/
theorem rank_of {G R : List Nat} (h : RH T0 G R) {i k j : Nat} (hk : R[i]? = some k) (hj : j ∈ suP T0 k) (hr : remP T0 (G ++ R.take (i + 1)) j = []) : rankP T0 (G ++ R) j = ((G.length + i : Nat) : Int) := by
  have hkR : k ∈ R := List.mem_of_getElem? hk
  have hkp := ((su_preds (h.lt k hkR)).mp hj).2
  have hil := (List.getElem?_eq_some_iff.mp hk).1
  have all := rem_nil.mp hr
  have hidx : (G ++ R).idxOf k = G.length + i := by
    have hk' : (G ++ R)[G.length + i]? = some k := by rw [List.getElem?_append_right (by omega)]; simpa using hk
    have hl := (List.getElem?_eq_some_iff.mp hk')
    rw [← hl.2]
    exact List.Nodup.idxOf_getElem h.nd _ hl.1
  have hle : ∀ x ∈ predsP T0 j, (G ++ R).idxOf x ≤ G.length + i := by
    intro x hx
    have hm := all x hx
    have e : G ++ R = (G ++ R.take (i + 1)) ++ R.drop (i + 1) := by rw [List.append_assoc, List.take_append_drop]
    rw [e, List.idxOf_append, if_pos hm]
    have := List.idxOf_lt_length_iff.mpr hm
    simp at this
    omega
  unfold rankP
  refine (maxI_eq (M := ((G.length + i : Nat) : Int)) ?_ ?_).symm
  · exact List.mem_cons_of_mem _ (List.mem_map.mpr ⟨k, hkp, by rw [hidx]⟩)
  · intro a ha
    rcases List.mem_cons.mp ha with rfl | ha
    · omega
    · refine hide ?_
      intro Pz kz
      obtain ⟨x, hx, rfl⟩ := List.mem_map.mp ha
      refine kz ?_
      clear kz Pz
      have := hle x hx
      exact Int.ofNat_le.mpr this
theorem mem_q {G R : List Nat} {n j : Nat} : j ∈ qP T0 G R n ↔ ∃ i, i < n ∧ j ∈ suP T0 (R.getD i 0) ∧ remP T0 (G ++ R.take (i + 1)) j = [] := by
  unfold qP
  simp only [List.mem_flatMap, List.mem_range, List.mem_filter, List.isEmpty_iff]
theorem getD_some {R : List Nat} {i : Nat} (h : i < R.length) : R[i]? = some (R.getD i 0) := by rw [List.getD_eq_getElem?_getD, List.getElem?_eq_getElem h]; rfl
theorem q_pw {G R : List Nat} (h : RH T0 G R) : (qP T0 G R R.length).Pairwise fun a b => lexLe (rankP T0 (G ++ R) a, (a : Int)) (rankP T0 (G ++ R) b, (b : Int)) ∧ a ≠ b := by
  unfold qP
  rw [List.pairwise_flatMap]
  constructor
  · intro i hi
    have hi := List.mem_range.mp hi
    have P : ((suP T0 (R.getD i 0)).filter fun j => (remP T0 (G ++ R.take (i + 1)) j).isEmpty).Pairwise (· < ·) := List.Pairwise.sublist List.filter_sublist su_pw
    refine List.Pairwise.imp_of_mem ?_ P
    intro a b ha hb hab
    rw [List.mem_filter, List.isEmpty_iff] at ha hb
    refine ⟨?_, Nat.ne_of_lt hab⟩
    rw [rank_of h (getD_some hi) ha.1 ha.2, rank_of h (getD_some hi) hb.1 hb.2]
    exact .inr ⟨rfl, Int.ofNat_le.mpr (Nat.le_of_lt hab)⟩
  · refine List.Pairwise.imp_of_mem ?_ List.pairwise_lt_range
    intro i i' hi hi' hlt a ha b hb
    have hi := List.mem_range.mp hi
    have hi' := List.mem_range.mp hi'
    rw [List.mem_filter, List.isEmpty_iff] at ha hb
    have r1 := rank_of h (getD_some hi) ha.1 ha.2
    have r2 := rank_of h (getD_some hi') hb.1 hb.2
    refine ⟨?_, fun e => ?_⟩
    · rw [r1, r2]; exact .inl (Int.ofNat_lt.mpr (by omega))
    · rw [e, r2] at r1; omega
theorem q_mem {G R : List Nat} (h : RH T0 G R) {j : Nat} : j ∈ qP T0 G R R.length ↔ j < 6 ∧ (∀ i ∈ predsP T0 j, i ∈ G ++ R) ∧ ∃ i ∈ predsP T0 j, i ∉ G := by
  rw [mem_q]
  constructor
  · intro hz0
    refine hide ?_
    intro Pz kz
    obtain ⟨i, hi, h1, h2⟩ := hz0
    have hk := getD_some hi
    have hkR := List.mem_of_getElem? hk
    obtain ⟨a, b⟩ := (su_preds (h.lt _ hkR)).mp h1
    refine kz ?_
    clear kz Pz
    refine ⟨a, fun x hx => ?_, _, b, fun hg => (List.nodup_append.mp h.nd).2.2 _ hg _ hkR rfl⟩
    rcases List.mem_append.mp (rem_nil.mp h2 x hx) with h3 | h3
    · exact List.mem_append_left _ h3
    · exact List.mem_append_right _ (List.mem_of_mem_take h3)
  · intro hz0
    refine hide ?_
    intro Pz kz
    obtain ⟨hj, h1, x, hx, hxG⟩ := hz0
    refine kz ?_
    clear kz Pz
    -- the last of them
    have key : ∀ n, n ≤ R.length → (∃ y ∈ predsP T0 j, y ∈ R.take n) → (∀ y ∈ predsP T0 j, y ∈ G ++ R.take n) → ∃ i, i < n ∧ j ∈ suP T0 (R.getD i 0) ∧ remP T0 (G ++ R.take (i + 1)) j = [] := by
      intro n
      induction n with
      | zero => rintro _ ⟨y, _, hy⟩ _; simp at hy
      | succ n ih =>
        intro hn hy hall
        have hk := getD_some (show n < R.length by omega)
        by_cases hp : R.getD n 0 ∈ predsP T0 j
        · exact ⟨n, by omega, (su_preds (h.lt _ (List.mem_of_getElem? hk))).mpr ⟨hj, hp⟩, rem_nil.mpr hall⟩
        · have c : ∀ y ∈ predsP T0 j, y ∈ R.take (n + 1) → y ∈ R.take n := by
            intro y hy hm
            rw [take_snoc' hk] at hm
            rcases List.mem_append.mp hm with hm | hm
            · exact hm
            · exact absurd hy (List.mem_singleton.mp hm ▸ hp)
          refine hide ?_
          intro Pz kz
          obtain ⟨y, hy1, hy2⟩ := hy
          refine kz ?_
          clear kz Pz
          obtain ⟨i, hi, r⟩ := ih (by omega) ⟨y, hy1, c y hy1 hy2⟩ fun z hz => by
            rcases List.mem_append.mp (hall z hz) with h9 | h9
            · exact List.mem_append_left _ h9
            · exact List.mem_append_right _ (c z hz h9)
          exact ⟨i, by omega, r⟩
    refine key R.length (Nat.le_refl _) ⟨x, hx, ?_⟩ ?_
    · rw [List.take_length]; exact (List.mem_append.mp (h1 x hx)).resolve_left hxG
    · rw [List.take_length]; exact h1
theorem rh (h : TOk T0 tw sz) (k : Nat) : RH T0 (gAcc T0 tw k) (grpP T0 tw k) where
  nd := by rw [← gAcc_succ]; exact gAcc_nodup _
  lt := fun j hj => (mem_grp.mp hj).1
  rdy := fun j hj i hi => by
    refine hide ?_
    intro Pz kz
    obtain ⟨a, b, c⟩ := mem_grp.mp hj
    refine kz ?_
    clear kz Pz
    have := lvP_lt h a b hi
    exact mem_gAcc.mpr ⟨(mem_preds.mp hi).1, (h.pre j a b i hi).1, by omega⟩
  clo := fun j hj i hi => by
    refine hide ?_
    intro Pz kz
    obtain ⟨a, b, c⟩ := mem_gAcc.mp hj
    refine kz ?_
    clear kz Pz
    have := lvP_lt h a b hi
    exact mem_gAcc.mpr ⟨(mem_preds.mp hi).1, (h.pre j a b i hi).1, by omega⟩
theorem ok_of (h : TOk T0 tw sz) {j : Nat} (hp : ∀ i ∈ predsP T0 j, okB T0 tw i = true) (hj : j < 6) : okB T0 tw j = true := by
  have notTw : ∀ i, okB T0 tw i = true → i ∉ tw := fun i hi hm => by
    unfold okB at hi
    simp at hi
    exact hi.1 hm
  have hjt : j ∉ tw := fun hm => by
    refine hide ?_
    intro Pz kz
    obtain ⟨i, hi, hit⟩ := h.part j hm
    refine kz ?_
    clear kz Pz
    exact notTw i (hp i hi) hit
  unfold okB
  simp only [Bool.and_eq_true, Bool.not_eq_true', List.contains_eq_mem, decide_eq_false_iff_not, List.isEmpty_iff]
  refine ⟨hjt, List.eq_nil_iff_forall_not_mem.mpr fun i hi => ?_⟩
  refine hide ?_
  intro Pz kz
  obtain ⟨hi1, hi2⟩ := List.mem_filter.mp hi
  refine kz ?_
  clear kz Pz
  have hne : i ≠ j := fun e => hjt (e ▸ hi1)
  exact notTw i (hp i (mem_preds.mpr ⟨h.twlt i hi1, hne, hi2⟩)) hi1
theorem q_grp (h : TOk T0 tw sz) (k : Nat) : qP T0 (gAcc T0 tw k) (grpP T0 tw k) (grpP T0 tw k).length = grpP T0 tw (k + 1) := by
  have pw := q_pw (rh h k)
  rw [← gAcc_succ] at pw
  refine srt_unique (pw.imp fun x => x.2) js_nodup (fun j => ?_) (pw.imp fun x => x.1)
  rw [q_mem (rh h k), mem_js, ← gAcc_succ]
  constructor
  · intro hz0
    refine hide ?_
    intro Pz kz
    obtain ⟨hj, h1, x, hx, hxG⟩ := hz0
    refine kz ?_
    clear kz Pz
    have hok := ok_of h (fun i hi => (mem_gAcc.mp (h1 i hi)).2.1) hj
    refine ⟨hj, hok, ?_⟩
    have hx1 := mem_gAcc.mp (h1 x hx)
    have hxk : ¬ lvP T0 x < k := fun hl => hxG (mem_gAcc.mpr ⟨hx1.1, hx1.2.1, hl⟩)
    have a1 := lvP_lt h hj hok hx
    rcases lvP_top h hj hok with e | ⟨y, hy, e⟩
    · omega
    · have := (mem_gAcc.mp (h1 y hy)).2.2
      omega
  · intro hz0
    refine hide ?_
    intro Pz kz
    obtain ⟨hj, hok, hl⟩ := hz0
    refine kz ?_
    clear kz Pz
    refine ⟨hj, fun i hi => mem_gAcc.mpr ⟨(mem_preds.mp hi).1, (h.pre j hj hok i hi).1, ?_⟩, ?_⟩
    · have := lvP_lt h hj hok hi; omega
    · rcases lvP_top h hj hok with e | ⟨y, hy, e⟩
      · omega
      · exact ⟨y, hy, fun hg => by have := (mem_gAcc.mp hg).2.2; omega⟩
theorem grp0 (h : TOk T0 tw sz) (f : Nat → Int) (hf : ∀ j, j < 6 → f j = ((predsP T0 j).length : Int)) : readyOf f 6 = grpP T0 tw 0 := by
  refine srt_unique (List.Nodup.sublist List.filter_sublist List.nodup_range) js_nodup (fun j => ?_) ?_
  · rw [mem_js]
    unfold readyOf
    rw [List.mem_filter, List.mem_range]
    constructor
    · intro hz0
      refine hide ?_
      intro Pz kz
      obtain ⟨hj, e⟩ := hz0
      refine kz ?_
      clear kz Pz
      rw [hf j hj] at e
      have e2 : predsP T0 j = [] := List.eq_nil_of_length_eq_zero (by simpa using e)
      exact ⟨hj, ok_of h (fun i hi => by rw [e2] at hi; cases hi) hj, lvF_nil e2⟩
    · intro hz0
      refine hide ?_
      intro Pz kz
      obtain ⟨hj, hok, hl⟩ := hz0
      refine kz ?_
      clear kz Pz
      refine ⟨hj, ?_⟩
      have e2 : predsP T0 j = [] := List.eq_nil_iff_forall_not_mem.mpr fun i hi => by have := lvP_lt h hj hok hi; omega
      rw [hf j hj, e2]; rfl
  · have P : (readyOf f 6).Pairwise (· < ·) := List.Pairwise.sublist List.filter_sublist List.pairwise_lt_range
    refine List.Pairwise.imp_of_mem ?_ P
    intro a b ha hb hab
    have nil : ∀ j, j ∈ readyOf f 6 → rankP T0 [] j = -1 := by
      intro j hj
      unfold readyOf at hj
      refine hide ?_
      intro Pz kz
      obtain ⟨h1, h2⟩ := List.mem_filter.mp hj
      refine kz ?_
      clear kz Pz
      have h1 := List.mem_range.mp h1
      rw [hf j h1] at h2
      have e2 : predsP T0 j = [] := List.eq_nil_of_length_eq_zero (by simpa using h2)
      unfold rankP; rw [e2]; rfl
    show lexLe (rankP T0 [] a, _) (rankP T0 [] b, _)
    rw [nil a ha, nil b hb]
    exact .inr ⟨rfl, Int.ofNat_le.mpr (Nat.le_of_lt hab)⟩
/-- the sorter's rounds are the law's -/
theorem kahn (h : TOk T0 tw sz) (f : Nat → Int) (hf : ∀ j, j < 6 → f j = ((predsP T0 j).length : Int)) :
    ∀ k, SSt T0 (gAcc T0 tw k) (itS (suP T0) (f, readyOf f 6) k) ∧ (itS (suP T0) (f, readyOf f 6) k).2 = grpP T0 tw k
  | 0 => by
    refine ⟨⟨fun j hj => ?_⟩, grp0 h f hf⟩
    show f j = _
    rw [hf j hj, if_neg (by simp [gAcc])]
    congr 2
    unfold remP
    exact (List.filter_eq_self.mpr fun a _ => by simp [gAcc]).symm
  | k + 1 => by
    refine hide ?_
    intro Pz kz
    obtain ⟨h1, h2⟩ := kahn h f hf k
    have R := rh h k
    rw [← h2] at R
    have K := KSt.all R (KSt.start R h1) _ (Nat.le_refl _)
    rw [List.take_length] at K
    obtain ⟨f1, f2⟩ := K.fin
    refine kz ?_
    clear kz Pz
    refine ⟨?_, ?_⟩
    · rw [gAcc_succ, ← h2]; exact f1
    · show (roundS _ _).2 = _
      rw [← q_grp h k, ← h2]; exact f2
theorem roundOk (h : TOk T0 tw sz) (f : Nat → Int) (hf : ∀ j, j < 6 → f j = ((predsP T0 j).length : Int)) (k : Nat) : RoundOk (suP T0) 6 (itS (suP T0) (f, readyOf f 6) k) := by
  refine hide ?_
  intro Pz kz
  obtain ⟨h1, h2⟩ := kahn h f hf k
  refine kz ?_
  clear kz Pz
  have R := rh h k
  rw [← h2] at R
  refine ⟨?_, R.lt, fun i k' hk => ?_⟩
  · rw [h2, grpP, srtP_len]; exact jsP_len _ _ _ _
  · have hl := (List.getElem?_eq_some_iff.mp hk).1
    have K := KSt.all R (KSt.start R h1) i (by omega)
    rw [K.f k' (R.lt k' (List.mem_of_getElem? hk)), if_neg (R.notTake hk), if_pos (List.mem_of_getElem? hk)]
end
end Mine
end
section
namespace Mine
theorem nmA : (allNames.all fun y => Txt.lower y == smallS y) = true := by decide +kernel
theorem nmB : (allNames.all fun y => Txt.lower (hd0 y) == headS (smallS y)) = true := by decide +kernel
theorem nmC : (allNames.all fun y => (y != Str.ofString "*") == !(smallS y == Str.ofString "*")) = true := by decide +kernel
theorem nmD : (allNames.all fun y => (headS (smallS y)).cps.toList == (smallS y).cps.toList.takeWhile (· != 47)) = true := by decide +kernel
theorem nm_lower {y : Str} (h : y ∈ allNames) : Txt.lower y = smallS y := by simpa using List.all_eq_true.mp nmA y h
theorem nm_hd {y : Str} (h : y ∈ allNames) : Txt.lower (hd0 y) = headS (smallS y) := by simpa using List.all_eq_true.mp nmB y h
theorem nm_star {y : Str} (h : y ∈ allNames) : (y != Str.ofString "*") = !(smallS y == Str.ofString "*") := by simpa using List.all_eq_true.mp nmC y h
theorem nm_headL {y : Str} (h : y ∈ allNames) : (headS (smallS y)).cps.toList = (smallS y).cps.toList.takeWhile (· != 47) := by simpa using List.all_eq_true.mp nmD y h
theorem cutS_list {y : Str} {k n : Nat} (h : k + n ≤ y.length) : (cutS y k n).cps.toList = (y.cps.toList.drop k).take n := by
  unfold cutS Txt.slice
  rw [show (0 : Int) + (k : Int) = ((k : Nat) : Int) from Int.zero_add _, show ((k : Nat) : Int) + (n : Int) = ((k + n : Nat) : Int) by push_cast; rfl]
  split
  · rename_i hc
    rw [PySem.StrLaws.strSliceIndices_plain (Nat.le_add_right k n) h] at hc
    have hc2 : k + n - k = y.length := by simpa using hc
    have hn : n = y.length := by omega
    have hk : k = 0 := by omega
    rw [hk, List.drop_zero, List.take_of_length_le (by rw [hn]; simp [Str.length])]
  · rw [PySem.StrLaws.sliced_plain y (Nat.le_add_right k n) h]
    simp
noncomputable def Inf (a b : List Nat) : Prop := ∃ i, i + a.length ≤ b.length ∧ (b.drop i).take a.length = a
theorem Inf.infix {a b : List Nat} (h : Inf a b) : a <:+: b := by
  refine hide ?_
  intro Pz kz
  obtain ⟨i, _, e⟩ := h
  refine kz ?_
  clear kz Pz
  refine ⟨b.take i, (b.drop i).drop a.length, ?_⟩
  conv => lhs; rw [List.append_assoc]; arg 2; arg 1; rw [← e]
  rw [List.take_append_drop, List.take_append_drop]
theorem Inf.of {a b : List Nat} (h : a <:+: b) : Inf a b := by
  refine hide ?_
  intro Pz kz
  obtain ⟨s, t, e⟩ := h
  refine kz ?_
  clear kz Pz
  refine ⟨s.length, by rw [← e]; simp, ?_⟩
  rw [← e, List.append_assoc, List.drop_left' rfl, List.take_left' rfl]
theorem stands_iff {p h : Str} : standsIn p h = true ↔ p.cps.toList <:+: h.cps.toList := by
  have key : standsIn p h = true ↔ Inf p.cps.toList h.cps.toList := by
    unfold standsIn Inf
    rw [List.any_eq_true]
    constructor
    · intro hz0
      refine hide ?_
      intro Pz kz
      obtain ⟨k, hk, e⟩ := hz0
      refine kz ?_
      clear kz Pz
      have hk := List.mem_range.mp hk
      have hl : k + p.length ≤ h.length := by omega
      have e2 : cutS h k p.length = p := by simpa using e
      refine ⟨k, by simpa [Str.length] using hl, ?_⟩
      have := cutS_list hl
      rw [e2] at this
      simpa [Str.length] using this.symm
    · intro hz0
      refine hide ?_
      intro Pz kz
      obtain ⟨k, hk, e⟩ := hz0
      refine kz ?_
      clear kz Pz
      have hl : k + p.length ≤ h.length := by simpa [Str.length] using hk
      refine ⟨k, List.mem_range.mpr (by omega), ?_⟩
      have := cutS_list hl
      have e3 : (cutS h k p.length).cps.toList = p.cps.toList := by rw [this]; simpa [Str.length] using e
      have e4 : cutS h k p.length = p := PySem.Str.ext' (Array.toList_inj.mp e3)
      rw [e4]; simp
  rw [key]
  exact ⟨Inf.infix, Inf.of⟩
theorem found_stands (p h : Str) : (!(Builtin.Str.occurrences h p 0 h.length 1).isEmpty) = standsIn p h := by
  have key : (!(Builtin.Str.occurrences h p 0 h.length 1).isEmpty) = true ↔ standsIn p h = true := by
    rw [PySem.StrLaws.found_iff, stands_iff]
    constructor
    · intro hz0
      refine hide ?_
      intro Pz kz
      obtain ⟨i, hi, e⟩ := hz0
      refine kz ?_
      clear kz Pz
      rw [PySem.StrLaws.subAt_eq] at e
      exact Inf.infix ⟨i, by simpa [Str.length] using hi, by simpa [Str.length] using e⟩
    · intro hh
      refine hide ?_
      intro Pz kz
      obtain ⟨i, hi, e⟩ := Inf.of hh
      refine kz ?_
      clear kz Pz
      refine ⟨i, by simpa [Str.length] using hi, ?_⟩
      rw [PySem.StrLaws.subAt_eq]
      simpa [Str.length] using e
  cases h1 : (!(Builtin.Str.occurrences h p 0 h.length 1).isEmpty) <;> cases h2 : standsIn p h <;> simp_all
theorem noSlash_iff (x : Str) : noSlash x = true ↔ 47 ∉ x.cps.toList := by
  have h := PySem.StrLaws.found_one x 47
  have e : (⟨#[47]⟩ : Str) = Str.ofString "/" := by decide +kernel
  rw [e] at h
  unfold noSlash
  cases h1 : (Builtin.Str.occurrences x (Str.ofString "/") 0 x.length 1).isEmpty
  · rw [h1] at h; simp at h; simp [h]
  · rw [h1] at h; simp at h; simp [h]
theorem app_table {x y : Str} (hx : x ∈ allNames) (hy : y ∈ allNames) : appOne x y = (!(smallS x == Str.ofString "*") && standsIn (smallS x) (headS (smallS y))) := by
  unfold appOne
  rw [nm_star hx, found_stands, nm_lower hx, nm_hd hy]
theorem app_star (y : Str) : appOne (Str.ofString "*") y = false := by
  unfold appOne
  have : (Str.ofString "*" != Str.ofString "*") = false := by simp
  rw [this]; rfl
theorem ua_app (x y : Str) (d : Int) : (uaS x d).any (appOne · y) = appOne x y := by
  unfold uaS
  split
  · simp [app_star]
  · split
    · simp [app_star]
    · simp
theorem ua_none (x : Str) (d : Nat) (hd : d < 3) : (uaS x (d : Int)).any (· == Str.ofString "*") = (decide (0 < d) || x == Str.ofString "*") := by
  have : d = 0 ∨ d = 1 ∨ d = 2 := by omega
  rcases this with rfl | rfl | rfl
  · simp [uaS]
  · simp [uaS]
  · simp [uaS]
/-- the names' facts, in lists -/
structure NmOk (xs : List Str) : Prop where
  l6 : xs.length = 6
  nm : ∀ x ∈ xs, x ∈ allNames
noncomputable abbrev pL (xs : List Str) (i : Nat) : List Nat := (partN xs i).cps.toList
noncomputable abbrev hL (xs : List Str) (i : Nat) : List Nat := (pL xs i).takeWhile (· != 47)
section
variable {xs : List Str}
theorem part_inj {i j : Nat} (h : pL xs i = pL xs j) : partN xs i = partN xs j := PySem.Str.ext' (Array.toList_inj.mp h)
theorem tab_iff (ok : NmOk xs) {i j : Nat} (hj : j < 6) : tableF xs i j = true ↔ partN xs i ≠ Str.ofString "*" ∧ pL xs i <:+: hL xs j := by
  unfold tableF
  rw [Bool.and_eq_true, stands_iff]
  have e := nm_headL (nameN_mem ok.l6 ok.nm hj)
  have e2 : (headS (partN xs j)).cps.toList = hL xs j := e
  rw [e2]
  simp
theorem hl_sub (i : Nat) : hL xs i <:+: pL xs i := (List.takeWhile_prefix _).isInfix
theorem tab_trans (ok : NmOk xs) {i j k : Nat} (hj : j < 6) (hk : k < 6) (h1 : tableF xs i j = true) (h2 : tableF xs j k = true) : tableF xs i k = true := by
  rw [tab_iff ok hj] at h1
  rw [tab_iff ok hk] at h2 ⊢
  exact ⟨h1.1, (h1.2.trans (hl_sub j)).trans h2.2⟩
theorem tab_len (ok : NmOk xs) {i j : Nat} (hj : j < 6) (h : tableF xs i j = true) : (pL xs i).length ≤ (pL xs j).length :=
  (((tab_iff ok hj).mp h).2.trans (hl_sub j)).length_le
theorem tw47_mem : ∀ l : List Nat, 47 ∉ l.takeWhile (· != 47)
  | [], h => by cases h
  | a :: r, h => by
    rw [List.takeWhile_cons] at h
    split at h
    · rename_i ha
      rcases List.mem_cons.mp h with e | h
      · rw [← e] at ha; simp at ha
      · exact tw47_mem r h
    · cases h
theorem tw47_self : ∀ l : List Nat, 47 ∉ l → l.takeWhile (· != 47) = l
  | [], _ => rfl
  | a :: r, h => by
    have h1 : a ≠ 47 := fun e => h (e ▸ List.mem_cons_self ..)
    rw [List.takeWhile_cons, if_pos (by simpa using h1), tw47_self r fun hm => h (List.mem_cons_of_mem _ hm)]
theorem no47 {l : List Nat} (h : l.takeWhile (· != 47) = l) : 47 ∉ l := fun hm => by
  rw [← h] at hm
  exact tw47_mem l hm
theorem tab_eq (ok : NmOk xs) {i j : Nat} (hj : j < 6) (h : tableF xs i j = true) (he : (pL xs i).length = (pL xs j).length) : partN xs i = partN xs j ∧ partN xs j ≠ Str.ofString "*" ∧ 47 ∉ pL xs j := by
  refine hide ?_
  intro Pz kz
  obtain ⟨h1, h2⟩ := (tab_iff ok hj).mp h
  refine kz ?_
  clear kz Pz
  have e1 : pL xs i = hL xs j := h2.eq_of_length (Nat.le_antisymm h2.length_le (by rw [he]; exact (hl_sub j).length_le))
  have e2 : hL xs j = pL xs j := (hl_sub j).eq_of_length (by rw [← e1]; exact he)
  have e3 := part_inj (e1.trans e2)
  exact ⟨e3, e3 ▸ h1, no47 e2⟩
theorem same_str (a b : Str) : PySem.Spec.same (.str a) (.str b) = (a == b) := rfl
theorem count_str (p : Str) : ∀ ps : List Str, PySem.Spec.countIn (PyData.str p) (ps.map PyData.str) = (ps.count p : Int)
  | [] => rfl
  | a :: r => by
    show (if PySem.Spec.same (PyData.str a) (PyData.str p) then (1 : Int) else 0) + PySem.Spec.countIn (PyData.str p) (r.map PyData.str) = _
    rw [same_str, count_str p r, List.count_cons]
    split <;> push_cast <;> omega
theorem count_two {l : List Str} {a : Str} {j : Nat} (hj : l[j]? = some a) : 1 < l.count a ↔ ∃ i, i ≠ j ∧ l[i]? = some a := by
  have hl := (List.getElem?_eq_some_iff.mp hj).1
  have e : l = l.take j ++ a :: l.drop (j + 1) := by
    have h9 : l.drop j = a :: l.drop (j + 1) := by
      rw [List.drop_eq_getElem_cons hl]
      rw [(List.getElem?_eq_some_iff.mp hj).2]
    rw [← h9, List.take_append_drop]
  have hc : l.count a = (l.take j).count a + ((l.drop (j + 1)).count a + 1) := by
    conv => lhs; rw [e]
    rw [List.count_append, List.count_cons_self]
  constructor
  · intro h
    by_cases h1 : a ∈ l.take j
    · refine hide ?_
      intro Pz kz
      obtain ⟨i, hi⟩ := List.getElem?_of_mem h1
      refine kz ?_
      clear kz Pz
      rw [List.getElem?_take] at hi
      split at hi
      · exact ⟨i, by omega, hi⟩
      · cases hi
    · have h2 : a ∈ l.drop (j + 1) := List.count_pos_iff.mp (by rw [List.count_eq_zero.mpr h1] at hc; omega)
      refine hide ?_
      intro Pz kz
      obtain ⟨i, hi⟩ := List.getElem?_of_mem h2
      refine kz ?_
      clear kz Pz
      rw [List.getElem?_drop] at hi
      exact ⟨j + 1 + i, by omega, hi⟩
  · intro hz0
    refine hide ?_
    intro Pz kz
    obtain ⟨i, hne, hi⟩ := hz0
    refine kz ?_
    clear kz Pz
    by_cases h1 : i < j
    · have : a ∈ l.take j := List.mem_of_getElem? (i := i) (by rw [List.getElem?_take, if_pos h1]; exact hi)
      have := List.count_pos_iff.mpr this
      omega
    · have : a ∈ l.drop (j + 1) := List.mem_of_getElem? (i := i - (j + 1)) (by rw [List.getElem?_drop, show j + 1 + (i - (j + 1)) = i by omega]; exact hi)
      have := List.count_pos_iff.mpr this
      omega
theorem tw_iff (ok : NmOk xs) {j : Nat} : j ∈ twinsOf xs ↔ j < 6 ∧ partN xs j ≠ Str.ofString "*" ∧ 47 ∉ pL xs j ∧ ∃ i, i < 6 ∧ i ≠ j ∧ partN xs i = partN xs j := by
  unfold twinsOf
  rw [List.mem_filter, List.mem_range]
  refine and_congr_right fun hj => ?_
  unfold isTwin
  rw [Bool.and_eq_true, Bool.and_eq_true, noSlash_iff, and_assoc]
  have e1 : ((partN xs j != Str.ofString "*") = true) ↔ partN xs j ≠ Str.ofString "*" := by simp
  have at_ : ∀ i, (xs.map smallS)[i]? = some (partN xs j) ↔ i < 6 ∧ partN xs i = partN xs j := by
    intro i
    by_cases hi : i < 6
    · rw [List.getElem?_map, getD_of (xs := xs) (i := i) (by rw [ok.l6]; exact hi)]
      simp [partN, hi]
    · rw [List.getElem?_eq_none (by simp [ok.l6]; omega)]
      simp [hi]
  have e2 : (decide (1 < cntN xs j) = true) ↔ ∃ i, i < 6 ∧ i ≠ j ∧ partN xs i = partN xs j := by
    unfold cntN
    rw [count_str, decide_eq_true_eq]
    have h9 := count_two (l := xs.map smallS) (a := partN xs j) (j := j) ((at_ j).mpr ⟨hj, rfl⟩)
    constructor
    · intro h
      refine hide ?_
      intro Pz kz
      obtain ⟨i, hne, hi⟩ := h9.mp (by omega)
      obtain ⟨a, b⟩ := (at_ i).mp hi
      refine kz ?_
      clear kz Pz
      exact ⟨i, a, hne, b⟩
    · intro hz0
      refine hide ?_
      intro Pz kz
      obtain ⟨i, a, hne, b⟩ := hz0
      refine kz ?_
      clear kz Pz
      have := h9.mpr ⟨i, hne, (at_ i).mpr ⟨a, b⟩⟩
      omega
  rw [e1, e2]
theorem tw_tab (ok : NmOk xs) {i j : Nat} (hi : i < 6) (hs : partN xs j ≠ Str.ofString "*") (h47 : 47 ∉ pL xs j) (e : partN xs i = partN xs j) : tableF xs j i = true := by
  rw [tab_iff ok hi]
  refine ⟨hs, ?_⟩
  have e1 : pL xs i = pL xs j := by rw [pL, e]
  rw [hL, e1, tw47_self _ h47]
  exact List.infix_refl _
theorem sz_eq (ok : NmOk xs) {j : Nat} (hj : j < 6) : (xs.getD j (Str.ofString "")).length = (pL xs j).length := by
  have h := (nm_all _ (nameN_mem ok.l6 ok.nm hj)).2.1
  rw [← h]; simp [pL, partN, Str.length]
theorem tw_partner (ok : NmOk xs) {j : Nat} (h : j ∈ twinsOf xs) : ∃ i, i ∈ twinsOf xs ∧ i ∈ predsP (tableF xs) j ∧ j ∈ predsP (tableF xs) i := by
  refine hide ?_
  intro Pz kz
  obtain ⟨hj, h1, h2, i, hi, hne, e⟩ := (tw_iff ok).mp h
  refine kz ?_
  clear kz Pz
  have h1' : partN xs i ≠ Str.ofString "*" := e ▸ h1
  have h2' : 47 ∉ pL xs i := by rw [pL, e]; exact h2
  refine ⟨i, (tw_iff ok).mpr ⟨hi, h1', h2', j, hj, Ne.symm hne, e.symm⟩, mem_preds.mpr ⟨hi, hne, tw_tab ok hj h1' h2' e.symm⟩, mem_preds.mpr ⟨hj, Ne.symm hne, tw_tab ok hi h1 h2 e⟩⟩
theorem okB_iff {T0 : Nat → Nat → Bool} {tw : List Nat} {j : Nat} : okB T0 tw j = true ↔ j ∉ tw ∧ ∀ i ∈ tw, T0 i j = false := by
  unfold okB
  simp only [Bool.and_eq_true, Bool.not_eq_true', List.contains_eq_mem, decide_eq_false_iff_not, List.isEmpty_iff, List.filter_eq_nil_iff, Bool.not_eq_true]
theorem tok (ok : NmOk xs) : TOk (tableF xs) (twinsOf xs) (fun j => (xs.getD j (Str.ofString "")).length) where
  twlt := fun i hi => ((tw_iff ok).mp hi).1
  pre := fun j hj ho i hi => by
    refine hide ?_
    intro Pz kz
    obtain ⟨hi6, hne, ht⟩ := mem_preds.mp hi
    obtain ⟨o1, o2⟩ := okB_iff.mp ho
    refine kz ?_
    clear kz Pz
    have hit : i ∉ twinsOf xs := fun hm => by have := o2 i hm; rw [ht] at this; cases this
    refine ⟨okB_iff.mpr ⟨hit, fun k hk => ?_⟩, ?_⟩
    · cases hki : tableF xs k i with
      | false => rfl
      | true =>
        have := tab_trans ok hi6 hj hki ht
        rw [o2 k hk] at this; cases this
    · rw [sz_eq ok hi6, sz_eq ok hj]
      refine Nat.lt_of_le_of_ne (tab_len ok hj ht) fun he => ?_
      refine hide ?_
      intro Pz kz
      obtain ⟨e1, e2, e3⟩ := tab_eq ok hj ht he
      refine kz ?_
      clear kz Pz
      exact o1 ((tw_iff ok).mpr ⟨hj, e2, e3, i, hi6, hne, e1⟩)
  part := fun j hj => (by obtain ⟨i, h1, h2, _⟩ := tw_partner ok hj; exact ⟨i, h2, h1⟩)
  sz3 := fun j hj => nm_len (nameN_mem ok.l6 ok.nm hj)
theorem before {fin a b : List Nat} {x y : Nat} (hnd : fin.Nodup) (e : fin = a ++ x :: b) (hy : y ∈ a) : fin.idxOf y < fin.idxOf x := by
  subst e
  have h1 : x ∉ a := fun hm => (List.nodup_append.mp hnd).2.2 _ hm _ (List.mem_cons_self ..) rfl
  rw [List.idxOf_append, if_pos hy, List.idxOf_append, if_neg h1, List.idxOf_cons_self]
  have := List.idxOf_lt_length_iff.mpr hy
  omega
theorem noRing_tw (ok : NmOk xs) (h : NoRing (suP (tableF xs)) 6) : twinsOf xs = [] := by
  refine List.eq_nil_iff_forall_not_mem.mpr fun j hj => ?_
  refine hide ?_
  intro Pz kz
  obtain ⟨i, hi, h1, h2⟩ := tw_partner ok hj
  obtain ⟨fin, hall, hnd, hord⟩ := h
  have hj6 := ((tw_iff ok).mp hj).1
  have hi6 := ((tw_iff ok).mp hi).1
  obtain ⟨a, b, e⟩ := List.append_of_mem (hall j hj6)
  obtain ⟨a', b', e'⟩ := List.append_of_mem (hall i hi6)
  refine kz ?_
  clear kz Pz
  have l1 := before hnd e (hord a j b e i ((su_preds hj6).mpr ⟨hi6, h2⟩))
  have l2 := before hnd e' (hord a' i b' e' j ((su_preds hi6).mpr ⟨hj6, h1⟩))
  omega
theorem ring_tw (ok : NmOk xs) {ring : List Nat} (h : IsRing (suP (tableF xs)) 6 ring) : twinsOf xs ≠ [] ∧ RingOk xs (twinsOf xs) ring := by
  refine hide ?_
  intro Pz kz
  obtain ⟨body, c, rfl, hhd, hnd, hlt, hch⟩ := h
  obtain ⟨tl, rfl⟩ : ∃ tl, body = c :: tl := by
    cases body with
    | nil => cases hhd
    | cons x tl => cases hhd; exact ⟨tl, rfl⟩
  have hc6 : c < 6 := hlt c (List.mem_cons_self ..)
  have mem6 : ∀ x ∈ (c :: tl) ++ [c], x < 6 := fun x hx => by
    rcases List.mem_append.mp hx with hx | hx
    · exact hlt x hx
    · rw [List.mem_singleton.mp hx]; exact hc6
  have step : ∀ (k x y : Nat), ((c :: tl) ++ [c])[k]? = some x → ((c :: tl) ++ [c])[k + 1]? = some y → y < 6 ∧ x ≠ y ∧ tableF xs x y = true := fun k x y hx hy => mem_suP.mp (hch k x y hx hy)
  have le : ∀ (d k x y : Nat), ((c :: tl) ++ [c])[k]? = some x → ((c :: tl) ++ [c])[k + d]? = some y → (pL xs x).length ≤ (pL xs y).length := by
    intro d
    induction d with
    | zero => intro k x y hx hy; rw [Nat.add_zero] at hy; rw [hx] at hy; cases hy; exact Nat.le_refl _
    | succ d ih =>
      intro k x y hx hy
      have hl := (List.getElem?_eq_some_iff.mp hy).1
      have hz : ((c :: tl) ++ [c])[k + d]? = some ((c :: tl) ++ [c])[k + d] := List.getElem?_eq_getElem (by omega)
      refine hide ?_
      intro Pz kz
      obtain ⟨a1, _, a3⟩ := step (k + d) _ y hz (by rw [show k + d + 1 = k + (d + 1) by omega]; exact hy)
      refine kz ?_
      clear kz Pz
      exact Nat.le_trans (ih k x _ hx hz) (tab_len ok a1 a3)
  have h0 : ((c :: tl) ++ [c])[0]? = some c := rfl
  have hlast : ((c :: tl) ++ [c])[(c :: tl).length]? = some c := by rw [List.getElem?_append_right (Nat.le_refl _)]; simp
  have eqs : ∀ (k x : Nat), ((c :: tl) ++ [c])[k]? = some x → (pL xs x).length = (pL xs c).length := by
    intro k x hx
    have hl := (List.getElem?_eq_some_iff.mp hx).1
    rw [List.length_append, List.length_singleton] at hl
    refine Nat.le_antisymm ?_ ?_
    · exact le ((c :: tl).length - k) k x c hx (by rw [show k + ((c :: tl).length - k) = (c :: tl).length by omega]; exact hlast)
    · exact le k 0 c x h0 (by rw [Nat.zero_add]; exact hx)
  have same : ∀ (k x : Nat), ((c :: tl) ++ [c])[k]? = some x → partN xs x = partN xs c := by
    intro k
    induction k with
    | zero => intro x hx; rw [h0] at hx; cases hx; rfl
    | succ k ih =>
      intro x hx
      have hl := (List.getElem?_eq_some_iff.mp hx).1
      have hz : ((c :: tl) ++ [c])[k]? = some ((c :: tl) ++ [c])[k] := List.getElem?_eq_getElem (by omega)
      refine hide ?_
      intro Pz kz
      obtain ⟨a1, _, a3⟩ := step k _ x hz hx
      refine kz ?_
      clear kz Pz
      rw [← (tab_eq ok a1 a3 ((eqs k _ hz).trans (eqs (k + 1) x hx).symm)).1]
      exact ih _ hz
  have htl : tl ≠ [] := by
    rintro rfl
    exact (step 0 c c rfl rfl).2.1 rfl
  obtain ⟨y, r, rfl⟩ : ∃ y r, tl = y :: r := by
    cases tl with
    | nil => exact absurd rfl htl
    | cons y r => exact ⟨y, r, rfl⟩
  obtain ⟨hy6, hcy, hT⟩ := step 0 c y rfl rfl
  have hyc := same 1 y rfl
  obtain ⟨e1, e2, e3⟩ := tab_eq ok hy6 hT (eqs 1 y rfl).symm
  refine kz ?_
  clear kz Pz
  have hct : c ∈ twinsOf xs := (tw_iff ok).mpr ⟨hc6, hyc ▸ e2, by rw [pL, ← hyc]; exact e3, y, hy6, Ne.symm hcy, hyc⟩
  have hbl : (c :: y :: r).length ≤ 6 := nodup_len 6 _ hnd hlt
  refine ⟨fun e => (by rw [e] at hct; cases hct), ⟨?_, mem6, ?_, ?_, ?_, ?_⟩⟩
  · simp at hbl ⊢; omega
  · have e9 : ((c :: y :: r) ++ [c]).length - 1 = (c :: y :: r).length := by simp
    rw [e9, hlast]; rfl
  · intro j hj
    rw [h0] at hj; cases hj; exact hct
  · intro j hj k hk
    rw [h0] at hk; cases hk
    refine hide ?_
    intro Pz kz
    obtain ⟨i, hi⟩ := List.getElem?_of_mem hj
    refine kz ?_
    clear kz Pz
    exact same i j hi
  · show ((y :: r) ++ [c]).Nodup
    refine hide ?_
    intro Pz kz
    obtain ⟨n1, n2⟩ := List.nodup_cons.mp hnd
    refine kz ?_
    clear kz Pz
    refine List.nodup_append.mpr ⟨n2, by simp, fun a ha b hb e => ?_⟩
    rw [List.mem_singleton.mp hb] at e
    exact n1 (e ▸ ha)
end
end Mine
end
section
namespace Mine
noncomputable def lawB : List Stmt := match PySem.Challenge.pw_nb0264_01.main.body.getLast? with
  | some (.FunctionDef (body := b) ..) => b
  | _ => []
noncomputable def lawSc : Scope := match PySem.Challenge.pw_nb0264_01.main.body.getLast? with
  | some (.FunctionDef (scope := b) ..) => b
  | _ => ⟨.function, [], false, false, []⟩
noncomputable abbrev lawEnv (sc : Scope) (L a : Addr) (ccd : Value) : Env := envOfC (Str.ofString "law") sc L a ccd
noncomputable abbrev lawA (gd : Option (List Code)) (sc : Scope) (L a : Addr) (ccd : Value) : Around := ktrTop 302 7 gd (Str.ofString "law") sc L a ccd (cellsFrom (L + 1) sc.names []) []
end Mine
end
section
namespace Mine
theorem SubL.mk' {B nw : List (Addr × Obj)} (h : ∀ q ∈ B, q ∈ nw) : SubL B nw := ⟨h⟩
theorem led_ex (l : List (Addr × Obj)) : ∃ l', l' = l := ⟨l, rfl⟩
theorem turn_nil {h₀ h₀' h : Heap} {L : Addr} {m : Str → Option Value} (T : KtsTurn [] h₀ h₀') (F : Fr h₀' L h m) : Fr h₀ L h m := ⟨F.ns, fun b o e => F.keep b o (T.other b o e (fun h => nomatch h)), T.size ▸ F.above⟩
theorem news_nil {h₀ h₀' h : Heap} {L : Addr} {led : List (Addr × Obj)} (T : KtsTurn [] h₀ h₀') (N : News h₀' L h led) : News h₀ L h led := fun p hp => by
  refine ⟨(N p hp).1, (N p hp).2.1, ?_⟩
  cases e : h₀.get? p.1 with
  | none => rfl
  | some o => have h1 := T.other _ _ e (fun h => nomatch h); rw [(N p hp).2.2] at h1; cases h1
theorem SAt.addr_mem {w : World} {led : List (Addr × Obj)} {S dS D : Addr} {nds : List Nd} {r p f : Value} (h : SAt w led S dS D nds r p f) {x : Addr} (hx : x ∈ adrs S dS D nds) : ∃ o, (x, o) ∈ led := by
  obtain ⟨⟨t1, t2, t3, t4, oD, hm, _⟩, _, _⟩ := h
  simp only [adrs, List.mem_cons] at hx
  rcases hx with rfl | rfl | rfl | hx
  · exact ⟨_, hm _ (.head _)⟩
  · exact ⟨_, hm _ (.tail _ (.head _))⟩
  · exact ⟨_, hm _ (.tail _ (.tail _ (.head _)))⟩
  · obtain ⟨nd, hnd, hx⟩ := List.mem_flatMap.mp hx
    have k : ∀ q ∈ ndL nd, q ∈ led := fun q hq => hm q (.tail _ (.tail _ (.tail _ (List.mem_flatMap.mpr ⟨nd, hnd, hq⟩))))
    simp only [ndA, List.mem_cons, List.not_mem_nil, or_false] at hx
    rcases hx with rfl | rfl | rfl
    · exact ⟨_, k _ (.head _)⟩
    · exact ⟨_, k _ (.tail _ (.head _))⟩
    · exact ⟨_, k _ (.tail _ (.tail _ (.head _)))⟩
theorem canLay_ints : ∀ ns : List Int, PyData.canLayAll0 (ns.map PyData.int) = true := ke_canLayAll0
theorem shaped_tup_ints (ns : List Int) : (PyData.tuple (ns.map PyData.int)).canLay0 = true ∧ (PyData.tuple (ns.map PyData.int)).depth ≤ 1 :=
  shaped_tuple (n := 0) (fun d hd => by obtain ⟨k, _, rfl⟩ := List.mem_map.mp hd; rfl) (fun d hd => by obtain ⟨k, _, rfl⟩ := List.mem_map.mp hd; exact Nat.le_refl _) (by decide)
theorem ne_tup_nil {prog : Program} {w : World} {A : Around} {E : Value → Shared → Prop} {s : Shared} {h₀ : Heap} {L : Addr} {led : List (Addr × Obj)} {Q : Value → Shared → Prop} {G Z : Addr} {gv : List Value} {k k2 : Nat} {ns : List Int}
    (N : News h₀ L s.heap led) (hG : (G, tupOf gv.toArray k) ∈ led) (hI : IntsAre gv ns) (hZ : (Z, tupOf #[] k2) ∈ led) (hu : A.units + 64 < cLine) (h : Q (.bool (!ns.isEmpty)) s) :
    wpAny (model prog w) A (compareOp .NotEq (.ref G) (.ref Z)) Q E s := by
  refine ne_dataH (.tuple (N _ hG).1 rfl rfl (by rw [List.toList_toArray]; exact readsAll_ints hI)) (.tuple (N _ hZ).1 rfl rfl .nil) (shaped_of (shaped_tup_ints ns) (by decide)) (by decide) hu ?_
  cases ns with
  | nil => exact h
  | cons n r => exact h
theorem RowsAt.mono {f : Nat → Nat → Bool} {led led' : List (Addr × Obj)} {ys : List Value} {n : Nat} (h : RowsAt f led ys n) (hs : ∀ q ∈ led, q ∈ led') : RowsAt f led' ys n :=
  ⟨h.1, fun k hk => (by obtain ⟨r, a, b⟩ := h.2 k hk; exact ⟨r, a, hs _ b⟩)⟩
theorem SeenAt.mono' {grp : Nat → List Nat} {led led' : List (Addr × Obj)} {ys : List Value} {n : Nat} (h : SeenAt grp led ys n) (hs : ∀ q ∈ led, q ∈ led') : SeenAt grp led' ys n := h.mono fun q hq _ => hs q hq
noncomputable def tupSeen (g : List Nat) : PyData := .tuple [.bool (!g.isEmpty), .tuple ((g.map Int.ofNat).map PyData.int)]
noncomputable def dataSeen (grp : Nat → List Nat) : PyData := .list ((List.range 5).map fun k => tupSeen (grp k))
theorem tupSeen_ok (g : List Nat) : (tupSeen g).canLay0 = true ∧ (tupSeen g).depth ≤ 2 := by
  refine shaped_tuple (n := 1) (fun d hd => ?_) (fun d hd => ?_) (by decide)
  · rcases List.mem_cons.mp hd with rfl | hd
    · rfl
    · rw [List.mem_singleton.mp hd]; exact (shaped_tup_ints _).1
  · rcases List.mem_cons.mp hd with rfl | hd
    · exact Nat.zero_le _
    · rw [List.mem_singleton.mp hd]; exact (shaped_tup_ints _).2
theorem dataSeen_ok (grp : Nat → List Nat) : SeqAt.shaped (dataSeen grp) = true := by
  refine shaped_of (n := 3) (shaped_list (n := 2) (fun d hd => ?_) (fun d hd => ?_) (by decide)) (by decide)
  · obtain ⟨k, _, rfl⟩ := List.mem_map.mp hd; exact (tupSeen_ok _).1
  · obtain ⟨k, _, rfl⟩ := List.mem_map.mp hd; exact (tupSeen_ok _).2
theorem reads_seen {h₀ h : Heap} {L : Addr} {led : List (Addr × Obj)} {grp : Nat → List Nat} {ys : List Value} {Y : Addr} {o : Obj} {e : Nat} (N : News h₀ L h led) (hs : SeenAt grp led ys 5) (hY : (Y, o) ∈ led) (ho : o = listOf ys.toArray e) : ∃ as, Reads h (.ref Y) (dataSeen grp) as := by
  subst ho
  obtain ⟨as, hr⟩ := readsAll_of (h := h) (vs := ys) (ds := (List.range 5).map fun k => tupSeen (grp k)) (by rw [hs.1]; simp) (fun i v d hv hd => by
    have hi : i < 5 := by rw [← hs.1]; exact (List.getElem?_eq_some_iff.mp hv).1
    obtain ⟨T, G, gv, a1, a2, a3, a4⟩ := hs.2 i hi
    rw [a1] at hv
    cases hv
    rw [List.getElem?_map, List.getElem?_range hi] at hd
    cases hd
    exact ⟨_, .tuple (N _ a2).1 rfl rfl (.cons (.bool _) (.cons (.tuple (N _ a3).1 rfl rfl (by rw [List.toList_toArray]; exact readsAll_ints a4)) .nil))⟩)
  exact ⟨_, .list (N _ hY).1 rfl rfl (by rw [List.toList_toArray]; exact hr)⟩
end Mine
end
section
namespace Mine
open PySem.Spec PySem.Calls
theorem compTurn_two0 (elt t1 i1 t2 i2 c : Expr) (scope : Scope) (pos : Pos) (it acc : Value) (env : Env) :
    compTurn (.ListComp elt [⟨t1, i1, [], 0⟩, ⟨t2, i2, [c], 0⟩] scope pos) 0 it acc env = (standAt i1.pos >>= fun _ => pyNext it >>= fun r => match r with
      | none => pure (.done .next)
      | some v => letOwnedTupleGo t1 it v >>= fun _ => assign t1 env v >>= fun _ => (do
          let x ← eval i2 env
          standAt i2.pos
          let x ← foldedSetIterable i2 env x
          let it2 ← holding [x] (pyIter x)
          let _ ← runOwn (.compStart (.ListComp elt [⟨t1, i1, [], 0⟩, ⟨t2, i2, [c], 0⟩] scope pos) 1 it2 acc env) env
          again (.compLoop (.ListComp elt [⟨t1, i1, [], 0⟩, ⟨t2, i2, [c], 0⟩] scope pos) 0 it acc env))) := by rfl
theorem compTurn_two1 (elt t1 i1 t2 i2 c : Expr) (scope : Scope) (pos : Pos) (it acc : Value) (env : Env) :
    compTurn (.ListComp elt [⟨t1, i1, [], 0⟩, ⟨t2, i2, [c], 0⟩] scope pos) 1 it acc env = (standAt i2.pos >>= fun _ => pyNext it >>= fun r => match r with
      | none => pure (.done .next)
      | some v => letOwnedTupleGo t2 it v >>= fun _ => assign t2 env v >>= fun _ =>
          (forIn [c] true fun c r => if r = true then do let ok ← isTrue c env (eval c env); pure (ForInStep.yield ok) else pure (ForInStep.yield r)) >>= fun ok =>
          if ok = true then ((do let _ ← call (.builtin "list.append") [acc, ← eval elt env]) >>= fun _ => again (.compLoop (.ListComp elt [⟨t1, i1, [], 0⟩, ⟨t2, i2, [c], 0⟩] scope pos) 1 it acc env))
          else again (.compLoop (.ListComp elt [⟨t1, i1, [], 0⟩, ⟨t2, i2, [c], 0⟩] scope pos) 1 it acc env)) := by rfl
section
variable {prog : Program} {w : World} {A : Around} {R : Result → Shared → Prop} {E : Value → Shared → Prop} {s : Shared} {h₀ : Heap} {L : Addr} {m : Str → Option Value} {env : Env}
theorem compStart_two1 {elt t1 i1 t2 i2 c : Expr} {scope : Scope} {pos : Pos} {it acc : Value}
    (h0 : codeAny (model prog w) A (.compLoop (.ListComp elt [⟨t1, i1, [], 0⟩, ⟨t2, i2, [c], 0⟩] scope pos) 1 it acc env) R s)
    (h : wpAny (model prog w) A (pyIter it) (fun it' s' => codeAny (model prog w) A (.compLoop (.ListComp elt [⟨t1, i1, [], 0⟩, ⟨t2, i2, [c], 0⟩] scope pos) 1 it' acc env) R s')
      (notedBy (model prog w) A env fun x s' => R (.error x) s') s) :
    codeAny (model prog w) A (.compStart (.ListComp elt [⟨t1, i1, [], 0⟩, ⟨t2, i2, [c], 0⟩] scope pos) 1 it acc env) R s := by
  refine codeAny_of_tree ?_
  show wpAny _ _ ((compStart (.ListComp elt [⟨t1, i1, [], 0⟩, ⟨t2, i2, [c], 0⟩] scope pos) 1 it acc env).onRaise (fun x => do noteFrame x env; standAt theWindowsPlace)) _ _ s
  refine wpAny_notedAt ?_
  unfold compStart
  show wpAny _ _ (ask >>= _) _ _ s
  refine wpAny_bind (wpAny_askSetting (wpAny_ite ?_))
  split
  · first
      | exact wpAny_bind (wpAny_pure (wpAny_pure (And.intro rfl h0)))
      | exact wpAny_pure (And.intro rfl h0)
  · first
      | exact wpAny_bind (wpAny_rule (wpAny_bind (wpAny_standAt (wpAny_bind (wpAny_mono h (fun it' s' h' => wpAny_pure (And.intro rfl h')) fun _ _ x => x)))))
      | (refine wpAny_bind (wpAny_rule ?_); show wpAny _ _ (standAt _ >>= _) _ _ s; exact wpAny_bind (wpAny_standAt (wpAny_bind (wpAny_mono h (fun it' s' h' => wpAny_pure (And.intro rfl h')) fun _ _ x => x))))
inductive C2I (s : Shared) (h₀ : Heap) (L : Addr) (m : Str → Option Value) (I row C : Addr) (n : Nat) (led : List (Addr × Obj)) (k : Nat) (s' : Shared) : Prop
  | mk (h' : Heap) (tk i : Nat) (m' : Str → Option Value) (e : s' = { s with heap := h', toks := tk }) (hi : i ≤ n) (hk : k = n + 1 - i) (st : h'.IsListIter I row i) (F : Fr h₀ L h' m) (hn : h'.Ns C m') (N : News h₀ L h' led)
/-- the test of the inner loop says no, whatever comes -/
noncomputable def TestNo (prog : Program) (w : World) (A : Around) (h₀ : Heap) (L : Addr) (m : Str → Option Value) (env : Env) (c : Expr) (y : Str) (scope : Scope) (cl : List (Str × Addr)) (its : Array Value) : Prop :=
  ∀ (v : Value) (j : Nat) (led : List (Addr × Obj)) (s : Shared) (I2 : Addr) (oI2 : Obj) (C : Addr) (oC : Obj) (m₂ : Str → Option Value) (E' : Value → Shared → Prop), its[j]? = some v → LCg.NsObj oC m₂ → m₂ y = some v → Fr h₀ L s.heap m → News h₀ L s.heap ((I2, oI2) :: (C, oC) :: led) →
    wpAny (model prog w) A (isTrue c (compEnvC scope cl C env) (eval c (compEnvC scope cl C env))) (fun ok s' => ok = false ∧ ∃ h' tk', s' = { s with heap := h', toks := tk' } ∧ Fr h₀ L h' m ∧ News h₀ L h' ((I2, oI2) :: (C, oC) :: led)) E' s
inductive TwoSrc (prog : Program) (w : World) (A : Around) (h₀ : Heap) (L : Addr) (m : Str → Option Value) (env : Env) (c : Expr) (y : Str) (scope : Scope) (cl : List (Str × Addr)) (Q : Value → Shared → Prop) (xv : Value) (s₁ : Shared) : Prop
  | mk (ax : Addr) (its : Array Value) (k : Nat) (news : List (Addr × Obj)) (c1 : xv = .ref ax) (c2 : A.handled = none) (c3 : Fr h₀ L s₁.heap m) (c4 : News h₀ L s₁.heap news) (c5 : (ax, ({ cls := .type "list", data := .seq its k } : Obj)) ∈ news)
    (c6 : ∀ (i : Nat) v, its[i]? = some v → ∃ r ri n, v = .ref r ∧ (r, ({ cls := .type "list", data := .seq ri n } : Obj)) ∈ news ∧ TestNo prog w A h₀ L m env c y scope cl ri)
    (c7 : ∀ D h tk, Fr h₀ L h m → News h₀ L h ((D, LCg.lst []) :: news) → (∀ p ∈ news, p.1 ≠ D) → Q (.ref D) { s₁ with heap := h, toks := tk })
theorem inner2 {elt t1 i1 i2 c : Expr} {y : Str} {py : Pos} {scope : Scope} {cl : List (Str × Addr)} {pos : Pos} {acc : Value} {I2 C row : Addr} {its : Array Value} {n : Nat} {mC : Str → Option Value} {led : List (Addr × Obj)}
    (hh : A.handled = none) (hkind : scope.kind = .function) (hy : scope.names.lookup y = some .local) (hrow : (row, ({ cls := .type "list", data := .seq its n } : Obj)) ∈ led)
    (hst : s.heap.IsListIter I2 row 0) (F : Fr h₀ L s.heap m) (hn : s.heap.Ns C mC) (N : News h₀ L s.heap led) (hIL : L ≠ I2) (hI₀ : h₀.get? I2 = none) (hCL : C ≠ L) (hC₀ : h₀.get? C = none) (hIC : I2 ≠ C) (off : ∀ p ∈ led, p.1 ≠ I2 ∧ p.1 ≠ C)
    (test : TestNo prog w A h₀ L m env c y scope cl its)
    (fin : ∀ h' tk mC', Fr h₀ L h' m → h'.Ns C mC' → News h₀ L h' led → R (.ok .next) { s with heap := h', toks := tk }) :
    codeAny (model prog w) A (.compStart (.ListComp elt [⟨t1, i1, [], 0⟩, ⟨.Name y py, i2, [c], 0⟩] scope pos) 1 (.ref I2) acc (compEnvC scope cl C env)) R s := by
  have hne : row ≠ I2 := (off _ hrow).1
  have isL : ∀ {h : Heap}, News h₀ L h led → h.IsList row its := fun N => ⟨_, (N _ hrow).1, rfl, _, rfl⟩
  have W := Walks.list (prog := prog) (w := w) hh I2 row hne its
  have loop : codeAny (model prog w) A (.compLoop (.ListComp elt [⟨t1, i1, [], 0⟩, ⟨.Name y py, i2, [c], 0⟩] scope pos) 1 (.ref I2) acc (compEnvC scope cl C env)) R s := by
    refine codeAny_loop rfl (C2I s h₀ L m I2 row C its.size led) (fun k s' hI => ?_) (its.size + 1)
      ⟨s.heap, s.toks, 0, mC, rfl, Nat.zero_le _, rfl, hst, F, hn, N⟩
    show wpAny _ A ((compTurn (.ListComp elt [⟨t1, i1, [], 0⟩, ⟨.Name y py, i2, [c], 0⟩] scope pos) 1 (.ref I2) acc (compEnvC scope cl C env)).onRaise (fun x => do noteFrame x (compEnvC scope cl C env); theTreesLotGoes x)) _ _ s'
    refine wpAny_noted ?_
    rw [compTurn_two1]
    refine hide ?_
    intro Pz kz
    obtain ⟨h', tk, i, m', rfl, hi, rfl, hst', F', hn', N'⟩ := hI
    refine kz ?_
    clear kz Pz
    refine wpAny_bind (wpAny_standAt (wpAny_bind ?_))
    by_cases hlt : i < its.size
    · refine W.item i _ _ _ hlt ⟨hst', isL N'⟩ fun v h₂ tk₂ hPv hst₂ hk₂ => ?_
      refine wpAny_bind (wpAny_of_eq (show letOwnedTupleGo _ _ _ = pure () from rfl) ?_)
      refine wpAny_bind (wpAny_assign_Name (wpAny_storeName_local (lookup_relabel_local hy) (hn'.at' fun o e => hk₂ _ o (by simpa using Ne.symm hIC) e) (fun h₃ hn₃ hs₃ => ?_) (by simp [compEnvC, relabel, hkind])))
      have F₃ : Fr h₀ L h₃ m := (LCg.fr_but F' hk₂ hIL hI₀).change hs₃ hCL hC₀
      have N₂ : News h₀ L h₂ led := LCg.news_but N' hk₂ fun p hp => (off p hp).1
      have N₃ : News h₀ L h₃ led := fun p hp => ⟨hs₃.extBut _ _ (off p hp).2 (N₂ p hp).1, (N₂ p hp).2⟩
      obtain ⟨oI, heI, hoI⟩ : ∃ o, h₃.get? I2 = some o ∧ (o.cls = .type "list_iterator" ∧ o.data = .fields #[.ref row, rawInt ((i + 1 : Nat) : Int)]) := by
        refine hide ?_
        intro Pz kz
        obtain ⟨o, e1, e2⟩ := hst₂.1
        refine kz ?_
        clear kz Pz
        exact ⟨o, hs₃.extBut _ _ hIC e1, e2⟩
      refine hide ?_
      intro Pz kz
      obtain ⟨oC, heC, hoC⟩ := LCg.ns_obj hn₃
      refine kz ?_
      clear kz Pz
      have N₄ : News h₀ L h₃ ((I2, oI) :: (C, oC) :: led) := (all_cons (⟨heI, Ne.symm hIL, hI₀⟩) (all_cons (⟨heC, hCL, hC₀⟩) (fun p hp => N₃ p hp)))
      refine wpAny_bind (wpAny_tests_one (wpAny_mono (test v i led { s with heap := h₃, toks := tk₂ + 1 } I2 oI C oC _ _ hPv hoC (by simp) F₃ N₄) (fun ok s₄ h₄ => ?_) fun _ _ e => e))
      refine hide ?_
      intro Pz kz
      obtain ⟨rfl, h₅, tk₅, rfl, F₅, N₅⟩ := h₄
      refine kz ?_
      clear kz Pz
      refine wpAny_pure ⟨rfl, its.size + 1 - (i + 1), by omega, h₅, tk₅, i + 1, _, rfl, hlt, rfl, ⟨oI, (N₅ _ (.head _)).1, hoI⟩, F₅, hoC.ns (N₅ _ (.tail _ (.head _))).1, fun p hp => N₅ p (.tail _ (.tail _ hp))⟩
    · obtain rfl : i = its.size := Nat.le_antisymm hi (Nat.not_lt.mp hlt)
      refine W.done _ _ _ ⟨hst', isL N'⟩ fun h₂ tk₂ hk₂ => ?_
      exact wpAny_pure (fin h₂ tk₂ m' (LCg.fr_but F' hk₂ hIL hI₀) (hn'.at' fun o e => hk₂ _ o (by simpa using Ne.symm hIC) e) (LCg.news_but N' hk₂ fun p hp => (off p hp).1))
  exact compStart_two1 loop (W.self 0 _ _ _ ⟨hst, isL N⟩ loop)
/-- a list comprehension with two generators whose test always says no: a new empty list -/
theorem ListComp_two {elt i1 c : Expr} {x y : Str} {px py p2 : Pos} {scope : Scope} {cl : List (Str × Addr)} {pos : Pos} {Q : Value → Shared → Prop}
    (hclos : closureFor scope env = pure cl) (hcell : ∀ y ∈ scope.names, y.2 ≠ .cell) (hkind : scope.kind = .function)
    (hnames : ∀ y ∈ scope.names, y.2 = .local → scope.names.lookup y.1 = some .local) (hx : scope.names.lookup x = some .local) (hy : scope.names.lookup y = some .local) (hdb : (x == ("__debug__" : Str)) = false)
    (h : wpAny (model prog w) A (eval i1 env) (TwoSrc prog w A h₀ L m env c y scope cl Q) E s)
    (hs : ∀ x, foldedSetIterable i1 env x = pure x := by intro _; rfl) (hs2 : ∀ C v, foldedSetIterable (.Name x p2) (compEnvC scope cl C env) v = pure v := by intro _ _; rfl) :
    wpAny (model prog w) A (eval (.ListComp elt [⟨.Name x px, i1, [], 0⟩, ⟨.Name y py, .Name x p2, [c], 0⟩] scope pos) env) Q E s := by
  rw [eval_ListComp]
  refine wpAny_comprehension_free (use := none) rfl hs hclos hkind hnames (wpAny_mono h (fun xv s₁ h₁ => ?_) fun _ _ e => e)
  refine hide ?_
  intro Pz kz
  obtain ⟨ax, its, k, news, rfl, hh, F, N, hm, rows, hQ⟩ := h₁
  refine kz ?_
  clear kz Pz
  have hl : s₁.heap.IsList ax its := ⟨_, (N _ hm).1, rfl, _, rfl⟩
  refine wpAny_pyIter_list hl ?_
  refine wpAny_newObj_type (wpAny_newFunctionEnv hcell (by intro y hy; simp at hy) (fun h₁ hns₁ hsb₁ => ?_) hkind)
  dsimp only at hns₁ hsb₁ ⊢
  generalize hH1 : s₁.heap.push { cls := .type "list_iterator", data := .fields #[.ref ax, .int 0 0] } = H1 at hns₁ hsb₁ ⊢
  generalize hH2 : H1.push { cls := .type "list", dict := none, data := .seq ([] : List Value).toArray } = H2 at hns₁ hsb₁ ⊢
  have z1 : H1.objs.size = s₁.heap.objs.size + 1 := by rw [← hH1, Heap.size_push]
  have z2 : H2.objs.size = s₁.heap.objs.size + 1 + 1 := by rw [← hH2, Heap.size_push, z1]
  have k1 : ∀ b o, s₁.heap.get? b = some o → H1.get? b = some o := fun b o e => by rw [← hH1]; exact Heap.get?_push_of_some _ e
  have k2 : ∀ b o, H1.get? b = some o → H2.get? b = some o := fun b o e => by rw [← hH2]; exact Heap.get?_push_of_some _ e
  have k3 : ∀ b o, b < H2.objs.size → H2.get? b = some o → h₁.get? b = some o := fun b o hb e => hsb₁.extBut b o (Nat.ne_of_lt hb) (Heap.get?_push_of_some _ e)
  have old : ∀ b o, s₁.heap.get? b = some o → h₁.get? b = some o := fun b o e => k3 b o (by rw [z2]; exact Nat.lt_succ_of_lt (Nat.lt_succ_of_lt (Heap.lt_size e))) (k2 b o (k1 b o e))
  have fresh : ∀ b, s₁.heap.objs.size ≤ b → s₁.heap.get? b = none := fun b hb => by
    cases e : s₁.heap.get? b with
    | none => rfl
    | some o' => exact absurd (Heap.lt_size e) (Nat.not_lt.mpr hb)
  have fresh₀ : ∀ b, s₁.heap.objs.size ≤ b → h₀.get? b = none := fun b hb => by
    cases e : h₀.get? b with
    | none => rfl
    | some o' => have := F.keep b o' e; rw [fresh b hb] at this; cases this
  have hLlt : L < s₁.heap.objs.size := F.ns.lt
  have nlt : ∀ p ∈ news, p.1 < s₁.heap.objs.size := fun p hp => Heap.lt_size (N p hp).1
  have axlt := nlt _ hm
  have hI1 : h₁.get? s₁.heap.objs.size = some { cls := .type "list_iterator", data := .fields #[.ref ax, .int 0 0] } := k3 _ _ (by rw [z2]; exact Nat.lt_succ_of_lt (Nat.lt_succ_self _)) (k2 _ _ (by rw [← hH1]; exact Heap.get?_push_size _ rfl))
  have hD1 : h₁.get? (s₁.heap.objs.size + 1) = some (LCg.lst []) := k3 _ _ (by rw [z2]; exact Nat.lt_succ_self _) (by rw [← z1, ← hH2]; exact Heap.get?_push_size _ rfl)
  have hIL : L ≠ s₁.heap.objs.size := Nat.ne_of_lt hLlt
  have hDL : s₁.heap.objs.size + 1 ≠ L := Nat.ne_of_gt (Nat.lt_succ_of_lt hLlt)
  have hCL : H2.objs.size ≠ L := by rw [z2]; exact Nat.ne_of_gt (Nat.lt_succ_of_lt (Nat.lt_succ_of_lt hLlt))
  have hIC : s₁.heap.objs.size ≠ H2.objs.size := by rw [z2]; exact Nat.ne_of_lt (Nat.lt_succ_of_lt (Nat.lt_succ_self _))
  have hDC : s₁.heap.objs.size + 1 ≠ H2.objs.size := by rw [z2]; exact Nat.ne_of_lt (Nat.lt_succ_self _)
  have hDI : s₁.heap.objs.size + 1 ≠ s₁.heap.objs.size := Nat.succ_ne_self _
  have hI₀ := fresh₀ s₁.heap.objs.size (Nat.le_refl _)
  have hD₀ := fresh₀ (s₁.heap.objs.size + 1) (Nat.le_succ _)
  have hC₀ : h₀.get? H2.objs.size = none := fresh₀ _ (by rw [z2]; exact Nat.le_succ_of_le (Nat.le_succ _))
  have offI : ∀ p ∈ news, p.1 ≠ s₁.heap.objs.size := fun p hp => Nat.ne_of_lt (nlt p hp)
  have offD : ∀ p ∈ news, p.1 ≠ s₁.heap.objs.size + 1 := fun p hp => Nat.ne_of_lt (Nat.lt_succ_of_lt (nlt p hp))
  have offC : ∀ p ∈ news, p.1 ≠ H2.objs.size := fun p hp => by rw [z2]; exact Nat.ne_of_lt (Nat.lt_succ_of_lt (Nat.lt_succ_of_lt (nlt p hp)))
  have N₁ : News h₀ L h₁ ((s₁.heap.objs.size + 1, LCg.lst []) :: news) := (all_cons (⟨hD1, hDL, hD₀⟩) (fun p hp => ⟨old _ _ (N p hp).1, (N p hp).2⟩))
  have F₁ : Fr h₀ L h₁ m := F.keeps old
  have hst : h₁.IsListIter s₁.heap.objs.size ax 0 := ⟨_, hI1, rfl, rfl⟩
  rw [z1]
  show codeAny (model prog w) A (.compStart _ 0 (.ref s₁.heap.objs.size) (.ref (s₁.heap.objs.size + 1)) (compEnvC scope cl H2.objs.size env)) (compPost (model prog w) A E none Q (.ref (s₁.heap.objs.size + 1)) H2.objs.size) _
  have hnsC : h₁.Ns H2.objs.size _ := hns₁
  clear hD1 hI1 k1 k2 k3 old fresh fresh₀ hsb₁ hns₁ hH1 hH2 z1 z2 nlt hLlt axlt
  generalize s₁.heap.objs.size + 1 = D at *
  generalize hIe : s₁.heap.objs.size = I at *
  generalize H2.objs.size = C at *
  have hne : ax ≠ I := offI _ hm
  have isL : ∀ {h : Heap}, News h₀ L h ((D, LCg.lst []) :: news) → h.IsList ax its := fun N => ⟨_, (N _ (.tail _ hm)).1, rfl, _, rfl⟩
  have W := Walks.list (prog := prog) (w := w) hh I ax hne its
  have loop : ∀ s₃ : Shared, s₃ = { s₁ with heap := h₁, toks := s₁.toks + ([] : List (Str × Value)).length } → codeAny (model prog w) A (.compLoop (.ListComp elt [⟨.Name x px, i1, [], 0⟩, ⟨.Name y py, .Name x p2, [c], 0⟩] scope pos) 0 (.ref I) (.ref D) (compEnvC scope cl C env)) (compPost (model prog w) A E none Q (.ref D) C) s₃ := by
    rintro s₃ rfl
    refine codeAny_loop rfl (C2I s₁ h₀ L m I ax C its.size ((D, LCg.lst []) :: news)) (fun k s' hI => ?_) (its.size + 1)
      ⟨h₁, _, 0, _, rfl, Nat.zero_le _, rfl, hst, F₁, hnsC, N₁⟩
    show wpAny _ A ((compTurn (.ListComp elt [⟨.Name x px, i1, [], 0⟩, ⟨.Name y py, .Name x p2, [c], 0⟩] scope pos) 0 (.ref I) (.ref D) (compEnvC scope cl C env)).onRaise (fun x => do noteFrame x (compEnvC scope cl C env); theTreesLotGoes x)) _ _ s'
    refine wpAny_noted ?_
    rw [compTurn_two0]
    refine hide ?_
    intro Pz kz
    obtain ⟨h', tk, i, m', rfl, hi, rfl, hst', F', hn', N'⟩ := hI
    refine kz ?_
    clear kz Pz
    refine wpAny_bind (wpAny_standAt (wpAny_bind ?_))
    by_cases hlt : i < its.size
    · refine W.item i _ _ _ hlt ⟨hst', isL N'⟩ fun v h₂ tk₂ hPv hst₂ hk₂ => ?_
      refine hide ?_
      intro Pz kz
      obtain ⟨r, ri, nr, rfl, hr, htest⟩ := rows i v hPv
      refine kz ?_
      clear kz Pz
      refine wpAny_bind (wpAny_of_eq (show letOwnedTupleGo _ _ _ = pure () from rfl) ?_)
      refine wpAny_bind (wpAny_assign_Name (wpAny_storeName_local (lookup_relabel_local hx) (hn'.at' fun o e => hk₂ _ o (by simpa using Ne.symm hIC) e) (fun h₃ hn₃ hs₃ => ?_) (by simp [compEnvC, relabel, hkind])))
      have F₃ : Fr h₀ L h₃ m := (LCg.fr_but F' hk₂ hIL hI₀).change hs₃ hCL hC₀
      have N₂ : News h₀ L h₂ ((D, LCg.lst []) :: news) := LCg.news_but N' hk₂ (all_cons (hDI) (fun p hp => offI p hp))
      have N₃ : News h₀ L h₃ ((D, LCg.lst []) :: news) := fun p hp => ⟨hs₃.extBut _ _ (by
        rcases List.mem_cons.mp hp with rfl | hp
        · exact hDC
        · exact offC p hp) (N₂ p hp).1, (N₂ p hp).2⟩
      obtain ⟨oI, heI, hoI⟩ : ∃ o, h₃.get? I = some o ∧ (o.cls = .type "list_iterator" ∧ o.data = .fields #[.ref ax, rawInt ((i + 1 : Nat) : Int)]) := by
        refine hide ?_
        intro Pz kz
        obtain ⟨o, e1, e2⟩ := hst₂.1
        refine kz ?_
        clear kz Pz
        exact ⟨o, hs₃.extBut _ _ hIC e1, e2⟩
      have N₄ : News h₀ L h₃ ((I, oI) :: (D, LCg.lst []) :: news) := (all_cons (⟨heI, Ne.symm hIL, hI₀⟩) (fun p hp => N₃ p hp))
      rw [eval_Name _ x p2 hdb]
      refine wpAny_bind (wpAny_bind (wpAny_standAt (wpAny_loadName_local (by simp [compEnvC, relabel, hkind]) (lookup_relabel_local hx) hn₃ (if_pos rfl) ?_)))
      refine wpAny_bind (wpAny_standAt (wpAny_bind (wpAny_of_eq (hs2 C _) (wpAny_bind (wpAny_holding (wpAny_pyIter_list (items := ri) ⟨_, (N₃ _ (.tail _ hr)).1, rfl, _, rfl⟩ ?_))))))
      have up : ∀ b o, h₃.get? b = some o → (h₃.push { cls := .type "list_iterator", data := .fields #[.ref r, .int 0 0] }).get? b = some o := fun b o e => Heap.get?_push_of_some _ e
      have hCh : C < h₃.objs.size := by
        refine hide ?_
        intro Pz kz
        obtain ⟨o, es, ep, e, _⟩ := hn₃
        refine kz ?_
        clear kz Pz
        exact Heap.lt_size e
      refine wpAny_bind (wpAny_runOwn (inner2 (led := (I, oI) :: (D, LCg.lst []) :: news) hh hkind hy (.tail _ (.tail _ hr)) ⟨_, Heap.get?_push_size _ rfl, rfl, rfl⟩ (F₃.keeps up) (hn₃.at' fun o e => up _ _ e) (N₄.grown up) (Nat.ne_of_lt F₃.ns.lt) (next_is_new F₃) hCL hC₀ (Nat.ne_of_gt hCh) (fun p hp => ⟨Nat.ne_of_lt (Heap.lt_size (N₄ p hp).1), ?_⟩) htest ?_))
      · revert p
        exact all_cons (hIC) (all_cons (hDC) (fun p hp => offC p hp))
      · intro h₅ tk₅ mC F₅ hn₅ N₅
        exact wpAny_pure ⟨rfl, its.size + 1 - (i + 1), by omega, h₅, tk₅, i + 1, mC, rfl, hlt, rfl, ⟨oI, (N₅ _ (.head _)).1, hoI⟩, F₅, hn₅, fun p hp => N₅ p (.tail _ hp)⟩
    · obtain rfl : i = its.size := Nat.le_antisymm hi (Nat.not_lt.mp hlt)
      refine W.done _ _ _ ⟨hst', isL N'⟩ fun h₂ tk₂ hk₂ => ?_
      have N₂ : News h₀ L h₂ ((D, LCg.lst []) :: news) := LCg.news_but N' hk₂ (all_cons (hDI) (fun p hp => offI p hp))
      refine wpAny_pure ⟨m', hn'.at' fun o e => hk₂ _ o (by simpa using Ne.symm hIC) e, fun h'' hs'' => hQ D h'' tk₂ ((LCg.fr_but F' hk₂ hIL hI₀).change hs'' hCL hC₀) (fun p hp => ⟨hs''.extBut _ _ (by
        rcases List.mem_cons.mp hp with rfl | hp
        · exact hDC
        · exact offC p hp) (N₂ p hp).1, (N₂ p hp).2⟩) offD⟩
  exact codeAny_compStart_list (loop _ rfl) (W.self 0 _ _ _ ⟨hst, isL N₁⟩ (loop _ rfl))
end
end Mine
end
section
theorem Mine.w_Law10_0 : True := by
  k_with_none
  trivial
namespace Mine
theorem Mine.w_Law10_1 : True := by
  (k_with "ktr_unf" => repeat' ((fail_if_success (with_reducible show wpAny _ _ (pyIter _) _ _ _)); (fail_if_success (with_reducible show wpAny _ _ (exec (Stmt.For _ _ _ _ _) _) _ _ _)); (fail_if_success (with_reducible show wpAny _ _ (eval (Expr.ListComp _ _ _ _) _) _ _ _)); (fail_if_success (with_reducible show wpAny _ _ (compareOp _ (Value.ref _) (Value.ref _)) _ _ _)); (fail_if_success (with_reducible show LCg.CompSrc _ _ _ _ _ _ _ _ _ _ _ _ _ _)); (fail_if_success (with_reducible show wpAny _ _ (call (Value.ref 219) _) _ _ _)); (fail_if_success (with_reducible show wpAny _ _ (call (Value.ref 229) _) _ _ _)); (fail_if_success (with_reducible show wpAny _ _ (call (Value.ref 169) _) _ _ _)); (fail_if_success (with_reducible show wpAny _ _ (call (Value.ref 236) _) _ _ _)); (fail_if_success (with_reducible show wpAny _ _ (call (Value.ref 243) _) _ _ _)); (fail_if_success (with_reducible show wpAny _ _ (call (Value.ref 224) _) _ _ _)); first | (k_unfold; (try dsimp only)) | tb_rel | ((fail_if_success (with_reducible show wpAny _ _ (subscriptTail _ _ (Value.ref _) (Value.int _ _)) _ _ _)); (fail_if_success (with_reducible show wpAny _ _ (setItem (Value.ref _) _ _) _ _ _)); first | walk1 | (dsimp only; walk1))))
  (k_with "k_mem" => first | assumption | exact List.Mem.head _ | (refine' List.Mem.tail _ ?_; k_mem) | (refine' SubL.mem (by assumption) ?_; k_mem))
  (k_with "k_all" => first | assumption | exact off1_mem' (by assumption) | exact lt_ne (by assumption) (by omega) | exact allLt_ne (by assumption) (by omega))
  (k_with "tb_rel" => ((with_reducible show wpAny _ _ (subscriptTail _ _ (Value.ref _) (Value.int _ _)) _ _ _); k_dflt (refine' item_at (by k_asm) (by k_mem) (by omega) (by omega) (by assumption) ?_); (try dsimp only)))
  trivial
section
variable {w : World} {mean : ExcName → Option Value} {mg mb : Str → Option Value} {gd : Option (List Code)} {cn : Str} {nms : List (Str × NameKind)} {mr : List (Str × Const)} {a : Addr} {ccd : Value} {cl : List (Str × Addr)} {outer : List Env} {A₀ : Around} {base h₀ : Heap} {L : Addr} {m : Str → Option Value} {s : Shared} {Q E : Value → Shared → Prop} {news : List (Addr × Obj)}

theorem c_ringAny (B : Below A₀ base outer h₀) (F : Fr h₀ L s.heap m) (X : (Mine.pre.heap_1_1 w.params).In h₀) (N : News h₀ L s.heap news) (T : Top Mine.pre.view_1_2 (looseW Mine.pre.view_1_2 [Str.ofString "_NodeInfo"]) mean mg mb h₀)
   (nA tA : Addr) (fv : Value) (xs : List Str) (vs ys : List Value) (e e2 : Nat) (n : Nat) (succ : Nat → List Nat) (hvs : StrsAre vs xs) (hl6 : xs.length = 6) (hvl : vs.length = 6) (hx : ∀ x ∈ xs, x ∈ allNames)
   (hn : (nA, listOf vs.toArray e) ∈ news) (ht : (tA, listOf ys.toArray e2) ∈ news) (hys : IntsAre ys ((twinsOf xs).map Int.ofNat)) (hfc : FcRes succ n fv news)
   (hno : NoRing succ n → twinsOf xs = []) (hri : ∀ ring, IsRing succ n ring → twinsOf xs ≠ [] ∧ RingOk xs (twinsOf xs) ring)
   (hQ : ∀ h' tk', Fr h₀ L h' m → News h₀ L h' news → Q (.bool true) { s with heap := h', toks := tk' }) :
   wpAny (model PySem.Challenge.rw_nb0264_01.row.prog w) (ktrTop 307 35 gd cn ⟨.function, nms, false, false, mr⟩ L a ccd cl outer) (call (.ref 229) [fv, .ref nA, .ref tA]) Q E s := by
  rcases hfc with ⟨rfl, h⟩ | ⟨r, rv, e1, ring, rfl, hr, hrv, h⟩
  · have ht0 := hno h
    rw [ht0] at hys
    have hy0 : ys = [] := List.eq_nil_of_length_eq_zero (by rw [IntsAre.length hys]; rfl)
    exact c_ringNone B F X N T nA tA ys e2 hy0 ht hQ
  · have htl : (twinsOf xs).length ≤ 6 := by
      have := List.length_filter_le (isTwin xs) (List.range 6)
      simpa [twinsOf] using this
    exact c_ring B F X N T r nA tA xs vs rv ys e e1 e2 ring (twinsOf xs) hvs hl6 hvl hx hn hr hrv ht hys htl (hri ring h).2 hQ
end
section
variable {w : World} {mean : ExcName → Option Value} {mg mb : Str → Option Value} {gd : Option (List Code)} {a : Addr} {ccd : Value} {A₀ : Around} {h₀ : Heap} {L : Addr} {mm : Str → Option Value} {s : Shared} {Q : Flow → Shared → Prop} {E : Value → Shared → Prop} {led bl : List (Addr × Obj)} {S dS D : Addr} {nds : List Nd}
theorem law10 (B : Below A₀ h₀ [] h₀) (F : Fr h₀ L s.heap (fun y => if y = Str.ofString "sorter" then some (.ref S) else mm y)) (X : (Mine.pre.heap_1_1 w.params).In h₀) (N : News h₀ L s.heap led) (T : Top Mine.pre.view_1_2 (looseW Mine.pre.view_1_2 [Str.ofString "_NodeInfo"]) mean mg mb h₀)
   (oN oT : Obj) (nA tA : Addr) (xs : List Str) (vs bs : List Value) (e : Nat) (tp tf : Tok)
   (hbl : ∀ q ∈ bl, q ∈ led ∧ q.1 ∉ adrs S dS D nds)
   (hcN : (L + 1 + 1, oN) ∈ bl) (hoN : oN.data = .cell (some (.ref nA))) (hcT : (L + 1 + 1 + 1, oT) ∈ bl) (hoT : oT.data = .cell (some (.ref tA)))
   (hvs : StrsAre vs xs) (hl6 : xs.length = 6) (hvl : vs.length = 6) (hx : ∀ x ∈ xs, x ∈ allNames) (hn : (nA, listOf vs.toArray e) ∈ bl)
   (ht : (tA, LCg.lst bs) ∈ bl) (hrows : RowsAt (tableF xs) bl bs 6)
   (hS : SAt w led S dS D nds .none (.int 0 tp) (.int 0 tf)) (h6 : nds.length = 6) (hsu : ∀ i x, nds[i]? = some x → IntsAre x.its ((suP (tableF xs) i).map Int.ofNat))
   (f : Nat → Int) (hf : SFx nds nds f) (hfp : ∀ j, j < 6 → f j = ((predsP (tableF xs) j).length : Int)) (hvi : ∀ (j : Nat) (x : Nd), nds[j]? = some x → ∃ t, x.vi = .int (j : Int) t)
   (hok : TOk (tableF xs) (twinsOf xs) (fun j => (xs.getD j (Str.ofString "")).length)) (hno : NoRing (suP (tableF xs)) 6 → twinsOf xs = []) (hri : ∀ ring, IsRing (suP (tableF xs)) 6 ring → twinsOf xs ≠ [] ∧ RingOk xs (twinsOf xs) ring)
   (hQ : ∀ h' tk' m', Fr h₀ L h' m' → Q (.ret (.bool true)) { s with heap := h', toks := tk' }) :
   wpAny (model PySem.Challenge.rw_nb0264_01.row.prog w) (lawA gd lawSc L a ccd) (execs (lawB.drop 10) (lawEnv lawSc L a ccd)) Q E s := by
  conv in (occs := *) lawSc => all_goals whnf
  conv in lawB.drop 10 => whnf
  have hbl1 : SubL bl led := ⟨fun q hq => (hbl q hq).1⟩
  have hvs' : Kp (StrsAre vs xs) := ⟨hvs⟩
  clear hvs
  dsimp only [lawA, lawEnv]
  ktr_unf
  k_dflt (refine' wp_up (c_twins ?k1 ?k2 ?k3 ?k4 ?k5 nA e xs vs hvs'.out hl6 hvl hx (hbl1.sub _ hn) ?_) ?u1 ?u2 ?u3 ?u4 ?u5; (case u2 => exact rfl); (case u1 => exact rfl); (case u3 => exact rfl); (case u4 => exact Nat.le_of_ble_eq_true rfl); (case u5 => exact Nat.le_of_ble_eq_true rfl); (case k1 => k_asm); (case k2 => k_asm); (case k3 => k_asm); (case k4 => k_asm); (case k5 => k_asm); k_whole)
  intro twA ys led1 h1 tk1 F1 N1 hys htwf
  have htwA : twA ∉ adrs S dS D nds := fun hm => by obtain ⟨o, ho⟩ := hS.addr_mem hm; exact htwf _ ho rfl
  clear F N
  have hys' : Kp (IntsAre ys ((twinsOf xs).map Int.ofNat)) := ⟨hys⟩
  clear hys
  refine hide ?_
  intro Pz kz
  obtain ⟨led2, hled2⟩ := led_ex ((twA, LCg.lst ys) :: (led1 ++ led))
  rw [← hled2] at N1
  have s12 : SubL led led2 := ⟨fun q hq => by rw [hled2]; exact .tail _ (List.mem_append_right _ hq)⟩
  have mtw : (twA, LCg.lst ys) ∈ led2 := by rw [hled2]; exact .head _
  clear hled2
  have hbl2 : SubL bl led2 := hbl1.trans s12
  have hS2 := hS.mono s12.sub
  obtain ⟨t1, t2, t3, t4, oD, m1, m2, m3, hD⟩ := hS2.top
  refine kz ?_
  clear kz Pz
  (try dsimp only)
  ktr_unf
  k_dflt (refine' wp_up (c_find (outer := []) ?k1 ?k2 ?k3 ?k4 ?k5 ktsDicts_nil X T hS2 (suP (tableF xs)) hsu (fun i hi j hj => by rw [h6]; exact (mem_suP.mp hj).1) (by omega) ?_) ?u1 ?u2 ?u3 ?u4 ?u5; (case u2 => exact rfl); (case u1 => exact rfl); (case u3 => exact rfl); (case u4 => exact Nat.le_of_ble_eq_true rfl); (case u5 => exact Nat.le_of_ble_eq_true rfl); (case k1 => k_asm); (case k2 => k_asm); (case k3 => k_asm); (case k4 => k_asm); (case k5 => k_asm); k_whole)
  intro fv h0' h2 tk2 led3 KT F2' N2' hk2 B9 D9 hfc
  have F2 := turn_nil KT F2'
  have N2 := news_nil KT N2'
  clear B9 D9 F2' N2' KT h0'
  have s23 : SubL led2 led3 := ⟨hk2⟩
  clear hk2
  have hbl3 : SubL bl led3 := hbl2.trans s23
  have hS3 := hS2.mono s23.sub
  have mtw3 := s23.sub _ mtw
  dsimp only
  ktr_unf
  k_dflt (refine' wp_up (c_ringAny ?k1 ?k2 ?k3 ?k4 ?k5 nA twA fv xs vs ys e _ 6 (suP (tableF xs)) hvs'.out hl6 hvl hx (hbl3.sub _ hn) mtw3 hys'.out (h6 ▸ hfc) hno hri ?_) ?u1 ?u2 ?u3 ?u4 ?u5; (case u2 => exact rfl); (case u1 => exact rfl); (case u3 => exact rfl); (case u4 => exact Nat.le_of_ble_eq_true rfl); (case u5 => exact Nat.le_of_ble_eq_true rfl); (case k1 => k_asm); (case k2 => k_asm); (case k3 => k_asm); (case k4 => k_asm); (case k5 => k_asm); k_whole)
  intro h3 tk3 F3 N3
  (try dsimp only)
  ktr_unf
  k_dflt (refine' wp_up (c_refused (outer := []) ?k1 ?k2 ?k3 ?k4 ?k5 ktsDicts_nil X T hS3 (suP (tableF xs)) hsu (fun i hi j hj => by rw [h6]; exact (mem_suP.mp hj).1) (by omega) f hf hvi ?_) ?u1 ?u2 ?u3 ?u4 ?u5; (case u2 => exact rfl); (case u1 => exact rfl); (case u3 => exact rfl); (case u4 => exact Nat.le_of_ble_eq_true rfl); (case u5 => exact Nat.le_of_ble_eq_true rfl); (case k1 => k_asm); (case k2 => k_asm); (case k3 => k_asm); (case k4 => k_asm); (case k5 => k_asm); k_whole)
  intro b h0' h4 tk4 led4 RL rs e4 KT F4' N4' hk4 B9 D9 hb hS4 hRL hRLa hrs
  have F4 := turn_nil KT F4'
  have N4 := news_nil KT N4'
  clear B9 D9 F4' N4' KT h0'
  have hrs' : Kp (IntsAre rs ((readyOf f nds.length).map Int.ofNat)) := ⟨hrs⟩
  clear hrs
  have hbl4 : SubL bl led4 := ⟨fun q hq => hk4 q (hbl3.sub q hq) (hbl q hq).2⟩
  have mtw4 : (twA, LCg.lst ys) ∈ led4 := hk4 _ mtw3 htwA
  have hb' : b = decide (twinsOf xs ≠ []) := by
    rw [h6] at hb
    rcases hb with ⟨rfl, ring, hr⟩ | ⟨rfl, hr⟩
    · rw [decide_eq_true (hri ring hr).1]
    · rw [hno hr]; rfl
  clear hb
  subst hb'
  (try dsimp only)
  ktr_unf
  k_dflt (refine ke_ne_ints (News.isList (by k_asm) (by k_mem)) (News.isList (items := ([] : List Value).toArray) (by k_asm) (.head _)) hys'.out .nil (by ke_room) ?_)
  rw [show (!decide ((twinsOf xs).map Int.ofNat = [])) = decide (twinsOf xs ≠ []) by cases twinsOf xs <;> simp]
  ktr_unf
  · exfalso
    rename (_ != _) = true => hh
    simp at hh
  (rename News _ _ _ _ => lN5)
  have lN6 : News h₀ L _ led4 := fun p hp => lN5 p (.tail _ hp)
  clear lN5
  k_dflt (refine' wp_up (c_run ?k1 ?k2 ?k3 ?k4 ?k5 nds (suP (tableF xs)) (f, readyOf f 6) hf hsu (fun k j hj => by rw [h6]; exact (mem_suP.mp hj).1) (fun k => by have := List.length_filter_le (fun j => k != j && tableF xs k j) (List.range 6); simpa [suP] using this) RL rs e4 0 tp tf (by k_mem) hRLa.1 hS4 (h6 ▸ hrs'.out) (fun k _ => by rw [h6]; exact roundOk hok f hfp k) ?_) ?u1 ?u2 ?u3 ?u4 ?u5; (case u2 => exact rfl); (case u1 => exact rfl); (case u3 => exact rfl); (case u4 => exact Nat.le_of_ble_eq_true rfl); (case u5 => exact Nat.le_of_ble_eq_true rfl); (case k1 => k_asm); (case k2 => k_asm); (case k3 => k_asm); (case k4 => k_asm); (case k5 => k_asm); k_whole)
  intro Y yv h5 tk5 led5 F5 N5 hseen hY hk5
  have hbl5 : SubL bl led5 := ⟨fun q hq => hk5 q (hbl4.sub q hq) (hbl q hq).2 (hRLa.2 q (hbl3.sub q hq))⟩
  have mtw5 : (twA, LCg.lst ys) ∈ led5 := hk5 _ mtw4 htwA (hRLa.2 _ mtw3)
  have hgrp : ∀ k, (itS (suP (tableF xs)) (f, readyOf f 6) k).2 = grpP (tableF xs) (twinsOf xs) k := fun k => (kahn hok f hfp k).2
  have hseen' : SeenAt (grpP (tableF xs) (twinsOf xs)) led5 yv 5 := by
    have e9 : (fun k => (itS (suP (tableF xs)) (f, readyOf f 6) k).2) = grpP (tableF xs) (twinsOf xs) := funext hgrp
    rw [e9] at hseen; exact hseen
  clear hseen hgrp
  (try dsimp only)
  ktr_unf
  (rename Fr _ _ _ _ => lF7)
  k_dflt (refine LCg.ListComp_U (F₀ := lF7) (by with_unfolding_all rfl) (by decide) (by rfl) (by decide) (by rfl) ?_)
  ktr_unf
  k_dflt (refine' wp_up (c_rounds ?k1 ?k2 ?k3 ?k4 ?k5 nA tA twA xs vs bs ys e _ (twinsOf xs) (tableF xs) (lvP (tableF xs)) (grpP (tableF xs) (twinsOf xs)) hvs'.out hl6 hvl hx (hbl5.sub _ hn) (hbl5.sub _ ht) (hrows.mono hbl5.sub) mtw5 hys'.out (by have := List.length_filter_le (isTwin xs) (List.range 6); simpa [twinsOf] using this) (rspec hok) ?_) ?u1 ?u2 ?u3 ?u4 ?u5; (case u2 => exact rfl); (case u1 => exact rfl); (case u3 => exact rfl); (case u4 => exact Nat.le_of_ble_eq_true rfl); (case u5 => exact Nat.le_of_ble_eq_true rfl); (case k1 => k_asm); (case k2 => k_asm); (case k3 => k_asm); (case k4 => k_asm); (case k5 => k_asm); k_whole)
  intro RO rv e6 led6 h6' tk6 F6 N6 hRO hro hk6
  have hY6 := hk6 _ hY
  have hseen6 : SeenAt (grpP (tableF xs) (twinsOf xs)) led6 yv 5 := hseen'.mono fun q hq _ => hk6 q hq
  (try dsimp only)
  ktr_unf
  clear hbl5 mtw5 hk5 hk6 hbl4 mtw4 hbl3 mtw3 hbl2 mtw hbl1 s12 s23 hk4 hS2 hS3 hS4 m1 m2 m3 hD hRL hrs' hys' hvs' htwA htwf
  have hrvl : rv.length = 5 := hro.1
  k_dflt (refine LCg.CompSrc.ledger (by rfl) (by k_asm) (by k_asm) (by k_mem) (by rw [sizeLine_eq]; simp; omega) ?_)
  intro g'
  refine compRest_inv (fun i zs nw => SubL led6 nw ∧ SeenAt (grpP (tableF xs) (twinsOf xs)) nw zs i) ?_ ?_ ⟨SubL.refl, rfl, fun k hk => absurd hk (Nat.not_lt_zero _)⟩
  · intro i v zs nw I oI C oC D9 m₂ h tk E' hi hv hz0 hC hx' F' N' off ne
    refine hide ?_
    intro Pz kz
    obtain ⟨hsub, hzs⟩ := hz0
    obtain ⟨T9, gv, e1, e2, e3⟩ := hro.2 i (by simpa [hrvl] using hi)
    refine kz ?_
    clear kz Pz
    (try k_fold)
    have hv' : v = .ref T9 := by
      have : rv.toArray[i]? = some v := hv
      rw [List.getElem?_toArray, e1] at this
      exact (Option.some.inj this).symm
    subst hv'
    have hT9 := hsub.sub _ e2
    have e3' : Kp (IntsAre gv ((grpP (tableF xs) (twinsOf xs) i).map Int.ofNat)) := ⟨e3⟩
    have hzs' : Kp (SeenAt (grpP (tableF xs) (twinsOf xs)) nw zs i) := ⟨hzs⟩
    clear e3 hzs hv
    ktr_unf
    (rename News _ _ _ _ => lN8)
    k_dflt (refine ne_tup_nil (k := 0) (k2 := 0) lN8 (.tail _ (.tail _ (.tail _ (.tail _ hT9)))) e3'.out (.head _) (by ke_room) ?_)
    rw [List.isEmpty_map]
    ktr_unf
    (rename News _ _ _ _ => lN9)
    refine hide ?_
    intro Pz kz
    obtain ⟨W9, hW9⟩ := head_ex lN9
    refine kz ?_
    clear kz Pz
    subst hW9
    rename _ ∧ _ ∧ _ ∧ _ ∧ AllLt W9 nw => l9
    refine hide ?_
    intro Pz kz
    obtain ⟨_, l91, l92, l93, _⟩ := l9
    refine kz ?_
    clear kz Pz
    refine LCg.CompEnd.intro (by k_asm) lN9 ((W9, tupOf #[.bool (!(grpP (tableF xs) (twinsOf xs) i).isEmpty), .ref T9] 0) :: nw) (fun p hp => ?_) ⟨⟨Nat.ne_of_gt l91, Nat.ne_of_gt l92, Nat.ne_of_gt l93⟩, off⟩ (.inr ⟨_, .tail _ (hsub.sub _ hRO), rfl, _, rfl⟩) ⟨hsub.trans SubL.tail, (hzs'.out.mono' fun q hq => .tail _ hq).snoc (.head _) (.tail _ hT9) e3'.out⟩
    revert p
    exact all_cons (.tail _ (.tail _ (.head _))) (all_cons (.tail _ (.tail _ (.tail _ (.head _)))) (all_cons (.tail _ (.tail _ (.tail _ (.tail _ (.head _))))) (all_cons (.head _) (fun p hp => .tail _ (.tail _ (.tail _ (.tail _ (.tail _ hp))))))))
  · intro zs nw hz0
    refine hide ?_
    intro Pz kz
    obtain ⟨hsub, hzs⟩ := hz0
    refine kz ?_
    clear kz Pz
    (try k_fold)
    have hzs5 : SeenAt (grpP (tableF xs) (twinsOf xs)) nw zs 5 := by
      have e9 : rv.toArray.size = 5 := by simpa using hrvl
      rw [e9] at hzs; exact hzs
    have hsn := hseen6.mono' hsub.sub
    have hYn := hsub.sub _ hY6
    clear hzs
    unfold LCg.FinE
    intro D9 h9 tk9 F9 N9 o9
    refine hide ?_
    intro Pz kz
    obtain ⟨as1, r1⟩ := reads_seen N9 (hsn.mono' fun q hq => .tail _ hq) (.tail _ hYn) rfl
    obtain ⟨as2, r2⟩ := reads_seen N9 (hzs5.mono' fun q hq => .tail _ hq) (.head _) rfl
    refine kz ?_
    clear kz Pz
    clear hsn hzs5
    ktr_unf
    k_dflt (refine eq_sameD r1 r2 (dataSeen_ok _) (by ke_room) ?_)
    ktr_unf
    exact hQ _ _ _ (by k_asm)
end
end Mine
end
section
theorem Mine.w_Law7_0 : True := by
  k_with_none
  trivial
namespace Mine
theorem Mine.w_Law7_1 : True := by
  (k_with "ktr_unf" => repeat' ((fail_if_success (with_reducible show wpAny _ _ (pyIter _) _ _ _)); (fail_if_success (with_reducible show wpAny _ _ (exec (Stmt.For _ _ _ _ _) _) _ _ _)); (fail_if_success (with_reducible show wpAny _ _ (eval (Expr.ListComp _ _ _ _) _) _ _ _)); (fail_if_success (with_reducible show wpAny _ _ (compareOp _ (Value.ref _) (Value.ref _)) _ _ _)); (fail_if_success (with_reducible show LCg.CompSrc _ _ _ _ _ _ _ _ _ _ _ _ _ _)); (fail_if_success (with_reducible show PySem.W.StarOf _ _ _ _ _ _)); (fail_if_success (with_reducible show wpAny _ _ (call (Value.ref 179) _) _ _ _)); (fail_if_success (with_reducible show wpAny _ _ (call (Value.ref 129) _) _ _ _)); first | (k_unfold; (try dsimp only)) | tb_rel | ((fail_if_success (with_reducible show wpAny _ _ (subscriptTail _ _ (Value.ref _) (Value.int _ _)) _ _ _)); (fail_if_success (with_reducible show wpAny _ _ (setItem (Value.ref _) _ _) _ _ _)); first | walk1 | (dsimp only; walk1))))
  (k_with "k_mem" => first | assumption | exact List.Mem.head _ | (refine' List.Mem.tail _ ?_; k_mem) | (refine' SubL.mem (by assumption) ?_; k_mem))
  (k_with "k_all" => first | assumption | exact off1_mem' (by assumption) | exact lt_ne (by assumption) (by omega) | exact allLt_ne (by assumption) (by omega))
  (k_with "tb_rel" => ((with_reducible show wpAny _ _ (subscriptTail _ _ (Value.ref _) (Value.int _ _)) _ _ _); k_dflt (refine' item_at (by k_asm) (by k_mem) (by omega) (by omega) (by assumption) ?_); (try dsimp only)))
  (k_with "tb_rel" => ((with_reducible show wpAny _ _ (eval (Expr.Call (Expr.Attribute _ _ _) [Expr.Starred _ _] [] _) _) _ _ _); refine MethodCallS ?_))
  (k_with "tb_rel" => ((with_reducible show wpAny _ _ (eval (Expr.Call (Expr.Attribute _ _ _) [_, Expr.Starred _ _] [] _) _) _ _ _); refine MethodCallS ?_))
  (k_with "tb_rel" => ((with_reducible show wpAny _ _ (callWith _ (Value.ref _) _ (backTo _ (starEach [Expr.Starred _ _] _)) []) _ _ _); k_dflt (refine' callWith_SM (by k_asm) (by k_asm) (by k_mem) (by k_is) ?_; k_whole)))
  (k_with "tb_rel" => ((with_reducible show wpAny _ _ (callWith _ (Value.ref _) _ (backTo _ (starEach [_, Expr.Starred _ _] _)) []) _ _ _); k_dflt (refine' callWith_SM2 (by k_asm) (by k_asm) (by k_mem) (by k_is) ?_; k_whole)))
  (k_with "tb_rel" => ((with_reducible show wpAny _ _ (compareOp CmpOp.NotEq (Value.int _ _) (Value.int _ _)) _ _ _); refine ne_int_no (by assumption) ?_))
  (k_with "tb_rel" => ((with_reducible show wpAny _ _ (compareOp CmpOp.NotEq (Value.int _ _) (Value.int _ _)) _ _ _); refine ne_int_yes (by assumption) ?_))
  trivial
theorem SAt.notIter {w : World} {led : List (Addr × Obj)} {S dS D : Addr} {nds : List Nd} {r p f : Value} (h : SAt w led S dS D nds r p f) {h₀ hp : Heap} {L : Addr} (N : News h₀ L hp led) {x : Addr} {o : Obj} (hq : (x, o) ∈ led) (e : o.cls = .type "range_iterator") : x ∉ adrs S dS D nds := by
  refine hide ?_
  intro Pz kz
  obtain ⟨⟨t1, t2, t3, t4, oD, hm, hd⟩, hn, hl⟩ := h
  refine kz ?_
  clear kz Pz
  intro ha
  have key : ∀ o', (x, o') ∈ led → o' = o := fun o' ho => by
    have h1 := (N _ hq).1
    rw [(N _ ho).1] at h1
    exact Option.some.inj h1
  simp only [adrs, List.mem_cons] at ha
  rcases ha with ha | ha | ha | ha
  · have h9 := key _ (ha ▸ hm _ (.head _)); rw [← h9] at e; cases e
  · have h9 := key _ (ha ▸ hm _ (.tail _ (.head _))); rw [← h9] at e; simp at e
  · have h2 := key _ (ha ▸ hm _ (.tail _ (.tail _ (.head _))))
    refine hide ?_
    intro Pz kz
    obtain ⟨es, ep, hcls, hdd, _⟩ := hd
    refine kz ?_
    clear kz Pz
    have hc9 := hcls.1; rw [h2, e] at hc9; simp at hc9
  · refine hide ?_
    intro Pz kz
    obtain ⟨nd, hnd, ha⟩ := List.mem_flatMap.mp ha
    refine kz ?_
    clear kz Pz
    have k : ∀ q ∈ ndL nd, q ∈ led := fun q hq => hm q (by simp only [sortL, List.mem_cons]; exact .inr (.inr (.inr (List.mem_flatMap.mpr ⟨nd, hnd, hq⟩))))
    simp only [ndA, List.mem_cons, List.not_mem_nil, or_false] at ha
    rcases ha with ha | ha | ha
    · have h9 := key _ (ha ▸ k _ (.head _)); rw [← h9] at e; cases e
    · have h9 := key _ (ha ▸ k _ (.tail _ (.head _))); rw [← h9] at e; simp at e
    · have h9 := key _ (ha ▸ k _ (.tail _ (.tail _ (.head _)))); rw [← h9] at e; simp at e
theorem SAt.notCell {w : World} {led : List (Addr × Obj)} {S dS D : Addr} {nds : List Nd} {r p f : Value} (h : SAt w led S dS D nds r p f) {h₀ hp : Heap} {L : Addr} (N : News h₀ L hp led) {x : Addr} {o : Obj} (hq : (x, o) ∈ led) {v : Option Value} (e : o.data = .cell v) : x ∉ adrs S dS D nds := by
  refine hide ?_
  intro Pz kz
  obtain ⟨⟨t1, t2, t3, t4, oD, hm, hd⟩, hn, hl⟩ := h
  refine kz ?_
  clear kz Pz
  intro ha
  have key : ∀ o', (x, o') ∈ led → o' = o := fun o' ho => by
    have h1 := (N _ hq).1
    rw [(N _ ho).1] at h1
    exact Option.some.inj h1
  simp only [adrs, List.mem_cons] at ha
  rcases ha with ha | ha | ha | ha
  · have h9 := key _ (ha ▸ hm _ (.head _)); rw [← h9] at e; cases e
  · have h9 := key _ (ha ▸ hm _ (.tail _ (.head _))); rw [← h9] at e; cases e
  · have h2 := key _ (ha ▸ hm _ (.tail _ (.tail _ (.head _))))
    refine hide ?_
    intro Pz kz
    obtain ⟨es, ep, hcls, hdd, _⟩ := hd
    refine kz ?_
    clear kz Pz
    rw [h2, e] at hdd; cases hdd
  · refine hide ?_
    intro Pz kz
    obtain ⟨nd, hnd, ha⟩ := List.mem_flatMap.mp ha
    refine kz ?_
    clear kz Pz
    have k : ∀ q ∈ ndL nd, q ∈ led := fun q hq => hm q (by simp only [sortL, List.mem_cons]; exact .inr (.inr (.inr (List.mem_flatMap.mpr ⟨nd, hnd, hq⟩))))
    simp only [ndA, List.mem_cons, List.not_mem_nil, or_false] at ha
    rcases ha with ha | ha | ha
    · have h9 := key _ (ha ▸ k _ (.head _)); rw [← h9] at e; cases e
    · have h9 := key _ (ha ▸ k _ (.tail _ (.head _))); rw [← h9] at e; cases e
    · have h9 := key _ (ha ▸ k _ (.tail _ (.tail _ (.head _)))); rw [← h9] at e; cases e
/-- a ledger without one place -/
theorem SAt.filter {w : World} {led : List (Addr × Obj)} {S dS D : Addr} {nds : List Nd} {r p f : Value} (h : SAt w led S dS D nds r p f) {P : Addr × Obj → Bool} (hP : ∀ q ∈ led, q.1 ∈ adrs S dS D nds → P q = true) : SAt w (led.filter P) S dS D nds r p f := by
  refine hide ?_
  intro Pz kz
  obtain ⟨⟨t1, t2, t3, t4, oD, hm, hd⟩, hn, hl⟩ := h
  refine kz ?_
  clear kz Pz
  refine ⟨⟨t1, t2, t3, t4, oD, fun q hq => List.mem_filter.mpr ⟨hm q hq, hP q (hm q hq) ?_⟩, hd⟩, hn, hl⟩
  simp only [sortL, List.mem_cons] at hq
  simp only [adrs, List.mem_cons]
  rcases hq with rfl | rfl | rfl | hq
  · exact .inl rfl
  · exact .inr (.inl rfl)
  · exact .inr (.inr (.inl rfl))
  · refine hide ?_
    intro Pz kz
    obtain ⟨nd, hnd, hq⟩ := List.mem_flatMap.mp hq
    refine kz ?_
    clear kz Pz
    refine .inr (.inr (.inr (List.mem_flatMap.mpr ⟨nd, hnd, ?_⟩)))
    simp only [ndL, List.mem_cons, List.not_mem_nil, or_false] at hq
    simp only [ndA, List.mem_cons]
    rcases hq with rfl | rfl | rfl
    · exact .inl rfl
    · exact .inr (.inl rfl)
    · exact .inr (.inr (.inl rfl))
noncomputable def ToldAt (T0 : Nat → Nat → Bool) (b : Nat → Bool) (led : List (Addr × Obj)) (ds : List Value) : Prop :=
  ds.length = 6 ∧ ∀ k < 6, ∃ r, ds[k]? = some (.ref r) ∧ (r, LCg.lst ((List.range 6).map (fun j => Value.bool (T0 k j)) ++ [Value.bool (b k)])) ∈ led
theorem ToldAt.mono {T0 : Nat → Nat → Bool} {b : Nat → Bool} {led led' : List (Addr × Obj)} {ds : List Value} (h : ToldAt T0 b led ds) (hs : ∀ q ∈ led, q ∈ led') : ToldAt T0 b led' ds :=
  ⟨h.1, fun k hk => (by obtain ⟨r, a1, a2⟩ := h.2 k hk; exact ⟨r, a1, hs _ a2⟩)⟩
/-- the sorter behind its first six adds -/
structure Nds1 (n : Nat) (nds : List Nd) : Prop where
  len : nds.length = n
  vi : ∀ (j : Nat) (x : Nd), nds[j]? = some x → ∃ t, x.vi = .int (j : Int) t
  vp : ∀ (j : Nat) (x : Nd), nds[j]? = some x → ∃ t, x.vp = .int 0 t
  its : ∀ (j : Nat) (x : Nd), nds[j]? = some x → x.its = []
theorem Nds1.snoc {n : Nat} {nds : List Nd} {x : Nd} (h : Nds1 n nds) (h1 : ∃ t, x.vi = .int (n : Int) t) (h2 : ∃ t, x.vp = .int 0 t) (h3 : x.its = []) : Nds1 (n + 1) (nds ++ [x]) := by
  have key : ∀ {P : Nat → Nd → Prop}, (∀ (j : Nat) (y : Nd), nds[j]? = some y → P j y) → P n x → ∀ (j : Nat) (y : Nd), (nds ++ [x])[j]? = some y → P j y := by
    intro P hp hx j y hj
    by_cases hl : j < nds.length
    · rw [List.getElem?_append_left hl] at hj; exact hp j y hj
    · have hl2 := (List.getElem?_eq_some_iff.mp hj).1
      simp at hl2
      have e : j = nds.length := by omega
      subst e
      simp at hj
      subst hj
      rw [h.len]; exact hx
  exact ⟨by simp [h.len], key (P := fun j x => ∃ t, x.vi = .int (j : Int) t) h.vi h1, key (P := fun j x => ∃ t, x.vp = .int 0 t) h.vp h2, key (P := fun j x => x.its = []) h.its h3⟩
theorem second_ex {h₀ h : Heap} {L a b : Addr} {o o' : Obj} {led : List (Addr × Obj)} (_N : News h₀ L h ((a, o) :: (b, o') :: led)) : ∃ c, c = b := ⟨b, rfl⟩
/-- things that no sorter holds -/
noncomputable def BlOk (bl : List (Addr × Obj)) : Prop := ∀ q ∈ bl, (∃ v, q.2.data = .cell v) ∨ (q.2.cls = .type "list" ∧ ∃ its n, q.2.data = .seq its n ∧ its ≠ #[])
theorem SAt.notBl {w : World} {led bl : List (Addr × Obj)} {S dS D : Addr} {nds : List Nd} {r p f : Value} (h : SAt w led S dS D nds r p f) (hi : ∀ x ∈ nds, x.its = []) {h₀ hp : Heap} {L : Addr} (N : News h₀ L hp led) (hb : BlOk bl) {q : Addr × Obj} (hq : q ∈ bl) (hl : q ∈ led) : q.1 ∉ adrs S dS D nds := by
  rcases hb q hq with ⟨v, e⟩ | ⟨e1, its, n, e2, hne⟩
  · exact h.notCell N hl e
  · refine hide ?_
    intro Pz kz
    obtain ⟨⟨t1, t2, t3, t4, oD, hm, hd⟩, hn, hlow⟩ := h
    refine kz ?_
    clear kz Pz
    intro ha
    have key : ∀ o', (q.1, o') ∈ led → o' = q.2 := fun o' ho => by
      have h1 := (N _ hl).1
      rw [(N _ ho).1] at h1
      exact Option.some.inj h1
    simp only [adrs, List.mem_cons] at ha
    rcases ha with ha | ha | ha | ha
    · have h9 := key _ (ha ▸ hm _ (.head _)); rw [← h9] at e1; cases e1
    · have h9 := key _ (ha ▸ hm _ (.tail _ (.head _))); rw [← h9] at e1; simp at e1
    · have h2 := key _ (ha ▸ hm _ (.tail _ (.tail _ (.head _))))
      refine hide ?_
      intro Pz kz
      obtain ⟨es, ep, hcls, hdd, _⟩ := hd
      refine kz ?_
      clear kz Pz
      rw [h2, e2] at hdd; cases hdd
    · refine hide ?_
      intro Pz kz
      obtain ⟨nd, hnd, ha⟩ := List.mem_flatMap.mp ha
      refine kz ?_
      clear kz Pz
      have k : ∀ q ∈ ndL nd, q ∈ led := fun q hq => hm q (by simp only [sortL, List.mem_cons]; exact .inr (.inr (.inr (List.mem_flatMap.mpr ⟨nd, hnd, hq⟩))))
      simp only [ndA, List.mem_cons, List.not_mem_nil, or_false] at ha
      rcases ha with ha | ha | ha
      · have h9 := key _ (ha ▸ k _ (.head _)); rw [← h9] at e1; cases e1
      · have h9 := key _ (ha ▸ k _ (.tail _ (.head _))); rw [← h9] at e1; simp at e1
      · have h9 := key _ (ha ▸ k _ (.tail _ (.tail _ (.head _))))
        rw [hi nd hnd] at h9
        rw [← h9] at e2
        cases e2
        exact hne rfl
theorem Nds1.nil {n : Nat} {nds : List Nd} (h : Nds1 n nds) : ∀ x ∈ nds, x.its = [] := fun x hx => by
  refine hide ?_
  intro Pz kz
  obtain ⟨i, hi⟩ := List.getElem?_of_mem hx
  refine kz ?_
  clear kz Pz
  exact h.its i x hi
theorem preds_len {T0 : Nat → Nat → Bool} {j : Nat} (hj : j < 6) : (predsP T0 j).length ≤ 5 := by
  have e : (predsP T0 j).length + 1 ≤ 6 := by
    have h1 : (j :: predsP T0 j).Nodup := List.nodup_cons.mpr ⟨fun h => (mem_preds.mp h).2.1 rfl, preds_nodup⟩
    exact nodup_len 6 (j :: predsP T0 j) h1 (fun x hx => by
      rcases List.mem_cons.mp hx with rfl | hx
      · exact hj
      · exact (mem_preds.mp hx).1)
  omega
structure Nds2 (T0 : Nat → Nat → Bool) (j : Nat) (nds : List Nd) : Prop where
  len : nds.length = 6
  vi : ∀ (k : Nat) (x : Nd), nds[k]? = some x → ∃ t, x.vi = .int (k : Int) t
  vp : ∀ (k : Nat) (x : Nd), nds[k]? = some x → ∃ t, x.vp = .int (if k < j then ((predsP T0 k).length : Int) else 0) t
  its : ∀ (k : Nat) (x : Nd), nds[k]? = some x → IntsAre x.its (((List.range j).filter fun i => k != i && T0 k i).map Int.ofNat)
theorem Nds1.to2 {T0 : Nat → Nat → Bool} {nds : List Nd} (h : Nds1 6 nds) : Nds2 T0 0 nds :=
  ⟨h.len, h.vi, fun k x hx => by obtain ⟨t, e⟩ := h.vp k x hx; exact ⟨t, by rw [e]; simp⟩, fun k x hx => by rw [h.its k x hx]; exact .nil⟩
theorem addSu_get {v : Value} {nds : List Nd} {k : Int} (hk : 0 ≤ k) {i : Nat} {y : Nd} (hy : (addSu v nds k)[i]? = some y) :
    ∃ x0, nds[i]? = some x0 ∧ y.vi = x0.vi ∧ y.vp = x0.vp ∧ y.its = x0.its ++ (if (i : Int) = k then [v] else []) := by
  unfold addSu at hy
  split at hy
  · rename_i x hx
    by_cases e : i = k.toNat
    · subst e
      rw [List.getElem?_set_self (List.getElem?_eq_some_iff.mp hx).1] at hy
      cases hy
      exact ⟨x, hx, rfl, rfl, by rw [if_pos (by omega)]⟩
    · rw [List.getElem?_set_ne (fun e' => e e'.symm)] at hy
      exact ⟨y, hy, rfl, rfl, by rw [if_neg (by omega)]; simp⟩
  · rename_i hx
    refine ⟨y, hy, rfl, rfl, ?_⟩
    rw [if_neg]
    · simp
    · intro e
      have : k.toNat = i := by omega
      rw [this, hy] at hx
      cases hx
theorem addAll_get {v : Value} : ∀ (ks : List Int) (nds : List Nd), ks.Nodup → (∀ k ∈ ks, 0 ≤ k) → ∀ {i : Nat} {y : Nd}, (ks.foldl (addSu v) nds)[i]? = some y →
    ∃ x0, nds[i]? = some x0 ∧ y.vi = x0.vi ∧ y.vp = x0.vp ∧ y.its = x0.its ++ (if (i : Int) ∈ ks then [v] else [])
  | [], nds, _, _, i, y, hy => ⟨y, hy, rfl, rfl, by simp⟩
  | k :: ks, nds, hn, hp, i, y, hy => by
    refine hide ?_
    intro Pz kz
    obtain ⟨h1, h2⟩ := List.nodup_cons.mp hn
    obtain ⟨x1, a1, a2, a3, a4⟩ := addAll_get ks (addSu v nds k) h2 (fun k' hk' => hp k' (List.mem_cons_of_mem _ hk')) hy
    obtain ⟨x0, b1, b2, b3, b4⟩ := addSu_get (hp k (List.mem_cons_self ..)) a1
    refine kz ?_
    clear kz Pz
    refine ⟨x0, b1, a2.trans b2, a3.trans b3, ?_⟩
    rw [a4, b4]
    by_cases e : (i : Int) = k
    · have : ¬ (i : Int) ∈ ks := e ▸ h1
      simp [e, e ▸ this]
    · by_cases e2 : (i : Int) ∈ ks <;> simp [e, e2]
theorem Nds2.step {T0 : Nat → Nat → Bool} {j : Nat} {nds : List Nd} (h : Nds2 T0 j nds) (hj : j < 6) {x : Nd} (hx : nds[j]? = some x) {t t' : Tok} {v' : Value} (hv : v' = .int ((predsP T0 j).length : Int) t') :
    Nds2 T0 (j + 1) (((predsP T0 j).map Int.ofNat).foldl (addSu (.int (j : Int) t)) (nds.set j { x with vp := v' })) := by
  have hnd : ((predsP T0 j).map Int.ofNat).Nodup := nodup_ofNat preds_nodup
  have hpos : ∀ k ∈ (predsP T0 j).map Int.ofNat, 0 ≤ k := fun k hk => by obtain ⟨n, _, rfl⟩ := List.mem_map.mp hk; exact Int.natCast_nonneg _
  have base : ∀ {k : Nat} {y : Nd}, (nds.set j { x with vp := v' })[k]? = some y → ∃ y0, nds[k]? = some y0 ∧ y.vi = y0.vi ∧ y.its = y0.its ∧ (k = j → y.vp = v') ∧ (k ≠ j → y.vp = y0.vp) := by
    intro k y hy
    by_cases e : k = j
    · subst e
      rw [List.getElem?_set_self (List.getElem?_eq_some_iff.mp hx).1] at hy
      cases hy
      exact ⟨x, hx, rfl, rfl, fun _ => rfl, fun h => absurd rfl h⟩
    · rw [List.getElem?_set_ne (fun e' => e e'.symm)] at hy
      exact ⟨y, hy, rfl, rfl, fun h => absurd h e, fun _ => rfl⟩
  refine ⟨by rw [addAll_len, List.length_set, h.len], fun k y hy => ?_, fun k y hy => ?_, fun k y hy => ?_⟩
  · refine hide ?_
    intro Pz kz
    obtain ⟨x1, a1, a2, a3, a4⟩ := addAll_get _ _ hnd hpos hy
    obtain ⟨y0, b1, b2, b3, b4, b5⟩ := base a1
    refine kz ?_
    clear kz Pz
    rw [a2, b2]; exact h.vi k y0 b1
  · refine hide ?_
    intro Pz kz
    obtain ⟨x1, a1, a2, a3, a4⟩ := addAll_get _ _ hnd hpos hy
    obtain ⟨y0, b1, b2, b3, b4, b5⟩ := base a1
    refine kz ?_
    clear kz Pz
    rw [a3]
    by_cases e : k = j
    · rw [b4 e, hv]; exact ⟨t', by rw [if_pos (by omega), e]⟩
    · rw [b5 e]
      refine hide ?_
      intro Pz kz
      obtain ⟨t9, e9⟩ := h.vp k y0 b1
      refine kz ?_
      clear kz Pz
      refine ⟨t9, ?_⟩
      rw [e9]
      by_cases e2 : k < j
      · rw [if_pos e2, if_pos (by omega)]
      · rw [if_neg e2, if_neg (by omega)]
  · refine hide ?_
    intro Pz kz
    obtain ⟨x1, a1, a2, a3, a4⟩ := addAll_get _ _ hnd hpos hy
    obtain ⟨y0, b1, b2, b3, b4, b5⟩ := base a1
    refine kz ?_
    clear kz Pz
    have hk6 : k < 6 := by rw [← h.len]; exact (List.getElem?_eq_some_iff.mp b1).1
    have hi := h.its k y0 b1
    rw [a4, b3, List.range_succ, List.filter_append, List.map_append]
    refine hi.append ?_
    by_cases hm : k ∈ predsP T0 j
    · refine hide ?_
      intro Pz kz
      obtain ⟨_, m1, m2⟩ := mem_preds.mp hm
      refine kz ?_
      clear kz Pz
      have e1 : (k : Int) ∈ (predsP T0 j).map Int.ofNat := List.mem_map.mpr ⟨k, hm, rfl⟩
      rw [if_pos e1, show [j].filter (fun i => k != i && T0 k i) = [j] by simp [m1, m2]]
      exact .cons _ _ .nil
    · have e1 : ¬ (k : Int) ∈ (predsP T0 j).map Int.ofNat := fun h9 => by
        refine hide ?_
        intro Pz kz
        obtain ⟨n, hn, e⟩ := List.mem_map.mp h9
        refine kz ?_
        clear kz Pz
        have : n = k := Int.ofNat.inj e
        exact hm (this ▸ hn)
      have e2 : (k != j && T0 k j) = false := by
        cases hh : (k != j && T0 k j) with
        | false => rfl
        | true => simp at hh; exact absurd (mem_preds.mpr ⟨hk6, hh.1, hh.2⟩) hm
      rw [if_neg e1, show [j].filter (fun i => k != i && T0 k i) = [] by simp [List.filter_cons, e2]]
      exact .nil
section
variable {w : World} {mean : ExcName → Option Value} {mg mb : Str → Option Value} {gd : Option (List Code)} {a : Addr} {ccd : Value} {A₀ : Around} {h₀ : Heap} {L : Addr} {mm : Str → Option Value} {s : Shared} {Q : Flow → Shared → Prop} {E : Value → Shared → Prop} {led bl : List (Addr × Obj)} {S dS D : Addr} {nds : List Nd}
theorem law7 (B : Below A₀ h₀ [] h₀) (F : Fr h₀ L s.heap mm) (X : (Mine.pre.heap_1_1 w.params).In h₀) (N : News h₀ L s.heap led) (T : Top Mine.pre.view_1_2 (looseW Mine.pre.view_1_2 [Str.ofString "_NodeInfo"]) mean mg mb h₀)
   (hE : PassesOwn (model PySem.Challenge.rw_nb0264_01.row.prog w) (lawA gd lawSc L a ccd) (lawEnv lawSc L a ccd) E)
   (oJ oN oT oR : Obj) (vJ : Option Value) (nA tA rA : Addr) (xs : List Str) (vs bs rs : List Value) (e : Nat) (T0 : Nat → Nat → Bool) (bN : Nat → Bool)
   (hoJ : oJ.data = .cell vJ) (hcJ : (L + 1 + 1 + 1 + 1 + 1, oJ) ∈ led) (hJb : ∀ q ∈ bl, q.1 ≠ L + 1 + 1 + 1 + 1 + 1) (hbl : SubL bl led) (hbk : BlOk bl)
   (hcR : (L + 1 + 1 + 1 + 1, oR) ∈ bl) (hoR : oR.data = .cell (some (.ref rA))) (hr : (rA, LCg.lst rs) ∈ bl) (htold : ToldAt T0 bN bl rs)
   (hQ : ∀ S dS D nds tp tf led' h' tk', Fr h₀ L h' (fun y => if y = Str.ofString "sorter" then some (.ref S) else mm y) → News h₀ L h' led' → (∀ q ∈ bl, q ∈ led' ∧ q.1 ∉ adrs S dS D nds) → SAt w led' S dS D nds .none (.int 0 tp) (.int 0 tf) → nds.length = 6 →
     (∀ i x, nds[i]? = some x → IntsAre x.its ((suP T0 i).map Int.ofNat)) → SFx nds nds (fun j => ((predsP T0 j).length : Int)) → (∀ (j : Nat) (x : Nd), nds[j]? = some x → ∃ t, x.vi = .int (j : Int) t) →
     wpAny (model PySem.Challenge.rw_nb0264_01.row.prog w) (lawA gd lawSc L a ccd) (execs (lawB.drop 10) (lawEnv lawSc L a ccd)) Q E { s with heap := h', toks := tk' }) :
   wpAny (model PySem.Challenge.rw_nb0264_01.row.prog w) (lawA gd lawSc L a ccd) (execs (lawB.drop 7) (lawEnv lawSc L a ccd)) Q E s := by
  conv at hE in (occs := *) lawSc => all_goals whnf
  conv in lawB.drop 7 => whnf
  conv in (occs := *) lawSc => all_goals whnf
  dsimp only [lawA, lawEnv] at hE ⊢
  ktr_unf
  k_dflt (refine' wp_up (c_new ?k1 ?k2 ?k3 ?k4 ?k5 ?_) ?u1 ?u2 ?u3 ?u4 ?u5; (case u2 => exact rfl); (case u1 => exact rfl); (case u3 => exact rfl); (case u4 => exact Nat.le_of_ble_eq_true rfl); (case u5 => exact Nat.le_of_ble_eq_true rfl); (case k1 => k_asm); (case k2 => k_asm); (case k3 => k_asm); (case k4 => k_asm); (case k5 => k_asm); k_whole)
  intro S dS D tp tf h1 tk1 led1 F1 N1 hS1 hk1
  clear F N
  have hJ1 := hk1 _ hcJ
  have hbl1 : SubL bl led1 := hbl.trans ⟨hk1⟩
  clear hcJ hbl hk1
  (try dsimp only)
  ktr_unf
  refine wpAny_For ?_
  ktr_unf
  (rename Fr _ _ _ _ => lF1); (rename News _ _ _ _ => lN1)
  have hJoff : L + 1 + 1 + 1 + 1 + 1 ∉ adrs S dS D [] := hS1.notCell lN1 hJ1 hoJ
  refine rngC (n := 6) (c := L + 1 + 1 + 1 + 1 + 1) (oc₀ := oJ) (v₀ := vJ) (news := led1.filter fun q => decide (q.1 ≠ L + 1 + 1 + 1 + 1 + 1)) (fun j m₁ nx => m₁ = _ ∧ ∃ nds, SAt w nx S dS D nds .none (.int 0 tp) (.int 0 tf) ∧ Nds1 j nds ∧ SubL bl nx) rfl (by passes_own) rfl rfl rfl (by assumption) (by decide) (by rfl) lF1 (fun p hp => ?a1) hoJ (fun p hp => ?a2) ⟨rfl, [], ?a3, ⟨rfl, fun _ _ h => by simp at h, fun _ _ h => by simp at h, fun _ _ h => by simp at h⟩, ⟨fun q hq => List.mem_filter.mpr ⟨hbl1.sub q hq, by simpa using hJb q hq⟩⟩⟩ ?_ ?_
  case a1 =>
    revert p
    exact all_cons (lN1 _ hJ1) (fun p hp => lN1 _ (List.mem_filter.mp hp).1)
  case a2 => simpa using (List.mem_filter.mp hp).2
  case a3 => exact hS1.filter fun q _ hq => by simp only [decide_eq_true_eq]; exact fun e => hJoff (e ▸ hq)
  · clear lF1 lN1
    intro j t2 m₁ nx I oI oc h2 tk2 hj6 off2 hIc hoI hoc hz0 F2 N2
    refine hide ?_
    intro Pz kz
    obtain ⟨rfl, nds, hS2, hnd, hbn⟩ := hz0
    have hS2' : SAt w ((I, oI) :: (L + 1 + 1 + 1 + 1 + 1, oc) :: nx) S dS D nds .none (.int 0 tp) (.int 0 tf) := hS2.mono fun q hq => .tail _ (.tail _ hq)
    have hIoff := hS2'.notIter N2 (.head _) hoI
    have hcoff := hS2'.notCell N2 (.tail _ (.head _)) hoc
    have hbD : ∀ q ∈ bl, q.1 ∉ adrs S dS D nds := fun q hq => hS2'.notBl hnd.nil N2 hbk hq (.tail _ (.tail _ (hbn.sub q hq)))
    obtain ⟨t1, t2', t3, t4, oD, m1, m2, m3, hD⟩ := hS2'.top
    refine kz ?_
    clear kz Pz
    (try k_fold)
    have hlen := hnd.len
    ktr_unf
    k_dflt (refine' wp_up (c_add0 ?k1 ?k2 ?k3 ?k4 ?k5 hS2' _ _ (by omega) (by omega) ?_) ?u1 ?u2 ?u3 ?u4 ?u5; (case u2 => exact rfl); (case u1 => exact rfl); (case u3 => exact rfl); (case u4 => exact Nat.le_of_ble_eq_true rfl); (case u5 => exact Nat.le_of_ble_eq_true rfl); (case k1 => k_asm); (case k2 => k_asm); (case k3 => k_asm); (case k4 => k_asm); (case k5 => k_asm); k_whole)
    intro x h3 tk3 led3 F3 N3 hS3 hk3 e1 e2 e3
    have hD0 : D ∈ adrs S dS D nds := .tail _ (.tail _ (.head _))
    have hI3 := hk3 _ (.head _) (fun e => hIoff (e ▸ hD0))
    have hc3 := hk3 _ (.tail _ (.head _)) (fun e => hcoff (e ▸ hD0))
    have hI3' := hS3.notIter N3 hI3 hoI
    have hc3' := hS3.notCell N3 hc3 hoc
    (try dsimp only)
    ktr_unf
    dsimp only [PostC]
    refine EndC.intro (by k_asm) (by k_asm) (led3.filter fun q => decide (q.1 ≠ I ∧ q.1 ≠ L + 1 + 1 + 1 + 1 + 1)) (fun p hp => ?b1) hoc (fun p hp => by simpa using (List.mem_filter.mp hp).2) ⟨rfl, nds ++ [x], hS3.filter fun q _ hq => ?b2, hnd.snoc ⟨t2, by rw [e1]; simp⟩ e2 e3, ⟨fun q hq => List.mem_filter.mpr ⟨hk3 q (.tail _ (.tail _ (hbn.sub q hq))) (fun e => hbD q hq (e ▸ hD0)), by simpa using off2 q (hbn.sub q hq)⟩⟩⟩
    case b1 =>
      revert p
      exact all_cons (hI3) (all_cons (hc3) (fun p hp => (List.mem_filter.mp hp).1))
    case b2 =>
      simp only [decide_eq_true_eq]
      exact ⟨fun e => hI3' (e ▸ hq), fun e => hc3' (e ▸ hq)⟩
  · clear lF1 lN1
    intro m₁ nx oc v h2 tk2 hz0 hoc offc F2 N2
    refine hide ?_
    intro Pz kz
    obtain ⟨rfl, nds, hS2, hnd, hbn⟩ := hz0
    refine kz ?_
    clear kz Pz
    (try k_fold)
    have hb0 : ∀ q ∈ bl, q.1 ∉ adrs S dS D nds := fun q hq => hS2.notBl hnd.nil (fun p hp => N2 p (.tail _ hp)) hbk hq (hbn.sub q hq)
    dsimp only
    ktr_unf
    refine wpAny_For ?_
    ktr_unf
    (rename Fr _ _ _ _ => lF1); (rename News _ _ _ _ => lN1)
    refine rngC (n := 6) (c := L + 1 + 1 + 1 + 1 + 1) (oc₀ := oc) (v₀ := v) (news := nx) (fun j m₁ nx => m₁ = _ ∧ ∃ nds', SAt w nx S dS D nds' .none (.int 0 tp) (.int 0 tf) ∧ Nds2 T0 j nds' ∧ adrs S dS D nds' = adrs S dS D nds ∧ SubL bl nx) rfl (by passes_own) rfl rfl rfl (by assumption) (by decide) (by rfl) lF1 lN1 hoc offc ⟨rfl, nds, hS2, hnd.to2, rfl, hbn⟩ ?_ ?_
    · clear lF1 lN1 hS2 hbn offc hoc
      intro j t2 m₁ nx I oI oc h2 tk2 hj6 off2 hIc hoI hoc hz0 F2 N2
      refine hide ?_
      intro Pz kz
      obtain ⟨rfl, nds', hS2, hn2, hadr, hbn⟩ := hz0
      have hS2' : SAt w ((I, oI) :: (L + 1 + 1 + 1 + 1 + 1, oc) :: nx) S dS D nds' .none (.int 0 tp) (.int 0 tf) := hS2.mono fun q hq => .tail _ (.tail _ hq)
      have hIoff := hS2'.notIter N2 (.head _) hoI
      have hcoff := hS2'.notCell N2 (.tail _ (.head _)) hoc
      have hsub2 : SubL bl ((I, oI) :: (L + 1 + 1 + 1 + 1 + 1, oc) :: nx) := ⟨fun q hq => .tail _ (.tail _ (hbn.sub q hq))⟩
      obtain ⟨t1, t2', t3, t4, oD, m1, m2, m3, hD⟩ := hS2'.top
      refine kz ?_
      clear kz Pz
      (try k_fold)
      ktr_unf
      (rename Fr _ _ _ _ => lF5)
      k_dflt (refine ListComp_TW lF5 (by with_unfolding_all rfl) (by decide) (by rfl) (by decide) (by rfl) ?_)
      ktr_unf
      (rename Fr _ _ _ _ => lF'); (rename News _ _ _ _ => lN')
      have hrsl : rs.length = 6 := htold.1
      refine AtT.range (n := 6) rfl lF' lN' (by assumption) (by decide) (by rfl) (by decide +kernel) ?_
      intro g5
      refine compRestT_pure (fun i zs => IntsAre zs (((List.range i).filter fun i => i != j && T0 i j).map Int.ofNat)) trivial ?_ ?_ .nil
      · intro i v zs5 I5 oI5 C5 oC5 D5 m₂ h5 tk5 E5 hi5 hz0 hR hC5 hx5 F5 N5 off5 ne5 hS5
        refine hide ?_
        intro Pz kz
        obtain ⟨t5, rfl⟩ := hz0
        replace hR : Kp (IntsAre zs5 _) := ⟨hR⟩
        obtain ⟨ra, hra, hrm⟩ := htold.2 i hi5
        refine kz ?_
        clear kz Pz
        (try k_fold)
        have hra' : rs.toArray[(0 + (i : Int)).toNat]? = some (.ref ra) := by rw [show (0 + (i : Int)).toNat = i by omega]; simpa using hra
        have hrj : ((List.range 6).map (fun j => Value.bool (T0 i j)) ++ [Value.bool (bN i)]).toArray[(0 + (j : Int)).toNat]? = some (.bool (T0 i j)) := by
          rw [show (0 + (j : Int)).toNat = j by omega, List.getElem?_toArray, List.getElem?_append_left (by simpa using hj6)]; simp [hj6]
        have hsub5 : SubL bl nx := hbn
        clear lF' lN'
        by_cases hp9 : (i != j && T0 i j) = true
        · have hT9 : T0 i j = true := by simp at hp9; exact hp9.2
          have hn9 : ¬ ((0 : Int) + (i : Int) = 0 + (j : Int)) := by simp at hp9; omega
          rw [hT9] at hrj
          ktr_unf
          refine LCg.CompEnd.intro (by k_asm) (by k_asm) _ (fun _ hp => hp) off5 hS5 ⟨rfl, ?_⟩
          rw [range_filter, if_pos hp9, show (0 : Int) + (i : Int) = Int.ofNat i from Int.zero_add _]
          exact ints_snoc hR.out
        · by_cases hij : i = j
          · have hn9 : (0 : Int) + (i : Int) = 0 + (j : Int) := by omega
            ktr_unf
            refine LCg.CompEnd.intro (by k_asm) (by k_asm) _ (fun _ hp => hp) off5 hS5 ⟨rfl, ?_⟩
            rw [range_filter, if_neg hp9]; exact hR.out
          · have hT9 : T0 i j = false := by
              cases h9 : T0 i j with
              | false => rfl
              | true => exact absurd (by simp [hij, h9]) hp9
            rw [hT9] at hrj
            have hn9 : ¬ ((0 : Int) + (i : Int) = 0 + (j : Int)) := by omega
            ktr_unf
            refine LCg.CompEnd.intro (by k_asm) (by k_asm) _ (fun _ hp => hp) off5 hS5 ⟨rfl, ?_⟩
            rw [range_filter, if_neg hp9]; exact hR.out
      · intro qs hqs
        have hqs' : Kp (IntsAre qs ((predsP T0 j).map Int.ofNat)) := ⟨hqs⟩
        clear hqs lF' lN'
        unfold LCg.FinE
        intro D6 h6 tk6 F6 N6 o6
        have hpl : (predsP T0 j).length ≤ 5 := preds_len hj6
        have hql : qs.length ≤ 5 := by rw [IntsAre.length hqs'.out, List.length_map]; exact hpl
        ktr_unf
        (rename Fr _ _ _ _ => lF7); (rename News _ _ _ _ => lN7)
        k_dflt (refine' star_seq lF7 lN7 (.head _) rfl rfl (.inl rfl) List.toList_toArray ?z ?_; (case z => (rw [sizeLine_eq]; simp; omega)); k_whole)
        intro h7 F7 N7
        clear lF7 lN7
        refine hide ?_
        intro Pz kz
        obtain ⟨q9, hq9⟩ := second_ex N7
        refine kz ?_
        clear kz Pz
        subst hq9
        walk1
        refine ⟨methP N7 (.tail _ (.head _)) (by k_in), ?_⟩
        refine call_meth N7 (.tail _ (.head _)) ?_
        (try dsimp only [List.nil_append])
        rw [show (0 : Int) + (j : Int) = (j : Int) from Int.zero_add _, List.append_nil]
        have hS7 : SAt w ((D6, LCg.lst qs) :: (q9, methodObj (Value.ref 129) (Value.ref S)) :: (I, oI) :: (L + 1 + 1 + 1 + 1 + 1, oc) :: nx) S dS D nds' .none (.int 0 tp) (.int 0 tf) := hS2'.mono fun q hq => .tail _ (.tail _ hq)
        obtain ⟨x, hx⟩ : ∃ x, nds'[j]? = some x := ⟨_, List.getElem?_eq_getElem (by rw [hn2.len]; exact hj6)⟩
        refine hide ?_
        intro Pz kz
        obtain ⟨tv, hvp⟩ := hn2.vp j x hx
        refine kz ?_
        clear kz Pz
        rw [if_neg (Nat.lt_irrefl j)] at hvp
        k_dflt (refine' code_up (c_addC ?k1 ?k2 ?k3 ?k4 ?k5 hS7 j t2 x hx 0 tv hvp qs ((predsP T0 j).map Int.ofNat) hqs'.out hql (fun y hy => ?d1) (fun k hk => ?d2) ?_) ?u1 ?u2 ?u3 ?u4 ?u5; (case u2 => exact rfl); (case u1 => exact rfl); (case u3 => exact rfl); (case u4 => exact Nat.le_of_ble_eq_true rfl); (case u5 => exact Nat.le_of_ble_eq_true rfl); (case k1 => k_asm); (case k2 => k_asm); (case k3 => k_asm); (case k4 => k_asm); (case k5 => k_asm); k_whole)
        case d1 =>
          refine hide ?_
          intro Pz kz
          obtain ⟨i9, hi9⟩ := List.getElem?_of_mem hy
          refine kz ?_
          clear kz Pz
          rw [IntsAre.length (hn2.its i9 y hi9), List.length_map]
          have := List.length_filter_le (fun i => i9 != i && T0 i9 i) (List.range j)
          simp at this
          omega
        case d2 =>
          refine hide ?_
          intro Pz kz
          obtain ⟨n, hn, rfl⟩ := List.mem_map.mp hk
          refine kz ?_
          clear kz Pz
          rw [hn2.len]
          have := (mem_preds.mp hn).1
          exact ⟨Int.natCast_nonneg _, Int.ofNat_lt.mpr this⟩
        intro v9 h9 tk9 led9 hv9 F9 N9 hS9 hk9
        refine hide ?_
        intro Pz kz
        obtain ⟨t9, hv9⟩ := hv9
        refine kz ?_
        clear kz Pz
        have hv9' : v9 = .int ((predsP T0 j).length : Int) t9 := by rw [hv9, IntsAre.length hqs'.out, List.length_map, Int.zero_add]
        (try dsimp only)
        ktr_unf
        dsimp only [PostC]
        have hI9 := hk9 _ (.tail _ (.tail _ (.head _))) hIoff
        have hc9 := hk9 _ (.tail _ (.tail _ (.tail _ (.head _)))) hcoff
        have hI9' := hS9.notIter N9 hI9 hoI
        have hc9' := hS9.notCell N9 hc9 hoc
        refine EndC.intro (by k_asm) (by k_asm) (led9.filter fun q => decide (q.1 ≠ I ∧ q.1 ≠ L + 1 + 1 + 1 + 1 + 1)) (fun p hp => ?b1) hoc (fun p hp => by simpa using (List.mem_filter.mp hp).2) ⟨rfl, _, hS9.filter fun q _ hq => ?b2, hn2.step hj6 hx (t' := t9) hv9', ?b5, ⟨fun q hq => List.mem_filter.mpr ⟨hk9 q (.tail _ (.tail _ (.tail _ (.tail _ (hbn.sub q hq))))) (by rw [hadr]; exact hb0 q hq), by simpa using off2 q (hbn.sub q hq)⟩⟩⟩
        case b1 =>
          revert p
          exact all_cons (hI9) (all_cons (hc9) (fun p hp => (List.mem_filter.mp hp).1))
        case b2 =>
          simp only [decide_eq_true_eq]
          exact ⟨fun e => hI9' (e ▸ hq), fun e => hc9' (e ▸ hq)⟩
        case b5 => rw [adrs_addAll, adrs_set (x' := { x with vp := v9 }) hx rfl, hadr]
    · clear lF1 lN1 hS2 hbn offc hoc
      intro m₁ nx oc v h2 tk2 hz0 hoc offc F2 N2
      refine hide ?_
      intro Pz kz
      obtain ⟨rfl, nds', hS2, hn2, hadr, hbn⟩ := hz0
      refine kz ?_
      clear kz Pz
      (try k_fold)
      exact hQ S dS D nds' tp tf _ _ _ F2 N2 (fun q hq => ⟨.tail _ (hbn.sub q hq), by rw [hadr]; exact hb0 q hq⟩) (hS2.mono fun q hq => .tail _ hq) hn2.len (fun i x hx => hn2.its i x hx) ⟨rfl, fun j x hx => by
        refine hide ?_
        intro Pz kz
        obtain ⟨t, e⟩ := hn2.vp j x hx
        refine kz ?_
        clear kz Pz
        have hj : j < 6 := by rw [← hn2.len]; exact (List.getElem?_eq_some_iff.mp hx).1
        rw [if_pos hj] at e
        exact ⟨t, by rw [hx, ← e]⟩⟩ hn2.vi
end
end Mine
end
section
theorem Mine.w_Law5_0 : True := by
  k_with_none
  trivial
namespace Mine
theorem Mine.w_Law5_1 : True := by
  (k_with "ktr_unf" => repeat' ((fail_if_success (with_reducible show wpAny _ _ (pyIter _) _ _ _)); (fail_if_success (with_reducible show wpAny _ _ (exec (Stmt.For _ _ _ _ _) _) _ _ _)); (fail_if_success (with_reducible show wpAny _ _ (eval (Expr.ListComp _ _ _ _) _) _ _ _)); (fail_if_success (with_reducible show wpAny _ _ (compareOp _ (Value.ref _) (Value.ref _)) _ _ _)); (fail_if_success (with_reducible show wpAny _ _ (binaryOp _ (Value.ref _) (Value.ref _)) _ _ _)); (fail_if_success (with_reducible show LCg.CompSrc _ _ _ _ _ _ _ _ _ _ _ _ _ _)); (fail_if_success (with_reducible show TwoSrc _ _ _ _ _ _ _ _ _ _ _ _ _ _)); (fail_if_success (with_reducible show wpAny _ _ (execs (Stmt.Assign _ (Expr.Call (Expr.Name _ _) [] [] _) _ :: _) _) _ _ _)); first | (k_unfold; (try dsimp only)) | tb_rel | ((fail_if_success (with_reducible show wpAny _ _ (subscriptTail _ _ (Value.ref _) (Value.int _ _)) _ _ _)); (fail_if_success (with_reducible show wpAny _ _ (setItem (Value.ref _) _ _) _ _ _)); first | walk1 | (dsimp only; walk1))))
  (k_with "k_mem" => first | assumption | exact List.Mem.head _ | (refine' List.Mem.tail _ ?_; k_mem) | (refine' SubL.mem (by assumption) ?_; k_mem))
  (k_with "k_all" => first | assumption | exact off1_mem' (by assumption) | exact lt_ne (by assumption) (by omega) | exact allLt_ne (by assumption) (by omega))
  (k_with "tb_rel" => ((with_reducible show wpAny _ _ (subscriptTail _ _ (Value.ref _) (Value.int _ _)) _ _ _); k_dflt (refine' item_at (by k_asm) (by k_mem) (by omega) (by omega) (by assumption) ?_); (try dsimp only)))
  trivial
theorem ToldAt.row {T0 : Nat → Nat → Bool} {b : Nat → Bool} {led : List (Addr × Obj)} {ds : List Value} (h : ToldAt T0 b led ds) {i : Nat} {v : Value} (hv : ds[i]? = some v) : i < 6 ∧ ∃ r, v = .ref r ∧ (r, LCg.lst ((List.range 6).map (fun j => Value.bool (T0 i j)) ++ [Value.bool (b i)])) ∈ led := by
  have hi : i < 6 := by rw [← h.1]; exact (List.getElem?_eq_some_iff.mp hv).1
  obtain ⟨r, h1, h2⟩ := h.2 i hi
  rw [h1] at hv
  exact ⟨hi, r, (Option.some.inj hv).symm, h2⟩
theorem row_bool {T0 : Nat → Nat → Bool} {b : Nat → Bool} {i j : Nat} {v : Value} (h : (((List.range 6).map (fun j => Value.bool (T0 i j)) ++ [Value.bool (b i)]).toArray)[j]? = some v) : ∃ bb, v = .bool bb := by
  rw [List.getElem?_toArray] at h
  have hm := List.mem_of_getElem? h
  rcases List.mem_append.mp hm with hm | hm
  · obtain ⟨k, _, rfl⟩ := List.mem_map.mp hm; exact ⟨_, rfl⟩
  · rw [List.mem_singleton.mp hm]; exact ⟨_, rfl⟩
theorem tup_at {prog : Program} {w : World} {A : Around} {E : Value → Shared → Prop} {s : Shared} {h₀ : Heap} {L : Addr} {news : List (Addr × Obj)} {value slice : PySem.Expr} {l : Addr} {its : List Value} {n : Nat} {k : Int} {u : Tok} {v : Value} {Q : Value → Shared → Prop}
    (N : News h₀ L s.heap news) (hm : (l, tupOf its.toArray n) ∈ news) (h0 : 0 ≤ k) (h1 : k < its.length) (hsm : its.length ≤ 100) (hx : its[k.toNat]? = some v) (h : Q v s)
    (hs : subscripted slice false (.ref l) (.int k u) = operate [.ref l, .int k u] (getItem (.ref l) (.int k u)) := by with_unfolding_all rfl) :
    wpAny (model prog w) A (subscriptTail value slice (.ref l) (.int k u)) Q E s :=
  item_tupleT ⟨_, (N _ hm).1, rfl, _, rfl⟩ (by omega) (by omega) (PySem.StrLaws.seqIndex_nonneg h0 h1) hx h hs
theorem pair_1 {prog : Program} {w : World} {A : Around} {E : Value → Shared → Prop} {s : Shared} {h₀ : Heap} {L : Addr} {news : List (Addr × Obj)} {value slice : PySem.Expr} {l : Addr} {a b : Value} {n : Nat} {u : Tok} {Q : Value → Shared → Prop}
    (N : News h₀ L s.heap news) (hm : (l, tupOf #[a, b] n) ∈ news) (h : Q b s)
    (hs : subscripted slice false (.ref l) (.int 1 u) = operate [.ref l, .int 1 u] (getItem (.ref l) (.int 1 u)) := by with_unfolding_all rfl) :
    wpAny (model prog w) A (subscriptTail value slice (.ref l) (.int 1 u)) Q E s :=
  tup_at (its := [a, b]) N hm (by decide) (by simp) (by simp) rfl h hs
theorem Mine.w_Law5_2 : True := by
  (k_with "tb_rel" => ((with_reducible show wpAny _ _ (subscriptTail _ _ (Value.ref _) (Value.int 1 _)) _ _ _); k_dflt (refine' pair_1 (by k_asm) (by k_mem) ?_); (try dsimp only)))
  trivial
noncomputable def ToldN (T0 : Nat → Nat → Bool) (b : Nat → Bool) (led : List (Addr × Obj)) (ds : List Value) (n : Nat) : Prop :=
  ds.length = n ∧ ∀ k < n, ∃ r o, ds[k]? = some (.ref r) ∧ (r, o) ∈ led ∧ ∃ e, o = listOf ((List.range 6).map (fun j => Value.bool (T0 k j)) ++ [Value.bool (b k)]).toArray e
theorem ToldN.mono {T0 : Nat → Nat → Bool} {b : Nat → Bool} {led led' : List (Addr × Obj)} {ds : List Value} {n : Nat} (h : ToldN T0 b led ds n) (hs : ∀ q ∈ led, q ∈ led') : ToldN T0 b led' ds n :=
  ⟨h.1, fun k hk => (by obtain ⟨r, o, a1, a2, a3⟩ := h.2 k hk; exact ⟨r, o, a1, hs _ a2, a3⟩)⟩
theorem ToldN.snoc {T0 : Nat → Nat → Bool} {b : Nat → Bool} {led : List (Addr × Obj)} {ds : List Value} {n : Nat} {r : Addr} {e : Nat} (h : ToldN T0 b led ds n) (hm : (r, listOf ((List.range 6).map (fun j => Value.bool (T0 n j)) ++ [Value.bool (b n)]).toArray e) ∈ led) : ToldN T0 b led (ds ++ [.ref r]) (n + 1) := by
  refine ⟨by simp [h.1], fun k hk => ?_⟩
  rcases Nat.lt_succ_iff_lt_or_eq.mp hk with hk | rfl
  · obtain ⟨r', o, a1, a2⟩ := h.2 k hk
    exact ⟨r', o, by rw [List.getElem?_append_left (by rw [h.1]; exact hk)]; exact a1, a2⟩
  · exact ⟨r, _, by rw [List.getElem?_append_right (by rw [h.1]; exact Nat.le_refl _)]; simp [h.1], hm, e, rfl⟩
theorem ToldAt.toN {T0 : Nat → Nat → Bool} {b : Nat → Bool} {led : List (Addr × Obj)} {ds : List Value} (h : ToldAt T0 b led ds) : ToldN T0 b led ds 6 :=
  ⟨h.1, fun k hk => (by obtain ⟨r, a1, a2⟩ := h.2 k hk; exact ⟨r, _, a1, a2, _, rfl⟩)⟩
noncomputable def rowData (T0 : Nat → Nat → Bool) (b : Nat → Bool) (k : Nat) : PyData := .list ((List.range 6).map (fun j => PyData.bool (T0 k j)) ++ [PyData.bool (b k)])
noncomputable def toldData (T0 : Nat → Nat → Bool) (b : Nat → Bool) : PyData := .list ((List.range 6).map (rowData T0 b))
theorem rowData_ok (T0 : Nat → Nat → Bool) (b : Nat → Bool) (k : Nat) : (rowData T0 b k).canLay0 = true ∧ (rowData T0 b k).depth ≤ 1 := by
  refine shaped_list (n := 0) (fun d hd => ?_) (fun d hd => ?_) (by decide)
  · rcases List.mem_append.mp hd with hd | hd
    · obtain ⟨k, _, rfl⟩ := List.mem_map.mp hd; rfl
    · rw [List.mem_singleton.mp hd]; rfl
  · rcases List.mem_append.mp hd with hd | hd
    · obtain ⟨k, _, rfl⟩ := List.mem_map.mp hd; exact Nat.le_refl _
    · rw [List.mem_singleton.mp hd]; exact Nat.le_refl _
theorem toldData_ok (T0 : Nat → Nat → Bool) (b : Nat → Bool) : SeqAt.shaped (toldData T0 b) = true :=
  shaped_of (shaped_list (n := 1) (fun d hd => by obtain ⟨k, _, rfl⟩ := List.mem_map.mp hd; exact (rowData_ok T0 b k).1) (fun d hd => by obtain ⟨k, _, rfl⟩ := List.mem_map.mp hd; exact (rowData_ok T0 b k).2) (by decide)) (by decide)
theorem reads_bools {h : Heap} : ∀ (bs : List Bool), ReadsAll h (bs.map Value.bool) (bs.map PyData.bool) []
  | [] => .nil
  | b :: r => .cons (.bool b) (reads_bools r)
theorem reads_told {h₀ h : Heap} {L : Addr} {led : List (Addr × Obj)} {T0 : Nat → Nat → Bool} {b : Nat → Bool} {ys : List Value} {Y : Addr} {o : Obj} {e : Nat} (N : News h₀ L h led) (hs : ToldN T0 b led ys 6) (hY : (Y, o) ∈ led) (ho : o = listOf ys.toArray e) : ∃ as, Reads h (.ref Y) (toldData T0 b) as := by
  subst ho
  obtain ⟨as, hr⟩ := readsAll_of (h := h) (vs := ys) (ds := (List.range 6).map (rowData T0 b)) (by rw [hs.1]; simp) (fun i v d hv hd => by
    have hi : i < 6 := by rw [← hs.1]; exact (List.getElem?_eq_some_iff.mp hv).1
    obtain ⟨r, o, a1, a2, e2, rfl⟩ := hs.2 i hi
    rw [a1] at hv
    cases hv
    rw [List.getElem?_map, List.getElem?_range hi] at hd
    cases hd
    refine ⟨[r], .list (as := []) (N _ a2).1 rfl rfl ?_⟩
    rw [List.toList_toArray]
    have := reads_bools (h := h) ((List.range 6).map (fun j => T0 i j) ++ [b i])
    simpa [List.map_append, List.map_map, Function.comp_def] using this)
  exact ⟨_, .list (N _ hY).1 rfl rfl (by rw [List.toList_toArray]; exact hr)⟩
section
variable {w : World} {mean : ExcName → Option Value} {mg mb : Str → Option Value} {gd : Option (List Code)} {a : Addr} {ccd : Value} {A₀ : Around} {h₀ : Heap} {L : Addr} {mm : Str → Option Value} {s : Shared} {Q : Flow → Shared → Prop} {E : Value → Shared → Prop} {led bl : List (Addr × Obj)}
theorem law5 (B : Below A₀ h₀ [] h₀) (F : Fr h₀ L s.heap mm) (X : (Mine.pre.heap_1_1 w.params).In h₀) (N : News h₀ L s.heap led) (T : Top Mine.pre.view_1_2 (looseW Mine.pre.view_1_2 [Str.ofString "_NodeInfo"]) mean mg mb h₀)
   (oD oN oT oR : Obj) (dA nA tA rA : Addr) (xs : List Str) (ds : List Nat) (vs bs rs dvs : List Value) (e e0 : Nat) (T0 : Nat → Nat → Bool) (bN : Nat → Bool)
   (hbl : SubL bl led)
   (hcD : (L + 1, oD) ∈ bl) (hoD : oD.data = .cell (some (.ref dA))) (hdA : (dA, listOf dvs.toArray e0) ∈ bl) (hdr : DrawnAt xs ds bl dvs)
   (hcN : (L + 1 + 1, oN) ∈ bl) (hoN : oN.data = .cell (some (.ref nA))) (hvs : StrsAre vs xs) (hl6 : xs.length = 6) (hvl : vs.length = 6) (hn : (nA, listOf vs.toArray e) ∈ bl)
   (hcT : (L + 1 + 1 + 1, oT) ∈ bl) (hoT : oT.data = .cell (some (.ref tA))) (ht : (tA, LCg.lst bs) ∈ bl) (hrows : RowsAt T0 bl bs 6)
   (hcR : (L + 1 + 1 + 1 + 1, oR) ∈ bl) (hoR : oR.data = .cell (some (.ref rA))) (hr : (rA, LCg.lst rs) ∈ bl) (htold : ToldAt T0 bN bl rs)
   (hbN : ∀ k, k < 6 → bN k = (decide (0 < ds.getD k 0) || xs.getD k (Str.ofString "") == Str.ofString "*"))
   (hQ : ∀ led' h' tk', Fr h₀ L h' mm → News h₀ L h' led' → SubL led led' →
     wpAny (model PySem.Challenge.rw_nb0264_01.row.prog w) (lawA gd lawSc L a ccd) (execs (lawB.drop 7) (lawEnv lawSc L a ccd)) Q E { s with heap := h', toks := tk' }) :
   wpAny (model PySem.Challenge.rw_nb0264_01.row.prog w) (lawA gd lawSc L a ccd) (execs (lawB.drop 5) (lawEnv lawSc L a ccd)) Q E s := by
  conv in lawB.drop 5 => whnf
  conv in (occs := *) lawSc => all_goals whnf
  dsimp only [lawA, lawEnv]
  have hvs' : Kp (StrsAre vs xs) := ⟨hvs⟩
  clear hvs
  have hrsl : rs.length = 6 := htold.1
  ktr_unf
  (rename Fr _ _ _ _ => lF0); (rename News _ _ _ _ => lN0)
  k_dflt (refine ListComp_two (h₀ := h₀) (L := L) (m := mm) (by with_unfolding_all rfl) (by decide) (by rfl) (by decide) (by rfl) (by rfl) (by decide) ?_)
  ktr_unf
  refine ⟨rA, rs.toArray, rs.length, led, rfl, rfl, by k_asm, by k_asm, hbl.sub _ hr, ?_, ?_⟩
  · intro i v hv
    obtain ⟨hi, r, rfl, hrm⟩ := htold.row (by simpa using hv)
    refine ⟨r, _, _, rfl, hbl.sub _ hrm, ?_⟩
    intro v j led2 s2 I2 oI2 C oC m₂ E' hv hC hx' F2 N2
    (try k_fold)
    obtain ⟨bb, rfl⟩ := row_bool hv
    clear lF0 lN0
    cases bb <;> (ktr_unf <;> first | exact F2 | exact N2)
  · intro D h3 tk3 F3 N3 o3
    clear lF0 lN0
    have s13 : SubL led ((D, LCg.lst []) :: led) := SubL.tail
    (try dsimp only)
    ktr_unf
    k_dflt (refine ke_ne_ints (News.isList (items := ([] : List Value).toArray) (by k_asm) (.tail _ (.head _))) (News.isList (items := ([] : List Value).toArray) (by k_asm) (.head _)) .nil .nil (by ke_room) ?_)
    dsimp only [decide_true, Bool.not_true]
    ktr_unf
    (rename Fr _ _ _ _ => lF4); (rename News _ _ _ _ => lN4)
    have lN5 : News h₀ L _ led := fun p hp => lN4 p (.tail _ (.tail _ hp))
    clear lN4 s13 o3
    k_dflt (refine LCg.ListComp_U (F₀ := lF4) (by with_unfolding_all rfl) (by decide) (by rfl) (by decide) (by rfl) ?_)
    ktr_unf
    k_dflt (refine LCg.CompSrc.range (n := 6) (by rfl) (by k_asm) (by k_asm) (by assumption) (by first | decide | rfl) (by first | rfl | decide) (by first | size_fits | exact Nat.le_of_ble_eq_true rfl) ?_)
    intro g'
    refine compRest_inv (fun i zs nw => SubL led nw ∧ ToldN T0 bN nw zs i) ?_ ?_ ⟨SubL.refl, rfl, fun k hk => absurd hk (Nat.not_lt_zero _)⟩
    · rintro i v zs nw I oI C oC D9 m₂ h tk E' hi ⟨t5, rfl⟩ ⟨hsub, hzs⟩ hC hx' F' N' off ne
      (try k_fold)
      have hzs' : Kp (ToldN T0 bN nw zs i) := ⟨hzs⟩
      clear hzs
      have hbn : SubL bl nw := hbl.trans hsub
      have e0 : (0 + (i : Int)).toNat = i := by omega
      obtain ⟨ra, hra, hrm⟩ := hrows.2 i hi
      have hra' : bs.toArray[(0 + (i : Int)).toNat]? = some (.ref ra) := by rw [e0]; simpa using hra
      have hbsl : bs.length = 6 := hrows.1
      obtain ⟨tn, hnj⟩ := strs_at hvs'.out (getD_of (i := i) (by omega))
      have hnj' : vs.toArray[(0 + (i : Int)).toNat]? = some (.str (xs.getD i (Str.ofString "")) tn) := by rw [e0]; simpa using hnj
      have hdvl : dvs.length = 6 := by rw [hdr.1, hl6]
      have hdsl : ds.length = 6 := by rw [hdr.2.1, hl6]
      obtain ⟨aT, tT, uT, hdT, hdm⟩ := hdr.2.2 i (xs.getD i (Str.ofString "")) (ds.getD i 0) (getD_of (by omega)) (by rw [List.getD_eq_getElem?_getD, List.getElem?_eq_getElem (by omega)]; rfl)
      have hdT' : dvs.toArray[(0 + (i : Int)).toNat]? = some (.ref aT) := by rw [e0]; simpa using hdT
      (try clear lF4); (try clear lN5)
      ktr_unf
      · rename (0 : Int) < _ => hd9
        have e9 : decide ((0 : Int) < ((ds.getD i 0 : Nat) : Int)) = bN i := by rw [hbN i hi, decide_eq_true (Int.ofNat_lt.mp hd9), decide_eq_true hd9]; rfl
        rename News _ _ _ _ => lN9
        rw [e9] at lN9
        (rename Fr _ _ _ _ => lF6); (rename News _ _ _ _ => lN6)
        obtain ⟨lb, hlb⟩ := head_ex lN6
        subst hlb
        k_dflt (refine kmk_add_lit (its := ((List.range 6).map (fun j => Value.bool (T0 i j))).toArray) (its2 := #[Value.bool (bN i)]) (zs := (List.range 6).map (fun j => Value.bool (T0 i j)) ++ [Value.bool (bN i)]) lF6 lN6 ⟨_, (lN6 _ (.tail _ (.tail _ (.tail _ (.tail _ (hbn.sub _ hrm)))))).1, rfl, _, rfl⟩ ⟨_, (lN6 _ (.head _)).1, rfl, _, rfl⟩ (by simp) ?_ (by rw [sizeLine_eq]; simp))
        intro D8 h8 F8 N8 l8
        have lI8 := l8 _ (.tail _ (.head _))
        have lC8 := l8 _ (.tail _ (.tail _ (.head _)))
        have lD8 := l8 _ (.tail _ (.tail _ (.tail _ (.head _))))
        refine LCg.CompEnd.intro F8 N8 ((D8, listOf ((List.range 6).map (fun j => Value.bool (T0 i j)) ++ [Value.bool (bN i)]).toArray 0) :: nw) (fun p hp => ?_) ⟨⟨Nat.ne_of_gt lI8, Nat.ne_of_gt lC8, Nat.ne_of_gt lD8⟩, off⟩ trivial ⟨hsub.trans SubL.tail, (hzs'.out.mono fun q hq => .tail _ hq).snoc (.head _)⟩
        revert p
        exact all_cons (.tail _ (.tail _ (.head _))) (all_cons (.tail _ (.tail _ (.tail _ (.head _)))) (all_cons (.tail _ (.tail _ (.tail _ (.tail _ (.head _))))) (all_cons (.head _) (fun p hp => .tail _ (.tail _ (.tail _ (.tail _ (.tail _ hp))))))))
      · rename ¬ ((0 : Int) < _) => hd9
        have e9 : (xs.getD i (Str.ofString "") == Str.ofString "*") = bN i := by rw [hbN i hi, decide_eq_false (fun h => hd9 (Int.ofNat_lt.mpr h))]; rfl
        rename News _ _ _ _ => lN9
        rw [e9] at lN9
        (rename Fr _ _ _ _ => lF6); (rename News _ _ _ _ => lN6)
        obtain ⟨lb, hlb⟩ := head_ex lN6
        subst hlb
        k_dflt (refine kmk_add_lit (its := ((List.range 6).map (fun j => Value.bool (T0 i j))).toArray) (its2 := #[Value.bool (bN i)]) (zs := (List.range 6).map (fun j => Value.bool (T0 i j)) ++ [Value.bool (bN i)]) lF6 lN6 ⟨_, (lN6 _ (.tail _ (.tail _ (.tail _ (.tail _ (hbn.sub _ hrm)))))).1, rfl, _, rfl⟩ ⟨_, (lN6 _ (.head _)).1, rfl, _, rfl⟩ (by simp) ?_ (by rw [sizeLine_eq]; simp))
        intro D8 h8 F8 N8 l8
        have lI8 := l8 _ (.tail _ (.head _))
        have lC8 := l8 _ (.tail _ (.tail _ (.head _)))
        have lD8 := l8 _ (.tail _ (.tail _ (.tail _ (.head _))))
        refine LCg.CompEnd.intro F8 N8 ((D8, listOf ((List.range 6).map (fun j => Value.bool (T0 i j)) ++ [Value.bool (bN i)]).toArray 0) :: nw) (fun p hp => ?_) ⟨⟨Nat.ne_of_gt lI8, Nat.ne_of_gt lC8, Nat.ne_of_gt lD8⟩, off⟩ trivial ⟨hsub.trans SubL.tail, (hzs'.out.mono fun q hq => .tail _ hq).snoc (.head _)⟩
        revert p
        exact all_cons (.tail _ (.tail _ (.head _))) (all_cons (.tail _ (.tail _ (.tail _ (.head _)))) (all_cons (.tail _ (.tail _ (.tail _ (.tail _ (.head _))))) (all_cons (.head _) (fun p hp => .tail _ (.tail _ (.tail _ (.tail _ (.tail _ hp))))))))
    · rintro zs nw ⟨hsub, hzs⟩
      have hzs' : Kp (ToldN T0 bN nw zs 6) := ⟨hzs⟩
      clear hzs
      have hbn := hbl.trans hsub
      have htn : Kp (ToldN T0 bN nw rs 6) := ⟨htold.toN.mono hbn.sub⟩
      have hrn := hbn.sub _ hr
      unfold LCg.FinE
      intro D9 h9 tk9 F9 N9 o9
      obtain ⟨as1, r1⟩ := reads_told N9 (htn.out.mono fun q hq => .tail _ hq) (.tail _ hrn) rfl
      obtain ⟨as2, r2⟩ := reads_told N9 (hzs'.out.mono fun q hq => .tail _ hq) (.head _) rfl
      (try clear lF4); (try clear lN5)
      ktr_unf
      k_dflt (refine ne_sameD r1 r2 (toldData_ok _ _) (by ke_room) ?_)
      ktr_unf
      exact hQ _ _ _ (by k_asm) (by k_asm) (hsub.trans SubL.tail)
end
end Mine
end
section
theorem Mine.w_Law0a_0 : True := by
  k_with_none
  trivial
namespace Mine
theorem Mine.w_Law0a_1 : True := by
  (k_with "ktr_unf" => repeat' ((fail_if_success (with_reducible show wpAny _ _ (pyIter _) _ _ _)); (fail_if_success (with_reducible show wpAny _ _ (exec (Stmt.For _ _ _ _ _) _) _ _ _)); (fail_if_success (with_reducible show wpAny _ _ (eval (Expr.ListComp _ _ _ _) _) _ _ _)); (fail_if_success (with_reducible show wpAny _ _ (compareOp _ (Value.ref _) (Value.ref _)) _ _ _)); (fail_if_success (with_reducible show wpAny _ _ (binaryOp _ (Value.ref _) (Value.ref _)) _ _ _)); (fail_if_success (with_reducible show LCg.CompSrc _ _ _ _ _ _ _ _ _ _ _ _ _ _)); (fail_if_success (with_reducible show LCp.SrcLP _ _ _ _ _ _ _ _ _ _ _ _ _ _ _)); (fail_if_success (with_reducible show wpAny _ _ (execs (Stmt.Assign [Expr.Name (Str.ofString "records") _] _ _ :: _) _) _ _ _)); (fail_if_success (with_reducible show wpAny _ _ (call (Value.ref 190) _) _ _ _)); (fail_if_success (with_reducible show wpAny _ _ (call (Value.ref 214) _) _ _ _)); (fail_if_success (with_reducible show wpAny _ _ (call (Value.ref 197) _) _ _ _)); first | (k_unfold; (try dsimp only)) | tb_rel | ((fail_if_success (with_reducible show wpAny _ _ (subscriptTail _ _ (Value.ref _) (Value.int _ _)) _ _ _)); (fail_if_success (with_reducible show wpAny _ _ (setItem (Value.ref _) _ _) _ _ _)); first | walk1 | (dsimp only; walk1))))
  (k_with "k_mem" => first | assumption | exact List.Mem.head _ | (refine' List.Mem.tail _ ?_; k_mem) | (refine' SubL.mem (by assumption) ?_; k_mem))
  (k_with "k_all" => first | assumption | exact off1_mem' (by assumption) | exact lt_ne (by assumption) (by omega) | exact allLt_ne (by assumption) (by omega))
  (k_with "tb_rel" => ((with_reducible show wpAny _ _ (subscriptTail _ _ (Value.ref _) (Value.int _ _)) _ _ _); k_dflt (refine' item_at (by k_asm) (by k_mem) (by omega) (by omega) (by assumption) ?_); (try dsimp only)))
  (k_with "tb_rel" => ((with_reducible show wpAny _ _ (exec (Stmt.Assign [Expr.Name _ _] (Expr.ListComp _ _ _ _) _) _) _ _ _); k_dflt (refine wpAny_Assign_Name ?_ (by with_unfolding_all rfl))))
  trivial
theorem ne_cell {h₀ h : Heap} {L c : Addr} {oc : Obj} {v : Option Value} {led : List (Addr × Obj)} (N : News h₀ L h led) (hc : (c, oc) ∈ led) (hd : oc.data = .cell v) {q : Addr × Obj} (hq : q ∈ led) (hne : ∀ v, q.2.data ≠ .cell v) : q.1 ≠ c := fun e => by
  have h1 := (N _ hq).1
  rw [e, (N _ hc).1] at h1
  exact hne v ((Option.some.inj h1) ▸ hd)
theorem cell_step {h₀ h : Heap} {L c : Addr} {o : Obj} {v : Option Value} {led : List (Addr × Obj)} (N : News h₀ L h led) (hm : (c, o) ∈ led) (hd : o.data = .cell v) :
    ∃ rest, News h₀ L h ((c, o) :: rest) ∧ (∀ q ∈ rest, q.1 ≠ c) ∧ (∀ q ∈ led, (∀ v, q.2.data ≠ .cell v) → q ∈ rest) ∧ (∀ q ∈ led, q.1 ≠ c → q ∈ rest) := by
  refine hide ?_
  intro Pz kz
  obtain ⟨rest, N2, _, hoff, hkeep, _⟩ := focus_ex N hm
  refine kz ?_
  clear kz Pz
  exact ⟨rest, N2, hoff, fun q hq hne => hkeep q hq (ne_cell N hm hd hq hne), hkeep⟩
theorem DrawnAt.mono' {xs : List Str} {ds : List Nat} {led led' : List (Addr × Obj)} {ys : List Value} (h : DrawnAt xs ds led ys) (hs : ∀ q ∈ led, (∀ v, q.2.data ≠ .cell v) → q ∈ led') : DrawnAt xs ds led' ys :=
  ⟨h.1, h.2.1, fun i x d h1 h2 => (by obtain ⟨a, t, u, a1, a2⟩ := h.2.2 i x d h1 h2; exact ⟨a, t, u, a1, hs _ a2 fun v e => by cases e⟩)⟩
theorem RowsAt.mono' {f : Nat → Nat → Bool} {led led' : List (Addr × Obj)} {ys : List Value} {n : Nat} (h : RowsAt f led ys n) (hs : ∀ q ∈ led, (∀ v, q.2.data ≠ .cell v) → q ∈ led') : RowsAt f led' ys n :=
  ⟨h.1, fun k hk => (by obtain ⟨r, a, b⟩ := h.2 k hk; exact ⟨r, a, hs _ b fun v e => by cases e⟩)⟩
section
variable {w : World} {mean : ExcName → Option Value} {mg mb : Str → Option Value} {gd : Option (List Code)} {a : Addr} {ccd : Value} {A₀ : Around} {h₀ : Heap} {L : Addr} {mm : Str → Option Value} {s : Shared} {Q : Flow → Shared → Prop} {E : Value → Shared → Prop} {led bl : List (Addr × Obj)}
theorem law0 (B : Below A₀ h₀ [] h₀) (X : (Mine.pre.heap_1_1 w.params).In h₀) (T : Top Mine.pre.view_1_2 (looseW Mine.pre.view_1_2 [Str.ofString "_NodeInfo"]) mean mg mb h₀)
   (sA : Addr) (vs0 : List Value) (ns : List Int) (F : Fr h₀ L s.heap (fun y => if y = Str.ofString "script" then some (.ref sA) else mm y)) (hsl : h₀.IsList sA vs0.toArray) (hvs0 : IntsAre vs0 ns) (hlen : ns.length ≤ 100)
   (o5 o4 o3 o2 o1 : Obj) (N : News h₀ L s.heap [(L + 1 + 1 + 1 + 1 + 1, o5), (L + 1 + 1 + 1 + 1, o4), (L + 1 + 1 + 1, o3), (L + 1 + 1, o2), (L + 1, o1)])
   (h5 : o5.data = .cell none) (h4 : o4.data = .cell none) (h3 : o3.data = .cell none) (h2 : o2.data = .cell none) (h1 : o1.data = .cell none)
   (hQ : ∀ led' h' tk' (oD oN oT : Obj) (dA nA tA : Addr) (xs : List Str) (ds : List Nat) (dvs vs bs : List Value) (e : Nat), Fr h₀ L h' (fun y => if y = Str.ofString "script" then some (.ref sA) else mm y) → News h₀ L h' led' →
     xs.length = 6 → (∀ x ∈ xs, x ∈ allNames) → (∀ d ∈ ds, d < 3) → (L + 1, oD) ∈ led' → oD.data = .cell (some (.ref dA)) → (dA, listOf dvs.toArray e) ∈ led' → DrawnAt xs ds led' dvs →
     (L + 1 + 1, oN) ∈ led' → oN.data = .cell (some (.ref nA)) → (nA, LCg.lst vs) ∈ led' → StrsAre vs xs → (L + 1 + 1 + 1, oT) ∈ led' → oT.data = .cell (some (.ref tA)) → (tA, LCg.lst bs) ∈ led' → RowsAt (tableF xs) led' bs 6 →
     (L + 1 + 1 + 1 + 1, o4) ∈ led' → (L + 1 + 1 + 1 + 1 + 1, o5) ∈ led' →
     wpAny (model PySem.Challenge.rw_nb0264_01.row.prog w) (lawA gd lawSc L a ccd) (execs (lawB.drop 3) (lawEnv lawSc L a ccd)) Q E { s with heap := h', toks := tk' }) :
   wpAny (model PySem.Challenge.rw_nb0264_01.row.prog w) (lawA gd lawSc L a ccd) (execs (lawB.drop 0) (lawEnv lawSc L a ccd)) Q E s := by
  conv in lawB.drop 0 => whnf
  conv in (occs := *) lawSc => all_goals whnf
  dsimp only [lawA, lawEnv]
  ktr_unf
  k_dflt (refine' wp_up (c_drawn ?k1 ?k2 ?k3 ?k4 ?k5 sA vs0 ns hsl hvs0 hlen ?_) ?u1 ?u2 ?u3 ?u4 ?u5; (case u2 => exact rfl); (case u1 => exact rfl); (case u3 => exact rfl); (case u4 => exact Nat.le_of_ble_eq_true rfl); (case u5 => exact Nat.le_of_ble_eq_true rfl); (case k1 => k_asm); (case k2 => k_asm); (case k3 => k_asm); (case k4 => k_asm); (case k5 => k_asm); k_whole)
  intro dA dvs xs ds e led1 hh1 tk1 F1 N1 hdA hxl hxs hds hdr hk1
  clear F N
  refine hide ?_
  intro Pz kz
  obtain ⟨rest, N2, hsub, hoff, hkeep, hback⟩ := focus_ex N1 (hk1 (L + 1, o1) (by simp))
  refine kz ?_
  clear kz Pz
  have hN1 : ∀ q ∈ led1, hh1.get? q.1 = some q.2 ∧ True := fun q hq => ⟨(N1 q hq).1, trivial⟩
  clear N1
  (try dsimp only)
  ktr_unf
  (rename Fr _ _ _ _ => lF0); (rename News _ _ _ _ => lN0)
  rename Obj => oD
  rename oD.data = _ => hoD
  have c1 : ∀ q ∈ led1, (∀ v, q.2.data ≠ .cell v) → q ∈ rest := fun q hq hne => hkeep q hq (by
    rintro e9
    have h9 := (hN1 _ hq).1
    rw [e9, (hN1 _ (hk1 (L + 1, o1) (by simp))).1] at h9
    exact hne none ((Option.some.inj h9) ▸ h1))
  have hdA1 : (dA, listOf dvs.toArray e) ∈ (L + 1, oD) :: rest := .tail _ (c1 _ hdA (fun v e => by cases e))
  have hdr1 : DrawnAt xs ds ((L + 1, oD) :: rest) dvs := hdr.mono' fun q hq hne => .tail _ (c1 q hq hne)
  have m2 : (L + 1 + 1, o2) ∈ (L + 1, oD) :: rest := .tail _ (hkeep _ (hk1 _ (by simp)) (neN (by omega)))
  have m3 : (L + 1 + 1 + 1, o3) ∈ (L + 1, oD) :: rest := .tail _ (hkeep _ (hk1 _ (by simp)) (neN (by omega)))
  have m4 : (L + 1 + 1 + 1 + 1, o4) ∈ (L + 1, oD) :: rest := .tail _ (hkeep _ (hk1 _ (by simp)) (neN (by omega)))
  have m5 : (L + 1 + 1 + 1 + 1 + 1, o5) ∈ (L + 1, oD) :: rest := .tail _ (hkeep _ (hk1 _ (by simp)) (neN (by omega)))
  have m1 : (L + 1, oD) ∈ (L + 1, oD) :: rest := .head _
  refine hide ?_
  intro Pz kz
  obtain ⟨led2, hled2⟩ := led_ex ((L + 1, oD) :: rest)
  refine kz ?_
  clear kz Pz
  rw [← hled2] at lN0 hdA1 hdr1 m1 m2 m3 m4 m5
  clear hled2 hN1 hdA hdr hk1 hsub hoff hkeep hback c1
  clear rest led1
  have hdvl : dvs.length = 6 := by rw [hdr1.1, hxl]
  k_dflt (refine LCp.ListComp_P (F₀ := lF0) (by with_unfolding_all rfl) (by decide) (by rfl) (by decide) (by rfl) (by rfl) (by decide) ?_)
  ktr_unf
  k_dflt (refine LCp.SrcLP.ledger rfl (by k_asm) (by k_asm) hdA1 (by rw [sizeLine_eq]; simp; omega) ?_)
  intro g7
  refine compRestP_pure (fun i ys => StrsAre ys (xs.take i)) ?_ ?_ .nil
  · intro i v ys hi hv hR
    have hi' : i < 6 := by simpa [hdvl] using hi
    have hxi := getD_of (xs := xs) (i := i) (by omega)
    have hdsl : ds.length = 6 := by rw [hdr1.2.1, hxl]
    refine hide ?_
    intro Pz kz
    obtain ⟨aT, tT, uT, hT1, hT2⟩ := hdr1.2.2 i _ (ds.getD i 0) hxi (by rw [List.getD_eq_getElem?_getD, List.getElem?_eq_getElem (by omega)]; rfl)
    refine kz ?_
    clear kz Pz
    have hv' : v = .ref aT := by
      have hv2 : dvs[i]? = some v := by simpa using hv
      rw [hT1] at hv2
      exact (Option.some.inj hv2).symm
    refine ⟨aT, _, _, _, _, hv', hT2, rfl, rfl, fun I8 oI8 C8 oC8 D8 m8 h8 tk8 E8 hC8 hx8 hy8 F8 N8 off8 ne8 => ?_⟩
    (try clear lF0); (try clear lN0)
    ktr_unf
    refine LCg.CompEnd.intro (by k_asm) (by k_asm) _ (fun _ hp => hp) off8 (.inr ⟨_, hdA1, rfl, _, rfl⟩) ⟨rfl, ?_⟩
    rw [List.take_add_one, hxi]
    exact strs_snoc hR
  · intro vs hvs
    rw [show dvs.toArray.size = xs.length by simp [hdvl, hxl], List.take_length] at hvs
    have hvs' : Kp (StrsAre vs xs) := ⟨hvs⟩
    clear hvs
    unfold LCg.FinE
    intro nA hh2 tk2 F2 N2 o2'
    have c2 := cell_step N2 (.tail _ m2) h2
    refine hide ?_
    intro Pz kz
    obtain ⟨rest, N3, off3, k3, e3⟩ := c2
    refine kz ?_
    clear kz Pz
    have mN : (nA, LCg.lst vs) ∈ rest := k3 _ (.head _) fun v e => by cases e
    have hdA2 := k3 _ (.tail _ hdA1) (fun v e => by cases e)
    have hdr2 : DrawnAt xs ds rest dvs := hdr1.mono' fun q hq hne => k3 q (.tail _ hq) hne
    have m1' := e3 _ (.tail _ m1) (neN (by omega))
    have m3' := e3 _ (.tail _ m3) (neN (by omega))
    have m4' := e3 _ (.tail _ m4) (neN (by omega))
    have m5' := e3 _ (.tail _ m5) (neN (by omega))
    clear N2 o2' m1 m2 m3 m4 m5 hdr1 hdA1 k3 e3
    (try clear lF0); (try clear lN0)
    have hvl : vs.length = 6 := by rw [strs_len hvs'.out, hxl]
    (try dsimp only)
    ktr_unf
    rename Obj => oN
    rename oN.data = _ => hoN
    (rename Fr _ _ _ _ => lF3); (rename News _ _ _ _ => lN3)
    clear off3
    k_dflt (refine' wp_up (c_table ?k1 ?k2 ?k3 ?k4 ?k5 nA vs.length xs vs hvs'.out hxl hvl hxs (.tail _ mN) ?_) ?u1 ?u2 ?u3 ?u4 ?u5; (case u2 => exact rfl); (case u1 => exact rfl); (case u3 => exact rfl); (case u4 => exact Nat.le_of_ble_eq_true rfl); (case u5 => exact Nat.le_of_ble_eq_true rfl); (case k1 => k_asm); (case k2 => k_asm); (case k3 => k_asm); (case k4 => k_asm); (case k5 => k_asm); k_whole)
    intro tA bs led3 hh3 tk3 F3 N3 hrows
    clear lF3 lN3
    have up : ∀ q ∈ (L + 1 + 1, oN) :: rest, q ∈ (tA, LCg.lst bs) :: (led3 ++ (L + 1 + 1, oN) :: rest) := fun q hq => .tail _ (List.mem_append_right _ hq)
    refine hide ?_
    intro Pz kz
    obtain ⟨rest2, N4, off4, k4, e4⟩ := cell_step N3 (up _ (.tail _ m3')) h3
    refine kz ?_
    clear kz Pz
    have g1 := e4 _ (up _ (.tail _ m1')) (neN (by omega))
    have g2 := k4 _ (up _ (.tail _ hdA2)) (fun v e => by cases e)
    have g3 : DrawnAt xs ds rest2 dvs := hdr2.mono' fun q hq hne => k4 q (up _ (.tail _ hq)) hne
    have g4 := e4 _ (up _ (.head _)) (neN (by omega))
    have g5 := k4 _ (up _ (.tail _ mN)) (fun v e => by cases e)
    have g6 := k4 _ (.head _) (fun v e => by cases e)
    have g7 : RowsAt (tableF xs) rest2 bs 6 := hrows.mono' fun q hq hne => k4 q (.tail _ (List.mem_append_left _ hq)) hne
    have g8 := e4 _ (up _ (.tail _ m4')) (neN (by omega))
    have g9 := e4 _ (up _ (.tail _ m5')) (neN (by omega))
    clear N3 up k4 e4 m1' m3' m4' m5' mN hdA2 hdr2 hrows
    (try dsimp only)
    ktr_unf
    rename Obj => oT
    rename oT.data = _ => hoT
    exact hQ ((L + 1 + 1 + 1, oT) :: rest2) _ _ oD oN oT dA nA tA xs ds dvs vs bs e (by k_asm) (by k_asm) hxl hxs hds (.tail _ g1) hoD (.tail _ g2) (g3.mono fun q hq => .tail _ hq) (.tail _ g4) hoN (.tail _ g5) hvs'.out (.head _) hoT (.tail _ g6) (g7.mono fun q hq => .tail _ hq) (.tail _ g8) (.tail _ g9)
end
end Mine
end
section
theorem Mine.w_Law3_0 : True := by
  k_with_none
  (k_with "memw" => first | assumption | exact List.Mem.head _ | (refine List.Mem.tail _ ?_; k_extra "memw") | fail "memw")
  (k_with "subl" => first | exact fun _ h => h | (refine sub_cons (by k_extra "memw") ?_; k_extra "subl") | (refine sub_tail ?_; k_extra "subl") | fail "subl")
  trivial
namespace Mine
theorem Mine.w_Law3_1 : True := by
  (k_with "ktr_unf" => repeat' ((fail_if_success (with_reducible show wpAny _ _ (pyIter _) _ _ _)); (fail_if_success (with_reducible show wpAny _ _ (exec (Stmt.For _ _ _ _ _) _) _ _ _)); (fail_if_success (with_reducible show wpAny _ _ (eval (Expr.ListComp _ _ _ _) _) _ _ _)); (fail_if_success (with_reducible show wpAny _ _ (compareOp _ (Value.ref _) (Value.ref _)) _ _ _)); (fail_if_success (with_reducible show wpAny _ _ (binaryOp _ (Value.ref _) (Value.ref _)) _ _ _)); (fail_if_success (with_reducible show LCg.CompSrc _ _ _ _ _ _ _ _ _ _ _ _ _ _)); (fail_if_success (with_reducible show LCp.SrcLP _ _ _ _ _ _ _ _ _ _ _ _ _ _ _)); (fail_if_success (with_reducible show wpAny _ _ (execs (Stmt.If _ _ _ _ :: _) _) _ _ _)); (fail_if_success (with_reducible show wpAny _ _ (call (Value.ref 197) _) _ _ _)); (fail_if_success (with_reducible show wpAny _ _ (call (Value.ref 49) _) _ _ _)); first | (k_unfold; (try dsimp only)) | tb_rel | ((fail_if_success (with_reducible show wpAny _ _ (subscriptTail _ _ (Value.ref _) (Value.int _ _)) _ _ _)); (fail_if_success (with_reducible show wpAny _ _ (setItem (Value.ref _) _ _) _ _ _)); first | walk1 | (dsimp only; walk1))))
  (k_with "k_mem" => first | assumption | exact List.Mem.head _ | (refine' List.Mem.tail _ ?_; k_mem) | (refine' SubL.mem (by assumption) ?_; k_mem))
  (k_with "k_all" => first | assumption | exact off1_mem' (by assumption) | exact lt_ne (by assumption) (by omega) | exact allLt_ne (by assumption) (by omega))
  (k_with "tb_rel" => ((with_reducible show wpAny _ _ (subscriptTail _ _ (Value.ref _) (Value.int _ _)) _ _ _); k_dflt (refine' item_at (by k_asm) (by k_mem) (by omega) (by omega) (by assumption) ?_); (try dsimp only)))
  (k_with "tb_rel" => ((with_reducible show wpAny _ _ (exec (Stmt.Assign [Expr.Name _ _] (Expr.ListComp _ _ _ _) _) _) _ _ _); k_dflt (refine wpAny_Assign_Name ?_ (by with_unfolding_all rfl))))
  trivial
noncomputable def RecsAt (w : World) (xs : List Str) (ds : List Nat) (led : List (Addr × Obj)) (ys : List Value) (n : Nat) : Prop :=
  ys.length = n ∧ ∀ k < n, ∃ r, ys[k]? = some (.ref r) ∧ IsRec w led r (uaS (xs.getD k (Str.ofString "")) ((ds.getD k 0 : Nat) : Int))
theorem RecsAt.mono {w : World} {xs : List Str} {ds : List Nat} {led led' : List (Addr × Obj)} {ys : List Value} {n : Nat} (h : RecsAt w xs ds led ys n) (hs : ∀ q ∈ led, q ∈ led') : RecsAt w xs ds led' ys n :=
  ⟨h.1, fun k hk => (by obtain ⟨r, a, b⟩ := h.2 k hk; exact ⟨r, a, b.mono hs⟩)⟩
theorem RecsAt.snoc {w : World} {xs : List Str} {ds : List Nat} {led : List (Addr × Obj)} {ys : List Value} {n : Nat} {r : Addr} (h : RecsAt w xs ds led ys n) (hr : IsRec w led r (uaS (xs.getD n (Str.ofString "")) ((ds.getD n 0 : Nat) : Int))) : RecsAt w xs ds led (ys ++ [.ref r]) (n + 1) := by
  refine ⟨by simp [h.1], fun k hk => ?_⟩
  rcases Nat.lt_succ_iff_lt_or_eq.mp hk with hk | rfl
  · refine hide ?_
    intro Pz kz
    obtain ⟨r', a1, a2⟩ := h.2 k hk
    refine kz ?_
    clear kz Pz
    exact ⟨r', by rw [List.getElem?_append_left (by rw [h.1]; exact hk)]; exact a1, a2⟩
  · exact ⟨r, by rw [List.getElem?_append_right (by rw [h.1]; exact Nat.le_refl _)]; simp [h.1], hr⟩
noncomputable def ToldM (T0 : Nat → Nat → Bool) (b : Nat → Bool) (led : List (Addr × Obj)) (ds : List Value) (n : Nat) : Prop :=
  ds.length = n ∧ ∀ k < n, ∃ r, ds[k]? = some (.ref r) ∧ (r, LCg.lst ((List.range 6).map (fun j => Value.bool (T0 k j)) ++ [Value.bool (b k)])) ∈ led
theorem ToldM.mono {T0 : Nat → Nat → Bool} {b : Nat → Bool} {led led' : List (Addr × Obj)} {ds : List Value} {n : Nat} (h : ToldM T0 b led ds n) (hs : ∀ q ∈ led, q ∈ led') : ToldM T0 b led' ds n :=
  ⟨h.1, fun k hk => (by obtain ⟨r, a1, a2⟩ := h.2 k hk; exact ⟨r, a1, hs _ a2⟩)⟩
theorem ToldM.mono' {T0 : Nat → Nat → Bool} {b : Nat → Bool} {led led' : List (Addr × Obj)} {ds : List Value} {n : Nat} (h : ToldM T0 b led ds n) (hs : ∀ q ∈ led, (∀ v, q.2.data ≠ .cell v) → q ∈ led') : ToldM T0 b led' ds n :=
  ⟨h.1, fun k hk => (by obtain ⟨r, a1, a2⟩ := h.2 k hk; exact ⟨r, a1, hs _ a2 fun v e => by cases e⟩)⟩
theorem ToldM.snoc {T0 : Nat → Nat → Bool} {b : Nat → Bool} {led : List (Addr × Obj)} {ds : List Value} {n : Nat} {r : Addr} (h : ToldM T0 b led ds n) (hm : (r, LCg.lst ((List.range 6).map (fun j => Value.bool (T0 n j)) ++ [Value.bool (b n)])) ∈ led) : ToldM T0 b led (ds ++ [.ref r]) (n + 1) := by
  refine ⟨by simp [h.1], fun k hk => ?_⟩
  rcases Nat.lt_succ_iff_lt_or_eq.mp hk with hk | rfl
  · refine hide ?_
    intro Pz kz
    obtain ⟨r', a1, a2⟩ := h.2 k hk
    refine kz ?_
    clear kz Pz
    exact ⟨r', by rw [List.getElem?_append_left (by rw [h.1]; exact hk)]; exact a1, a2⟩
  · exact ⟨r, by rw [List.getElem?_append_right (by rw [h.1]; exact Nat.le_refl _)]; simp [h.1], hm⟩
theorem take_row {A : List Value} {x : Value} (h : A.length = 6) : (A ++ [x]).take 6 ++ [x] = (A ++ [x]).take (6 + 1) := by
  rw [List.take_left' h, List.take_of_length_le (by simp [h])]
theorem star_nm : Str.ofString "*" ∈ allNames := by decide +kernel
theorem ua_nm {x : Str} {d : Int} (hx : x ∈ allNames) : ∀ g ∈ uaS x d, g ∈ allNames := by
  intro g hg
  unfold uaS at hg
  split at hg
  · rcases List.mem_cons.mp hg with rfl | hg
    · exact star_nm
    · rw [List.mem_singleton.mp hg]; exact hx
  · split at hg
    · rcases List.mem_cons.mp hg with rfl | hg
      · exact hx
      · rw [List.mem_singleton.mp hg]; exact star_nm
    · rw [List.mem_singleton.mp hg]; exact hx
section
variable {w : World} {mean : ExcName → Option Value} {mg mb : Str → Option Value} {gd : Option (List Code)} {a : Addr} {ccd : Value} {A₀ : Around} {h₀ : Heap} {L : Addr} {mm : Str → Option Value} {s : Shared} {Q : Flow → Shared → Prop} {E : Value → Shared → Prop} {led bl : List (Addr × Obj)}
theorem law3 (B : Below A₀ h₀ [] h₀) (F : Fr h₀ L s.heap mm) (X : (Mine.pre.heap_1_1 w.params).In h₀) (N : News h₀ L s.heap led) (T : Top Mine.pre.view_1_2 (looseW Mine.pre.view_1_2 [Str.ofString "_NodeInfo"]) mean mg mb h₀)
   (oD oN o4 : Obj) (dA nA : Addr) (xs : List Str) (ds : List Nat) (dvs vs : List Value) (e : Nat) (T0 : Nat → Nat → Bool) (bN : Nat → Bool)
   (hl6 : xs.length = 6) (hx : ∀ x ∈ xs, x ∈ allNames) (hds : ∀ d ∈ ds, d < 3) (hcD : (L + 1, oD) ∈ led) (hoD : oD.data = .cell (some (.ref dA))) (hdA : (dA, listOf dvs.toArray e) ∈ led) (hdr : DrawnAt xs ds led dvs)
   (hcN : (L + 1 + 1, oN) ∈ led) (hoN : oN.data = .cell (some (.ref nA))) (hn : (nA, LCg.lst vs) ∈ led) (hvs : StrsAre vs xs) (m4 : (L + 1 + 1 + 1 + 1, o4) ∈ led) (h4 : o4.data = .cell none)
   (hT0 : ∀ i j, i < 6 → j < 6 → (uaS (xs.getD i (Str.ofString "")) ((ds.getD i 0 : Nat) : Int)).any (appOne · (xs.getD j (Str.ofString ""))) = T0 i j) (hbN : ∀ i, i < 6 → (uaS (xs.getD i (Str.ofString "")) ((ds.getD i 0 : Nat) : Int)).any (· == Str.ofString "*") = bN i)
   (hQ : ∀ led' h' tk' m' (oR : Obj) (rA : Addr) (rs : List Value), Fr h₀ L h' m' → News h₀ L h' led' → (∀ q ∈ led, q.1 ≠ L + 1 + 1 + 1 + 1 → q ∈ led') → (L + 1 + 1 + 1 + 1, oR) ∈ led' → oR.data = .cell (some (.ref rA)) → (rA, LCg.lst rs) ∈ led' → ToldM T0 bN led' rs 6 →
     wpAny (model PySem.Challenge.rw_nb0264_01.row.prog w) (lawA gd lawSc L a ccd) (execs (lawB.drop 5) (lawEnv lawSc L a ccd)) Q E { s with heap := h', toks := tk' }) :
   wpAny (model PySem.Challenge.rw_nb0264_01.row.prog w) (lawA gd lawSc L a ccd) (execs (lawB.drop 3) (lawEnv lawSc L a ccd)) Q E s := by
  conv in lawB.drop 3 => whnf
  conv in (occs := *) lawSc => all_goals whnf
  dsimp only [lawA, lawEnv]
  have hvs' : Kp (StrsAre vs xs) := ⟨hvs⟩
  clear hvs
  have hdvl : dvs.length = 6 := by rw [hdr.1, hl6]
  have hdsl : ds.length = 6 := by rw [hdr.2.1, hl6]
  walk1
  k_dflt (refine LCp.Assign_ListComp_P (F₀ := F) (by rfl) (by with_unfolding_all rfl) (by with_unfolding_all rfl) (by decide) (by rfl) (by decide) (by rfl) (by rfl) (by decide) (by rfl) (by rfl) ?_)
  ktr_unf
  k_dflt (refine LCp.SrcLP.ledger rfl (by k_asm) (by k_asm) hdA (by rw [sizeLine_eq]; simp; omega) ?_)
  intro g7
  refine compRestP_inv (fun i ys nw => SubL led nw ∧ RecsAt w xs ds nw ys i) ?_ ?_ ⟨SubL.refl, rfl, fun k hk => absurd hk (Nat.not_lt_zero _)⟩
  · intro i v ys nw hi hv hz0
    refine hide ?_
    intro Pz kz
    obtain ⟨hsub, hR⟩ := hz0
    have hi' : i < 6 := by simpa [hdvl] using hi
    obtain ⟨aT, tT, uT, hT1, hT2⟩ := hdr.2.2 i _ (ds.getD i 0) (getD_of (xs := xs) (i := i) (by omega)) (by rw [List.getD_eq_getElem?_getD, List.getElem?_eq_getElem (by omega)]; rfl)
    refine kz ?_
    clear kz Pz
    (try k_fold)
    have hv' : v = .ref aT := by
      have hv2 : dvs[i]? = some v := by simpa using hv
      rw [hT1] at hv2
      exact (Option.some.inj hv2).symm
    refine ⟨aT, _, _, _, _, hv', hsub.sub _ hT2, rfl, rfl, fun I8 oI8 C8 oC8 D8 m8 h8 tk8 E8 hC8 hx8 hy8 F8 N8 off8 ne8 => ?_⟩
    (try clear F); (try clear N)
    ktr_unf
    k_dflt (refine' wp_up (c_record ?k1 ?k2 ?k3 ?k4 ?k5 (xs.getD i (Str.ofString "")) ((ds.getD i 0 : Nat) : Int) _ _ ?_) ?u1 ?u2 ?u3 ?u4 ?u5; (case u2 => exact rfl); (case u1 => exact rfl); (case u3 => exact rfl); (case u4 => exact Nat.le_of_ble_eq_true rfl); (case u5 => exact Nat.le_of_ble_eq_true rfl); (case k1 => k_asm); (case k2 => k_asm); (case k3 => k_asm); (case k4 => k_asm); (case k5 => k_asm); k_whole)
    intro r led9 h9 tk9 F9 N9 hrec hfr
    refine LCg.CompEnd.intro F9 N9 (led9 ++ nw) (fun p hp => ?_) (LCg.Off3.of fun p hp => ?_) (.inr ⟨_, List.mem_append_right _ (hsub.sub _ hdA), rfl, _, rfl⟩) ⟨⟨fun q hq => List.mem_append_right _ (hsub.sub q hq)⟩, (hR.mono fun q hq => List.mem_append_right _ hq).snoc (hrec.mono fun q hq => List.mem_append_left _ hq)⟩
    · simp only [List.mem_cons, List.mem_append] at hp ⊢
      rcases hp with h | h | h | h | h <;> simp [h]
    · rcases List.mem_append.mp hp with hp | hp
      · exact ⟨Ne.symm (hfr p hp _ (.head _)), Ne.symm (hfr p hp _ (.tail _ (.head _))), Ne.symm (hfr p hp _ (.tail _ (.tail _ (.head _))))⟩
      · exact LCg.Off3.mem off8 p hp
  · intro ys nw hz0
    refine hide ?_
    intro Pz kz
    obtain ⟨hsub, hR⟩ := hz0
    refine kz ?_
    clear kz Pz
    (try k_fold)
    have hR6 : RecsAt w xs ds nw ys 6 := by
      have e9 : dvs.toArray.size = 6 := by simpa using hdvl
      rw [e9] at hR; exact hR
    clear hR
    unfold LCg.FinA
    intro reA hh2 tk2 F2 N2 o2
    have hys6 : ys.length = 6 := hR6.1
    have hsub2 : SubL led ((reA, LCg.lst ys) :: nw) := ⟨fun q hq => .tail _ (hsub.sub q hq)⟩
    (try clear F); (try clear N)
    (try dsimp only)
    ktr_unf
    have hR7 : RecsAt w xs ds ((reA, LCg.lst ys) :: nw) ys 6 := hR6.mono fun q hq => .tail _ hq
    clear hR6
    refine hide ?_
    intro Pz kz
    obtain ⟨led2, hled2⟩ := led_ex ((reA, LCg.lst ys) :: nw)
    refine kz ?_
    clear kz Pz
    have mre : (reA, LCg.lst ys) ∈ led2 := by rw [hled2]; exact .head _
    rw [← hled2] at N2 hsub2 hR7
    clear hled2 o2 hsub
    have hvl : vs.length = 6 := by rw [strs_len hvs'.out, hl6]
    k_dflt (refine ListComp_V (by k_asm) (by with_unfolding_all rfl) (by with_unfolding_all rfl) (by rfl) (by decide) (by rfl) ?_)
    ktr_unf
    (rename Fr _ _ _ _ => lF3); (rename News _ _ _ _ => lN3)
    refine AtV.list (its := ys.toArray) (k := ys.length) (news := led2) (fun i zs nw => SubL led2 nw ∧ ToldM T0 bN nw zs i) rfl lF3 lN3 mre (by rw [sizeLine_eq]; simp; omega) ⟨SubL.refl, rfl, fun k hk => absurd hk (Nat.not_lt_zero _)⟩ (fun i zs nw h => h.1.sub _ mre) ?_ ?_
    · intro g i v zs nw I oI C oC c oc D h tk E' hi hv hz0 hoc F' N' off ne
      refine hide ?_
      intro Pz kz
      obtain ⟨hsub, hzs⟩ := hz0
      have hi' : i < 6 := by simpa [hys6] using hi
      obtain ⟨r, hr1, hr2⟩ := hR7.2 i hi'
      refine kz ?_
      clear kz Pz
      (try k_fold)
      have hv' : v = .ref r := by
        have hv2 : ys[i]? = some v := by simpa using hv
        rw [hr1] at hv2
        exact (Option.some.inj hv2).symm
      subst hv'
      have hzs' : Kp (ToldM T0 bN nw zs i) := ⟨hzs⟩
      clear hzs
      have hs2 : SubL led nw := hsub2.trans hsub
      (try clear lF3); (try clear lN3); (try clear F2); (try clear N2)
      refine hide ?_
      intro Pz kz
      obtain ⟨dr, ua, rl, q1, q2, q3, q4, uvs, ue, i1, i2, i3, i4⟩ := hr2.mono hsub.sub
      refine kz ?_
      clear kz Pz
      have i4' : Kp (StrsAre uvs.toList (uaS (xs.getD i (Str.ofString "")) ((ds.getD i 0 : Nat) : Int))) := ⟨i4⟩
      clear i4 hr2
      ktr_unf
      k_dflt (refine LCg.ListComp_U (F₀ := by k_asm) (by with_unfolding_all rfl) (by decide) (by rfl) (by decide) (by rfl) ?_)
      ktr_unf
      (rename Fr _ _ _ _ => lF6); (rename News _ _ _ _ => lN6)
      refine hide ?_
      intro Pz kz
      obtain ⟨lb, hlb⟩ := head_ex lN6
      refine kz ?_
      clear kz Pz
      subst hlb
      have hnn := hs2.sub _ hn
      k_dflt (refine kmk_add_lit (its := vs.toArray) (its2 := #[Value.none]) (zs := vs ++ [Value.none]) lF6 lN6 ⟨_, (lN6 _ (.tail _ (.tail _ (.tail _ (.tail _ (.tail _ hnn)))))).1, rfl, _, rfl⟩ ⟨_, (lN6 _ (.head _)).1, rfl, _, rfl⟩ (by simp) ?_ (by rw [sizeLine_eq]; simp; omega))
      intro D8 h8 F8 N8 l8
      (try clear lF6); (try clear lN6); (try clear F'); (try clear N')
      (try dsimp only)
      ktr_unf
      have hl7 : (vs ++ [Value.none]).length = 7 := by simp [hvl]
      k_dflt (refine LCg.CompSrc.ledger (by rfl) (by k_asm) (by k_asm) (.head _) (by rw [sizeLine_eq]; simp; omega) ?_)
      intro g9
      refine compRest_pure (fun j zs2 => zs2 = (((List.range 6).map (fun j => Value.bool (T0 i j)) ++ [Value.bool (bN i)]).take j)) (.inr ⟨_, .head _, rfl, _, rfl⟩) ?_ ?_ rfl
      · intro j v zs2 I' oI' C' oC' D' m₂ h' tk' E'' hj hv2 hR hC' hx'' F'' N'' off' ne' hS
        have hj7 : j < 7 := by simpa [hl7] using hj
        have hv3 : (vs ++ [Value.none])[j]? = some v := by simpa using hv2
        (try clear F8); (try clear N8)
        by_cases hj6 : j < 6
        · refine hide ?_
          intro Pz kz
          obtain ⟨tj, htj⟩ := strs_at hvs'.out (getD_of (xs := xs) (i := j) (by omega))
          refine kz ?_
          clear kz Pz
          have hv4 : v = .str (xs.getD j (Str.ofString "")) tj := by
            rw [List.getElem?_append_left (by omega), htj] at hv3
            exact (Option.some.inj hv3).symm
          subst hv4
          ktr_unf
          (rename News _ _ _ _ => lN9)
          have i3' : (ua, listOf uvs.toList.toArray ue) ∈ nw := by rw [Array.toArray_toList]; exact i3
          k_dflt (refine' wp_up (c_applies ?k1 ?k2 ?k3 ?k5 r dr ua rl q1 q2 q3 q4 uvs.toList ue _ (xs.getD j (Str.ofString "")) tj (fun p hp => by (rcases List.mem_cons.mp hp with rfl | hp); (exact lN9 _ (.tail _ (.tail _ (.tail _ (.tail _ (.tail _ (.tail _ (.tail _ (.tail _ (.tail _ i1)))))))))); (rcases List.mem_cons.mp hp with rfl | hp); (exact lN9 _ (.tail _ (.tail _ (.tail _ (.tail _ (.tail _ (.tail _ (.tail _ (.tail _ (.tail _ i2)))))))))); (rcases List.mem_cons.mp hp with rfl | hp); (exact lN9 _ (.tail _ (.tail _ (.tail _ (.tail _ (.tail _ (.tail _ (.tail _ (.tail _ (.tail _ i3')))))))))); exact lN9 p hp) i4'.out (nameN_mem hl6 hx hj6) (ua_nm (nameN_mem hl6 hx hi')) ?_) ?u1 ?u2 ?u3 ?u4 ?u5; (case u2 => exact rfl); (case u1 => exact rfl); (case u3 => exact rfl); (case u4 => exact Nat.le_of_ble_eq_true rfl); (case u5 => exact Nat.le_of_ble_eq_true rfl); (case k1 => k_asm); (case k2 => k_asm); (case k3 => k_asm); (case k5 => k_asm); k_whole)
          intro h10 tk10 F10 N10
          have N11 := fun p hp => N10 p (.tail _ (.tail _ (.tail _ hp)))
          (try k_unfold)
          refine LCg.CompEnd.intro F10 N11 _ (fun _ hp => hp) off' hS ⟨rfl, ?_⟩
          rw [hT0 i j hi' hj6, hR, List.take_add_one, List.getElem?_append_left (by simpa using hj6), List.getElem?_map, List.getElem?_range hj6]
          rfl
        · have hj6' : j = 6 := by omega
          subst hj6'
          have hv4 : v = .none := by
            rw [List.getElem?_append_right (by omega)] at hv3
            simp [hvl] at hv3
            exact hv3.symm
          subst hv4
          ktr_unf
          (rename News _ _ _ _ => lN9)
          have i3' : (ua, listOf uvs.toList.toArray ue) ∈ nw := by rw [Array.toArray_toList]; exact i3
          k_dflt (refine' wp_up (c_appliesN ?k1 ?k2 ?k3 ?k5 r dr ua rl q1 q2 q3 q4 uvs.toList ue _ (fun p hp => by (rcases List.mem_cons.mp hp with rfl | hp); (exact lN9 _ (.tail _ (.tail _ (.tail _ (.tail _ (.tail _ (.tail _ (.tail _ (.tail _ (.tail _ i1)))))))))); (rcases List.mem_cons.mp hp with rfl | hp); (exact lN9 _ (.tail _ (.tail _ (.tail _ (.tail _ (.tail _ (.tail _ (.tail _ (.tail _ (.tail _ i2)))))))))); (rcases List.mem_cons.mp hp with rfl | hp); (exact lN9 _ (.tail _ (.tail _ (.tail _ (.tail _ (.tail _ (.tail _ (.tail _ (.tail _ (.tail _ i3')))))))))); exact lN9 p hp) i4'.out ?_) ?u1 ?u2 ?u3 ?u4 ?u5; (case u2 => exact rfl); (case u1 => exact rfl); (case u3 => exact rfl); (case u4 => exact Nat.le_of_ble_eq_true rfl); (case u5 => exact Nat.le_of_ble_eq_true rfl); (case k1 => k_asm); (case k2 => k_asm); (case k3 => k_asm); (case k5 => k_asm); k_whole)
          intro h10 tk10 F10 N10
          have N11 := fun p hp => N10 p (.tail _ (.tail _ (.tail _ hp)))
          (try k_unfold)
          refine LCg.CompEnd.intro F10 N11 _ (fun _ hp => hp) off' hS ⟨rfl, ?_⟩
          rw [hbN i hi', hR]
          exact take_row (by simp)
      · intro zs2 hzs2
        have hz7 : zs2 = (List.range 6).map (fun j => Value.bool (T0 i j)) ++ [Value.bool (bN i)] := by
          rw [hzs2, List.take_of_length_le (by rw [List.size_toArray, hl7]; simp)]
        subst hz7
        clear hzs2
        unfold LCg.FinE
        intro D4 h4' tk4 F4 N4 o4'
        (try k_unfold)
        simp only [LCg.Off1] at o4'
        refine hide ?_
        intro Pz kz
        obtain ⟨_, _, o41, o42, o43, o44, o45⟩ := o4'
        refine kz ?_
        clear kz Pz
        refine EndV.intro F4 N4 ((D4, LCg.lst ((List.range 6).map (fun j => Value.bool (T0 i j)) ++ [Value.bool (bN i)])) :: nw) (fun p hp => ?_) (fun p hp => ?_) ⟨hsub.trans SubL.tail, (hzs'.out.mono fun q hq => .tail _ hq).snoc (.head _)⟩
        · revert p
          k_extra "subl"
        · revert p
          exact all_cons (⟨Ne.symm o41, Ne.symm o42, Ne.symm o43, Ne.symm o44⟩) (fun p hp => off p hp)
    · intro g zs nw hz0
      refine hide ?_
      intro Pz kz
      obtain ⟨hsub, hzs⟩ := hz0
      refine kz ?_
      clear kz Pz
      (try k_fold)
      have hzs6 : ToldM T0 bN nw zs 6 := by
        have e9 : ys.toArray.size = 6 := by simpa using hys6
        rw [e9] at hzs; exact hzs
      clear hzs
      unfold LCg.FinE
      intro rA h5 tk5 F5 N5 o5
      (try clear lF3); (try clear lN3); (try clear F2); (try clear N2)
      have hs2 : ∀ q ∈ led, q ∈ (rA, LCg.lst zs) :: nw := fun q hq => .tail _ (hsub.sub q (hsub2.sub q hq))
      refine hide ?_
      intro Pz kz
      obtain ⟨rest, N6, off6, k6, e6⟩ := cell_step N5 (hs2 _ m4) h4
      refine kz ?_
      clear kz Pz
      have g1 : ToldM T0 bN rest zs 6 := hzs6.mono' fun q hq hne => k6 q (.tail _ hq) hne
      have g2 : (rA, LCg.lst zs) ∈ rest := k6 _ (.head _) fun v e => by cases e
      have g3 : ∀ q ∈ led, q.1 ≠ L + 1 + 1 + 1 + 1 → q ∈ rest := fun q hq h => e6 q (hs2 q hq) h
      clear N5 o5 hs2 k6 e6 hzs6
      (try dsimp only)
      ktr_unf
      rename Obj => oR
      rename oR.data = _ => hoR
      exact hQ ((L + 1 + 1 + 1 + 1, oR) :: rest) _ _ _ oR rA zs (by k_asm) (by k_asm) (fun q hq h => .tail _ (g3 q hq h)) (.head _) hoR (.tail _ g2) (g1.mono fun q hq => .tail _ hq)
end
end Mine
end
section
namespace Mine
noncomputable def GoodB (o : Obj) : Prop := (∃ v, o.data = .cell v) ∨ (o.cls = .type "list" ∧ ∃ its n, o.data = .seq its n ∧ its ≠ #[])
open Classical in
theorem bl_ex (led : List (Addr × Obj)) (c : Addr) : ∃ bl : List (Addr × Obj), (∀ q ∈ bl, q ∈ led ∧ q.1 ≠ c ∧ GoodB q.2) ∧ ∀ q ∈ led, q.1 ≠ c → GoodB q.2 → q ∈ bl := by
  refine ⟨led.filter fun q => decide (q.1 ≠ c ∧ GoodB q.2), fun q hq => ?_, fun q hq h1 h2 => ?_⟩
  · obtain ⟨h1, h2⟩ := List.mem_filter.mp hq
    exact ⟨h1, by simpa using h2⟩
  · exact List.mem_filter.mpr ⟨hq, by simpa using And.intro h1 h2⟩
theorem goodL {its : List Value} {n : Nat} (h : its ≠ []) : GoodB (listOf its.toArray n) := .inr ⟨rfl, its.toArray, n, rfl, fun e => h (by simpa using e)⟩
section
variable {w : World} {mean : ExcName → Option Value} {mg mb : Str → Option Value} {gd : Option (List Code)} {a : Addr} {ccd : Value} {A₀ : Around} {h₀ : Heap} {L : Addr} {mm : Str → Option Value} {s : Shared} {Q : Flow → Shared → Prop} {E : Value → Shared → Prop}
theorem lawAll (B : Below A₀ h₀ [] h₀) (X : (Mine.pre.heap_1_1 w.params).In h₀) (T : Top Mine.pre.view_1_2 (looseW Mine.pre.view_1_2 [Str.ofString "_NodeInfo"]) mean mg mb h₀)
   (sA : Addr) (vs0 : List Value) (ns : List Int) (F : Fr h₀ L s.heap (fun y => if y = Str.ofString "script" then some (.ref sA) else mm y)) (hsl : h₀.IsList sA vs0.toArray) (hvs0 : IntsAre vs0 ns) (hlen : ns.length ≤ 100)
   (o5 o4 o3 o2 o1 : Obj) (N : News h₀ L s.heap [(L + 1 + 1 + 1 + 1 + 1, o5), (L + 1 + 1 + 1 + 1, o4), (L + 1 + 1 + 1, o3), (L + 1 + 1, o2), (L + 1, o1)])
   (h5 : o5.data = .cell none) (h4 : o4.data = .cell none) (h3 : o3.data = .cell none) (h2 : o2.data = .cell none) (h1 : o1.data = .cell none)
   (hE : PassesOwn (model PySem.Challenge.rw_nb0264_01.row.prog w) (lawA gd lawSc L a ccd) (lawEnv lawSc L a ccd) E)
   (hQ : ∀ h' tk' m', Fr h₀ L h' m' → Q (.ret (.bool true)) { s with heap := h', toks := tk' }) :
   wpAny (model PySem.Challenge.rw_nb0264_01.row.prog w) (lawA gd lawSc L a ccd) (execs (lawB.drop 0) (lawEnv lawSc L a ccd)) Q E s := by
  refine law0 B X T sA vs0 ns F hsl hvs0 hlen o5 o4 o3 o2 o1 N h5 h4 h3 h2 h1 ?_
  intro led1 hh1 tk1 oD oN oT dA nA tA xs ds dvs vs bs e F1 N1 hl6 hx hds cD dD mD hdr cN dN mN hvs cT dT mT hrows c4 c5
  have ok : NmOk xs := ⟨hl6, hx⟩
  have hdsl : ds.length = 6 := by rw [hdr.2.1, hl6]
  have hvl : vs.length = 6 := by rw [strs_len hvs, hl6]
  have hds3 : ∀ i, i < 6 → ds.getD i 0 < 3 := fun i hi => hds _ (List.mem_of_getElem? (i := i) (by rw [List.getD_eq_getElem?_getD, List.getElem?_eq_getElem (by omega)]; rfl))
  refine law3 (bN := fun k => decide (0 < ds.getD k 0) || xs.getD k (Str.ofString "") == Str.ofString "*") B F1 X N1 T oD oN o4 dA nA xs ds dvs vs e (tableF xs) hl6 hx hds cD dD mD hdr cN dN mN hvs c4 h4 ?hT ?hb ?_
  case hT =>
    intro i j hi hj
    rw [ua_app, app_table (nameN_mem hl6 hx hi) (nameN_mem hl6 hx hj)]
    rfl
  case hb =>
    intro i hi
    exact ua_none _ _ (hds3 i hi)
  intro led2 hh2 tk2 m2 oR rA rs F2 N2 k2 cR dR mR htold
  have kl : ∀ q ∈ led1, (∀ v, q.2.data ≠ .cell v) → q ∈ led2 := fun q hq hne => k2 q hq (ne_cell N1 c4 h4 hq hne)
  have cD2 := k2 _ cD (neN (by omega))
  have mD2 := kl _ mD (fun v e => by cases e)
  have hdr2 : DrawnAt xs ds led2 dvs := hdr.mono' kl
  have cN2 := k2 _ cN (neN (by omega))
  have mN2 := kl _ mN (fun v e => by cases e)
  have cT2 := k2 _ cT (neN (by omega))
  have mT2 := kl _ mT (fun v e => by cases e)
  have hrows2 : RowsAt (tableF xs) led2 bs 6 := hrows.mono' kl
  have c52 := k2 _ c5 (neN (by omega))
  have htold2 : ToldAt (tableF xs) (fun k => decide (0 < ds.getD k 0) || xs.getD k (Str.ofString "") == Str.ofString "*") led2 rs := htold
  refine law5 (bl := led2) B F2 X N2 T oD oN oT oR dA nA tA rA xs ds vs bs rs dvs vs.length e (tableF xs) _ SubL.refl cD2 dD mD2 hdr2 cN2 dN hvs hl6 hvl mN2 cT2 dT mT2 hrows2 cR dR mR htold2 (fun k _ => rfl) ?_
  intro led3 hh3 tk3 F3 N3 s3
  obtain ⟨bl, hb1, hb2⟩ := bl_ex led3 (L + 1 + 1 + 1 + 1 + 1)
  have offl : ∀ q ∈ led2, (∀ v, q.2.data ≠ .cell v) → q.1 ≠ L + 1 + 1 + 1 + 1 + 1 := fun q hq hne => ne_cell N2 c52 h5 hq hne
  have blm : ∀ q ∈ led2, (∀ v, q.2.data ≠ .cell v) → GoodB q.2 → q ∈ bl := fun q hq hne hg => hb2 q (s3.sub q hq) (offl q hq hne) hg
  have hrsl : rs.length = 6 := htold2.1
  have hbsl : bs.length = 6 := hrows2.1
  have nz : ∀ {l : List Value}, l.length = 6 → l ≠ [] := fun h e => by rw [e] at h; cases h
  have mRb : (rA, LCg.lst rs) ∈ bl := blm _ mR (fun v e => by cases e) (goodL (nz hrsl))
  have mNb : (nA, LCg.lst vs) ∈ bl := blm _ mN2 (fun v e => by cases e) (goodL (nz hvl))
  have mTb : (tA, LCg.lst bs) ∈ bl := blm _ mT2 (fun v e => by cases e) (goodL (nz hbsl))
  have cRb : (L + 1 + 1 + 1 + 1, oR) ∈ bl := hb2 _ (s3.sub _ cR) (neN (by omega)) (.inl ⟨_, dR⟩)
  have cNb : (L + 1 + 1, oN) ∈ bl := hb2 _ (s3.sub _ cN2) (neN (by omega)) (.inl ⟨_, dN⟩)
  have cTb : (L + 1 + 1 + 1, oT) ∈ bl := hb2 _ (s3.sub _ cT2) (neN (by omega)) (.inl ⟨_, dT⟩)
  have htoldb : ToldAt (tableF xs) (fun k => decide (0 < ds.getD k 0) || xs.getD k (Str.ofString "") == Str.ofString "*") bl rs := ⟨htold2.1, fun k hk => by
    obtain ⟨r, a1, a2⟩ := htold2.2 k hk
    exact ⟨r, a1, blm _ a2 (fun v e => by cases e) (goodL (by simp))⟩⟩
  have hrowsb : RowsAt (tableF xs) bl bs 6 := ⟨hrows2.1, fun k hk => by
    obtain ⟨r, a1, a2⟩ := hrows2.2 k hk
    exact ⟨r, a1, blm _ a2 (fun v e => by cases e) (goodL (by simp [List.range_succ]))⟩⟩
  refine law7 (bl := bl) B F3 X N3 T hE o5 oN oT oR none nA tA rA xs vs bs rs vs.length (tableF xs) _ h5 (s3.sub _ c52) (fun q hq => (hb1 q hq).2.1) ⟨fun q hq => (hb1 q hq).1⟩ (fun q hq => (hb1 q hq).2.2) cRb dR mRb htoldb ?_
  intro S dS D nds tp tf led4 hh4 tk4 F4 N4 hbl4 hS hn6 hsu hf hvi
  exact law10 (bl := bl) B F4 X N4 T oN oT nA tA xs vs bs vs.length tp tf hbl4 cNb dN cTb dT hvs hl6 hvl hx mNb mTb hrowsb hS hn6 hsu _ hf (fun j _ => rfl) hvi (tok ok) (noRing_tw ok) (fun ring h => ring_tw ok h) (fun h' tk' m' F' => hQ h' tk' m' F')
end
end Mine
end
section
theorem Mine.top.tw10005945817407372193 : True := trivial
theorem Mine.top.tw10090393231696489298 : True := trivial
theorem Mine.top.tw10448899703829047738 : True := trivial
theorem Mine.top.tw1047907039808853306 : True := trivial
theorem Mine.top.tw105208000716104510 : True := trivial
theorem Mine.top.tw10567129059001840431 : True := trivial
theorem Mine.top.tw10617020205504526918 : True := trivial
theorem Mine.top.tw10648311167861321448 : True := trivial
theorem Mine.top.tw10773188271377071773 : True := trivial
theorem Mine.top.tw10936122117785486979 : True := trivial
theorem Mine.top.tw10996937224433265937 : True := trivial
theorem Mine.top.tw11133666699803404755 : True := trivial
theorem Mine.top.tw11279390925490393535 : True := trivial
theorem Mine.top.tw11334350811105764591 : True := trivial
theorem Mine.top.tw11334415319851112604 : True := trivial
theorem Mine.top.tw1139600151236580504 : True := trivial
theorem Mine.top.tw11423202765487971197 : True := trivial
theorem Mine.top.tw11430207588045935325 : True := trivial
theorem Mine.top.tw11459358961799972967 : True := trivial
theorem Mine.top.tw11459765794423145806 : True := trivial
theorem Mine.top.tw1149218181149386328 : True := trivial
theorem Mine.top.tw11546936639936008217 : True := trivial
theorem Mine.top.tw11613256710310857696 : True := trivial
theorem Mine.top.tw11762496359356365647 : True := trivial
theorem Mine.top.tw1195175773429642966 : True := trivial
theorem Mine.top.tw11960245374511038805 : True := trivial
theorem Mine.top.tw12012865196380796599 : True := trivial
theorem Mine.top.tw12094960947251128927 : True := trivial
theorem Mine.top.tw1212798325632107971 : True := trivial
theorem Mine.top.tw12385144161495827662 : True := trivial
theorem Mine.top.tw12392516345856041104 : True := trivial
theorem Mine.top.tw12483720753089274532 : True := trivial
theorem Mine.top.tw12535971307161669396 : True := trivial
theorem Mine.top.tw12622177474791663080 : True := trivial
theorem Mine.top.tw1275901062530889299 : True := trivial
theorem Mine.top.tw12819366960792805191 : True := trivial
theorem Mine.top.tw1284575025550258836 : True := trivial
theorem Mine.top.tw12958502747184954254 : True := trivial
theorem Mine.top.tw13091174067606910046 : True := trivial
theorem Mine.top.tw13120753694373217308 : True := trivial
theorem Mine.top.tw13160728816969591200 : True := trivial
theorem Mine.top.tw13264354339760550358 : True := trivial
theorem Mine.top.tw13272337422414781067 : True := trivial
theorem Mine.top.tw13345470168829271861 : True := trivial
theorem Mine.top.tw13359135706311490777 : True := trivial
theorem Mine.top.tw13369591340354186047 : True := trivial
theorem Mine.top.tw13928562000808390012 : True := trivial
theorem Mine.top.tw1400011881503588481 : True := trivial
theorem Mine.top.tw14282377253939248939 : True := trivial
theorem Mine.top.tw14349089067433371257 : True := trivial
theorem Mine.top.tw14372152842798730730 : True := trivial
theorem Mine.top.tw14390669486469195807 : True := trivial
theorem Mine.top.tw14402358008270493973 : True := trivial
theorem Mine.top.tw14435140724418575476 : True := trivial
theorem Mine.top.tw14459580976405569124 : True := trivial
theorem Mine.top.tw14502225709538309166 : True := trivial
theorem Mine.top.tw14597223018079223185 : True := trivial
theorem Mine.top.tw14611434983143301774 : True := trivial
theorem Mine.top.tw14796646475526232899 : True := trivial
theorem Mine.top.tw14823308797102314842 : True := trivial
theorem Mine.top.tw1483126911874232274 : True := trivial
theorem Mine.top.tw14851680436948445374 : True := trivial
theorem Mine.top.tw14861896470697024400 : True := trivial
theorem Mine.top.tw14901070454687303710 : True := trivial
theorem Mine.top.tw14917401599646851644 : True := trivial
theorem Mine.top.tw1492452104121835379 : True := trivial
theorem Mine.top.tw14987219478266130788 : True := trivial
theorem Mine.top.tw15058813355848621054 : True := trivial
theorem Mine.top.tw15059952678800108311 : True := trivial
theorem Mine.top.tw15177526630643400193 : True := trivial
theorem Mine.top.tw15299407806266782574 : True := trivial
theorem Mine.top.tw15362295582089109014 : True := trivial
theorem Mine.top.tw15503665604740900718 : True := trivial
theorem Mine.top.tw15569959144833144457 : True := trivial
theorem Mine.top.tw15646934709686841381 : True := trivial
theorem Mine.top.tw15860264024139754761 : True := trivial
theorem Mine.top.tw15878805988109762761 : True := trivial
theorem Mine.top.tw15976228082101565994 : True := trivial
theorem Mine.top.tw15985961358823992270 : True := trivial
theorem Mine.top.tw15988258018655671626 : True := trivial
theorem Mine.top.tw16044733080236030384 : True := trivial
theorem Mine.top.tw16155163154822807229 : True := trivial
theorem Mine.top.tw16174758807025615021 : True := trivial
theorem Mine.top.tw16204670001084760307 : True := trivial
theorem Mine.top.tw16273406610938067001 : True := trivial
theorem Mine.top.tw16325430554902658873 : True := trivial
theorem Mine.top.tw16352630495959832749 : True := trivial
theorem Mine.top.tw16420938139371093754 : True := trivial
theorem Mine.top.tw16439428074185983240 : True := trivial
theorem Mine.top.tw16541100652227675460 : True := trivial
theorem Mine.top.tw16580785732701462914 : True := trivial
theorem Mine.top.tw16616189557979392351 : True := trivial
theorem Mine.top.tw16759092144687519636 : True := trivial
theorem Mine.top.tw16782997733028217545 : True := trivial
theorem Mine.top.tw16885616592811714743 : True := trivial
theorem Mine.top.tw16900427199656544559 : True := trivial
theorem Mine.top.tw17177869089781658578 : True := trivial
theorem Mine.top.tw17315540178315561739 : True := trivial
theorem Mine.top.tw1732150942055357024 : True := trivial
theorem Mine.top.tw17323899518341599180 : True := trivial
theorem Mine.top.tw1736530178072539846 : True := trivial
theorem Mine.top.tw17470836177267949868 : True := trivial
theorem Mine.top.tw17486766287000646611 : True := trivial
theorem Mine.top.tw17492772389151264855 : True := trivial
theorem Mine.top.tw17555251805378815213 : True := trivial
theorem Mine.top.tw17810072253543177317 : True := trivial
theorem Mine.top.tw17872498390731745468 : True := trivial
theorem Mine.top.tw17886615442053742456 : True := trivial
theorem Mine.top.tw18008055252877512497 : True := trivial
theorem Mine.top.tw18034075008235765660 : True := trivial
theorem Mine.top.tw18064794426631996164 : True := trivial
theorem Mine.top.tw18086089286151905521 : True := trivial
theorem Mine.top.tw1814787853859245837 : True := trivial
theorem Mine.top.tw18164388396756303480 : True := trivial
theorem Mine.top.tw18186074749648716422 : True := trivial
theorem Mine.top.tw1869187583165140508 : True := trivial
theorem Mine.top.tw1886144042066472794 : True := trivial
theorem Mine.top.tw2126296398998916975 : True := trivial
theorem Mine.top.tw216529984938456764 : True := trivial
theorem Mine.top.tw2218668502564051296 : True := trivial
theorem Mine.top.tw2249405535684624136 : True := trivial
theorem Mine.top.tw227720230686144328 : True := trivial
theorem Mine.top.tw2287823674025257028 : True := trivial
theorem Mine.top.tw2462062305354472974 : True := trivial
theorem Mine.top.tw2464713573024523455 : True := trivial
theorem Mine.top.tw2514443458684651071 : True := trivial
theorem Mine.top.tw2555065506035805374 : True := trivial
theorem Mine.top.tw2617719716777270872 : True := trivial
theorem Mine.top.tw2732273902793177162 : True := trivial
theorem Mine.top.tw2741389259953327712 : True := trivial
theorem Mine.top.tw2782073688633401757 : True := trivial
theorem Mine.top.tw2812155379371279736 : True := trivial
theorem Mine.top.tw2822501910515967889 : True := trivial
theorem Mine.top.tw2835187731363253809 : True := trivial
theorem Mine.top.tw2867133514656366558 : True := trivial
theorem Mine.top.tw2924597203103170677 : True := trivial
theorem Mine.top.tw2985252069258134486 : True := trivial
theorem Mine.top.tw3195968871104189447 : True := trivial
theorem Mine.top.tw3420845277864269320 : True := trivial
theorem Mine.top.tw342308947776675178 : True := trivial
theorem Mine.top.tw370947364307004932 : True := trivial
theorem Mine.top.tw3730354652608582461 : True := trivial
theorem Mine.top.tw390997316461189296 : True := trivial
theorem Mine.top.tw3969286963782609292 : True := trivial
theorem Mine.top.tw4166218997396506358 : True := trivial
theorem Mine.top.tw4186445540838780016 : True := trivial
theorem Mine.top.tw4205137553216949640 : True := trivial
theorem Mine.top.tw4213018616267185653 : True := trivial
theorem Mine.top.tw427269002284569659 : True := trivial
theorem Mine.top.tw4299629679881509495 : True := trivial
theorem Mine.top.tw4321519831107876412 : True := trivial
theorem Mine.top.tw453181688931711583 : True := trivial
theorem Mine.top.tw4551080515912023512 : True := trivial
theorem Mine.top.tw4571971715460732019 : True := trivial
theorem Mine.top.tw4655869559712951663 : True := trivial
theorem Mine.top.tw4656485037274611717 : True := trivial
theorem Mine.top.tw4671429814451907529 : True := trivial
theorem Mine.top.tw4713442408853163898 : True := trivial
theorem Mine.top.tw5007059233328744404 : True := trivial
theorem Mine.top.tw5058314954733539658 : True := trivial
theorem Mine.top.tw5088376156974544275 : True := trivial
theorem Mine.top.tw5105846836358774362 : True := trivial
theorem Mine.top.tw5118827330378232414 : True := trivial
theorem Mine.top.tw5155950481276406077 : True := trivial
theorem Mine.top.tw517144808224063464 : True := trivial
theorem Mine.top.tw5225153198818245361 : True := trivial
theorem Mine.top.tw5244899138074338376 : True := trivial
theorem Mine.top.tw5476889619067714990 : True := trivial
theorem Mine.top.tw5581607755468803823 : True := trivial
theorem Mine.top.tw5597187220613765494 : True := trivial
theorem Mine.top.tw5667650583090716360 : True := trivial
theorem Mine.top.tw575894324575664597 : True := trivial
theorem Mine.top.tw5766051744304087583 : True := trivial
theorem Mine.top.tw5969682004907312646 : True := trivial
theorem Mine.top.tw6127594578889010139 : True := trivial
theorem Mine.top.tw614279269813649353 : True := trivial
theorem Mine.top.tw6187478851450931391 : True := trivial
theorem Mine.top.tw6240723676877644813 : True := trivial
theorem Mine.top.tw6286779285267259847 : True := trivial
theorem Mine.top.tw6333448901615975916 : True := trivial
theorem Mine.top.tw6431110157172167083 : True := trivial
theorem Mine.top.tw6491118196486620199 : True := trivial
theorem Mine.top.tw65185946172857156 : True := trivial
theorem Mine.top.tw6520327441239513222 : True := trivial
theorem Mine.top.tw6749217079512962374 : True := trivial
theorem Mine.top.tw6812286434817487243 : True := trivial
theorem Mine.top.tw6859976401760118174 : True := trivial
theorem Mine.top.tw6883741973766446791 : True := trivial
theorem Mine.top.tw6906291655842520137 : True := trivial
theorem Mine.top.tw6919701780365589675 : True := trivial
theorem Mine.top.tw705360758644809490 : True := trivial
theorem Mine.top.tw72247145696351765 : True := trivial
theorem Mine.top.tw728428047077509346 : True := trivial
theorem Mine.top.tw7297446738713254254 : True := trivial
theorem Mine.top.tw7414872774492366064 : True := trivial
theorem Mine.top.tw7458633546980236471 : True := trivial
theorem Mine.top.tw7673058066778466091 : True := trivial
theorem Mine.top.tw7847650389618582240 : True := trivial
theorem Mine.top.tw7855079511596107753 : True := trivial
theorem Mine.top.tw788273225186049534 : True := trivial
theorem Mine.top.tw7990429038631628895 : True := trivial
theorem Mine.top.tw814325599930780420 : True := trivial
theorem Mine.top.tw8143265674769528471 : True := trivial
theorem Mine.top.tw8184561461823581802 : True := trivial
theorem Mine.top.tw8265191368974092141 : True := trivial
theorem Mine.top.tw8345894832289464959 : True := trivial
theorem Mine.top.tw8363718466572441477 : True := trivial
theorem Mine.top.tw8435561252592420358 : True := trivial
theorem Mine.top.tw8443935842833279946 : True := trivial
theorem Mine.top.tw8538268897159353584 : True := trivial
theorem Mine.top.tw8598144960395782539 : True := trivial
theorem Mine.top.tw8609264570733361716 : True := trivial
theorem Mine.top.tw8640399195822439974 : True := trivial
theorem Mine.top.tw8645369167282567922 : True := trivial
theorem Mine.top.tw8689318265317240412 : True := trivial
theorem Mine.top.tw8810280945414196856 : True := trivial
theorem Mine.top.tw8813761850579938390 : True := trivial
theorem Mine.top.tw8892184565913893157 : True := trivial
theorem Mine.top.tw9059672392935016618 : True := trivial
theorem Mine.top.tw9059832203979395877 : True := trivial
theorem Mine.top.tw9063741608606530840 : True := trivial
theorem Mine.top.tw9108098604805947806 : True := trivial
theorem Mine.top.tw9378254376102152143 : True := trivial
theorem Mine.top.tw9503340733035011235 : True := trivial
theorem Mine.top.tw956942650209027819 : True := trivial
theorem Mine.top.tw9601329371697537090 : True := trivial
theorem Mine.top.tw9631074621892390191 : True := trivial
theorem Mine.top.tw9800703332001039478 : True := trivial
theorem Mine.top.tw987869383939708018 : True := trivial
theorem Mine.w_Top_0 : True := by
  k_with_none
  trivial
set_option Elab.async true in
theorem Mine.top : PySem.Challenge.rw_nb0264_01.Holds := by
  w_on
  o_law
  k_head
  (case hw => w_witness2)
  k_go0
  rename Fr _ _ _ _ => F
  rename News _ _ _ _ => N
  rename IntsAre _ _ => hI
  rename Below _ _ _ _ => B
  rename Frag.In _ _ => X
  rename Top _ _ _ _ _ _ => T
  rename Heap.IsList _ _ _ => hL
  rename Shared.gens _ = _ => hg
  rename ¬ _ < _ => hlen
  refine Mine.lawAll (gd := some []) (mm := fun _ => none) B X T _ _ _ ?hF hL hI ?hlen _ _ _ _ _ N ?h5 ?h4 ?h3 ?h2 ?h1 ?hE ?hQ
  case hlen => omega
  case hE => passes_own
  case h5 => assumption
  case h4 => assumption
  case h3 => assumption
  case h2 => assumption
  case h1 => assumption
  case hF => exact F
  case hQ =>
    intro h' tk' m' F'
    refine goodW_bool F' hg (raisesW_false ?_) ?_
    · wrow_none_raised
    · wrow_post
theorem PySem.Challenge.cw_nb0264_01_holds : PySem.Challenge.rw_nb0264_01.Holds :=
  Mine.top
end
end
